import PyProof.Rows.All
import Wide.All
import OpenK.AllK
import Wide.FinOn
import PySem.Challenge.RW_eg5039_04
set_option Elab.async false
set_option linter.all false
section Part0
open PySem PySem.W PySem.Calls
set_option maxRecDepth 100000
set_option autoImplicit false
set_option linter.unusedVariables false
namespace Mine
open PyProof.Rows (Fr News Top IsTup Below envOf envOfC)

/-- pure values -/
inductive PV where
  | int (n : Int)
  | bool (b : Bool)
  | none
  | raw (v : Value)
  | tup (xs : List PV)
  | lst (xs : List PV)
  | rng (a b st : Int)
  | cell (n : Int)
  | point (x y z : Int)
  | mlst (xs : List PV)

structure Gl where
  prog : Program
  w : World
  K : Frag
  p : Program
  loose : List Str
  mean : ExcName → Option Value
  mg : Str → Option Value
  mb : Str → Option Value
  C : Addr
  CP : Addr

@[reducible] def Gl.M (G : Gl) : Model := model G.prog G.w

mutual
inductive Rep (G : Gl) (H : Heap) : Value → PV → Prop
  | int (n : Int) (t : Tok) : Rep G H (.int n t) (.int n)
  | bool (b : Bool) : Rep G H (.bool b) (.bool b)
  | none : Rep G H .none .none
  | raw (v : Value) : Rep G H v (.raw v)
  | tup {a : Addr} {vs : List Value} {xs : List PV} : IsTup H a vs.toArray → RepL G H vs xs → Rep G H (.ref a) (.tup xs)
  | lst {a : Addr} {vs : List Value} {xs : List PV} : H.IsList a vs.toArray → RepL G H vs xs → Rep G H (.ref a) (.lst xs)
  | rng {r : Addr} {a b st : Int} {t u v : Tok} : IsRange H r a b st t u v → Rep G H (.ref r) (.rng a b st)
  | cell {a d : Addr} {n : Int} {t tk : Tok} {hs : Int} {sz : Nat} : H.get? a = some (instObj G.C d) →
      H.get? d = some (dictOf [⟨hs, .str "_CellId__id" tk, .int n t⟩] sz) → Rep G H (.ref a) (.cell n)
  | point {a d tp : Addr} {x y z : Int} {t1 t2 t3 tk : Tok} {hs : Int} {sz : Nat} : H.get? a = some (instObj G.CP d) →
      H.get? d = some (dictOf [⟨hs, .str "_Point__point" tk, .ref tp⟩] sz) → IsTup H tp [Value.int x t1, .int y t2, .int z t3].toArray → Rep G H (.ref a) (.point x y z)
inductive RepL (G : Gl) (H : Heap) : List Value → List PV → Prop
  | nil : RepL G H [] []
  | cons {v : Value} {x : PV} {vs : List Value} {xs : List PV} : Rep G H v x → RepL G H vs xs → RepL G H (v :: vs) (x :: xs)
end

theorem isTup_keeps {H H' : Heap} (k : H.StaysIn H') {a : Addr} {xs : Array Value} : IsTup H a xs → IsTup H' a xs := fun ⟨o, h, r⟩ => ⟨o, k _ _ h, r⟩
theorem isList_keeps {H H' : Heap} (k : H.StaysIn H') {a : Addr} {xs : Array Value} : H.IsList a xs → H'.IsList a xs := fun ⟨o, h, r⟩ => ⟨o, k _ _ h, r⟩

section
variable {G : Gl} {H H' : Heap}
mutual
theorem Rep.keeps' (k : H.StaysIn H') {v : Value} {x : PV} : Rep G H v x → Rep G H' v x
  | .int n t => .int n t
  | .bool b => .bool b
  | .none => .none
  | .raw v => .raw v
  | .tup h r => .tup (isTup_keeps k h) (RepL.keeps' k r)
  | .lst h r => .lst (isList_keeps k h) (RepL.keeps' k r)
  | .rng h => .rng (k _ _ h)
  | .cell h h' => .cell (k _ _ h) (k _ _ h')
  | .point h h' t => .point (k _ _ h) (k _ _ h') (isTup_keeps k t)
theorem RepL.keeps' (k : H.StaysIn H') {vs : List Value} {xs : List PV} : RepL G H vs xs → RepL G H' vs xs
  | .nil => .nil
  | .cons h r => .cons (Rep.keeps' k h) (RepL.keeps' k r)
end
theorem Rep.keeps {v : Value} {x : PV} (h : Rep G H v x) (k : H.StaysIn H') : Rep G H' v x := h.keeps' k
theorem RepL.keeps {vs : List Value} {xs : List PV} (h : RepL G H vs xs) (k : H.StaysIn H') : RepL G H' vs xs := h.keeps' k
end

theorem RepL.length {G : Gl} {H : Heap} : ∀ {vs : List Value} {xs : List PV}, RepL G H vs xs → vs.length = xs.length
  | _, _, .nil => rfl
  | _, _, .cons _ r => congrArg (· + 1) r.length
theorem RepL.get {G : Gl} {H : Heap} : ∀ {vs : List Value} {xs : List PV}, RepL G H vs xs → ∀ {i : Nat} {x : PV}, xs[i]? = some x → ∃ v, vs[i]? = some v ∧ Rep G H v x
  | _, _, .nil, i, x, e => by simp at e
  | _, _, .cons h r, 0, x, e => ⟨_, rfl, by cases e; exact h⟩
  | _, _, .cons h r, i + 1, x, e => by
    have := r.get (i := i) (x := x) (by simpa using e)
    simpa using this

/-- a frame -/
structure Cx where
  A : Around
  env : Env
  g0 : Heap
  L : Addr
  hid : List Addr

structure Cx.Ok (G : Gl) (c : Cx) : Prop where
  hh : c.A.handled = none
  K : G.K.In c.g0
  T : Top G.p G.loose G.mean G.mg G.mb c.g0
  ek : c.env.scope.kind = .function
  eg : c.env.globals = mainGlobals
  eb : c.env.builtins = builtinsNs
  hsome : ∀ a ∈ c.hid, ∃ o, c.g0.get? a = some o
  hK : G.K.In (hideAll c.g0 c.hid)

def Cx.Room (c : Cx) (k : Nat) : Prop := c.A.depth + k < recursionLimit ∧ c.A.units + 8 * k < cLine
theorem Cx.Room.le {c : Cx} {k k' : Nat} (h : c.Room k) (e : k' ≤ k) : c.Room k' := ⟨by have := h.1; omega, by have := h.2; omega⟩

def NsObj (o : Obj) (m : Str → Option Value) : Prop := ∃ es ep, o.data = .dict es ep ∧ StrKeys es ∧ ∀ name, nsFind es name = m name

abbrev Led := List (Addr × Obj)

def Vw (c : Cx) (mu : Led) (h : Heap) : Heap := hideAll h (c.hid ++ c.L :: mu.map (·.1))

inductive VarV (c : Cx) (m : Str → Option Value) (mu : Led) (x : Str) (v : Value) : Prop
  | loc : c.env.kindOf x = some .local → c.env.locals = c.L → m x = some v → VarV c m mu x v
  | locC {o : Obj} {m' : Str → Option Value} : c.env.kindOf x = some .local → (c.env.locals, o) ∈ mu → NsObj o m' → m' x = some v → VarV c m mu x v
  | cel {a : Addr} {o : Obj} : c.env.kindOf x = some .cell → c.env.cells.lookup x = some a → (a, o) ∈ mu → o.data = .cell (some v) → VarV c m mu x v
  | free {a : Addr} {o : Obj} : c.env.kindOf x = some .free → c.env.cells.lookup x = some a → (a, o) ∈ mu → o.data = .cell (some v) → (x == ("__classdict__" : Str)) = false → VarV c m mu x v

inductive RepO (G : Gl) (H : Heap) (ow : Led) : Value → PV → Prop
  | rep {v : Value} {x : PV} : Rep G H v x → RepO G H ow v x
  | mlst {a : Addr} {o : Obj} {vs : List Value} {n : Nat} {xs : List PV} : (a, o) ∈ ow → o.cls = .type "list" → (o.dict = none ∧ o.data = .seq vs.toArray n) → RepL G H vs xs → RepO G H ow (.ref a) (.mlst xs)

abbrev Sg := List (Str × PV)

/-- a function's own cells are in the ledger -/
def OwnCells (c : Cx) (ow : Led) : Prop := c.env.locals = c.L → ∀ y, c.env.kindOf y = some .cell → ∃ a, c.env.cells.lookup y = some a ∧ (∀ z, c.env.cells.lookup z = some a → z = y) ∧ ∃ (o : Obj) (v₀ : Option Value), (a, o) ∈ ow ∧ o.data = .cell v₀
theorem OwnCells.mono {c : Cx} {ow ow' : Led} (h : ∀ a o v₀, (a, o) ∈ ow → o.data = .cell v₀ → ∃ (o' : Obj) (v₁ : Option Value), (a, o') ∈ ow' ∧ o'.data = .cell v₁) (k : OwnCells c ow) : OwnCells c ow' := fun e y hy =>
  let ⟨a, h1, h2, o, v₀, h3, h4⟩ := k e y hy
  ⟨a, h1, h2, h _ _ _ h3 h4⟩
theorem OwnCells.none {c : Cx} {ow : Led} (h : (c.env.scope.names.all fun x => x.2 != .cell) = true) : OwnCells c ow := fun _ y hy => by
  exfalso
  have : ∀ l : List (Str × NameKind), (l.all fun x => x.2 != .cell) = true → l.lookup y = some .cell → False := by
    intro l
    induction l with
    | nil => intro _ e; cases e
    | cons p r ih =>
      intro hl e
      obtain ⟨n, k⟩ := p
      rw [List.all_cons, Bool.and_eq_true] at hl
      simp only [List.lookup] at e
      split at e
      · cases e; simp at hl
      · exact ih hl.2 e
  exact this _ h hy
structure St (G : Gl) (c : Cx) (σ : Sg) (m : Str → Option Value) (ow al : Led) (s : Shared) : Prop where
  F : Fr c.g0 c.L s.heap m
  N : News c.g0 c.L s.heap (ow ++ al)
  nd : ((ow ++ al).map (·.1)).Nodup
  vars : ∀ x pv, σ.lookup x = some pv → ∃ v, VarV c m ow x v ∧ RepO G (Vw c (ow ++ al) s.heap) ow v pv
  cells : OwnCells c ow

abbrev Bot : Value → Shared → Prop := fun _ _ => False

def Post (G : Gl) (c : Cx) (mu : Led) (s : Shared) (Q : PV → Prop) (v : Value) (s' : Shared) : Prop :=
  ∃ h' tk, s' = { s with heap := h', toks := tk } ∧ s.heap.StaysIn h' ∧ ∃ pv, Rep G (Vw c mu h') v pv ∧ Q pv

def PostB (s : Shared) (Q : Bool → Prop) (b : Bool) (s' : Shared) : Prop :=
  ∃ h' tk, s' = { s with heap := h', toks := tk } ∧ s.heap.StaysIn h' ∧ Q b

def PostL (G : Gl) (c : Cx) (mu : Led) (s : Shared) (Q : List PV → Prop) (vs : List Value) (s' : Shared) : Prop :=
  ∃ h' tk, s' = { s with heap := h', toks := tk } ∧ s.heap.StaysIn h' ∧ ∃ pvs, RepL G (Vw c mu h') vs pvs ∧ Q pvs

section
variable (G : Gl) (c : Cx) (σ : Sg)
/-- a tree of the machine, run where the locals are σ -/
def Tr (t : Sem Value) (Q : PV → Prop) : Prop := ∀ m ow al s, c.Ok G → St G c σ m ow al s → wpAny G.M c.A t (Post G c (ow ++ al) s Q) Bot s
def Ev (e : Expr) (Q : PV → Prop) : Prop := Tr G c σ (eval e c.env) Q
def EvT (e : Expr) (Q : Bool → Prop) : Prop := ∀ m ow al s, c.Ok G → St G c σ m ow al s → wpAny G.M c.A (PySem.isTrue e c.env (eval e c.env)) (PostB s Q) Bot s
def EvL (t : Sem (List Value)) (Q : List PV → Prop) : Prop := ∀ m ow al s, c.Ok G → St G c σ m ow al s → wpAny G.M c.A t (PostL G c (ow ++ al) s Q) Bot s
def Op1 (t : Value → Sem Value) (x : PV) (Q : PV → Prop) : Prop := ∀ m ow al s, c.Ok G → St G c σ m ow al s → ∀ v, Rep G (Vw c (ow ++ al) s.heap) v x → wpAny G.M c.A (t v) (Post G c (ow ++ al) s Q) Bot s
def Op2 (t : Value → Value → Sem Value) (x y : PV) (Q : PV → Prop) : Prop := ∀ m ow al s, c.Ok G → St G c σ m ow al s → ∀ v u, Rep G (Vw c (ow ++ al) s.heap) v x → Rep G (Vw c (ow ++ al) s.heap) u y → wpAny G.M c.A (t v u) (Post G c (ow ++ al) s Q) Bot s
def OpL (t : List Value → Sem Value) (xs : List PV) (Q : PV → Prop) : Prop := ∀ m ow al s, c.Ok G → St G c σ m ow al s → ∀ vs, RepL G (Vw c (ow ++ al) s.heap) vs xs → wpAny G.M c.A (t vs) (Post G c (ow ++ al) s Q) Bot s
def OpT (t : Value → Sem Bool) (x : PV) (Q : Bool → Prop) : Prop := ∀ m ow al s, c.Ok G → St G c σ m ow al s → ∀ v, Rep G (Vw c (ow ++ al) s.heap) v x → wpAny G.M c.A (t v) (PostB s Q) Bot s
end

theorem mem_vw {c : Cx} {mu : Led} {h : Heap} {b : Addr} {o : Obj} : (Vw c mu h).get? b = some o ↔ h.get? b = some o ∧ b ∉ c.hid ++ c.L :: mu.map (·.1) := by
  constructor
  · intro e
    refine ⟨of_hideAll _ e, fun hm => ?_⟩
    rw [Vw, hideAll_none _ hm] at e; cases e
  · rintro ⟨e, hm⟩; exact hideAll_get _ e hm

theorem vw_mono {c : Cx} {mu : Led} {h h' : Heap} (k : h.StaysIn h') : (Vw c mu h).StaysIn (Vw c mu h') := fun b o e => by
  rw [mem_vw] at e ⊢; exact ⟨k _ _ e.1, e.2⟩
theorem vw_sub {c : Cx} {mu : Led} {h : Heap} : (Vw c mu h).StaysIn h := fun b o e => (mem_vw.mp e).1

theorem stays_refl (h : Heap) : h.StaysIn h := fun _ _ e => e
theorem stays_trans {a b c : Heap} (x : a.StaysIn b) (y : b.StaysIn c) : a.StaysIn c := fun _ _ e => y _ _ (x _ _ e)
theorem stays_push (h : Heap) (o : Obj) : h.StaysIn (h.push o) := fun _ _ e => Heap.get?_push_of_some _ e
theorem stays_ext {h h' : Heap} (x : Heap.ExtBut h.objs.size h h') : h.StaysIn h' := fun b o e => x b o (Nat.ne_of_lt (Heap.lt_size e)) e

theorem RepO.keeps {G : Gl} {H H' : Heap} {ow : Led} {v : Value} {x : PV} (k : H.StaysIn H') : RepO G H ow v x → RepO G H' ow v x
  | .rep h => .rep (h.keeps k)
  | .mlst a b d r => .mlst a b d (r.keeps k)

theorem fr_grow {g h h' : Heap} {L : Addr} {m : Str → Option Value} (F : Fr g L h m) (k : h.StaysIn h') : Fr g L h' m :=
  ⟨F.ns.keeps k, fun b o e => k _ _ (F.keep b o e), F.above⟩

theorem St.grow {G : Gl} {c : Cx} {σ : Sg} {m : Str → Option Value} {ow al : Led} {s : Shared} {h' : Heap} {tk : Nat} (S : St G c σ m ow al s) (k : s.heap.StaysIn h') :
    St G c σ m ow al { s with heap := h', toks := tk } :=
  ⟨fr_grow S.F k, fun p hp => ⟨k _ _ (S.N p hp).1, (S.N p hp).2⟩, S.nd, fun x pv e => let ⟨v, a, b⟩ := S.vars x pv e; ⟨v, a, b.keeps (vw_mono k)⟩, S.cells⟩

section
variable {G : Gl} {c : Cx} {σ : Sg}

/-- glue: after a tree has been run, the rest runs in the grown state -/
theorem post_bind {mu : Led} {s : Shared} {Q : PV → Prop} {P : Value → Shared → Prop} {v : Value} {s' : Shared} (h : Post G c mu s Q v s')
    (k : ∀ h' tk, s.heap.StaysIn h' → ∀ pv, Rep G (Vw c mu h') v pv → Q pv → P v { s with heap := h', toks := tk }) : P v s' := by
  obtain ⟨h', tk, rfl, st, pv, r, q⟩ := h
  exact k h' tk st pv r q

theorem Post.mono {mu : Led} {s : Shared} {h1 : Heap} {t1 : Nat} {Q Q' : PV → Prop} {v : Value} {s' : Shared} (k : s.heap.StaysIn h1) (h : Post G c mu { s with heap := h1, toks := t1 } Q v s') (hq : ∀ pv, Q pv → Q' pv) :
    Post G c mu s Q' v s' := by
  obtain ⟨h', tk, rfl, st, pv, r, q⟩ := h
  exact ⟨h', tk, rfl, stays_trans k st, pv, r, hq _ q⟩
theorem PostB.mono {s : Shared} {h1 : Heap} {t1 : Nat} {Q Q' : Bool → Prop} {b : Bool} {s' : Shared} (k : s.heap.StaysIn h1) (h : PostB { s with heap := h1, toks := t1 } Q b s') (hq : ∀ b, Q b → Q' b) :
    PostB s Q' b s' := by
  obtain ⟨h', tk, rfl, st, q⟩ := h
  exact ⟨h', tk, rfl, stays_trans k st, hq _ q⟩
theorem PostL.mono {mu : Led} {s : Shared} {h1 : Heap} {t1 : Nat} {Q Q' : List PV → Prop} {v : List Value} {s' : Shared} (k : s.heap.StaysIn h1) (h : PostL G c mu { s with heap := h1, toks := t1 } Q v s') (hq : ∀ pv, Q pv → Q' pv) :
    PostL G c mu s Q' v s' := by
  obtain ⟨h', tk, rfl, st, pv, r, q⟩ := h
  exact ⟨h', tk, rfl, stays_trans k st, pv, r, hq _ q⟩

theorem bot_elim {P : Value → Shared → Prop} : ∀ (e : Value) (s : Shared), Bot e s → P e s := fun _ _ h => h.elim

/-- one tree, then an operation on its value -/
theorem tr_bind1 {t : Sem Value} {f : Value → Sem Value} {Q : PV → Prop} (h : Tr G c σ t (fun x => Op1 G c σ f x Q)) {u : Sem Value}
    (hu : ∀ m ow al s, c.Ok G → St G c σ m ow al s → ∀ {Q' : Value → Shared → Prop}, wpAny G.M c.A t (fun v s1 => wpAny G.M c.A (f v) Q' Bot s1) Bot s → wpAny G.M c.A u Q' Bot s) : Tr G c σ u Q := by
  intro m ow al s ok S
  refine hu m ow al s ok S ?_
  refine wpAny_mono (h m ow al s ok S) (fun v s1 hp => ?_) bot_elim
  obtain ⟨h1, t1, rfl, k, pv, r, q⟩ := hp
  exact wpAny_mono (q m ow al _ ok (S.grow k) v r) (fun v' s2 h2 => Post.mono k h2 fun _ q => q) bot_elim

theorem ev_of {e : Expr} {Q Q' : PV → Prop} (h : Ev G c σ e Q) (hq : ∀ pv, Q pv → Q' pv) : Ev G c σ e Q' := by
  intro m ow al s ok S
  refine wpAny_mono (h m ow al s ok S) (fun v s1 hp => ?_) bot_elim
  obtain ⟨h1, t1, rfl, k, pv, r, q⟩ := hp
  exact ⟨h1, t1, rfl, k, pv, r, hq _ q⟩

/-! constants -/
theorem post_here {mu : Led} {s : Shared} {Q : PV → Prop} {v : Value} {pv : PV} (r : Rep G (Vw c mu s.heap) v pv) (q : Q pv) : Post G c mu s Q v s := ⟨s.heap, s.toks, rfl, stays_refl _, pv, r, q⟩
theorem post_tok {mu : Led} {s : Shared} {Q : PV → Prop} {v : Value} {pv : PV} {tk : Nat} (r : Rep G (Vw c mu s.heap) v pv) (q : Q pv) : Post G c mu s Q v { s with toks := tk } := ⟨s.heap, tk, rfl, stays_refl _, pv, r, q⟩

theorem ev_int {i : Int} {k : Nat} {pos : Pos} {Q : PV → Prop} (h : Q (.int i)) : Ev G c σ (.Constant (.int i) k pos) Q :=
  fun _ _ _ _ _ _ => wpAny_Constant_int (post_tok (.int _ _) h)
theorem ev_none {k : Nat} {pos : Pos} {Q : PV → Prop} (h : Q .none) : Ev G c σ (.Constant .none k pos) Q :=
  fun _ _ _ _ _ _ => wpAny_Constant_none (post_here .none h)
theorem ev_bool {b : Bool} {k : Nat} {pos : Pos} {Q : PV → Prop} (h : Q (.bool b)) : Ev G c σ (.Constant (.bool b) k pos) Q :=
  fun _ _ _ _ _ _ => wpAny_Constant_bool (post_here (.bool b) h)

/-! names -/
def PV.plain : PV → Bool
  | .mlst _ => false
  | _ => true
theorem RepO.plain {H : Heap} {ow : Led} {v : Value} {x : PV} (h : RepO G H ow v x) (hx : x.plain = true) : Rep G H v x := by
  cases h with
  | rep h => exact h
  | mlst => cases hx

theorem nsObj_get {h : Heap} {a : Addr} {o : Obj} {m : Str → Option Value} (e : h.get? a = some o) (n : NsObj o m) : h.Ns a m := let ⟨es, ep, r⟩ := n; ⟨o, es, ep, e, r⟩

theorem load_var {m : Str → Option Value} {ow al : Led} {s : Shared} {x : Str} {v : Value} {Q : Value → Shared → Prop} (ok : c.Ok G) (S : St G c σ m ow al s) (h : VarV c m ow x v) (q : Q v s) :
    wpAny G.M c.A (loadName c.env x) Q Bot s := by
  cases h with
  | loc hk hl hm => exact wpAny_loadName_local ok.ek hk (hl ▸ S.F.ns) hm q
  | locC hk ho hn hm => exact wpAny_loadName_local ok.ek hk (nsObj_get (S.N _ (List.mem_append_left _ ho)).1 hn) hm q
  | cel hk hc ho hd => exact wpAny_loadName_cell ok.ek hk hc ⟨_, (S.N _ (List.mem_append_left _ ho)).1, hd⟩ q
  | free hk hc ho hd hn => exact wpAny_loadName_free ok.ek hk hc ⟨_, (S.N _ (List.mem_append_left _ ho)).1, hd⟩ q hn

theorem ev_name {x : Str} {pos : Pos} {pv : PV} {Q : PV → Prop} (hx : σ.lookup x = some pv) (hp : pv.plain = true) (h : Q pv) (hd : (x == ("__debug__" : Str)) = false := by decide) :
    Ev G c σ (.Name x pos) Q := by
  intro m ow al s ok S
  obtain ⟨v, hv, r⟩ := S.vars x pv hx
  exact wpAny_Name (load_var ok S hv (post_here (r.plain hp) h)) hd

theorem ev_global {x : Str} {pos : Pos} {v : Value} {Q : PV → Prop} (e : nsIn G.K mainGlobals x = some (some v)) (hk : c.env.kindOf x = some .globalImplicit) (h : Q (.raw v)) (hd : (x == ("__debug__" : Str)) = false := by decide) :
    Ev G c σ (.Name x pos) Q := by
  intro m ow al s ok S
  refine Name_function_global ok.ek hk (loadGlobal_global (env := c.env) ?_ (mg_of ok.K ok.T.g e) (post_here (.raw v) h)) hd
  rw [ok.eg]; exact ok.T.g.keeps S.F.keep
theorem ev_global_int {x : Str} {pos : Pos} {n : Int} {t : Tok} {Q : PV → Prop} (e : nsIn G.K mainGlobals x = some (some (.int n t))) (hk : c.env.kindOf x = some .globalImplicit) (h : Q (.int n)) (hd : (x == ("__debug__" : Str)) = false := by decide) :
    Ev G c σ (.Name x pos) Q := by
  intro m ow al s ok S
  refine Name_function_global ok.ek hk (loadGlobal_global (env := c.env) ?_ (mg_of ok.K ok.T.g e) (post_here (.int n t) h)) hd
  rw [ok.eg]; exact ok.T.g.keeps S.F.keep
theorem ev_builtin {x : Str} {pos : Pos} {v : Value} {Q : PV → Prop} (e : nsIn G.K mainGlobals x = some none) (hv : bootBuiltins x = some v) (hk : c.env.kindOf x = some .globalImplicit) (h : Q (.raw v)) (hn : x ≠ "__name__" := by decide)
    (hd : (x == ("__debug__" : Str)) = false := by decide) : Ev G c σ (.Name x pos) Q := by
  intro m ow al s ok S
  refine Name_function_global ok.ek hk (loadGlobal_builtin (env := c.env) ?_ (mg_none_of ok.K ok.T.g e) ?_ ((ok.T.builtins x hn).trans hv) (post_here (.raw v) h)) hd
  · rw [ok.eg]; exact ok.T.g.keeps S.F.keep
  · rw [ok.eb]; exact ok.T.b.keeps S.F.keep

/-! operators -/
theorem ev_BinOp {l r : Expr} {op : Operator} {pos : Pos} {Q : PV → Prop} (h : Ev G c σ l (fun a => Ev G c σ r (fun b => Op2 G c σ (binaryOp op) a b Q))) : Ev G c σ (.BinOp l op r pos) Q := by
  intro m ow al s ok S
  refine wpAny_BinOp (wpAny_mono (h m ow al s ok S) (fun v s1 hp => ?_) bot_elim)
  obtain ⟨h1, t1, rfl, k1, a, ra, q1⟩ := hp
  refine wpAny_mono (q1 m ow al _ ok (S.grow k1)) (fun u s2 hp2 => ?_) bot_elim
  obtain ⟨h2, t2, rfl, k2, b, rb, q2⟩ := hp2
  exact wpAny_mono (q2 m ow al _ ok (S.grow (stays_trans k1 k2)) v u (ra.keeps (vw_mono k2)) rb) (fun v' s3 h3 => Post.mono (stays_trans k1 k2) h3 fun _ q => q) bot_elim

theorem ev_Compare {l r : Expr} {op : CmpOp} {pos : Pos} {Q : PV → Prop} (h : Ev G c σ l (fun a => Ev G c σ r (fun b => Op2 G c σ (compareOp op) a b Q))) (hm : behindInMarks op r = false := by with_unfolding_all rfl) : Ev G c σ (.Compare l [op] [r] pos) Q := by
  intro m ow al s ok S
  refine wpAny_Compare1 (wpAny_mono (h m ow al s ok S) (fun v s1 hp => ?_) bot_elim) hm
  obtain ⟨h1, t1, rfl, k1, a, ra, q1⟩ := hp
  refine wpAny_mono (q1 m ow al _ ok (S.grow k1)) (fun u s2 hp2 => ?_) bot_elim
  obtain ⟨h2, t2, rfl, k2, b, rb, q2⟩ := hp2
  exact wpAny_mono (q2 m ow al _ ok (S.grow (stays_trans k1 k2)) v u (ra.keeps (vw_mono k2)) rb) (fun v' s3 h3 => Post.mono (stays_trans k1 k2) h3 fun _ q => q) bot_elim

theorem ev_UnaryOp {op : UnaryOp} {e : Expr} {pos : Pos} {Q : PV → Prop} (h : Ev G c σ e (fun a => Op1 G c σ (unaryOp op) a Q)) : Ev G c σ (.UnaryOp op e pos) Q :=
  tr_bind1 h fun _ _ _ _ _ _ => wpAny_UnaryOp

theorem ev_IfExp {test body orelse : Expr} {pos : Pos} {Q : PV → Prop} (h : EvT G c σ test (fun b => if b then Ev G c σ body Q else Ev G c σ orelse Q)) : Ev G c σ (.IfExp test body orelse pos) Q := by
  intro m ow al s ok S
  refine wpAny_IfExp (wpAny_mono (h m ow al s ok S) (fun b s1 hp => ?_) bot_elim)
  obtain ⟨h1, t1, rfl, k1, q1⟩ := hp
  cases b with
  | true => exact wpAny_mono (q1 m ow al _ ok (S.grow k1)) (fun v' s3 h3 => Post.mono k1 h3 fun _ q => q) bot_elim
  | false => exact wpAny_mono (q1 m ow al _ ok (S.grow k1)) (fun v' s3 h3 => Post.mono k1 h3 fun _ q => q) bot_elim

/-! ints -/
theorem op_add {a b : Int} {Q : PV → Prop} (h : Q (.int (a + b))) : Op2 G c σ (binaryOp .Add) (.int a) (.int b) Q := by
  intro m ow al s ok S v u rv ru
  cases rv; cases ru
  exact PyProof.Rows.add_int (post_tok (.int _ _) h)
theorem op_sub {a b : Int} {Q : PV → Prop} (h : Q (.int (a - b))) : Op2 G c σ (binaryOp .Sub) (.int a) (.int b) Q := by
  intro m ow al s ok S v u rv ru
  cases rv; cases ru
  exact PyProof.Rows.sub_int (post_tok (.int _ _) h)
theorem op_mul {a b : Int} {Q : PV → Prop} (hm : IntMulOk a b) (h : Q (.int (a * b))) : Op2 G c σ (binaryOp .Mult) (.int a) (.int b) Q := by
  intro m ow al s ok S v u rv ru
  cases rv; cases ru
  exact PyProof.Rows.mul_int (post_tok (.int _ _) h) hm
theorem op_fdiv {a b : Int} {Q : PV → Prop} (hb : b ≠ 0) (hl : b.natAbs.log2 < 9000) (h : Q (.int (a.fdiv b))) : Op2 G c σ (binaryOp .FloorDiv) (.int a) (.int b) Q := by
  intro m ow al s ok S v u rv ru
  cases rv; cases ru
  exact PyProof.Rows.floordiv_int hb (post_tok (.int _ _) h) (.inl (PyProof.noPylong_of_log2 hl))
theorem op_mod {a b : Int} {Q : PV → Prop} (hb : b ≠ 0) (h : Q (.int (a.fmod b))) : Op2 G c σ (binaryOp .Mod) (.int a) (.int b) Q := by
  intro m ow al s ok S v u rv ru
  cases rv; cases ru
  exact PyProof.Rows.mod_int' hb (post_tok (.int _ _) h)
theorem op_shl {a n : Int} {Q : PV → Prop} (hn : 0 ≤ n) (hs : (Builtin.Int.intBits a : Int) + n ≤ 2 ^ 27) (h : Q (.int (a * 2 ^ n.toNat))) : Op2 G c σ (binaryOp .LShift) (.int a) (.int n) Q := by
  intro m ow al s ok S v u rv ru
  cases rv; cases ru
  exact PyProof.Rows.lshift_int hn hs (post_tok (.int _ _) h)
theorem op_shr {a n : Int} {Q : PV → Prop} (hn : 0 ≤ n) (h : Q (.int (a.fdiv (2 ^ n.toNat)))) : Op2 G c σ (binaryOp .RShift) (.int a) (.int n) Q := by
  intro m ow al s ok S v u rv ru
  cases rv; cases ru
  exact PyProof.Rows.rshift_int hn (post_tok (.int _ _) h)
theorem op_and {a b : Int} {Q : PV → Prop} (h : Q (.int (Builtin.bitAnd a b))) : Op2 G c σ (binaryOp .BitAnd) (.int a) (.int b) Q := by
  intro m ow al s ok S v u rv ru
  cases rv; cases ru
  exact PyProof.Rows.and_int (post_tok (.int _ _) h)
theorem op_or {a b : Int} {Q : PV → Prop} (h : Q (.int (Builtin.bitOr a b))) : Op2 G c σ (binaryOp .BitOr) (.int a) (.int b) Q := by
  intro m ow al s ok S v u rv ru
  cases rv; cases ru
  exact PyProof.Rows.or_int (post_tok (.int _ _) h)
theorem op_xor {a b : Int} {Q : PV → Prop} (h : Q (.int (Builtin.bitXor a b))) : Op2 G c σ (binaryOp .BitXor) (.int a) (.int b) Q := by
  intro m ow al s ok S v u rv ru
  cases rv; cases ru
  exact PyProof.Rows.xor_int (post_tok (.int _ _) h)
theorem op_neg {a : Int} {Q : PV → Prop} (h : Q (.int (-a))) : Op1 G c σ (unaryOp .USub) (.int a) Q := by
  intro m ow al s ok S v rv
  cases rv
  exact PyProof.Rows.neg_int (post_tok (.int _ _) h)

theorem op_eq {a b : Int} {Q : PV → Prop} (h : Q (.bool (a == b))) : Op2 G c σ (compareOp .Eq) (.int a) (.int b) Q := by
  intro m ow al s ok S v u rv ru
  cases rv; cases ru
  exact PyProof.Rows.eq_int (post_here (.bool _) h)
theorem op_ne {a b : Int} {Q : PV → Prop} (h : Q (.bool (a != b))) : Op2 G c σ (compareOp .NotEq) (.int a) (.int b) Q := by
  intro m ow al s ok S v u rv ru
  cases rv; cases ru
  exact PyProof.Rows.ne_int (post_here (.bool _) h)
theorem op_lt {a b : Int} {Q : PV → Prop} (h : Q (.bool (decide (a < b)))) : Op2 G c σ (compareOp .Lt) (.int a) (.int b) Q := by
  intro m ow al s ok S v u rv ru
  cases rv; cases ru
  exact PyProof.Rows.lt_int (post_here (.bool _) h)
theorem op_le {a b : Int} {Q : PV → Prop} (h : Q (.bool (decide (a ≤ b)))) : Op2 G c σ (compareOp .LtE) (.int a) (.int b) Q := by
  intro m ow al s ok S v u rv ru
  cases rv; cases ru
  exact PyProof.Rows.le_int (post_here (.bool _) h)
theorem op_gt {a b : Int} {Q : PV → Prop} (h : Q (.bool (decide (b < a)))) : Op2 G c σ (compareOp .Gt) (.int a) (.int b) Q := by
  intro m ow al s ok S v u rv ru
  cases rv; cases ru
  exact PyProof.Rows.gt_int (post_here (.bool _) h)
theorem op_ge {a b : Int} {Q : PV → Prop} (h : Q (.bool (decide (b ≤ a)))) : Op2 G c σ (compareOp .GtE) (.int a) (.int b) Q := by
  intro m ow al s ok S v u rv ru
  cases rv; cases ru
  exact PyProof.Rows.ge_int (post_here (.bool _) h)
end
end Mine
end Part0
section Part1
open PySem PySem.W PySem.Calls
set_option maxRecDepth 100000
set_option autoImplicit false
set_option linter.unusedVariables false
namespace Mine
open PyProof.Rows (Fr News Top IsTup Below envOf envOfC)

section
variable {G : Gl} {c : Cx} {σ : Sg}

theorem Cx.Ok.hlt (ok : c.Ok G) : ∀ a ∈ c.hid, @LT.lt Nat _ a c.g0.objs.size := fun a ha => let ⟨_, e⟩ := ok.hsome a ha; Heap.lt_size e
theorem St.hsome {m : Str → Option Value} {ow al : Led} {s : Shared} (ok : c.Ok G) (S : St G c σ m ow al s) : ∀ a ∈ c.hid ++ c.L :: (ow ++ al).map (·.1), ∃ o, s.heap.get? a = some o := fun a ha => by
  rcases List.mem_append.mp ha with h | h
  · obtain ⟨o, e⟩ := ok.hsome a h; exact ⟨o, S.F.keep _ _ e⟩
  · rcases List.mem_cons.mp h with rfl | h
    · obtain ⟨o, _, _, e, _⟩ := S.F.ns; exact ⟨o, e⟩
    · obtain ⟨p, hp, rfl⟩ := List.mem_map.mp h
      exact ⟨_, (S.N p hp).1⟩

/-! what is new can be seen; the written part can be seen -/
theorem St.notin {m : Str → Option Value} {ow al : Led} {s : Shared} (ok : c.Ok G) (S : St G c σ m ow al s) {a : Addr} (ha : s.heap.objs.size ≤ a) : a ∉ c.hid ++ c.L :: (ow ++ al).map (·.1) := by
  have hL : @LT.lt Nat _ c.L s.heap.objs.size := S.F.ns.lt
  have hg : @LE.le Nat _ c.g0.objs.size c.L := S.F.above
  have ha' : @LE.le Nat _ s.heap.objs.size a := ha
  intro hm
  rcases List.mem_append.mp hm with h | h
  · exact absurd (Nat.lt_of_lt_of_le (ok.hlt a h) (Nat.le_trans hg (Nat.le_trans (Nat.le_of_lt hL) ha'))) (Nat.lt_irrefl _)
  · rcases List.mem_cons.mp h with rfl | h
    · exact absurd (Nat.lt_of_lt_of_le hL ha') (Nat.lt_irrefl _)
    · obtain ⟨p, hp, rfl⟩ := List.mem_map.mp h
      exact absurd (Nat.lt_of_lt_of_le (Heap.lt_size (S.N p hp).1) ha') (Nat.lt_irrefl _)
theorem St.vis {m : Str → Option Value} {ow al : Led} {s : Shared} (ok : c.Ok G) (S : St G c σ m ow al s) {h' : Heap} {a : Addr} {o : Obj} (ha : s.heap.objs.size ≤ a) (e : h'.get? a = some o) :
    (Vw c (ow ++ al) h').get? a = some o := mem_vw.mpr ⟨e, S.notin ok ha⟩
theorem St.hidden {m : Str → Option Value} {ow al : Led} {s : Shared} (ok : c.Ok G) (S : St G c σ m ow al s) : G.K.In (Vw c (ow ++ al) s.heap) := by
  intro a o e
  have h1 := ok.hK a o e
  have hg : c.g0.get? a = some o := of_hideAll _ h1
  refine mem_vw.mpr ⟨S.F.keep a o hg, fun hm => ?_⟩
  rcases List.mem_append.mp hm with h | h
  · rw [hideAll_none _ h] at h1; cases h1
  · rcases List.mem_cons.mp h with rfl | h
    · exact absurd (Nat.lt_of_lt_of_le (Heap.lt_size hg) S.F.above) (Nat.lt_irrefl _)
    · obtain ⟨p, hp, rfl⟩ := List.mem_map.mp h
      rw [(S.N p hp).2.2] at hg; cases hg
theorem St.inK {m : Str → Option Value} {ow al : Led} {s : Shared} (ok : c.Ok G) (S : St G c σ m ow al s) : G.K.In s.heap := ok.K.keeps S.F.keep

theorem ev_global_rep {x : Str} {pos : Pos} {v : Value} {pv : PV} {Q : PV → Prop} (e : nsIn G.K mainGlobals x = some (some v)) (r : ∀ H, G.K.In H → Rep G H v pv) (hk : c.env.kindOf x = some .globalImplicit) (h : Q pv) (hd : (x == ("__debug__" : Str)) = false := by decide) :
    Ev G c σ (.Name x pos) Q := by
  intro m ow al s ok S
  refine Name_function_global ok.ek hk (loadGlobal_global (env := c.env) ?_ (mg_of ok.K ok.T.g e) (post_here (r _ (S.hidden ok)) h)) hd
  rw [ok.eg]; exact ok.T.g.keeps S.F.keep

/-! lists of expressions -/
theorem evl_nil {pos : Pos} {Q : List PV → Prop} (h : Q []) : EvL G c σ (spliced (backTo pos (starEach [] c.env))) Q :=
  fun m ow al s ok S => PyProof.Rows.spliced_none ⟨s.heap, s.toks, rfl, stays_refl _, [], .nil, h⟩
theorem evl_cons {pos : Pos} {e : Expr} {rest : List Expr} {Q : List PV → Prop} (h : Ev G c σ e (fun x => EvL G c σ (spliced (backTo pos (starEach rest c.env))) (fun xs => Q (x :: xs))))
    (he : starEach (e :: rest) c.env = (false, eval e c.env) :: starEach rest c.env := by rfl) : EvL G c σ (spliced (backTo pos (starEach (e :: rest) c.env))) Q := by
  intro m ow al s ok S
  refine PyProof.Rows.spliced_more (wpAny_mono (h m ow al s ok S) (fun v s1 hp => ?_) bot_elim) he
  obtain ⟨h1, t1, rfl, k1, a, ra, q1⟩ := hp
  refine wpAny_mono (q1 m ow al _ ok (S.grow k1)) (fun vs s2 hp2 => ?_) bot_elim
  obtain ⟨h2, t2, rfl, k2, b, rb, q2⟩ := hp2
  exact ⟨h2, t2, rfl, stays_trans k1 k2, _, .cons (ra.keeps (vw_mono k2)) rb, q2⟩

theorem ev_Tuple {elts : List Expr} {k : Nat} {pos : Pos} {Q : PV → Prop} (h : EvL G c σ (spliced (backTo pos (starEach elts c.env))) (fun xs => xs.length ≤ 1000 ∧ Q (.tup xs))) : Ev G c σ (.Tuple elts k pos) Q := by
  intro m ow al s ok S
  refine PyProof.Rows.Tuple_ (wpAny_mono (h m ow al s ok S) (fun vs s1 hp => ?_) bot_elim)
  obtain ⟨h1, t1, rfl, k1, a, ra, hl, q1⟩ := hp
  have S1 := S.grow (tk := t1) k1
  refine wpAny_newObj_type ?_ (by show vs.toArray.size ≤ sizeLine; rw [List.size_toArray, ra.length]; exact Nat.le_trans hl (by decide))
  refine ⟨_, _, rfl, stays_trans k1 (stays_push _ _), _, .tup ⟨_, S1.vis ok (Nat.le_refl _) (Heap.get?_push_size _ rfl), rfl, _, rfl⟩ (ra.keeps (vw_mono (stays_push _ _))), q1⟩
theorem ev_List {elts : List Expr} {pos : Pos} {Q : PV → Prop} (h : EvL G c σ (spliced (backTo pos (starEach elts c.env))) (fun xs => xs.length ≤ 1000 ∧ Q (.lst xs))) : Ev G c σ (.List elts pos) Q := by
  intro m ow al s ok S
  refine PyProof.Rows.List_ (wpAny_mono (h m ow al s ok S) (fun vs s1 hp => ?_) bot_elim)
  obtain ⟨h1, t1, rfl, k1, a, ra, hl, q1⟩ := hp
  have S1 := S.grow (tk := t1) k1
  refine wpAny_newObj_type ?_ (by show vs.toArray.size ≤ sizeLine; rw [List.size_toArray, ra.length]; exact Nat.le_trans hl (by decide))
  refine ⟨_, _, rfl, stays_trans k1 (stays_push _ _), _, .lst ⟨_, S1.vis ok (Nat.le_refl _) (Heap.get?_push_size _ rfl), rfl, _, rfl⟩ (ra.keeps (vw_mono (stays_push _ _))), q1⟩

/-! truth -/
theorem postB_tok {s : Shared} {Q : Bool → Prop} {b : Bool} {tk : Nat} (q : Q b) : PostB s Q b { s with toks := tk } := ⟨s.heap, tk, rfl, stays_refl _, q⟩
theorem opt_bool {b : Bool} {Q : Bool → Prop} (h : Q b) : OpT G c σ truthy (.bool b) Q := by
  intro m ow al s ok S v rv
  cases rv
  exact wpAny_truthy_bool (postB_tok h)
theorem opt_int {n : Int} {Q : Bool → Prop} (h : Q (n != 0)) : OpT G c σ truthy (.int n) Q := by
  intro m ow al s ok S v rv
  cases rv
  exact PyProof.Rows.truthy_int (postB_tok h)
theorem opt_lst {xs : List PV} {Q : Bool → Prop} (hl : xs.length ≤ 2 ^ 30) (h : Q (!xs.isEmpty)) : OpT G c σ truthy (.lst xs) Q := by
  intro m ow al s ok S v rv
  cases rv with
  | lst hl' r =>
    have e := r.length
    rename_i vs
    refine wpAny_truthy_list (isList_keeps vw_sub hl') (by rw [List.size_toArray]; omega) (postB_tok ?_)
    have : (!Array.isEmpty vs.toArray) = !xs.isEmpty := by
      cases vs <;> cases xs <;> simp_all
    rw [this]; exact h

theorem evt_of {e : Expr} {Q : Bool → Prop} (h : Ev G c σ e (fun x => OpT G c σ truthy x Q))
    (he : PySem.isTrue e c.env (eval e c.env) = (do let v ← eval e c.env; standAt e.pos; holding [v] (truthy v)) := by rfl) : EvT G c σ e Q := by
  intro m ow al s ok S
  refine PyProof.Rows.isTrue_plain (wpAny_mono (h m ow al s ok S) (fun v s1 hp => ?_) bot_elim) he
  obtain ⟨h1, t1, rfl, k1, a, ra, q1⟩ := hp
  exact wpAny_mono (q1 m ow al _ ok (S.grow k1) v ra) (fun v' s3 h3 => PostB.mono k1 h3 fun _ q => q) bot_elim
theorem evt_Compare {l r : Expr} {op : CmpOp} {pos : Pos} {Q : Bool → Prop} (h : Ev G c σ l (fun a => Ev G c σ r (fun b => Op2 G c σ (compareOp op) a b (fun x => OpT G c σ truthy x Q))))
    (hm : behindInMarks op r = false := by with_unfolding_all rfl) : EvT G c σ (.Compare l [op] [r] pos) Q := by
  intro m ow al s ok S
  refine wpAny_isTrue_Compare1 (wpAny_mono (h m ow al s ok S) (fun v s1 hp => ?_) bot_elim) hm
  obtain ⟨h1, t1, rfl, k1, a, ra, q1⟩ := hp
  refine wpAny_mono (q1 m ow al _ ok (S.grow k1)) (fun u s2 hp2 => ?_) bot_elim
  obtain ⟨h2, t2, rfl, k2, b, rb, q2⟩ := hp2
  have k12 := stays_trans k1 k2
  refine wpAny_mono (q2 m ow al _ ok (S.grow k12) v u (ra.keeps (vw_mono k2)) rb) (fun w s3 hp3 => ?_) bot_elim
  obtain ⟨h3, t3, rfl, k3, x, rx, q3⟩ := hp3
  have k13 := stays_trans k12 k3
  exact wpAny_mono (q3 m ow al _ ok (S.grow k13) w rx) (fun v' s3 h3 => PostB.mono k13 h3 fun _ q => q) bot_elim
theorem evt_not {e : Expr} {pos : Pos} {Q : Bool → Prop} (h : EvT G c σ e (fun b => Q (!b))) : EvT G c σ (.UnaryOp .Not e pos) Q := by
  intro m ow al s ok S
  refine PyProof.Rows.isTrue_not (wpAny_mono (h m ow al s ok S) (fun b s1 hp => ?_) bot_elim)
  obtain ⟨h1, t1, rfl, k1, q1⟩ := hp
  exact ⟨h1, t1, rfl, k1, q1⟩
theorem evt_and {e : Expr} {rest : List Expr} {pos : Pos} {Q : Bool → Prop} (h : EvT G c σ e (fun b => if b then EvT G c σ (.BoolOp .And rest pos) Q else Q false)) : EvT G c σ (.BoolOp .And (e :: rest) pos) Q := by
  intro m ow al s ok S
  refine PyProof.Rows.isTrue_and (wpAny_mono (h m ow al s ok S) (fun b s1 hp => ?_) bot_elim)
  obtain ⟨h1, t1, rfl, k1, q1⟩ := hp
  cases b with
  | true => exact wpAny_mono (q1 m ow al _ ok (S.grow k1)) (fun v' s3 h3 => PostB.mono k1 h3 fun _ q => q) bot_elim
  | false => exact ⟨h1, t1, rfl, k1, q1⟩
theorem evt_and_nil {pos : Pos} {Q : Bool → Prop} (h : Q true) : EvT G c σ (.BoolOp .And [] pos) Q :=
  fun m ow al s ok S => PyProof.Rows.isTrue_and_nil (postB_tok (tk := s.toks) h)
theorem evt_or {e : Expr} {rest : List Expr} {pos : Pos} {Q : Bool → Prop} (h : EvT G c σ e (fun b => if b then Q true else EvT G c σ (.BoolOp .Or rest pos) Q)) : EvT G c σ (.BoolOp .Or (e :: rest) pos) Q := by
  intro m ow al s ok S
  refine PyProof.Rows.isTrue_or (wpAny_mono (h m ow al s ok S) (fun b s1 hp => ?_) bot_elim)
  obtain ⟨h1, t1, rfl, k1, q1⟩ := hp
  cases b with
  | false => exact wpAny_mono (q1 m ow al _ ok (S.grow k1)) (fun v' s3 h3 => PostB.mono k1 h3 fun _ q => q) bot_elim
  | true => exact ⟨h1, t1, rfl, k1, q1⟩
theorem evt_or_nil {pos : Pos} {Q : Bool → Prop} (h : Q false) : EvT G c σ (.BoolOp .Or [] pos) Q :=
  fun m ow al s ok S => PyProof.Rows.isTrue_or_nil (postB_tok (tk := s.toks) h)

/-! values of and | or | not -/
theorem ev_one {op : BoolOp} {e : Expr} {pos : Pos} {Q : PV → Prop} (h : Ev G c σ e Q) : Ev G c σ (.BoolOp op [e] pos) Q :=
  fun m ow al s ok S => PyProof.Rows.BoolOp_one (h m ow al s ok S)
theorem ev_and {e e2 : Expr} {rest : List Expr} {pos : Pos} {Q : PV → Prop} (h : Ev G c σ e (fun x => OpT G c σ truthy x (fun b => if b then Ev G c σ (.BoolOp .And (e2 :: rest) pos) Q else Q x))) : Ev G c σ (.BoolOp .And (e :: e2 :: rest) pos) Q := by
  intro m ow al s ok S
  refine PyProof.Rows.BoolOp_and (wpAny_mono (h m ow al s ok S) (fun v s1 hp => ?_) bot_elim)
  obtain ⟨h1, t1, rfl, k1, x, rx, q1⟩ := hp
  refine wpAny_mono (q1 m ow al _ ok (S.grow k1) v rx) (fun b s2 hp2 => ?_) bot_elim
  obtain ⟨h2, t2, rfl, k2, q2⟩ := hp2
  have k12 := stays_trans k1 k2
  cases b with
  | true => exact wpAny_mono (q2 m ow al _ ok (S.grow k12)) (fun v' s3 h3 => Post.mono k12 h3 fun _ q => q) bot_elim
  | false => exact ⟨h2, t2, rfl, k12, x, rx.keeps (vw_mono k2), q2⟩
theorem op_not {x : PV} {Q : PV → Prop} (h : OpT G c σ truthy x (fun b => Q (.bool (!b)))) : Op1 G c σ (unaryOp .Not) x Q := by
  intro m ow al s ok S v rv
  refine PyProof.Rows.not_of (wpAny_mono (h m ow al s ok S v rv) (fun b s1 hp => ?_) bot_elim)
  obtain ⟨h1, t1, rfl, k1, q1⟩ := hp
  exact ⟨h1, t1, rfl, k1, _, .bool _, q1⟩

/-! is None -/
def PV.isNone : PV → Bool
  | .none => true
  | _ => false
theorem rep_none {H : Heap} {v : Value} {x : PV} (h : Rep G H v x) (hr : ∀ u, x ≠ .raw u) : (v == .none) = x.isNone := by
  cases h <;> first | rfl | exact absurd rfl (hr _)
theorem op_is_none {x : PV} {Q : PV → Prop} (hr : ∀ u, x ≠ .raw u) (h : Q (.bool x.isNone)) : Op2 G c σ (compareOp .Is) x .none Q := by
  intro m ow al s ok S v u rv ru
  cases ru
  exact is_none (post_here (.bool _) (by rw [rep_none rv hr]; exact h))

/-! items -/
theorem ev_Subscript {value slice : Expr} {pos : Pos} {Q : PV → Prop} (h : Ev G c σ value (fun a => Ev G c σ slice (fun b => Op2 G c σ (PyProof.Rows.subscriptTail value slice) a b Q))) : Ev G c σ (.Subscript value slice pos) Q := by
  intro m ow al s ok S
  refine PyProof.Rows.Subscript_ (wpAny_mono (h m ow al s ok S) (fun v s1 hp => ?_) bot_elim)
  obtain ⟨h1, t1, rfl, k1, a, ra, q1⟩ := hp
  refine wpAny_mono (q1 m ow al _ ok (S.grow k1)) (fun u s2 hp2 => ?_) bot_elim
  obtain ⟨h2, t2, rfl, k2, b, rb, q2⟩ := hp2
  exact wpAny_mono (q2 m ow al _ ok (S.grow (stays_trans k1 k2)) v u (ra.keeps (vw_mono k2)) rb) (fun v' s3 h3 => Post.mono (stays_trans k1 k2) h3 fun _ q => q) bot_elim
theorem op_item_lst {value slice : Expr} {xs : List PV} {k : Int} {x : PV} {Q : PV → Prop} (h0 : 0 ≤ k) (h1 : k < 2 ^ 60) (hx : xs[k.toNat]? = some x) (h : Q x)
    (hs : ∀ (l : Addr) (u : Tok), subscripted slice false (.ref l) (.int k u) = operate [.ref l, .int k u] (getItem (.ref l) (.int k u)) := by intros; with_unfolding_all rfl) :
    Op2 G c σ (PyProof.Rows.subscriptTail value slice) (.lst xs) (.int k) Q := by
  intro m ow al s ok S v u rv ru
  cases ru
  cases rv with
  | lst hl r =>
    obtain ⟨w, hw, rw⟩ := r.get hx
    have hl' := isList_keeps vw_sub hl
    exact PyProof.Rows.tail_any hl'.typeIs slot_list_getitem.lookup (wpAny_getItem_list hl' h0 (by omega) (by simpa using hw) (post_here rw h)) (hs _ _)
theorem op_item_lst_neg {value slice : Expr} {xs : List PV} {k : Int} {x : PV} {Q : PV → Prop} (h0 : k < 0) (h1 : -(xs.length : Int) ≤ k) (hlen : xs.length < 2 ^ 60) (hx : xs[(k + xs.length).toNat]? = some x) (h : Q x)
    (hs : ∀ (l : Addr) (u : Tok), subscripted slice false (.ref l) (.int k u) = operate [.ref l, .int k u] (getItem (.ref l) (.int k u)) := by intros; with_unfolding_all rfl) :
    Op2 G c σ (PyProof.Rows.subscriptTail value slice) (.lst xs) (.int k) Q := by
  intro m ow al s ok S v u rv ru
  cases ru
  cases rv with
  | lst hl r =>
    obtain ⟨w, hw, rw⟩ := r.get hx
    have hl' := isList_keeps vw_sub hl
    have e := r.length
    exact PyProof.Rows.tail_any hl'.typeIs slot_list_getitem.lookup (wpAny_getItem_list_neg hl' h0 (by rw [List.size_toArray]; omega) (by omega) (by rw [List.size_toArray, e]; simpa using hw) (post_here rw h)) (hs _ _)
theorem op_item_tup {value slice : Expr} {xs : List PV} {k : Int} {j : Nat} {x : PV} {Q : PV → Prop} (h0 : -2 ^ 60 < k) (h1 : k < 2 ^ 60) (hj : seqIndex? k xs.length = some j) (hx : xs[j]? = some x) (h : Q x)
    (hs : ∀ (l : Addr) (u : Tok), subscripted slice false (.ref l) (.int k u) = operate [.ref l, .int k u] (getItem (.ref l) (.int k u)) := by intros; with_unfolding_all rfl) :
    Op2 G c σ (PyProof.Rows.subscriptTail value slice) (.tup xs) (.int k) Q := by
  intro m ow al s ok S v u rv ru
  cases ru
  cases rv with
  | tup hl r =>
    obtain ⟨w, hw, rw⟩ := r.get hx
    exact PyProof.Rows.item_tupleT (isTup_keeps vw_sub hl) (by omega) (by omega) (by rw [r.length]; exact hj) hw (post_here rw h) (hs _ _)

/-! attributes -/
theorem inst_cell {H : Heap} {a d : Addr} {C : Addr} {es : List DictEntry} {sz : Nat} (h1 : H.get? a = some (instObj C d)) (h2 : H.get? d = some (dictOf es sz)) : W.InstAt H a (instObj C d) C (some (dictOf es sz)) := ⟨h1, rfl, rfl, h2⟩

structure OwnAttr (G : Gl) (C : Addr) (name : Str) : Prop where
  a : plainGet G.K C name = true
  b : hasDictIn G.K C = true
  c : findIn G.K (.ref C) name = some none
theorem noGet_none {K : Frag} : noGet K none = true := rfl

theorem ev_Attr {value : Expr} {attr : Str} {pos : Pos} {Q : PV → Prop} (h : Ev G c σ value (fun x => Op1 G c σ (fun v => getAttr v attr true) x Q))
    (he : eval (.Attribute value attr pos) c.env = (do
          let o ← eval value c.env
          standAt (Pos.atName pos)
          let r ← holding [o] (getAttr o attr true)
          letTemporaryGo value o r
          pure r) := by rfl) : Ev G c σ (.Attribute value attr pos) Q :=
  tr_bind1 h fun _ _ _ _ _ _ => fun hh => PyProof.Rows.Attribute_any_ (E := Bot) hh he

theorem at_cell_id {n : Int} {Q : PV → Prop} (A : OwnAttr G G.C "_CellId__id") (h : Q (.int n)) : Op1 G c σ (fun v => getAttr v "_CellId__id" true) (.cell n) Q := by
  intro m ow al s ok S v rv
  cases rv with
  | cell h1 h2 =>
    exact get_own S.F ok.K (inst_cell (vw_sub _ _ h1) (vw_sub _ _ h2)) A.a A.b A.c noGet_none rfl rfl (post_tok (.int _ _) h)

structure ClassAttr (G : Gl) (C : Addr) : Prop where
  a : plainGet G.K C "__class__" = true
  b : hasDictIn G.K C = true
  c : findIn G.K (.ref C) "__class__" = some (some (.builtin "object.__class__"))
  d : specialIn G.K (.builtin "object.__class__") "__get__" = some (some (.builtin "getset_descriptor.__get__"))
  e : takesIn G.K (.builtin "object.__class__") = some true
  f : mroIn G.K C (.type "object") = some true
  g : ((some (Value.builtin "object.__class__")).all fun a => (typeIn G.K a).any fun t => t != .type "function" && t != .type "method_descriptor" && t != .type "wrapper_descriptor") = true
theorem at_class {n : Int} {Q : PV → Prop} (A : ClassAttr G G.C) (h : Q (.raw (.ref G.C))) : Op1 G c σ (fun v => getAttr v "__class__" true) (.cell n) Q := by
  intro m ow al s ok S v rv
  cases rv with
  | cell h1 h2 => exact get_class S.F ok.K (inst_cell (vw_sub _ _ h1) (vw_sub _ _ h2)) A.a A.b A.c A.d A.e A.f (post_tok (.raw _) h)

structure ClsVal (G : Gl) (C : Addr) (name : Str) (v : Value) : Prop where
  a : typeIn G.K (.ref C) = some (.type "type")
  b : readsIn G.K C (.type "type") = true
  c : findCls G.K (.ref C) (.type "type") name = some (.val v)
theorem at_cls_int {C : Addr} {name : Str} {n : Int} {t : Tok} {Q : PV → Prop} (A : ClsVal G C name (.int n t)) (h : Q (.int n)) : Op1 G c σ (fun v => getAttr v name true) (.raw (.ref C)) Q := by
  intro m ow al s ok S v rv
  cases rv
  exact cls_val S.F ok.K A.a A.b A.c rfl (post_tok (.int _ _) h)

/-! calls -/
def RPost (Q : Value → Shared → Prop) (r : Result) (s' : Shared) : Prop := match r with
  | .ok (.ret v) => Q v s'
  | .ok _ => False
  | .error _ => False
/-- a call of the def at f upon these values -/
def Cl (G : Gl) (c : Cx) (σ : Sg) (f : Value) (xs : List PV) (Q : PV → Prop) : Prop :=
  ∀ m ow al s, c.Ok G → St G c σ m ow al s → ∀ vs, RepL G (Vw c (ow ++ al) s.heap) vs xs → codeAny G.M c.A (.call f ⟨vs, []⟩) (RPost (Post G c (ow ++ al) s Q)) s

def CallW (G : Gl) (c : Cx) (σ : Sg) (pos : Pos) (args : List Expr) (x : PV) (Q : PV → Prop) : Prop :=
  Op1 G c σ (fun f => callWith pos f [] (backTo pos (starEach args c.env)) []) x Q

theorem ev_Call {func : Expr} {args : List Expr} {pos : Pos} {Q : PV → Prop} (h : Ev G c σ func (fun x => CallW G c σ pos args x Q))
    (he : eval (.Call func args [] pos) c.env = (do callWith pos (← eval func c.env) [] (backTo pos (starEach args c.env)) (backToKw pos (keywordEach [] c.env))) := by rfl) : Ev G c σ (.Call func args [] pos) Q :=
  tr_bind1 h fun _ _ _ _ _ _ => fun hh => PyProof.Rows.Call_ hh he

theorem wp_of_code {A : Around} {f : Value} {vs : List Value} {s : Shared} {Q : Value → Shared → Prop} (h : codeAny G.M A (.call f ⟨vs, []⟩) (RPost Q) s) : wpAny G.M A (call f vs) Q Bot s :=
  wpAny_call (codeAny_mono h fun r s' hr => by
    cases r with
    | error e => exact hr
    | ok f => cases f <;> exact hr)

theorem cw_def {pos : Pos} {e : Expr} {rest : List Expr} {f : Addr} {Q : PV → Prop} (hk : keepIn G.K (.ref f) = true) (h : EvL G c σ (spliced (backTo pos (starEach (e :: rest) c.env))) (fun xs => Cl G c σ (.ref f) xs Q))
    (he : starEach (e :: rest) c.env = (false, eval e c.env) :: starEach rest c.env := by rfl) (hplain : (backTo pos (starEach rest c.env)).any (·.1) = false := by rfl) : CallW G c σ pos (e :: rest) (.raw (.ref f)) Q := by
  intro m ow al s ok S v rv
  cases rv
  refine callWith_K ok.K hk (wpAny_mono (h m ow al s ok S) (fun vs s1 hp => ?_) bot_elim) he hplain
  obtain ⟨h1, t1, rfl, k1, a, ra, q1⟩ := hp
  refine ⟨(S.grow (tk := t1) k1).inK ok, wpAny_mono (wp_of_code (q1 m ow al _ ok (S.grow k1) vs ra)) (fun v' s3 h3 => Post.mono k1 h3 fun _ q => q) bot_elim⟩
theorem cw_def0 {pos : Pos} {f : Addr} {Q : PV → Prop} (hk : keepIn G.K (.ref f) = true) (h : Cl G c σ (.ref f) [] Q) : CallW G c σ pos [] (.raw (.ref f)) Q := by
  intro m ow al s ok S v rv
  cases rv
  exact callWith_K0 (S.inK ok) hk (wp_of_code (h m ow al s ok S [] .nil))
theorem cw_builtin {pos : Pos} {e : Expr} {rest : List Expr} {id : String} {Q : PV → Prop} (h : EvL G c σ (spliced (backTo pos (starEach (e :: rest) c.env))) (fun xs => OpL G c σ (fun vs => call (.builtin id) vs) xs Q))
    (he : starEach (e :: rest) c.env = (false, eval e c.env) :: starEach rest c.env := by rfl) (hplain : (backTo pos (starEach rest c.env)).any (·.1) = false := by rfl) : CallW G c σ pos (e :: rest) (.raw (.builtin id)) Q := by
  intro m ow al s ok S v rv
  cases rv
  refine PyProof.Rows.callWith_builtin1 (wpAny_mono (h m ow al s ok S) (fun vs s1 hp => ?_) bot_elim) he hplain
  obtain ⟨h1, t1, rfl, k1, a, ra, q1⟩ := hp
  exact wpAny_mono (q1 m ow al _ ok (S.grow k1) vs ra) (fun v' s3 h3 => Post.mono k1 h3 fun _ q => q) bot_elim
theorem cw_type {pos : Pos} {e : Expr} {rest : List Expr} {id : String} {Q : PV → Prop} (h : EvL G c σ (spliced (backTo pos (starEach (e :: rest) c.env))) (fun xs => OpL G c σ (fun vs => call (.type id) vs) xs Q))
    (he : starEach (e :: rest) c.env = (false, eval e c.env) :: starEach rest c.env := by rfl) (hplain : (backTo pos (starEach rest c.env)).any (·.1) = false := by rfl) : CallW G c σ pos (e :: rest) (.raw (.type id)) Q := by
  intro m ow al s ok S v rv
  cases rv
  refine PyProof.Rows.callWith_type1 (wpAny_mono (h m ow al s ok S) (fun vs s1 hp => ?_) bot_elim) he hplain
  obtain ⟨h1, t1, rfl, k1, a, ra, q1⟩ := hp
  exact wpAny_mono (q1 m ow al _ ok (S.grow k1) vs ra) (fun v' s3 h3 => Post.mono k1 h3 fun _ q => q) bot_elim

/-! methods -/
def MthW (G : Gl) (c : Cx) (σ : Sg) (name : Str) (pos : Pos) (args : List Expr) (x : PV) (Q : PV → Prop) : Prop :=
  ∀ m ow al s, c.Ok G → St G c σ m ow al s → ∀ v pl, Rep G (Vw c (ow ++ al) s.heap) v x →
    wpAny G.M c.A (getMethod v name pl) (fun fx s₂ => wpAny G.M c.A (callWith pos fx.1 fx.2 (backTo pos (starEach args c.env)) []) (Post G c (ow ++ al) s Q) Bot s₂) Bot s
theorem ev_Method {o : Expr} {name : Str} {args : List Expr} {apos pos : Pos} {pl : Sem Bool} {Q : PV → Prop} (h : Ev G c σ o (fun x => MthW G c σ name pos args x Q))
    (he : eval (.Call (.Attribute o name apos) args [] pos) c.env = (do
          let ov ← eval o c.env
          standAt (Pos.atName apos)
          let __x ← holding [ov] (getMethod ov name pl)
          match __x with
            | (f, first) => callWith pos f first (backTo pos (starEach args c.env)) []) := by rfl) : Ev G c σ (.Call (.Attribute o name apos) args [] pos) Q := by
  intro m ow al s ok S
  refine PyProof.Rows.MethodCall_ (wpAny_mono (h m ow al s ok S) (fun v s1 hp => ?_) bot_elim) he
  obtain ⟨h1, t1, rfl, k1, x, rx, q1⟩ := hp
  exact wpAny_mono (q1 m ow al _ ok (S.grow k1) v pl rx) (fun fx s2 h2 => wpAny_mono h2 (fun v' s3 h3 => Post.mono k1 h3 fun _ q => q) bot_elim) bot_elim

structure MethOf (G : Gl) (C : Addr) (name : Str) (f : Addr) : Prop where
  a : plainGet G.K C name = true
  b : findIn G.K (.ref C) name = some (some (.ref f))
  c : isFn G.K (.ref f) = true
  d : keepIn G.K (.ref f) = true
  e : (Str.ofString "_CellId__id" == name) = false
theorem getL_one {hs : Int} {tk : Tok} {v : Value} {a name : Str} (h : (a == name) = false) : getL name [⟨hs, .str a tk, v⟩] = some none := by
  have : (Value.str a tk).isStr name = false := by
    simpa [Value.isStr] using h
  simp [getL, this, DictEntry.refKey]
theorem mth_cell {name : Str} {n : Int} {f : Addr} {pos : Pos} {e : Expr} {rest : List Expr} {Q : PV → Prop} (A : MethOf G G.C name f)
    (h : EvL G c σ (spliced (backTo pos (starEach (e :: rest) c.env))) (fun xs => Cl G c σ (.ref f) (.cell n :: xs) Q))
    (he : starEach (e :: rest) c.env = (false, eval e c.env) :: starEach rest c.env := by rfl) (hplain : (backTo pos (starEach rest c.env)).any (·.1) = false := by rfl) : MthW G c σ name pos (e :: rest) (.cell n) Q := by
  intro m ow al s ok S v pl rv
  cases rv with
  | cell h1 h2 =>
    have rv' : Rep G (Vw c (ow ++ al) s.heap) _ _ := .cell h1 h2
    refine method_inst S.F ok.K (inst_cell (vw_sub _ _ h1) (vw_sub _ _ h2)) A.a A.b A.c (getL_one A.e) ?_
    refine callWith_K ok.K A.d (wpAny_mono (h m ow al s ok S) (fun vs s1 hp => ?_) bot_elim) he hplain
    obtain ⟨h1, t1, rfl, k1, a, ra, q1⟩ := hp
    exact ⟨(S.grow (tk := t1) k1).inK ok, wpAny_mono (wp_of_code (q1 m ow al _ ok (S.grow k1) _ (.cons (rv'.keeps (vw_mono k1)) ra))) (fun v' s3 h3 => Post.mono k1 h3 fun _ q => q) bot_elim⟩
theorem mth_cell0 {name : Str} {n : Int} {f : Addr} {pos : Pos} {Q : PV → Prop} (A : MethOf G G.C name f) (h : Cl G c σ (.ref f) [.cell n] Q) : MthW G c σ name pos [] (.cell n) Q := by
  intro m ow al s ok S v pl rv
  cases rv with
  | cell h1 h2 =>
    have rv' : Rep G (Vw c (ow ++ al) s.heap) _ _ := .cell h1 h2
    refine method_inst S.F ok.K (inst_cell (vw_sub _ _ h1) (vw_sub _ _ h2)) A.a A.b A.c (getL_one A.e) ?_
    exact callWith_K0 (S.inK ok) A.d (wp_of_code (h m ow al s ok S _ (.cons rv' .nil)))

/-- a classmethod met through its class -/
structure CmOf (G : Gl) (C : Addr) (name : Str) (p f : Addr) (rest : List Value) : Prop where
  a : typeIn G.K (.ref C) = some (.type "type")
  b : readsIn G.K C (.type "type") = true
  c : findCls G.K (.ref C) (.type "type") name = some (.get (.builtin "classmethod.__get__") (.ref p) .none (.ref C))
  d : recIn G.K p "classmethod" = some (.ref f :: rest)
  e : fnIn G.K f = true
  f : specialIn G.K (.ref C) "__getattribute__" = some (some (.builtin "type.__getattribute__"))
theorem mth_cls {C : Addr} {name : Str} {p f : Addr} {vr : List Value} {pos : Pos} {e : Expr} {rest : List Expr} {Q : PV → Prop} (A : CmOf G C name p f vr)
    (h : EvL G c σ (spliced (backTo pos (starEach (e :: rest) c.env))) (fun xs => Cl G c σ (.ref f) (.raw (.ref C) :: xs) Q))
    (he : starEach (e :: rest) c.env = (false, eval e c.env) :: starEach rest c.env := by rfl) (hplain : (backTo pos (starEach rest c.env)).any (·.1) = false := by rfl) : MthW G c σ name pos (e :: rest) (.raw (.ref C)) Q := by
  intro m ow al s ok S v pl rv
  cases rv
  refine method_of_cls S.F ok.K A.f (cls_bind (ok.K.keeps S.F.keep) A.b A.c (wpAny_call (cm_get (s := { s with toks := s.toks + 1 }) (ok.K.keeps S.F.keep) A.d (handed_on rfl ?_))))
  have hq : ({ s with toks := s.toks + 1, heap := s.heap.push (methodObj (.ref f) (.ref C)) } : Shared).heap.get? s.heap.objs.size = some (methodObj (.ref f) (.ref C)) := Heap.get?_push_size _ rfl
  have k0 : s.heap.StaysIn (s.heap.push (methodObj (.ref f) (.ref C))) := stays_push _ _
  have S0 := S.grow (tk := s.toks + 1) k0
  refine callWith_of (P := MethP G.K s.heap.objs.size f (.ref C)) ?_ (keeps_M A.e) ?_
  · rw [he]; show ((false || (backTo pos (starEach rest c.env)).any (·.1)) || false) = false; rw [hplain]; rfl
  · have hh := h m ow al _ ok S0
    rw [he] at hh ⊢
    refine evalArgs_plain (wpAny_mono hh (fun vs s1 hp => ?_) bot_elim)
    obtain ⟨h1, t1, rfl, k1, a, ra, q1⟩ := hp
    have k01 := stays_trans k0 k1
    have hm : ({ s with heap := h1, toks := t1 } : Shared).heap.get? s.heap.objs.size = some (methodObj (.ref f) (.ref C)) := k1 _ _ hq
    refine ⟨⟨hm, (S.grow (tk := t1) k01).inK ok⟩, wpAny_call (method_call hm (codeAny_mono (q1 m ow al _ ok (S.grow k01) _ (.cons (.raw _) ra)) fun r s' hr => ?_))⟩
    cases r with
    | error e => exact hr
    | ok fl => cases fl <;> first | exact Post.mono k01 hr (fun _ q => q) | exact hr

/-- x.__class__(..) -/
theorem mth_class {n : Int} {pos : Pos} {args : List Expr} {Q : PV → Prop} (A : ClassAttr G G.C) (h : CallW G c σ pos args (.raw (.ref G.C)) Q) : MthW G c σ "__class__" pos args (.cell n) Q := by
  intro m ow al s ok S v pl rv
  cases rv with
  | cell h1 h2 =>
    have I := inst_cell (vw_sub _ _ h1) (vw_sub _ _ h2)
    refine method_usual (S.inK ok) I (plainGet_of A.a).1 (plainGet_of A.a).2 A.c A.g ?_
    refine get_class S.F ok.K I A.a A.b A.c A.d A.e A.f ?_
    exact wpAny_mono (h m ow al _ ok (S.grow (tk := s.toks + 1) (stays_refl _)) _ (.raw _)) (fun v' s3 h3 => Post.mono (stays_refl _) h3 fun _ q => q) bot_elim
end
end Mine
end Part1
section Part2
open PySem PySem.W PySem.Calls
set_option maxRecDepth 100000
set_option autoImplicit false
set_option linter.unusedVariables false
namespace Mine
open PyProof.Rows (Fr News Top IsTup Below envOf envOfC)

inductive Fl where
  | nxt
  | ret (x : PV)
  | brk
  | cont

inductive FlRep (G : Gl) (H : Heap) : Flow → Fl → Prop
  | nxt : FlRep G H .next .nxt
  | brk : FlRep G H .brk .brk
  | cont : FlRep G H .cont .cont
  | ret {v : Value} {x : PV} : Rep G H v x → FlRep G H (.ret v) (.ret x)

def upd (σ : Sg) (y : Str) (x : PV) : Sg := (y, x) :: σ
theorem lookup_upd (σ : Sg) (y : Str) (x : PV) (z : Str) : (upd σ y x).lookup z = if z == y then some x else σ.lookup z := by
  show List.lookup z ((y, x) :: σ) = _
  simp only [List.lookup]
  cases z == y <;> rfl

def ExPost (G : Gl) (c : Cx) (al : Led) (mu : Led) (s : Shared) (Q : Fl → Sg → Prop) (fl : Flow) (s' : Shared) : Prop :=
  ∃ h' tk m' ow' σ' f, s' = { s with heap := h', toks := tk } ∧ (Vw c mu s.heap).StaysIn (Vw c (ow' ++ al) h') ∧ St G c σ' m' ow' al { s with heap := h', toks := tk } ∧ FlRep G (Vw c (ow' ++ al) h') fl f ∧ Q f σ'

def Ex (G : Gl) (c : Cx) (σ : Sg) (ss : List Stmt) (Q : Fl → Sg → Prop) : Prop :=
  ∀ m ow al s, c.Ok G → St G c σ m ow al s → wpAny G.M c.A (execs ss c.env) (ExPost G c al (ow ++ al) s Q) Bot s
def Ex1 (G : Gl) (c : Cx) (σ : Sg) (st : Stmt) (Q : Fl → Sg → Prop) : Prop :=
  ∀ m ow al s, c.Ok G → St G c σ m ow al s → wpAny G.M c.A (exec st c.env) (ExPost G c al (ow ++ al) s Q) Bot s
/-- an assignment of a value to a target -/
def As (G : Gl) (c : Cx) (σ : Sg) (t : Value → Sem Unit) (x : PV) (Q : Sg → Prop) : Prop :=
  ∀ m ow al s, c.Ok G → St G c σ m ow al s → ∀ v, Rep G (Vw c (ow ++ al) s.heap) v x → wpAny G.M c.A (t v) (fun _ s' => ExPost G c al (ow ++ al) s (fun _ σ' => Q σ') .next s') Bot s

section
variable {G : Gl} {c : Cx} {σ : Sg}

theorem ExPost.mono {al mu mu' : Led} {s : Shared} {h1 : Heap} {t1 : Nat} {Q Q' : Fl → Sg → Prop} {fl : Flow} {s' : Shared} (k : (Vw c mu s.heap).StaysIn (Vw c mu' h1)) (h : ExPost G c al mu' { s with heap := h1, toks := t1 } Q fl s')
    (hq : ∀ f σ', Q f σ' → Q' f σ') : ExPost G c al mu s Q' fl s' := by
  obtain ⟨h', tk, m', ow', σ', f, rfl, st, S', r, q⟩ := h
  exact ⟨h', tk, m', ow', σ', f, rfl, stays_trans k st, S', r, hq _ _ q⟩

theorem ex_nil {Q : Fl → Sg → Prop} (h : Q .nxt σ) : Ex G c σ [] Q := fun m ow al s ok S =>
  wpAny_execs_nil ⟨s.heap, s.toks, m, ow, σ, .nxt, rfl, stays_refl _, S, .nxt, h⟩

def seqQ (G : Gl) (c : Cx) (rest : List Stmt) (Q : Fl → Sg → Prop) (f : Fl) (σ' : Sg) : Prop := match f with
  | .nxt => Ex G c σ' rest Q
  | f => Q f σ'
theorem ex_cons {st : Stmt} {rest : List Stmt} {Q : Fl → Sg → Prop} (h : Ex1 G c σ st (seqQ G c rest Q)) : Ex G c σ (st :: rest) Q := by
  intro m ow al s ok S
  refine wpAny_execs_cons (wpAny_mono (h m ow al s ok S) (fun fl s1 hp => ?_) bot_elim)
  obtain ⟨h1, t1, m1, ow1, σ1, f, rfl, k1, S1, r1, q1⟩ := hp
  cases r1 with
  | nxt => exact wpAny_mono (q1 m1 ow1 al _ ok S1) (fun fl' s2 h2 => ExPost.mono k1 h2 fun _ _ q => q) bot_elim
  | brk => exact ⟨h1, t1, m1, ow1, σ1, _, rfl, k1, S1, .brk, q1⟩
  | cont => exact ⟨h1, t1, m1, ow1, σ1, _, rfl, k1, S1, .cont, q1⟩
  | ret r => exact ⟨h1, t1, m1, ow1, σ1, _, rfl, k1, S1, .ret r, q1⟩

theorem ex1_mono {st : Stmt} {Q Q' : Fl → Sg → Prop} (h : Ex1 G c σ st Q) (hq : ∀ f σ', Q f σ' → Q' f σ') : Ex1 G c σ st Q' := fun m ow al s ok S =>
  wpAny_mono (h m ow al s ok S) (fun fl s1 hp => ExPost.mono (stays_refl _) hp hq) bot_elim
theorem ex_mono {ss : List Stmt} {Q Q' : Fl → Sg → Prop} (h : Ex G c σ ss Q) (hq : ∀ f σ', Q f σ' → Q' f σ') : Ex G c σ ss Q' := fun m ow al s ok S =>
  wpAny_mono (h m ow al s ok S) (fun fl s1 hp => ExPost.mono (stays_refl _) hp hq) bot_elim

/-- an expression's end as a statement's -/
theorem exPost_of {m : Str → Option Value} {ow al : Led} {s : Shared} {h1 : Heap} {t1 : Nat} {Q : Fl → Sg → Prop} {fl : Flow} {f : Fl} (S : St G c σ m ow al s) (k : s.heap.StaysIn h1) (r : FlRep G (Vw c (ow ++ al) h1) fl f) (q : Q f σ) :
    ExPost G c al (ow ++ al) s Q fl { s with heap := h1, toks := t1 } := ⟨h1, t1, m, ow, σ, f, rfl, vw_mono k, S.grow k, r, q⟩

theorem ex_return {e : Expr} {pos : Pos} {Q : Fl → Sg → Prop} (h : Ev G c σ e (fun x => Q (.ret x) σ)) : Ex1 G c σ (.Return (some e) pos) Q := by
  intro m ow al s ok S
  refine wpAny_Return_some (wpAny_mono (h m ow al s ok S) (fun v s1 hp => ?_) bot_elim)
  obtain ⟨h1, t1, rfl, k1, x, rx, q1⟩ := hp
  exact exPost_of S k1 (.ret rx) q1
theorem ex_if {test : Expr} {body orelse : List Stmt} {pos : Pos} {Q : Fl → Sg → Prop} (h : EvT G c σ test (fun b => if b then Ex G c σ body Q else Ex G c σ orelse Q)) : Ex1 G c σ (.If test body orelse pos) Q := by
  intro m ow al s ok S
  refine wpAny_If (wpAny_mono (h m ow al s ok S) (fun b s1 hp => ?_) bot_elim)
  obtain ⟨h1, t1, rfl, k1, q1⟩ := hp
  cases b with
  | true => exact wpAny_mono (q1 m ow al _ ok (S.grow k1)) (fun v' s3 h3 => ExPost.mono (vw_mono k1) h3 fun _ _ q => q) bot_elim
  | false => exact wpAny_mono (q1 m ow al _ ok (S.grow k1)) (fun v' s3 h3 => ExPost.mono (vw_mono k1) h3 fun _ _ q => q) bot_elim
theorem ex_assert {test : Expr} {msg : Option Expr} {pos : Pos} {Q : Fl → Sg → Prop} (h : EvT G c σ test (fun b => b = true ∧ Q .nxt σ)) : Ex1 G c σ (.Assert test msg pos) Q := by
  intro m ow al s ok S
  refine wpAny_Assert_holds (wpAny_mono (h m ow al s ok S) (fun b s1 hp => ?_) bot_elim)
  obtain ⟨h1, t1, rfl, k1, q1, q2⟩ := hp
  exact ⟨q1, exPost_of S k1 .nxt q2⟩
theorem ex_pass {pos : Pos} {Q : Fl → Sg → Prop} (h : Q .nxt σ) : Ex1 G c σ (.Pass pos) Q := fun m ow al s ok S =>
  wpAny_Pass (exPost_of (h1 := s.heap) (t1 := s.toks) S (stays_refl _) .nxt h)
theorem ex_break {pos : Pos} {Q : Fl → Sg → Prop} (h : Q .brk σ) : Ex1 G c σ (.Break pos) Q := fun m ow al s ok S =>
  wpAny_Break (exPost_of (h1 := s.heap) (t1 := s.toks) S (stays_refl _) .brk h)

/-! stores -/
theorem rep_store {mu mu' ow ow' : Led} {h h' : Heap} {v : Value} {x : PV} (k : (Vw c mu h).StaysIn (Vw c mu' h')) (ho : ∀ p ∈ ow, p.2.cls = .type "list" → p ∈ ow') (r : RepO G (Vw c mu h) ow v x) : RepO G (Vw c mu' h') ow' v x := by
  cases r with
  | rep r => exact .rep (r.keeps k)
  | mlst a b d r => exact .mlst (ho _ a b) b d (r.keeps k)

theorem vw_same {mu mu' : Led} {h h' : Heap} {a : Addr} (hs : Heap.SameBut a h h') (ha : a ∈ c.hid ++ c.L :: mu.map (·.1)) (hm : mu'.map (·.1) = mu.map (·.1)) : (Vw c mu h).StaysIn (Vw c mu' h') := by
  intro b o e
  rw [mem_vw] at e ⊢
  refine ⟨(hs.2 b fun q => e.2 (q ▸ ha)).trans e.1, ?_⟩
  rw [hm]; exact e.2

theorem store_local {m : Str → Option Value} {ow al : Led} {s : Shared} {y : Str} {v : Value} {x : PV} {Q : Sg → Prop} (hk : c.env.kindOf y = some .local) (hl : c.env.locals = c.L) (ok : c.Ok G) (S : St G c σ m ow al s)
    (r : RepO G (Vw c (ow ++ al) s.heap) ow v x) (q : Q (upd σ y x)) : wpAny G.M c.A (storeName c.env y v) (fun _ s' => ExPost G c al (ow ++ al) s (fun _ σ' => Q σ') .next s') Bot s := by
  refine wpAny_storeName_local hk (hl ▸ S.F.ns) (fun h' hn hs => ?_) (by rw [ok.ek]; rfl)
  rw [hl] at hn hs
  have k := vw_same (c := c) (mu := ow ++ al) (mu' := ow ++ al) hs (List.mem_append_right _ (.head _)) rfl
  refine ⟨h', s.toks + 1, _, ow, upd σ y x, .nxt, rfl, k, ⟨S.F.set hn hs, S.N.set hs, S.nd, ?_, S.cells⟩, .nxt, q⟩
  intro z pv e
  rw [lookup_upd] at e
  split at e
  · rename_i hz
    obtain rfl := beq_iff_eq.mp hz
    cases e
    exact ⟨v, .loc hk hl (by simp), rep_store k (fun _ h _ => h) r⟩
  · rename_i hz
    obtain ⟨u, hu, ru⟩ := S.vars z pv e
    refine ⟨u, ?_, rep_store k (fun _ h _ => h) ru⟩
    have hne : z ≠ y := fun q => hz (by rw [q]; simp)
    cases hu with
    | loc a b d => exact .loc a b (by simp [hne, d])
    | locC a ho hn' d => exact absurd (hl ▸ (rfl : c.env.locals = c.env.locals)) (by
        have := (S.N _ (List.mem_append_left _ ho)).2.1; rw [hl] at this; exact absurd rfl this)
    | cel a b d e => exact .cel a b d e
    | free a b d e f => exact .free a b d e f

theorem as_name {y : Str} {pos : Pos} {x : PV} {Q : Sg → Prop} (hk : c.env.kindOf y = some .local) (hl : c.env.locals = c.L) (h : Q (upd σ y x)) : As G c σ (assign (.Name y pos) c.env) x Q := by
  intro m ow al s ok S v r
  refine wpAny_assign_Name ?_
  exact store_local hk hl ok S (.rep r) h

theorem ex_assign {y : Str} {p : Pos} {e : Expr} {pos : Pos} {Q : Fl → Sg → Prop} (h : Ev G c σ e (fun x => Q .nxt (upd σ y x))) (hk : c.env.kindOf y = some .local) (hl : c.env.locals = c.L)
    (hs : swapsWith e (some (.Name y p)) pos.line c.env = pure false := by rfl) : Ex1 G c σ (.Assign [.Name y p] e pos) Q := by
  intro m ow al s ok S
  refine wpAny_Assign_Name (wpAny_mono (h m ow al s ok S) (fun v s1 hp => ?_) bot_elim) hs
  obtain ⟨h1, t1, rfl, k1, x, rx, q1⟩ := hp
  refine wpAny_mono (store_local (Q := fun σ' => Q .nxt σ') hk hl ok (S.grow k1) (.rep rx) q1) (fun _ s2 h2 => ?_) bot_elim
  obtain ⟨h', tk, m', ow', σ', f, rfl, st, S', r, q⟩ := h2
  exact ⟨h', tk, m', ow', σ', .nxt, rfl, stays_trans (vw_mono k1) st, S', .nxt, q⟩

theorem ex_aug {y : Str} {p : Pos} {op : Operator} {e : Expr} {pos : Pos} {old : PV} {Q : Fl → Sg → Prop} (hx : σ.lookup y = some old) (hp : old.plain = true) (h : Ev G c σ e (fun b => Op2 G c σ (inplaceOp op) old b (fun x => Q .nxt (upd σ y x))))
    (hk : c.env.kindOf y = some .local) (hl : c.env.locals = c.L) : Ex1 G c σ (.AugAssign (.Name y p) op e pos) Q := by
  intro m ow al s ok S
  obtain ⟨v, hv, r⟩ := S.vars y old hx
  refine wpAny_AugAssign_Name (load_var ok S hv ?_)
  refine wpAny_mono (h m ow al s ok S) (fun u s1 hp1 => ?_) bot_elim
  obtain ⟨h1, t1, rfl, k1, b, rb, q1⟩ := hp1
  refine wpAny_mono (q1 m ow al _ ok (S.grow k1) v u ((r.plain hp).keeps (vw_mono k1)) rb) (fun w s2 hp2 => ?_) bot_elim
  obtain ⟨h2, t2, rfl, k2, x, rx, q2⟩ := hp2
  have k12 := stays_trans k1 k2
  refine wpAny_mono (store_local (Q := fun σ' => Q .nxt σ') hk hl ok (S.grow k12) (.rep rx) q2) (fun _ s2 h2 => ?_) bot_elim
  obtain ⟨h', tk, m', ow', σ', f, rfl, st, S', r, q⟩ := h2
  exact ⟨h', tk, m', ow', σ', .nxt, rfl, stays_trans (vw_mono k12) st, S', .nxt, q⟩

/-! several targets -/
def AsAll (G : Gl) (c : Cx) (ts : List (Value → Sem Unit)) (xs : List PV) (Q : Sg → Prop) : Sg → Prop := fun σ => match ts, xs with
  | [], [] => Q σ
  | t :: ts, x :: xs => As G c σ t x (AsAll G c ts xs Q)
  | _, _ => False
theorem as_all {Q : Sg → Prop} : ∀ {ts : List (Value → Sem Unit)} {xs : List PV} {σ : Sg}, AsAll G c ts xs Q σ → ∀ m ow al s, c.Ok G → St G c σ m ow al s → ∀ vs, RepL G (Vw c (ow ++ al) s.heap) vs xs →
    wpAny G.M c.A (assignInOrder ts vs) (fun _ s' => ExPost G c al (ow ++ al) s (fun _ σ' => Q σ') .next s') Bot s
  | [], [], σ, h, m, ow, al, s, ok, S, vs, r => by
    cases r
    exact wpAny_pure ⟨s.heap, s.toks, m, ow, σ, .nxt, rfl, stays_refl _, S, .nxt, h⟩
  | t :: ts, x :: xs, σ, h, m, ow, al, s, ok, S, vs, r => by
    cases r with
    | cons rv r =>
      rename_i v vs
      show wpAny G.M c.A (assignInOrder (t :: ts) (v :: vs)) _ Bot s
      unfold assignInOrder
      refine wpAny_bind ?_
      have ha := h m ow al s ok S v rv
      refine wpAny_mono (wpAny_holding ha) (fun _ s1 hp => ?_) bot_elim
      obtain ⟨h1, t1, m1, ow1, σ1, f, rfl, k1, S1, r1, q1⟩ := hp
      refine wpAny_mono (as_all q1 m1 ow1 al _ ok S1 vs (r.keeps k1)) (fun _ s2 h2 => ExPost.mono k1 h2 fun _ _ q => q) bot_elim
  | [], _ :: _, σ, h, _, _, _, _, _, _, _, _ => h.elim
  | _ :: _, [], σ, h, _, _, _, _, _, _, _, _ => h.elim

theorem as_tuple {elts : List Expr} {k : Nat} {pos : Pos} {xs : List PV} {Q : Sg → Prop} (h : AsAll G c ((assignEach elts c.env).map (·.2)) xs Q σ) (hn : (assignEach elts c.env).length = xs.length) (hstar : (assignEach elts c.env).findIdx? (·.1) = none) :
    As G c σ (assign (.Tuple elts k pos) c.env) (.tup xs) Q := by
  intro m ow al s ok S v r
  cases r with
  | tup ht r =>
    rename_i vs
    have e := r.length
    refine wpAny_assign_Tuple ok.hh (isTup_keeps vw_sub ht) (by rw [hn, List.size_toArray, e]) hstar fun h' he => ?_
    have k := stays_ext he
    have := as_all h m ow al { s with heap := h' } ok (S.grow (tk := s.toks) k) vs (r.keeps (vw_mono k))
    exact wpAny_mono this (fun _ s2 h2 => ExPost.mono (t1 := s.toks) (vw_mono k) h2 fun _ _ q => q) bot_elim

theorem ex_assign_tuple {elts : List Expr} {k : Nat} {tpos : Pos} {e : Expr} {pos : Pos} {Q : Fl → Sg → Prop} (h : Ev G c σ e (fun x => As G c σ (assign (.Tuple elts k tpos) c.env) x (fun σ' => Q .nxt σ')))
    (hs : swapsWithSole [.Tuple elts k tpos] e pos.line c.env = pure false := by rfl) (hw : swappedStores [.Tuple elts k tpos] e c.env = pure none := by rfl) : Ex1 G c σ (.Assign [.Tuple elts k tpos] e pos) Q := by
  intro m ow al s ok S
  refine PyProof.Rows.Assign_Tuple (wpAny_mono (h m ow al s ok S) (fun v s1 hp => ?_) bot_elim) hs hw
  obtain ⟨h1, t1, rfl, k1, x, rx, q1⟩ := hp
  refine wpAny_mono (q1 m ow al _ ok (S.grow k1) v rx) (fun _ s2 h2 => ?_) bot_elim
  obtain ⟨h', tk, m', ow', σ', f, rfl, st, S', r, q⟩ := h2
  exact ⟨h', tk, m', ow', σ', .nxt, rfl, stays_trans (vw_mono k1) st, S', .nxt, q⟩

/-! a call of a def -/
def bodyQ (Q : PV → Prop) : Fl → Sg → Prop := fun f _ => match f with
  | .ret x => Q x
  | .nxt => Q .none
  | _ => False

theorem zip_lookup {H : Heap} : ∀ {ns : List Str} {vs : List Value} {xs : List PV}, RepL G H vs xs → ∀ (x : Str) (pv : PV), (ns.zip xs).lookup x = some pv → ∃ v, (ns.zip vs).lookup x = some v ∧ Rep G H v pv
  | [], _, _, _, x, pv, e => by simp at e
  | n :: ns, _, _, .nil, x, pv, e => by simp at e
  | n :: ns, _, _, .cons r rs, x, pv, e => by
    simp only [List.zip_cons_cons, List.lookup] at e ⊢
    split at e
    · cases e; exact ⟨_, rfl, r⟩
    · exact zip_lookup rs x pv e

theorem mem_lookup {α : Type} {x : Str} {v : α} : ∀ {l : List (Str × α)}, l.lookup x = some v → (x, v) ∈ l
  | [], h => by simp at h
  | (n, w) :: r, h => by
    simp only [List.lookup] at h
    split at h
    · rename_i e
      cases h; rw [beq_iff_eq.mp e]; exact .head _
    · exact .tail _ (mem_lookup h)
theorem zip_names {α : Type} : ∀ (ns : List Str) (vs : List α), ((ns.zip vs).map (·.1)).Sublist ns
  | [], _ => by simp
  | n :: ns, [] => by simp
  | n :: ns, v :: vs => by simpa using zip_names ns vs

theorem lookup_reverse_of_nodup {α : Type} {x : Str} : ∀ {l : List (Str × α)}, (l.map (·.1)).Nodup → l.reverse.lookup x = l.lookup x
  | [], _ => rfl
  | p :: r, h => by
    obtain ⟨n, v⟩ := p
    simp only [List.map_cons, List.nodup_cons] at h
    rw [List.reverse_cons, List.lookup_append, lookup_reverse_of_nodup h.2]
    by_cases hx : x = n
    · subst hx
      have : r.lookup x = none := by
        cases q : r.lookup x with
        | none => rfl
        | some w =>
          have : (x, w) ∈ r := mem_lookup q
          exact absurd (List.mem_map_of_mem this) h.1
      rw [this]; simp [List.lookup]
    · simp only [List.lookup, beq_eq_false_iff_ne.mpr hx]
      cases r.lookup x <;> simp

theorem cl_def {name qual : Str} {params : Arguments} {body : List Stmt} {scope : Scope} {dV kV doc pm cdv ct oc : Value} {an od : Option Addr} {osl : Array (Option Value)} {f : Addr} {xs : List PV} {k : Nat} {ns : List Str} {Q : PV → Prop}
    (ho : G.K.lookup f = some ⟨oc, od, .func (fnOf name qual params body scope dV kV doc pm an cdv ct), osl⟩) (hcd : codeIn G.K cdv qual = true) (hroom : c.Room (k + 1))
    (hbind : ∀ vs s, vs.length = xs.length → BindsTo s (fnOf name qual params body scope dV kV doc pm an cdv ct) ⟨vs, []⟩ (ns.zip vs))
    (hloc : (ns.all fun x => decide (scope.names.lookup x = some .local)) = true) (hnd : ns.Nodup) (hcell : (scope.names.all fun x => x.2 != .cell) = true)
    (h : ∀ A g0 L hid, (Cx.mk A (envOf qual scope L f cdv) g0 L hid).Room k → Ex G (Cx.mk A (envOf qual scope L f cdv) g0 L hid) (ns.zip xs) body (bodyQ Q))
    (hco : scope.isCoroutine = false := by rfl) (hgen : scope.isGenerator = false := by rfl) (hk : scope.kind = .function := by rfl) : Cl G c σ (.ref f) xs Q := by
  intro m ow al s ok S vs r
  have X := S.inK ok
  have hlen := r.length
  refine codeAny_call_def (fd := fnOf name qual params body scope dV kV doc pm an cdv ct) (body := body) (binds := ns.zip vs) (by have := hroom.1; omega) (X _ _ ho) rfl (ok.T.nolimit.keeps S.F.keep) (codeRec_of X hcd) rfl (hbind vs s hlen)
    (fun x hx => by have := List.all_eq_true.mp hcell x hx; simpa using this)
    (fun x hx => by
      have h1 : x.1 ∈ ns := (List.of_mem_zip hx).1
      simpa using List.all_eq_true.mp hloc _ h1) (fun h₁ hns hk₁ => ?_) hco hgen hk
  let c' : Cx := ⟨c.A.deeper (envOf qual scope s.heap.objs.size f cdv), envOf qual scope s.heap.objs.size f cdv, s.heap, s.heap.objs.size, c.hid ++ c.L :: (ow ++ al).map (·.1)⟩
  have hhid : ∀ a ∈ c'.hid, ∃ o, s.heap.get? a = some o := S.hsome ok
  have ok' : c'.Ok G := ⟨ok.hh, X, ok.T.keeps S.F.keep, hk, rfl, rfl, hhid, S.hidden ok⟩
  have F' : Fr c'.g0 c'.L h₁ (fun y => (ns.zip vs).reverse.lookup y) := ⟨hns, hk₁, Nat.le_refl _⟩
  have hview : (Vw c (ow ++ al) s.heap).StaysIn (Vw c' ([] ++ []) h₁) := fun b o e => by
    rw [mem_vw] at e ⊢
    refine ⟨hk₁ _ _ e.1, fun hm => ?_⟩
    rcases List.mem_append.mp hm with q | q
    · exact e.2 q
    · simp only [List.append_nil, List.map_nil, List.mem_singleton] at q
      exact absurd (Heap.lt_size e.1) (by rw [q]; exact Nat.lt_irrefl _)
  have hnd' : ((ns.zip vs).map (·.1)).Nodup := hnd.sublist (zip_names ns vs)
  have S' : St G c' (ns.zip xs) (fun y => (ns.zip vs).reverse.lookup y) [] [] { s with heap := h₁, toks := s.toks + (ns.zip vs).length } := by
    refine ⟨F', PyProof.Rows.News.nil, List.nodup_nil, fun x pv e => ?_, OwnCells.none hcell⟩
    obtain ⟨v, hv, rv⟩ := zip_lookup r x pv e
    refine ⟨v, .loc ?_ rfl ((lookup_reverse_of_nodup hnd').trans hv), .rep (rv.keeps hview)⟩
    have h1 : x ∈ ns := (List.of_mem_zip (mem_lookup hv)).1
    have h2 : scope.names.lookup x = some .local := by simpa using List.all_eq_true.mp hloc _ h1
    exact h2
  have room' : c'.Room k := ⟨by have := hroom.1; show c.A.depth + 1 + k < _; omega, by have := hroom.2; show c.A.units + 3 + 8 * k < _; omega⟩
  refine wpAny_mono (h _ _ _ _ room' _ [] [] _ ok' S') (fun fl s1 hp => ?_) bot_elim
  obtain ⟨h1, t1, m1, ow1, σ1, fq, rfl, k1, S1, r1, q1⟩ := hp
  have kk : s.heap.StaysIn h1 := S1.F.keep
  have vv : (Vw c' (ow1 ++ []) h1).StaysIn (Vw c (ow ++ al) h1) := fun b o e => by
    rw [mem_vw] at e ⊢
    exact ⟨e.1, fun hm => e.2 (List.mem_append_left _ hm)⟩
  cases r1 with
  | nxt => exact ⟨h1, t1, rfl, kk, _, .none, q1⟩
  | brk => exact q1.elim
  | cont => exact q1.elim
  | ret r => exact ⟨h1, t1, rfl, kk, _, r.keeps vv, q1⟩
end
end Mine
end Part2
section Part3
open PySem PySem.W PySem.Calls
set_option maxRecDepth 100000
set_option autoImplicit false
set_option linter.unusedVariables false
namespace Mine
open PyProof.Rows (Fr News Top IsTup Below envOf envOfC)

/-! plain data -/
mutual
def PV.data? : PV → Option PyData
  | .int n => some (.int n)
  | .bool b => some (.bool b)
  | .none => some .none
  | .tup xs => (PV.datas? xs).map .tuple
  | .lst xs => (PV.datas? xs).map .list
  | _ => Option.none
def PV.datas? : List PV → Option (List PyData)
  | [] => some []
  | x :: r => match PV.data? x, PV.datas? r with
    | some d, some ds => some (d :: ds)
    | _, _ => Option.none
end

section
variable {G : Gl} {H : Heap}
mutual
theorem Rep.reads {v : Value} {x : PV} : Rep G H v x → ∀ {d : PyData}, x.data? = some d → ∃ as, Reads H v d as
  | .int n t, d, e => by simp only [PV.data?, Option.some.injEq] at e; subst e; exact ⟨_, .int n t⟩
  | .bool b, d, e => by simp only [PV.data?, Option.some.injEq] at e; subst e; exact ⟨_, .bool b⟩
  | .none, d, e => by simp only [PV.data?, Option.some.injEq] at e; subst e; exact ⟨_, .none⟩
  | .raw _, d, e => by simp [PV.data?] at e
  | .tup ⟨o, h1, h2, n, h3⟩ r, d, e => by
    simp only [PV.data?, Option.map_eq_some_iff] at e
    obtain ⟨ds, e1, rfl⟩ := e
    obtain ⟨as, ra⟩ := RepL.readsAll r e1
    exact ⟨_, .tuple h1 h2 h3 ra⟩
  | .lst ⟨o, h1, h2, n, h3⟩ r, d, e => by
    simp only [PV.data?, Option.map_eq_some_iff] at e
    obtain ⟨ds, e1, rfl⟩ := e
    obtain ⟨as, ra⟩ := RepL.readsAll r e1
    exact ⟨_, .list h1 h2 h3 ra⟩
  | .rng _, d, e => by simp [PV.data?] at e
  | .cell _ _, d, e => by simp [PV.data?] at e
  | .point _ _ _, d, e => by simp [PV.data?] at e
theorem RepL.readsAll {vs : List Value} {xs : List PV} : RepL G H vs xs → ∀ {ds : List PyData}, PV.datas? xs = some ds → ∃ as, ReadsAll H vs ds as
  | .nil, ds, e => by simp only [PV.datas?, Option.some.injEq] at e; subst e; exact ⟨_, .nil⟩
  | .cons (x := x) (xs := xs) h r, ds, e => by
    simp only [PV.datas?] at e
    split at e
    · rename_i d ds' e1 e2
      cases e
      obtain ⟨as, ra⟩ := Rep.reads h e1
      obtain ⟨bs, rb⟩ := RepL.readsAll r e2
      exact ⟨_, .cons ra rb⟩
    · cases e
end
end

section
variable {G : Gl} {c : Cx} {σ : Sg}

theorem reads_keeps {H H' : Heap} (k : H.StaysIn H') {v : Value} {d : PyData} {as : List Addr} (r : Reads H v d as) : Reads H' v d as := PyProof.Rows.Reads.keeps k r

theorem op_eq_data {x y : PV} {dx dy : PyData} {Q : PV → Prop} (hr : c.Room 20) (ex : x.data? = some dx) (ey : y.data? = some dy) (sx : SeqAt.shaped dx = true) (sy : SeqAt.shaped dy = true) (h : Q (.bool (dx.eqv dy))) : Op2 G c σ (compareOp .Eq) x y Q := by
  intro m ow al s ok S v u rv ru
  obtain ⟨as, r1⟩ := rv.reads ex
  obtain ⟨bs, r2⟩ := ru.reads ey
  exact PyProof.Rows.eq_dataH (reads_keeps vw_sub r1) (reads_keeps vw_sub r2) sx sy (by have := hr.2; omega) (post_here (.bool _) h)
theorem op_ne_data {x y : PV} {dx dy : PyData} {Q : PV → Prop} (hr : c.Room 20) (ex : x.data? = some dx) (ey : y.data? = some dy) (sx : SeqAt.shaped dx = true) (sy : SeqAt.shaped dy = true) (h : Q (.bool (!dx.eqv dy))) : Op2 G c σ (compareOp .NotEq) x y Q := by
  intro m ow al s ok S v u rv ru
  obtain ⟨as, r1⟩ := rv.reads ex
  obtain ⟨bs, r2⟩ := ru.reads ey
  exact PyProof.Rows.ne_dataH (reads_keeps vw_sub r1) (reads_keeps vw_sub r2) sx sy (by have := hr.2; omega) (post_here (.bool _) h)

/-! comparison of cells by their own defs -/
structure CmpAt (G : Gl) (C : Addr) (op : CmpOp) (f : Addr) : Prop where
  a : notFirst G.K C (.ref C) = true
  b : findIn G.K (.ref C) (cmpInfo op).2.1 = some (some (.ref f))
  c : isFn G.K (.ref f) = true
def resBool (x : PV) : Prop := ∃ b, x = .bool b
theorem rich_cell {op : CmpOp} {a b : Int} {f : Addr} {Q : PV → Prop} (hr : c.Room 1) (A : CmpAt G G.C op f) (h : Cl G c σ (.ref f) [.cell a, .cell b] (fun x => resBool x ∧ Q x)) : Op2 G c σ (fun v u => richCompare op v u) (.cell a) (.cell b) Q := by
  intro m ow al s ok S v u rv ru
  cases rv with
  | cell h1 h2 =>
    cases ru with
    | cell h3 h4 =>
      refine cmp_K (by have := hr.2; omega) S.F ok.K (inst_cell (vw_sub _ _ h1) (vw_sub _ _ h2)) ((inst_cell (vw_sub _ _ h3) (vw_sub _ _ h4)).type) A.a A.b A.c ?_
      refine wpAny_mono (wp_of_code (h m ow al s ok S _ (.cons (.cell h1 h2) (.cons (.cell h3 h4) .nil)))) (fun w s1 hp => ?_) bot_elim
      obtain ⟨h1, t1, rfl, k1, x, rx, ⟨b, rfl⟩, q1⟩ := hp
      cases rx
      exact ⟨h1, t1, rfl, k1, _, .bool b, q1⟩
theorem op_eq_cell {a b : Int} {f : Addr} {Q : PV → Prop} (hr : c.Room 1) (A : CmpAt G G.C .Eq f) (h : Cl G c σ (.ref f) [.cell a, .cell b] (fun x => resBool x ∧ Q x)) : Op2 G c σ (compareOp .Eq) (.cell a) (.cell b) Q := rich_cell hr A h
theorem op_ne_cell {a b : Int} {f : Addr} {Q : PV → Prop} (hr : c.Room 1) (A : CmpAt G G.C .NotEq f) (h : Cl G c σ (.ref f) [.cell a, .cell b] (fun x => resBool x ∧ Q x)) : Op2 G c σ (compareOp .NotEq) (.cell a) (.cell b) Q := rich_cell hr A h
theorem op_lt_cell {a b : Int} {f : Addr} {Q : PV → Prop} (hr : c.Room 1) (A : CmpAt G G.C .Lt f) (h : Cl G c σ (.ref f) [.cell a, .cell b] (fun x => resBool x ∧ Q x)) : Op2 G c σ (compareOp .Lt) (.cell a) (.cell b) Q := rich_cell hr A h

/-! built-ins -/
theorem b_len_lst {xs : List PV} {Q : PV → Prop} (hl : xs.length < 2 ^ 60) (h : Q (.int xs.length)) : OpL G c σ (fun vs => call (.builtin "len") vs) [.lst xs] Q := by
  intro m ow al s ok S vs r
  cases r with
  | cons r0 r1 =>
    cases r1
    cases r0 with
    | lst hl' r =>
      have e := r.length
      refine PyProof.Rows.len_list (isList_keeps vw_sub hl') (by rw [List.size_toArray]; omega) ?_
      rw [List.size_toArray, e]
      exact post_tok (.int _ _) h
theorem b_len_tup {xs : List PV} {Q : PV → Prop} (hl : xs.length < 2 ^ 60) (h : Q (.int xs.length)) : OpL G c σ (fun vs => call (.builtin "len") vs) [.tup xs] Q := by
  intro m ow al s ok S vs r
  cases r with
  | cons r0 r1 =>
    cases r1
    cases r0 with
    | tup hl' r =>
      have e := r.length
      refine PyProof.Rows.len_tuple (isTup_keeps vw_sub hl') (by rw [List.size_toArray]; omega) ?_
      rw [List.size_toArray, e]
      exact post_tok (.int _ _) h
theorem b_max {a b : Int} {Q : PV → Prop} (h : Q (.int (max a b))) : OpL G c σ (fun vs => call (.builtin "max") vs) [.int a, .int b] Q := by
  intro m ow al s ok S vs r
  cases r with
  | cons r0 r1 =>
    cases r1 with
    | cons r1 r2 =>
      cases r2; cases r0; cases r1
      refine max_two_ints ok.hh fun h' tk k => ?_
      by_cases q : b > a
      · have e : max a b = b := by omega
        rw [e] at h
        simp only [q, if_true]
        exact ⟨h', tk, rfl, k, _, .int _ _, h⟩
      · have e : max a b = a := by omega
        rw [e] at h
        simp only [q, if_false]
        exact ⟨h', tk, rfl, k, _, .int _ _, h⟩
theorem b_min {a b : Int} {Q : PV → Prop} (h : Q (.int (min a b))) : OpL G c σ (fun vs => call (.builtin "min") vs) [.int a, .int b] Q := by
  intro m ow al s ok S vs r
  cases r with
  | cons r0 r1 =>
    cases r1 with
    | cons r1 r2 =>
      cases r2; cases r0; cases r1
      refine min_two_ints ok.hh fun h' tk k => ?_
      by_cases q : b < a
      · have e : min a b = b := by omega
        rw [e] at h
        simp only [q, if_true]
        exact ⟨h', tk, rfl, k, _, .int _ _, h⟩
      · have e : min a b = a := by omega
        rw [e] at h
        simp only [q, if_false]
        exact ⟨h', tk, rfl, k, _, .int _ _, h⟩
theorem b_abs {a : Int} {Q : PV → Prop} (h : Q (.int a.natAbs)) : OpL G c σ (fun vs => call (.builtin "abs") vs) [.int a] Q := by
  intro m ow al s ok S vs r
  cases r with
  | cons r0 r1 =>
    cases r1; cases r0
    refine PyProof.Rows.call_abs_int fun u tk => ?_
    have : (if a < 0 then -a else a) = (a.natAbs : Int) := by split <;> omega
    rw [this]
    exact post_tok (.int _ _) h
theorem b_range1 {n : Int} {Q : PV → Prop} (h : Q (.rng 0 n 1)) : OpL G c σ (fun vs => call (.type "range") vs) [.int n] Q := by
  intro m ow al s ok S vs r
  cases r with
  | cons r0 r1 =>
    cases r1; cases r0
    exact call_range_1 ⟨_, _, rfl, stays_push _ _, _, .rng (t := s.toks) (v := s.toks + 1) (S.vis ok (Nat.le_refl _) (Heap.get?_push_size _ rfl)), h⟩
theorem b_range2 {a n : Int} {Q : PV → Prop} (h : Q (.rng a n 1)) : OpL G c σ (fun vs => call (.type "range") vs) [.int a, .int n] Q := by
  intro m ow al s ok S vs r
  cases r with
  | cons r0 r1 =>
    cases r1 with
    | cons r1 r2 =>
      cases r2; cases r0; cases r1
      exact call_range_2 ⟨_, _, rfl, stays_push _ _, _, .rng (S.vis ok (Nat.le_refl _) (Heap.get?_push_size _ rfl)), h⟩
theorem b_range3 {a n st : Int} {Q : PV → Prop} (hs : st ≠ 0) (hl : st.natAbs.log2 < 9000) (h : Q (.rng a n st)) : OpL G c σ (fun vs => call (.type "range") vs) [.int a, .int n, .int st] Q := by
  intro m ow al s ok S vs r
  cases r with
  | cons r0 r1 =>
    cases r1 with
    | cons r1 r2 =>
      cases r2 with
      | cons r2 r3 =>
        cases r3; cases r0; cases r1; cases r2
        exact call_range_3 hs ⟨_, _, rfl, stays_push _ _, _, .rng (S.vis ok (Nat.le_refl _) (Heap.get?_push_size _ rfl)), h⟩ (.inl (PyProof.noPylong_of_log2 hl))
theorem b_isi_int_int {n : Int} {Q : PV → Prop} (h : Q (.bool true)) : OpL G c σ (fun vs => call (.builtin "isinstance") vs) [.int n, .raw (.type "int")] Q := by
  intro m ow al s ok S vs r
  cases r with
  | cons r0 r1 =>
    cases r1 with
    | cons r1 r2 =>
      cases r2; cases r0; cases r1
      exact IsiPair.int_int (post_here (.bool _) h)
theorem b_isi_int_bool {n : Int} {Q : PV → Prop} (h : Q (.bool false)) : OpL G c σ (fun vs => call (.builtin "isinstance") vs) [.int n, .raw (.type "bool")] Q := by
  intro m ow al s ok S vs r
  cases r with
  | cons r0 r1 =>
    cases r1 with
    | cons r1 r2 =>
      cases r2; cases r0; cases r1
      exact IsiPair.int_bool (post_tok (.bool _) h)
theorem b_isi_cell {n : Int} {Q : PV → Prop} (hi : isIn G.K (.ref G.C) G.C = true) (h : Q (.bool true)) : OpL G c σ (fun vs => call (.builtin "isinstance") vs) [.cell n, .raw (.ref G.C)] Q := by
  intro m ow al s ok S vs r
  cases r with
  | cons r0 r1 =>
    cases r1 with
    | cons r1 r2 =>
      cases r2; cases r1
      cases r0 with
      | cell h1 h2 =>
        exact isi_call (S.inK ok) (fun M => (inst_cell (vw_sub _ _ h1) (vw_sub _ _ h2)).type) hi (by intro e; cases e) (post_here (.bool _) h)

/-! inplace -/
theorem iop_add {a b : Int} {Q : PV → Prop} (h : Q (.int (a + b))) : Op2 G c σ (inplaceOp .Add) (.int a) (.int b) Q := by
  intro m ow al s ok S v u rv ru
  cases rv; cases ru
  exact PyProof.Rows.iadd_int (post_tok (.int _ _) h)
theorem iop_sub {a b : Int} {Q : PV → Prop} (h : Q (.int (a - b))) : Op2 G c σ (inplaceOp .Sub) (.int a) (.int b) Q := by
  intro m ow al s ok S v u rv ru
  cases rv; cases ru
  exact PyProof.Rows.isub_int (post_tok (.int _ _) h)
theorem iop_and {a b : Int} {Q : PV → Prop} (h : Q (.int (Builtin.bitAnd a b))) : Op2 G c σ (inplaceOp .BitAnd) (.int a) (.int b) Q := by
  intro m ow al s ok S v u rv ru
  cases rv; cases ru
  exact PyProof.Rows.iand_int (post_tok (.int _ _) h)
theorem iop_or {a b : Int} {Q : PV → Prop} (h : Q (.int (Builtin.bitOr a b))) : Op2 G c σ (inplaceOp .BitOr) (.int a) (.int b) Q := by
  intro m ow al s ok S v u rv ru
  cases rv; cases ru
  exact PyProof.Rows.ior_int (post_tok (.int _ _) h)
theorem iop_xor {a b : Int} {Q : PV → Prop} (h : Q (.int (Builtin.bitXor a b))) : Op2 G c σ (inplaceOp .BitXor) (.int a) (.int b) Q := by
  intro m ow al s ok S v u rv ru
  cases rv; cases ru
  exact PyProof.Rows.ixor_int (post_tok (.int _ _) h)
theorem iop_mod {a b : Int} {Q : PV → Prop} (hb : b ≠ 0) (h : Q (.int (a.fmod b))) : Op2 G c σ (inplaceOp .Mod) (.int a) (.int b) Q := by
  intro m ow al s ok S v u rv ru
  cases rv; cases ru
  exact PyProof.Rows.imod_int hb (post_tok (.int _ _) h)

/-! a call with *args -/
theorem wp_alloc_pure {α : Type} {A : Around} {E : Value → Shared → Prop} {Q : α → Shared → Prop} {s : Shared} {o : Obj} {r : Addr → α} (q : Q (r s.heap.objs.size) { s with heap := s.heap.push o }) :
    ∀ (t : Sem α) (g : Addr → Option α), peek1 [] ⟨G.prog, G.w.params⟩ t = some (o, g) → (∀ D, g D = some (r D)) → wpAny G.M A t Q E s := by
  intro t
  induction t with
  | rule _ k ih => intro g e hg Γ p hΓ; exact ih () g e hg Γ p hΓ
  | point _ k ih => intro g e hg Γ p hΓ; exact ih () g e hg Γ p hΓ
  | ask k ih => intro g e hg Γ p hΓ; exact ih _ g e hg Γ p hΓ
  | load a _ k ih =>
    intro g e hg Γ p hΓ
    simp only [peek1] at e
    split at e
    · rename_i h; cases h
    · cases e
  | alloc ob k _ =>
    intro g e hg
    have e : some (ob, fun D => peek [] ⟨G.prog, G.w.params⟩ (k D)) = some (o, g) := e
    obtain ⟨e1, e2⟩ := Prod.mk.inj (Option.some.inj e)
    subst e1
    subst e2
    show wpAny G.M A (alloc ob >>= k) Q E s
    refine wpAny_bind (wpAny_alloc ?_)
    exact (Looks.of_peek (M := G.M) (K := []) (h := s.heap.push ob) (fun a o e => by cases e) (hg s.heap.objs.size)).here (s := { s with heap := s.heap.push ob }) q
  | _ => intro g e; cases e

/-- the frame that a def's body is run in -/
theorem frame_of {qual : Str} {scope : Scope} {cdv : Value} {f : Addr} {m : Str → Option Value} {ow al : Led} {s : Shared} {h₁ : Heap} {tk k : Nat} {binds : List (Str × Value)} {σ' : Sg} (ok : c.Ok G) (S : St G c σ m ow al s) (hroom : c.Room (k + 1))
    (hk : scope.kind = .function) (hns : h₁.Ns s.heap.objs.size (fun y => binds.reverse.lookup y)) (hk₁ : ∀ b o, s.heap.get? b = some o → h₁.get? b = some o)
    (hloc : ∀ x ∈ binds, scope.names.lookup x.1 = some .local) (hcell : (scope.names.all fun x => x.2 != .cell) = true) (hb : ∀ x pv, σ'.lookup x = some pv → ∃ v, binds.reverse.lookup x = some v ∧ Rep G (Vw c (ow ++ al) s.heap) v pv) :
    ∃ hid, (Cx.mk (c.A.deeper (envOf qual scope s.heap.objs.size f cdv)) (envOf qual scope s.heap.objs.size f cdv) s.heap s.heap.objs.size hid).Room k ∧
      (Cx.mk (c.A.deeper (envOf qual scope s.heap.objs.size f cdv)) (envOf qual scope s.heap.objs.size f cdv) s.heap s.heap.objs.size hid).Ok G ∧
      St G (Cx.mk (c.A.deeper (envOf qual scope s.heap.objs.size f cdv)) (envOf qual scope s.heap.objs.size f cdv) s.heap s.heap.objs.size hid) σ' (fun y => binds.reverse.lookup y) [] [] { s with heap := h₁, toks := tk } ∧
      ∀ mu' h', (Vw (Cx.mk (c.A.deeper (envOf qual scope s.heap.objs.size f cdv)) (envOf qual scope s.heap.objs.size f cdv) s.heap s.heap.objs.size hid) mu' h').StaysIn (Vw c (ow ++ al) h') := by
  have X := S.inK ok
  refine ⟨c.hid ++ c.L :: (ow ++ al).map (·.1), ⟨by have := hroom.1; show c.A.depth + 1 + k < _; omega, by have := hroom.2; show c.A.units + 3 + 8 * k < _; omega⟩, ?_, ?_, ?_⟩
  · exact ⟨ok.hh, X, ok.T.keeps S.F.keep, hk, rfl, rfl, S.hsome ok, S.hidden ok⟩
  · refine ⟨⟨hns, hk₁, Nat.le_refl _⟩, PyProof.Rows.News.nil, List.nodup_nil, fun x pv e => ?_, OwnCells.none hcell⟩
    obtain ⟨v, hv, rv⟩ := hb x pv e
    have hm : (x, v) ∈ binds := by simpa using mem_lookup hv
    refine ⟨v, .loc (hloc _ hm) rfl hv, .rep (rv.keeps fun b o e => ?_)⟩
    rw [mem_vw] at e ⊢
    refine ⟨hk₁ _ _ e.1, fun hm => ?_⟩
    rcases List.mem_append.mp hm with q | q
    · exact e.2 q
    · simp only [List.append_nil, List.map_nil, List.mem_singleton] at q
      exact absurd (Heap.lt_size e.1) (by rw [q]; exact Nat.lt_irrefl _)
  · intro mu' h' b o e
    rw [mem_vw] at e ⊢
    exact ⟨e.1, fun hm => e.2 (List.mem_append_left _ hm)⟩

theorem body_end {c' : Cx} {Q : PV → Prop} {mu : Led} {s : Shared} {al : Led} {mu1 : Led} {h₁ : Heap} {tk : Nat} {fl : Flow} {s1 : Shared} (hg : c'.g0 = s.heap)
    (hv : ∀ mu' h', (Vw c' mu' h').StaysIn (Vw c mu h')) (h : ExPost G c' al mu1 { s with heap := h₁, toks := tk } (bodyQ Q) fl s1) : Post G c mu s Q (match (motive := Flow → Value) fl with | .ret v => v | _ => .none) s1 := by
  obtain ⟨h1, t1, m1, ow1, σ1, fq, rfl, k1, S1, r1, q1⟩ := h
  have kk : s.heap.StaysIn h1 := hg ▸ S1.F.keep
  cases r1 with
  | nxt => exact ⟨h1, t1, rfl, kk, _, .none, q1⟩
  | brk => exact q1.elim
  | cont => exact q1.elim
  | ret r => exact ⟨h1, t1, rfl, kk, _, r.keeps (hv _ _), q1⟩

/-- def f(self, *args) called with one more argument, or with none -/
theorem cl_rest {name qual : Str} {params : Arguments} {body : List Stmt} {scope : Scope} {dV kV doc pm cdv ct oc : Value} {an od : Option Addr} {osl : Array (Option Value)} {f : Addr} {x0 : PV} {xs : List PV} {k : Nat} {n0 n1 : Str} {Q : PV → Prop}
    (ho : G.K.lookup f = some ⟨oc, od, .func (fnOf name qual params body scope dV kV doc pm an cdv ct), osl⟩) (hcd : codeIn G.K cdv qual = true) (hroom : c.Room (k + 1)) (hx : xs.length ≤ 1000)
    (hbind : ∀ v0 vs, vs.length = xs.length → ∃ g, peek1 [] ⟨G.prog, G.w.params⟩ (bindArgs (fnOf name qual params body scope dV kV doc pm an cdv ct) ⟨v0 :: vs, []⟩) = some (({ cls := .type "tuple", data := .seq vs.toArray } : Obj), g) ∧ ∀ D, g D = some [(n0, v0), (n1, .ref D)])
    (hloc : scope.names.lookup n0 = some .local ∧ scope.names.lookup n1 = some .local) (hne : (n1 == n0) = false) (hcell : (scope.names.all fun x => x.2 != .cell) = true)
    (h : ∀ A g0 L hid, (Cx.mk A (envOf qual scope L f cdv) g0 L hid).Room k → Ex G (Cx.mk A (envOf qual scope L f cdv) g0 L hid) [(n0, x0), (n1, .tup xs)] body (bodyQ Q))
    (hco : scope.isCoroutine = false := by rfl) (hgen : scope.isGenerator = false := by rfl) (hk : scope.kind = .function := by rfl) : Cl G c σ (.ref f) (x0 :: xs) Q := by
  intro m ow al s ok S vs r
  cases r with
  | cons r0 r =>
    rename_i v0 vs
    have X := S.inK ok
    have hlen := r.length
    obtain ⟨g, hp, hg⟩ := hbind v0 vs hlen
    refine codeAny_call_function (fd := fnOf name qual params body scope dV kV doc pm an cdv ct) (body := body) (by have := hroom.1; omega) (X _ _ ho) rfl hco hgen rfl (codeRec_of X hcd) ?_
    refine wp_alloc_pure (r := fun D => [(n0, v0), (n1, .ref D)]) ?_ _ g hp hg
    have k0 : s.heap.StaysIn (s.heap.push { cls := .type "tuple", data := .seq vs.toArray }) := stays_push _ _
    have S0 := S.grow (tk := s.toks) k0
    have hl : ∀ x ∈ ([(n0, v0), (n1, .ref s.heap.objs.size)] : List (Str × Value)), scope.names.lookup x.1 = some .local := fun x hx => by
      rcases List.mem_cons.mp hx with rfl | hx
      · exact hloc.1
      · rcases List.mem_cons.mp hx with rfl | hx
        · exact hloc.2
        · cases hx
    refine wpAny_newFunctionEnv (fun x hx => by have := List.all_eq_true.mp hcell x hx; simpa using this) hl (fun h₁ hns hsb => ⟨((ok.T.nolimit.keeps S.F.keep).keeps k0).fresh _ hsb, codeAny_func ?_⟩) hk
    have hk₁ : ∀ b o, (s.heap.push { cls := .type "tuple", data := .seq vs.toArray }).get? b = some o → h₁.get? b = some o := fun b o e => hsb.extBut b o (Nat.ne_of_lt (Heap.lt_size e)) (Heap.get?_push_of_some _ e)
    obtain ⟨hid, room', ok', S', hv⟩ := frame_of (qual := qual) (cdv := cdv) (f := f) (k := k) (tk := s.toks + 2) (σ' := [(n0, x0), (n1, .tup xs)]) ok S0 hroom hk hns hk₁ hl hcell (fun x pv e => by
      have hn : ∀ y z : Str, (y == z) = true → y = z := fun _ _ => beq_iff_eq.mp
      simp only [List.lookup] at e
      split at e
      · rename_i hx
        obtain rfl := hn _ _ hx
        cases e
        refine ⟨v0, ?_, r0.keeps (vw_mono k0)⟩
        have : (x == n1) = false := by cases q : x == n1 with
          | false => rfl
          | true => rw [hn _ _ q] at hne; simp at hne
        simp [List.lookup, this]
      · rename_i hx
        split at e
        · rename_i hx2
          obtain rfl := hn _ _ hx2
          cases e
          exact ⟨.ref s.heap.objs.size, by simp [List.lookup], .tup ⟨_, S.vis ok (Nat.le_refl _) (Heap.get?_push_size _ rfl), rfl, _, rfl⟩ (r.keeps (vw_mono k0))⟩
        · cases e)
    refine wpAny_mono (h _ _ _ _ room' _ [] [] _ ok' S') (fun fl s1 hp => ?_) bot_elim
    have := body_end (s := { s with heap := s.heap.push { cls := .type "tuple", data := .seq vs.toArray } }) rfl hv hp
    exact Post.mono (t1 := s.toks) k0 this fun _ q => q

/-- all that is in h and not in g, but for some -/
def allNew (g h : Heap) (ex : List Addr) : Led := (List.range h.objs.size).filterMap fun a => match h.get? a with
  | some o => if g.get? a = none ∧ a ∉ ex then some (a, o) else none
  | none => none
theorem mem_allNew {g h : Heap} {ex : List Addr} {a : Addr} {o : Obj} : (a, o) ∈ allNew g h ex ↔ h.get? a = some o ∧ g.get? a = none ∧ a ∉ ex := by
  unfold allNew
  rw [List.mem_filterMap]
  constructor
  · rintro ⟨b, _, e⟩
    split at e
    · rename_i o' ho
      split at e
      · rename_i q
        cases e; exact ⟨ho, q⟩
      · cases e
    · cases e
  · rintro ⟨h1, h2⟩
    refine ⟨a, List.mem_range.mpr (Heap.lt_size h1), ?_⟩
    simp only [h1]
    rw [if_pos h2]

/-- an instance is made: its __init__ is one store -/
structure NewAt (G : Gl) (C fI : Addr) (attr : Str) : Prop where
  a : keepIn G.K (.ref C) = true
  b : makesIn G.K C = true
  c : findIn G.K (.ref C) "__init__" = some (some (.ref fI))
  d : typeIn G.K (.ref fI) = some (.type "function")
  e : findIn G.K (.ref C) "__setattr__" = some (some (.builtin "object.__setattr__"))
  f : plainOver G.K C = true
  g : takerIn G.K C attr = some none
  h : hasDictIn G.K C = true
theorem cl_new0 {C fI : Addr} {attr : Str} {name qual : Str} {params : Arguments} {e : Expr} {sp ap pos : Pos} {scope : Scope} {dV kV doc pm cdv ct oc : Value} {an od : Option Addr} {osl : Array (Option Value)} {xs : List PV} {k : Nat} {n0 : Str} {ns : List Str} {R Q : PV → Prop}
    (A : NewAt G C fI attr)
    (ho : G.K.lookup fI = some ⟨oc, od, .func (fnOf name qual params [.Assign [.Attribute (.Name n0 sp) attr ap] e pos] scope dV kV doc pm an cdv ct), osl⟩) (hcd : codeIn G.K cdv qual = true) (hroom : c.Room (k + 2))
    (hbind : ∀ v0 vs s, G.K.In s.heap → vs.length = xs.length → BindsTo s (fnOf name qual params [.Assign [.Attribute (.Name n0 sp) attr ap] e pos] scope dV kV doc pm an cdv ct) ⟨v0 :: vs, []⟩ ((n0 :: ns).zip (v0 :: vs)))
    (hloc : ((n0 :: ns).all fun x => decide (scope.names.lookup x = some .local)) = true) (hnd : (n0 :: ns).Nodup) (hcell : (scope.names.all fun x => x.2 != .cell) = true) (hdbg : (n0 == ("__debug__" : Str)) = false)
    (h : ∀ A g0 L hid x, (Cx.mk A (envOf qual scope L fI cdv) g0 L hid).Room k → Ev G (Cx.mk A (envOf qual scope L fI cdv) g0 L hid) ((n0 :: ns).zip (.raw (.ref x) :: xs)) e R)
    (hmk : ∀ pv, R pv → ∀ H a d v hs sz tk, H.get? a = some (instObj C d) → H.get? d = some (dictOf [⟨hs, .str attr tk, v⟩] sz) → Rep G H v pv → ∃ r, Rep G H (.ref a) r ∧ Q r)
    (hsw : ∀ L, swapsWith e (some (.Attribute (.Name n0 sp) attr ap)) pos.line (envOf qual scope L fI cdv) = pure false)
    (hco : scope.isCoroutine = false := by rfl) (hgen : scope.isGenerator = false := by rfl) (hk : scope.kind = .function := by rfl) : Cl G c σ (.ref C) xs Q := by
  intro m ow al s ok S vs r
  have X := S.inK ok
  have hlen := r.length
  obtain ⟨hh, gn, dr, tk0, os⟩ := s
  refine make_core (makes_of X A.b) (looks_findIn X A.c) (fun self => bind_fn X self A.d) (.inl rfl) ?_
  have k0 : hh.StaysIn ((hh.push emptyDict).push (instObj C hh.objs.size)) := stays_trans (stays_push _ _) (stays_push _ _)
  have S0 := S.grow (tk := tk0) k0
  dsimp only at S0 X
  have X0 := X.keeps k0
  have hsz : ((hh.push emptyDict).push (instObj C hh.objs.size)).objs.size = hh.objs.size + 2 := by simp
  have hx : ((hh.push emptyDict).push (instObj C hh.objs.size)).get? (hh.objs.size + 1) = some (instObj C hh.objs.size) := by
    have := Heap.get?_push_size (hh.push emptyDict) (o := instObj C hh.objs.size) rfl
    simpa using this
  have hd : ((hh.push emptyDict).push (instObj C hh.objs.size)).get? hh.objs.size = some emptyDict := Heap.get?_push_of_some _ (Heap.get?_push_size _ rfl)
  let A' : Around := c.A.under (.builtin "type.__call__" ⟨.ref C :: vs, []⟩)
  have room1 : A'.depth = c.A.depth + 1 := rfl
  have room2 : A'.units = c.A.units + 1 := rfl
  refine codeAny_call_def (fd := fnOf name qual params [.Assign [.Attribute (.Name n0 sp) attr ap] e pos] scope dV kV doc pm an cdv ct) (body := [.Assign [.Attribute (.Name n0 sp) attr ap] e pos]) (binds := (n0 :: ns).zip (.ref (hh.objs.size + 1) :: vs))
    (by show A'.depth < _; have := hroom.1; omega) (X0 _ _ ho) rfl ((ok.T.nolimit.keeps S.F.keep).keeps k0) (codeRec_of X0 hcd) rfl (hbind _ _ _ X0 hlen)
    (fun x hx => by have := List.all_eq_true.mp hcell x hx; simpa using this)
    (fun x hx => by
      have h1 : x.1 ∈ n0 :: ns := (List.of_mem_zip hx).1
      simpa using List.all_eq_true.mp hloc _ h1) (fun h₁ hns hk₁ => ?_) hco hgen hk
  show wpAny G.M (A'.deeper (envOf qual scope ((hh.push emptyDict).push (instObj C hh.objs.size)).objs.size fI cdv)) (execs [.Assign [.Attribute (.Name n0 sp) attr ap] e pos] (envOf qual scope ((hh.push emptyDict).push (instObj C hh.objs.size)).objs.size fI cdv)) _ _ _
  have hloc' : ∀ x ∈ (n0 :: ns).zip (.ref (hh.objs.size + 1) :: vs), scope.names.lookup x.1 = some .local := fun x hx => by
    have h1 : x.1 ∈ n0 :: ns := (List.of_mem_zip hx).1
    simpa using List.all_eq_true.mp hloc _ h1
  have hnd' : (((n0 :: ns).zip ((Value.ref (hh.objs.size + 1)) :: vs)).map (·.1)).Nodup := hnd.sublist (zip_names _ _)
  have ok1 : ({ c with A := A' } : Cx).Ok G := ⟨ok.hh, ok.K, ok.T, ok.ek, ok.eg, ok.eb, ok.hsome, ok.hK⟩
  have nn : ∀ a, hh.objs.size ≤ a → hh.get? a = none := fun a ha => by
    cases q : hh.get? a with
    | none => rfl
    | some o => exact absurd (Nat.lt_of_lt_of_le (Heap.lt_size q) ha) (Nat.lt_irrefl _)
  have S1 : St G { c with A := A' } [] m ow ((hh.objs.size, emptyDict) :: al) ⟨(hh.push emptyDict).push (instObj C hh.objs.size), gn, dr, tk0, os⟩ := by
    refine ⟨S0.F, fun p hp => ?_, ?_, fun x pv e => (by cases e), S0.cells⟩
    · rcases List.mem_append.mp hp with q | q
      · exact S0.N p (List.mem_append_left _ q)
      · rcases List.mem_cons.mp q with rfl | q
        · refine ⟨hd, Nat.ne_of_gt S.F.ns.lt, ?_⟩
          cases q : c.g0.get? hh.objs.size with
          | none => rfl
          | some o =>
            have := S.F.keep _ _ q
            rw [nn _ (Nat.le_refl _)] at this; cases this
        · exact S0.N p (List.mem_append_right _ q)
    · rw [List.map_append, List.map_cons]
      have h0 := S.nd
      rw [List.map_append] at h0
      rw [List.nodup_append] at h0 ⊢
      obtain ⟨n1, n2, n3⟩ := h0
      have fresh : ∀ p ∈ ow ++ al, p.1 ≠ hh.objs.size := fun p hp => Nat.ne_of_lt (Heap.lt_size (S.N p hp).1)
      refine ⟨n1, ?_, ?_⟩
      · rw [List.nodup_cons]
        refine ⟨fun hm => ?_, n2⟩
        obtain ⟨p, hp, e⟩ := List.mem_map.mp hm
        exact fresh p (List.mem_append_right _ hp) e
      · intro a ha b hb
        rcases List.mem_cons.mp hb with rfl | hb
        · obtain ⟨p, hp, rfl⟩ := List.mem_map.mp ha
          exact fresh p (List.mem_append_left _ hp)
        · exact n3 a ha b hb
  obtain ⟨hid, room', ok', S', hv⟩ := frame_of (c := { c with A := A' }) (qual := qual) (cdv := cdv) (f := fI) (k := k) (tk := tk0 + ((n0 :: ns).zip (Value.ref (hh.objs.size + 1) :: vs)).length) (σ' := (n0 :: ns).zip (.raw (.ref (hh.objs.size + 1)) :: xs)) ok1 S1
    ⟨by show A'.depth + _ < _; have := hroom.1; omega, by show A'.units + _ < _; have := hroom.2; omega⟩ hk hns hk₁ hloc' hcell (fun x pv e => by
      have rr : RepL G (Vw { c with A := A' } (ow ++ (hh.objs.size, emptyDict) :: al) ((hh.push emptyDict).push (instObj C hh.objs.size))) (.ref (hh.objs.size + 1) :: vs) (.raw (.ref (hh.objs.size + 1)) :: xs) := .cons (.raw _) (r.keeps fun b o e => by
        rw [mem_vw] at e ⊢
        refine ⟨k0 _ _ e.1, fun hm => ?_⟩
        rcases List.mem_append.mp hm with q | q
        · exact e.2 (List.mem_append_left _ q)
        · rcases List.mem_cons.mp q with q | q
          · exact e.2 (List.mem_append_right _ (q ▸ .head _))
          · rw [List.map_append, List.map_cons] at q
            rcases List.mem_append.mp q with q | q
            · exact e.2 (List.mem_append_right _ (.tail _ (by rw [List.map_append]; exact List.mem_append_left _ q)))
            · rcases List.mem_cons.mp q with q | q
              · exact absurd (Heap.lt_size e.1) (by rw [q]; exact Nat.lt_irrefl _)
              · exact e.2 (List.mem_append_right _ (.tail _ (by rw [List.map_append]; exact List.mem_append_right _ q))))
      obtain ⟨v, hv, rv⟩ := zip_lookup rr x pv e
      exact ⟨v, (lookup_reverse_of_nodup hnd').trans hv, rv⟩)
  refine wpAny_execs_cons (plainObj_wpAny_Assign_Attribute ?_ (hsw _))
  refine wpAny_mono (h _ _ _ _ _ room' _ [] [] _ ok' S') (fun v s1 hp => ?_) bot_elim
  obtain ⟨h2, t2, rfl, k2, pv, rpv, q2⟩ := hp
  have S2 := S'.grow (tk := t2) k2
  have hself : ((n0 :: ns).zip ((PV.raw (.ref (hh.objs.size + 1))) :: xs)).lookup n0 = some (.raw (.ref (hh.objs.size + 1))) := by simp [List.lookup]
  have hn0 : scope.names.lookup n0 = some .local := by simpa using List.all_eq_true.mp hloc n0 (by simp)
  refine wpAny_Name (wpAny_loadName_local (v := .ref (hh.objs.size + 1)) hk hn0 S2.F.ns (by
    rw [lookup_reverse_of_nodup hnd']; simp [List.lookup]) ?_) hdbg
  have k02 : hh.StaysIn h2 := stays_trans k0 (stays_trans hk₁ k2)
  have F2 : Fr hh ((hh.push emptyDict).push (instObj C hh.objs.size)).objs.size h2 _ := ⟨S2.F.ns, k02, by rw [hsz]; exact Nat.le_add_right _ _⟩
  have hx2 := k2 _ _ (hk₁ _ _ hx)
  have hd2 := k2 _ _ (hk₁ _ _ hd)
  let L' : Addr := ((hh.push emptyDict).push (instObj C hh.objs.size)).objs.size
  have hL' : L' = hh.objs.size + 2 := hsz
  let rest := allNew hh h2 [L', hh.objs.size, hh.objs.size + 1]
  have N2 : News hh L' h2 ((hh.objs.size + 1, instObj C hh.objs.size) :: (hh.objs.size, dictOf [] 0) :: rest) := fun p hp => by
    rcases List.mem_cons.mp hp with rfl | hp
    · exact ⟨hx2, by rw [hL']; exact Nat.ne_of_lt (Nat.lt_succ_self _), nn _ (Nat.le_succ _)⟩
    · rcases List.mem_cons.mp hp with rfl | hp
      · exact ⟨hd2, by rw [hL']; exact Nat.ne_of_lt (Nat.lt_add_of_pos_right (by decide)), nn _ (Nat.le_refl _)⟩
      · obtain ⟨a, o⟩ := p
        obtain ⟨q1, q2, q3⟩ := mem_allNew.mp hp
        exact ⟨q1, fun e => q3 (by rw [show a = L' from e]; simp), q2⟩
  refine set_dict (K := G.K) (C := C) (dx := hh.objs.size) (es := []) (n := 0) (es' := [⟨PyData.keyHash G.w.params attr, .str attr (t2 + 1), v⟩]) (n' := 1) (news' := (hh.objs.size + 1, instObj C hh.objs.size) :: (hh.objs.size, dictOf [⟨PyData.keyHash G.w.params attr, .str attr (t2 + 1), v⟩] 1) :: rest) F2 X N2
    ⟨hx2, rfl, rfl, hd2⟩ rfl A.e A.f A.g A.h rfl rfl (.tail (Nat.succ_ne_self _) (.head fun p hp => by
      obtain ⟨a, o⟩ := p
      obtain ⟨q1, q2, q3⟩ := mem_allNew.mp hp
      exact fun e => q3 (by rw [show a = hh.objs.size from e]; simp))) (by simp) (fun h' F3 N3 => ?_)
  refine wpAny_execs_nil ⟨rfl, ?_⟩
  -- the end: what was before stays; the value is seen
  have k3 : hh.StaysIn h' := F3.keep
  have e1 := (N3 (hh.objs.size + 1, instObj C hh.objs.size) (.head _)).1
  have e2 := (N3 (hh.objs.size, _) (.tail _ (.head _))).1
  have v1 := S.vis ok (h' := h') (Nat.le_succ _) e1
  have v2 := S.vis ok (h' := h') (Nat.le_refl _) e2
  have kv : (Vw (Cx.mk (A'.deeper (envOf qual scope L' fI cdv)) (envOf qual scope L' fI cdv) ((hh.push emptyDict).push (instObj C hh.objs.size)) L' hid) ([] ++ []) h2).StaysIn (Vw c (ow ++ al) h') := fun b o e => by
    have e' := mem_vw.mp e
    have ev := mem_vw.mp (hv _ _ _ _ e)
    have hbL : b ≠ L' := fun q => e'.2 (List.mem_append_right _ (q ▸ .head _))
    have hbd : b ≠ hh.objs.size := fun q => ev.2 (by rw [q]; simp)
    have hb : h'.get? b = some o := by
      cases q : hh.get? b with
      | some o' =>
        have h1 := k02 _ _ q
        rw [e'.1] at h1
        cases h1
        exact k3 _ _ q
      | none =>
        by_cases hbx : b = hh.objs.size + 1
        · subst hbx
          rw [hx2] at e'
          rw [e1]; exact e'.1
        · exact (N3 (b, o) (.tail _ (.tail _ (mem_allNew.mpr ⟨e'.1, q, by simp [hbL, hbd, hbx]⟩)))).1
    refine mem_vw.mpr ⟨hb, fun hm => ev.2 ?_⟩
    show b ∈ c.hid ++ c.L :: (ow ++ (hh.objs.size, emptyDict) :: al).map (·.1)
    rcases List.mem_append.mp hm with q | q
    · exact List.mem_append_left _ q
    · refine List.mem_append_right _ ?_
      rcases List.mem_cons.mp q with q | q
      · exact q ▸ .head _
      · refine .tail _ ?_
        rw [List.map_append] at q ⊢
        rcases List.mem_append.mp q with q | q
        · exact List.mem_append_left _ q
        · exact List.mem_append_right _ (.tail _ q)
  obtain ⟨r, hr, hq⟩ := hmk pv q2 _ _ _ v _ _ _ v1 v2 (rpv.keeps kv)
  exact ⟨h', _, rfl, k3, r, hr, hq⟩
end
end Mine
end Part3
section Part4
open PySem PySem.W PySem.Calls
set_option maxRecDepth 100000
set_option autoImplicit false
set_option linter.unusedVariables false
namespace Mine
open PyProof.Rows (Fr News Top IsTup Below envOf envOfC)

/-- the items of a source -/
def rngItems (a st : Int) (n : Nat) : List PV := (List.range n).map fun i => .int (a + (i : Nat) * st)
inductive Items : PV → List PV → Prop
  | lst {xs : List PV} : Items (.lst xs) xs
  | tup {xs : List PV} : Items (.tup xs) xs
  | rng {a b st : Int} {n : Nat} {xs : List PV} : Builtin.Range.small a b st = true → Builtin.Range.rangeSize a b st = (n : Int) → xs = rngItems a st n → Items (.rng a b st) xs

section
variable {G : Gl} {c : Cx} {σ : Sg}

theorem iter_src {A : Around} {V : Heap} {s : Shared} {v : Value} {x : PV} {xs : List PV} {Q : Value → Shared → Prop} (hh : A.handled = none) (hV : V.StaysIn s.heap) (r : Rep G V v x) (hi : Items x xs)
    (h : ∀ (o : Obj) (fp : List Addr) (P : Nat → Value → Prop) (St' : Nat → Heap → Prop), o.isFreed = false → Walks G.prog G.w A s.heap.objs.size fp [s.heap.objs.size] xs.length P St' → St' 0 (s.heap.push o) →
      (∀ b ∈ fp, b = s.heap.objs.size ∨ ∃ q, V.get? b = some q) → (∀ i g, St' i g → ∃ o', g.get? s.heap.objs.size = some o') → (∀ i u, i < xs.length → P i u → ∃ y, xs[i]? = some y ∧ Rep G V u y) →
      Q (.ref s.heap.objs.size) { s with heap := s.heap.push o }) : wpAny G.M A (pyIter v) Q Bot s := by
  cases hi with
  | lst =>
    cases r with
    | lst hl r =>
      rename_i a vs
      have hl' := isList_keeps hV hl
      have e := r.length
      obtain ⟨ol, hol, _⟩ := hl'
      have hl2 := hl
      obtain ⟨ov, hov, _⟩ := hl2
      have hne : a ≠ s.heap.objs.size := Nat.ne_of_lt (Heap.lt_size hol)
      refine wpAny_pyIter_list (isList_keeps hV hl) ?_
      have W := Walks.list (prog := G.prog) (w := G.w) hh s.heap.objs.size a hne vs.toArray
      rw [show vs.toArray.size = xs.length from List.size_toArray.trans e] at W
      refine h _ _ _ _ rfl W ⟨⟨_, Heap.get?_push_size _ rfl, rfl, rfl⟩, (isList_keeps hV hl).push _⟩ ?_ ?_ ?_
      · intro b hb
        rcases List.mem_cons.mp hb with q | q
        · exact .inl q
        · rcases List.mem_cons.mp q with q | q
          · exact .inr ⟨ov, q ▸ hov⟩
          · cases q
      · rintro i g ⟨⟨o', ho', _⟩, _⟩; exact ⟨o', ho'⟩
      · intro i u _ hu
        have hu : vs[i]? = some u := by simpa using hu
        have hlt : i < vs.length := by
          rcases Nat.lt_or_ge i vs.length with q | q
          · exact q
          · rw [List.getElem?_eq_none q] at hu; cases hu
        have hx : xs[i]? = some (xs[i]'(e ▸ hlt)) := by simp
        obtain ⟨w, hw, rw⟩ := r.get hx
        rw [hu] at hw; cases hw
        exact ⟨_, hx, rw⟩
  | tup =>
    cases r with
    | tup hl r =>
      rename_i a vs
      have hl' := isTup_keeps hV hl
      have e := r.length
      obtain ⟨ol, hol, _⟩ := hl'
      have hl2 := hl
      obtain ⟨ov, hov, _⟩ := hl2
      have hne : a ≠ s.heap.objs.size := Nat.ne_of_lt (Heap.lt_size hol)
      refine wpAny_pyIter_tuple (isTup_keeps hV hl) ?_
      have W := Walks.tuple (prog := G.prog) (w := G.w) hh s.heap.objs.size a hne vs.toArray
      rw [show vs.toArray.size = xs.length from List.size_toArray.trans e] at W
      refine h _ _ _ _ rfl W ⟨⟨_, Heap.get?_push_size _ rfl, rfl, rfl⟩, Heap.IsTuple.push (isTup_keeps hV hl) _⟩ ?_ ?_ ?_
      · intro b hb
        rcases List.mem_cons.mp hb with q | q
        · exact .inl q
        · rcases List.mem_cons.mp q with q | q
          · exact .inr ⟨ov, q ▸ hov⟩
          · cases q
      · rintro i g ⟨⟨o', ho', _⟩, _⟩; exact ⟨o', ho'⟩
      · intro i u _ hu
        have hu : vs[i]? = some u := by simpa using hu
        have hlt : i < vs.length := by
          rcases Nat.lt_or_ge i vs.length with q | q
          · exact q
          · rw [List.getElem?_eq_none q] at hu; cases hu
        have hx : xs[i]? = some (xs[i]'(e ▸ hlt)) := by simp
        obtain ⟨w, hw, rw⟩ := r.get hx
        rw [hu] at hw; cases hw
        exact ⟨_, hx, rw⟩
  | rng hsm hsz hxs =>
    rename_i a b st n
    subst hxs
    cases r with
    | rng hr =>
      refine wpAny_pyIter_range (hV _ _ hr) hsm ?_
      have W := Walks.range (prog := G.prog) (w := G.w) hh s.heap.objs.size a st n
      have hlen : (rngItems a st n).length = n := by simp [rngItems]
      have W' : Walks G.prog G.w A s.heap.objs.size [s.heap.objs.size] [s.heap.objs.size] (rngItems a st n).length (fun i v => ∃ t, v = Value.int (a + (i : Int) * st) t) fun i h => IsRangeIter h s.heap.objs.size (a + (i : Int) * st) ((n : Int) - (i : Int)) st := by rw [hlen]; exact W
      refine h _ _ _ _ rfl W' ?_ ?_ ?_ ?_
      · show IsRangeIter _ _ _ _ _
        rw [hsz]
        have := Heap.get?_push_size s.heap (o := { cls := .type "range_iterator", data := .fields #[rawInt a, rawInt (n : Int), rawInt st] }) rfl
        simpa using this
      · intro b hb; exact .inl (List.mem_singleton.mp hb)
      · intro i g hg; exact ⟨_, hg⟩
      · rintro i u hi ⟨t, rfl⟩
        rw [hlen] at hi
        exact ⟨.int (a + (i : Nat) * st), by simp [rngItems, hi], .int _ _⟩

theorem St.alter {m : Str → Option Value} {ow al : Led} {s : Shared} {I : Addr} {o o' : Obj} {h' : Heap} {tk : Nat} (S : St G c σ m ow ((I, o) :: al) s) (k : ∀ b q, b ∉ [I] → s.heap.get? b = some q → h'.get? b = some q) (e : h'.get? I = some o') :
    St G c σ m ow ((I, o') :: al) { s with heap := h', toks := tk } := by
  have hI := S.N (I, o) (List.mem_append_right _ (.head _))
  have k' : Heap.ExtBut I s.heap h' := fun b q hb e => k b q (by simpa using hb) e
  have hne : ∀ p ∈ ow ++ al, p.1 ≠ I := fun p hp q => by
    have nd := S.nd
    rw [List.map_append, List.map_cons, List.nodup_append] at nd
    obtain ⟨n1, n2, n3⟩ := nd
    rcases List.mem_append.mp hp with hp | hp
    · exact n3 _ (List.mem_map_of_mem hp) I (.head _) q
    · rw [List.nodup_cons] at n2
      exact n2.1 (by rw [← q]; exact List.mem_map_of_mem (f := (·.1)) hp)
  have hv : (Vw c (ow ++ (I, o) :: al) s.heap).StaysIn (Vw c (ow ++ (I, o') :: al) h') := fun b q e => by
    rw [mem_vw] at e ⊢
    simp only [List.map_append, List.map_cons] at e ⊢
    refine ⟨k' b q (fun hb => e.2 (by rw [hb]; simp)) e.1, e.2⟩
  refine ⟨⟨S.F.ns.extBut k' (Ne.symm hI.2.1), fun b q eb => k' b q (fun hb => ?_) (S.F.keep b q eb), S.F.above⟩, fun p hp => ?_, ?_, fun x pv ex => ?_, S.cells⟩
  · have h3 := hI.2.2
    rw [← show b = I from hb, eb] at h3; cases h3
  · rcases List.mem_append.mp hp with q | q
    · have := S.N p (List.mem_append_left _ q)
      exact ⟨k' _ _ (hne p (List.mem_append_left _ q)) this.1, this.2⟩
    · rcases List.mem_cons.mp q with rfl | q
      · exact ⟨e, hI.2⟩
      · have := S.N p (List.mem_append_right _ (.tail _ q))
        exact ⟨k' _ _ (hne p (List.mem_append_right _ q)) this.1, this.2⟩
  · have nd := S.nd
    simp only [List.map_append, List.map_cons] at nd ⊢
    exact nd
  · obtain ⟨v, hvv, r⟩ := S.vars x pv ex
    refine ⟨v, ?_, r.keeps hv⟩
    cases hvv with
    | loc a b d => exact .loc a b d
    | locC a b d e => exact .locC a b d e
    | cel a b d e => exact .cel a b d e
    | free a b d e f => exact .free a b d e f

/-- the iterator goes -/
theorem St.drop {m : Str → Option Value} {ow al : Led} {s : Shared} {I : Addr} {o : Obj} (S : St G c σ m ow ((I, o) :: al) s) : St G c σ m ow al s := by
  have hv : (Vw c (ow ++ (I, o) :: al) s.heap).StaysIn (Vw c (ow ++ al) s.heap) := fun b q e => by
    rw [mem_vw] at e ⊢
    refine ⟨e.1, fun hm => e.2 ?_⟩
    simp only [List.map_append, List.map_cons] at hm ⊢
    rcases List.mem_append.mp hm with h | h
    · exact List.mem_append_left _ h
    · refine List.mem_append_right _ ?_
      rcases List.mem_cons.mp h with h | h
      · exact h ▸ .head _
      · refine .tail _ ?_
        rcases List.mem_append.mp h with h | h
        · exact List.mem_append_left _ h
        · exact List.mem_append_right _ (.tail _ h)
  refine ⟨S.F, fun p hp => S.N p ?_, ?_, fun x pv ex => ?_, S.cells⟩
  · rcases List.mem_append.mp hp with h | h
    · exact List.mem_append_left _ h
    · exact List.mem_append_right _ (.tail _ h)
  · have nd := S.nd
    refine nd.sublist ?_
    simp only [List.map_append, List.map_cons]
    exact List.Sublist.append (List.Sublist.refl _) (List.sublist_cons_self _ _)
  · obtain ⟨v, hvv, r⟩ := S.vars x pv ex
    exact ⟨v, hvv, r.keeps hv⟩

/-- a new mutable object of the machine's own -/
theorem St.add {m : Str → Option Value} {ow al : Led} {s : Shared} {o : Obj} (ok : c.Ok G) (S : St G c σ m ow al s) (hf : o.isFreed = false) :
    St G c σ m ow ((s.heap.objs.size, o) :: al) { s with heap := s.heap.push o } ∧ (Vw c (ow ++ al) s.heap).StaysIn (Vw c (ow ++ (s.heap.objs.size, o) :: al) (s.heap.push o)) := by
  have k0 : s.heap.StaysIn (s.heap.push o) := stays_push _ _
  have hfr : ∀ p ∈ ow ++ al, p.1 ≠ s.heap.objs.size := fun p hp => Nat.ne_of_lt (Heap.lt_size (S.N p hp).1)
  have hv : (Vw c (ow ++ al) s.heap).StaysIn (Vw c (ow ++ (s.heap.objs.size, o) :: al) (s.heap.push o)) := fun b q e => by
    rw [mem_vw] at e ⊢
    refine ⟨k0 _ _ e.1, fun hm => e.2 ?_⟩
    simp only [List.map_append, List.map_cons] at hm ⊢
    rcases List.mem_append.mp hm with h | h
    · exact List.mem_append_left _ h
    · refine List.mem_append_right _ ?_
      rcases List.mem_cons.mp h with h | h
      · exact h ▸ .head _
      · refine .tail _ ?_
        rcases List.mem_append.mp h with h | h
        · exact List.mem_append_left _ h
        · rcases List.mem_cons.mp h with h | h
          · exact absurd (Heap.lt_size e.1) (by rw [h]; exact Nat.lt_irrefl _)
          · exact List.mem_append_right _ h
  have S0 := S.grow (tk := s.toks) k0
  refine ⟨⟨S0.F, fun p hp => ?_, ?_, fun x pv ex => ?_, S.cells⟩, hv⟩
  · rcases List.mem_append.mp hp with h | h
    · exact S0.N p (List.mem_append_left _ h)
    · rcases List.mem_cons.mp h with rfl | h
      · refine ⟨Heap.get?_push_size _ hf, Nat.ne_of_gt S.F.ns.lt, ?_⟩
        cases q : c.g0.get? s.heap.objs.size with
        | none => rfl
        | some o' => exact absurd (Heap.lt_size (S.F.keep _ _ q)) (Nat.lt_irrefl _)
      · exact S0.N p (List.mem_append_right _ h)
  · have nd := S.nd
    simp only [List.map_append, List.map_cons, List.nodup_append, List.nodup_cons] at nd ⊢
    obtain ⟨n1, n2, n3⟩ := nd
    refine ⟨n1, ⟨fun hm => ?_, n2⟩, fun a ha b hb => ?_⟩
    · obtain ⟨p, hp, e⟩ := List.mem_map.mp hm
      exact hfr p (List.mem_append_right _ hp) e
    · rcases List.mem_cons.mp hb with rfl | hb
      · obtain ⟨p, hp, rfl⟩ := List.mem_map.mp ha
        exact hfr p (List.mem_append_left _ hp)
      · exact n3 a ha b hb
  · obtain ⟨v, hvv, r⟩ := S.vars x pv ex
    exact ⟨v, hvv, r.keeps hv⟩

/-- what is left of a loop -/
def forStep (Q : Fl → Sg → Prop) (k : Sg → Prop) (f : Fl) (σ2 : Sg) : Prop := match f with
  | .nxt => k σ2
  | .cont => k σ2
  | .brk => Q .nxt σ2
  | .ret v => Q (.ret v) σ2
def ForL (G : Gl) (c : Cx) (tgt : Expr) (body : List Stmt) (Q : Fl → Sg → Prop) : List PV → Sg → Prop
  | [], σ => Q .nxt σ
  | x :: xs, σ => As G c σ (assign tgt c.env) x (fun σ1 => Ex G c σ1 body (forStep Q (ForL G c tgt body Q xs)))

theorem ex_for {tgt iter : Expr} {body : List Stmt} {pos : Pos} {Q : Fl → Sg → Prop} (h : Ev G c σ iter (fun x => ∃ xs, Items x xs ∧ ForL G c tgt body Q xs σ))
    (ht : ∀ it v, letOwnedTupleGo tgt it v = pure () := by intro _ _; rfl) (hs : ∀ x, foldedSetIterable iter c.env x = pure x := by intro _; rfl) : Ex1 G c σ (.For tgt iter body [] pos) Q := by
  intro m ow al s ok S
  refine wpAny_For (wpAny_mono (h m ow al s ok S) (fun v s1 hp => ?_) bot_elim) hs
  obtain ⟨h1, t1, rfl, k1, x, rx, xs, hi, hL⟩ := hp
  have S1 := S.grow (tk := t1) k1
  refine iter_src (s := { s with heap := h1, toks := t1 }) ok.hh vw_sub rx hi (fun o fp P St' hof W st0 hfp hob hP => ?_)
  dsimp only at W st0 hfp hob ⊢
  obtain ⟨S2, v2⟩ := S1.add ok hof
  dsimp only at S2 v2
  let V := Vw c (ow ++ al) h1
  let Inv : Nat → Shared → Prop := fun n s' => ∃ i σ' m' ow' h' tk o', s' = { s with heap := h', toks := tk } ∧ i + n = xs.length ∧ St G c σ' m' ow' ((h1.objs.size, o') :: al) { s with heap := h', toks := tk } ∧ St' i h' ∧
    V.StaysIn (Vw c (ow' ++ (h1.objs.size, o') :: al) h') ∧ ForL G c tgt body Q (xs.drop i) σ'
  have fin : ∀ σ' m' ow' h' tk o', St G c σ' m' ow' ((h1.objs.size, o') :: al) { s with heap := h', toks := tk } → V.StaysIn (Vw c (ow' ++ (h1.objs.size, o') :: al) h') →
      ∀ fl f, FlRep G (Vw c (ow' ++ (h1.objs.size, o') :: al) h') fl f → Q f σ' → ExPost G c al (ow ++ al) s Q fl { s with heap := h', toks := tk } := by
    intro σ' m' ow' h' tk o' S' hv fl f hr hq
    have hv2 : (Vw c (ow' ++ (h1.objs.size, o') :: al) h').StaysIn (Vw c (ow' ++ al) h') := fun b q e => by
      rw [mem_vw] at e ⊢
      refine ⟨e.1, fun hm => e.2 ?_⟩
      simp only [List.map_append, List.map_cons] at hm ⊢
      rcases List.mem_append.mp hm with h | h
      · exact List.mem_append_left _ h
      · refine List.mem_append_right _ ?_
        rcases List.mem_cons.mp h with h | h
        · exact h ▸ .head _
        · refine .tail _ ?_
          rcases List.mem_append.mp h with h | h
          · exact List.mem_append_left _ h
          · exact List.mem_append_right _ (.tail _ h)
    refine ⟨h', tk, m', ow', σ', f, rfl, stays_trans (vw_mono k1) (stays_trans hv hv2), S'.drop, ?_, hq⟩
    cases hr with
    | nxt => exact .nxt
    | brk => exact .brk
    | cont => exact .cont
    | ret r => exact .ret (r.keeps hv2)
  refine codeAny_forLoop (prog := G.prog) (w := G.w) Inv ?_ xs.length ⟨0, σ, m, ow, _, _, o, rfl, Nat.zero_add _, S2, st0, v2, by rw [List.drop_zero]; exact hL⟩ (ht _)
  rintro n s' ⟨i, σ', m', ow', h', tk, o', rfl, hn, S', st', v', hF⟩
  cases n with
  | zero =>
    have hil : i = xs.length := by omega
    subst hil
    refine W.done _ _ _ st' (fun h'' tk' kk => ?_)
    have hI : h''.get? h1.objs.size = some o' ∨ True := .inr trivial
    rw [List.drop_length] at hF
    -- the iterator may have been freed or changed; what else was there stays
    have S3 : St G c σ' m' ow' al { s with heap := h'', toks := tk' } := by
      have D := S'.drop
      have kn : Heap.ExtBut h1.objs.size h' h'' := fun b q hb e => kk b q (by simpa using hb) e
      have hIN := S'.N (h1.objs.size, o') (List.mem_append_right _ (.head _))
      have hne : ∀ p ∈ ow' ++ al, p.1 ≠ h1.objs.size := fun p hp q => by
        have nd := S'.nd
        rw [List.map_append, List.map_cons, List.nodup_append] at nd
        obtain ⟨n1, n2, n3⟩ := nd
        rcases List.mem_append.mp hp with hp | hp
        · exact n3 _ (List.mem_map_of_mem hp) h1.objs.size (.head _) q
        · rw [List.nodup_cons] at n2
          exact n2.1 (by rw [← q]; exact List.mem_map_of_mem (f := (·.1)) hp)
      refine ⟨⟨D.F.ns.extBut kn (Ne.symm hIN.2.1), fun b q eb => kn b q (fun hb => ?_) (D.F.keep b q eb), D.F.above⟩, fun p hp => ⟨kn _ _ (hne p hp) (D.N p hp).1, (D.N p hp).2⟩, D.nd, fun x pv ex => ?_, D.cells⟩
      · have h3 := hIN.2.2
        rw [← show b = h1.objs.size from hb, eb] at h3; cases h3
      · obtain ⟨v, hvv, r⟩ := S'.vars x pv ex
        refine ⟨v, hvv, r.keeps fun b q e => ?_⟩
        rw [mem_vw] at e ⊢
        refine ⟨kn b q (fun hb => e.2 (by rw [hb]; simp)) e.1, fun hm => e.2 ?_⟩
        simp only [List.map_append, List.map_cons] at hm ⊢
        rcases List.mem_append.mp hm with h | h
        · exact List.mem_append_left _ h
        · refine List.mem_append_right _ ?_
          rcases List.mem_cons.mp h with h | h
          · exact h ▸ .head _
          · refine .tail _ ?_
            rcases List.mem_append.mp h with h | h
            · exact List.mem_append_left _ h
            · exact List.mem_append_right _ (.tail _ h)
    refine wpAny_execs_nil ?_
    refine ⟨h'', tk', m', ow', σ', .nxt, rfl, ?_, S3, .nxt, hF⟩
    refine stays_trans (vw_mono k1) (stays_trans v' fun b q e => ?_)
    rw [mem_vw] at e ⊢
    refine ⟨kk b q (fun hb => e.2 (by rw [List.mem_singleton.mp hb]; simp)) e.1, fun hm => e.2 ?_⟩
    simp only [List.map_append, List.map_cons] at hm ⊢
    rcases List.mem_append.mp hm with h | h
    · exact List.mem_append_left _ h
    · refine List.mem_append_right _ ?_
      rcases List.mem_cons.mp h with h | h
      · exact h ▸ .head _
      · refine .tail _ ?_
        rcases List.mem_append.mp h with h | h
        · exact List.mem_append_left _ h
        · exact List.mem_append_right _ (.tail _ h)
  | succ n =>
    have hil : i < xs.length := by omega
    refine W.item i _ _ _ hil st' (fun u h'' tk' hPu st'' kk => ?_)
    obtain ⟨o'', ho''⟩ := hob _ _ st''
    have S3 := S'.alter (o' := o'') (tk := tk') kk ho''
    obtain ⟨y, hy, ry⟩ := hP i u hil hPu
    have hdrop : xs.drop i = y :: xs.drop (i + 1) := by
      rw [List.drop_eq_getElem_cons hil]
      congr 1
      exact Option.some.inj ((List.getElem?_eq_getElem hil).symm.trans hy)
    rw [hdrop] at hF
    have v3 : V.StaysIn (Vw c (ow' ++ (h1.objs.size, o'') :: al) h'') := stays_trans v' fun b q e => by
      rw [mem_vw] at e ⊢
      simp only [List.map_append, List.map_cons] at e ⊢
      exact ⟨kk b q (fun hb => e.2 (by rw [List.mem_singleton.mp hb]; simp)) e.1, e.2⟩
    refine wpAny_mono (hF m' ow' _ _ ok S3 u (ry.keeps v3)) (fun _ s4 hp4 => ?_) (fun _ _ b => b.elim)
    obtain ⟨h4, t4, m4, ow4, σ4, f4, rfl, k4, S4, r4, q4⟩ := hp4
    refine wpAny_mono (q4 m4 ow4 _ _ ok S4) (fun fl s5 hp5 => ?_) (fun _ _ b => b.elim)
    obtain ⟨h5, t5, m5, ow5, σ5, f5, rfl, k5, S5, r5, q5⟩ := hp5
    have v5 := stays_trans v3 (stays_trans k4 k5)
    have stk : St' (i + 1) h5 := W.frame _ _ _ st'' fun b hb q e => by
      rcases hfp b hb with rfl | ⟨q', hq'⟩
      · rw [ho''] at e
        cases e
        exact (S5.N (h1.objs.size, o'') (List.mem_append_right _ (.head _))).1
      · have h6 := v3 _ _ hq'
        have h7 := (mem_vw.mp h6).1
        rw [h7] at e
        cases e
        exact (mem_vw.mp (v5 _ _ hq')).1
    have again : ForL G c tgt body Q (xs.drop (i + 1)) σ5 → ∃ n', n' < n + 1 ∧ Inv n' { s with heap := h5, toks := t5 } := fun q =>
      ⟨n, Nat.lt_succ_self _, i + 1, σ5, m5, ow5, h5, t5, o'', rfl, by omega, S5, stk, v5, q⟩
    cases r5 with
    | nxt => exact again q5
    | cont => exact again q5
    | brk => exact fin _ _ _ _ _ _ S5 v5 _ _ .nxt q5
    | ret r => exact fin _ _ _ _ _ _ S5 v5 _ _ (.ret r) q5
end
end Mine
end Part4
section Part5
open PySem PySem.W PySem.Calls
set_option maxRecDepth 100000
set_option autoImplicit false
set_option linter.unusedVariables false
namespace Mine
open PyProof.Rows (Fr News Top IsTup Below envOf envOfC)

def PV.simple : PV → Bool
  | .int _ => true
  | .cell _ => true
  | _ => false
def PV.flat : PV → Bool
  | .int _ => true
  | .bool _ => true
  | _ => false
inductive FlatRep : Value → PV → Prop
  | int (n : Int) (t : Tok) : FlatRep (.int n t) (.int n)
  | bool (b : Bool) : FlatRep (.bool b) (.bool b)

section
variable {G : Gl} {c : Cx} {σ : Sg}

theorem Rep.inj {H : Heap} {v : Value} {x y : PV} (h1 : Rep G H v x) (h2 : Rep G H v y) (hx : x.simple = true) (hy : y.simple = true) : x = y := by
  cases h1 <;> cases h2 <;> first | rfl | (cases hx; done) | (cases hy; done) | skip
  rename_i a1 d1 n1 t1 tk1 hs1 sz1 e1 e2 d2 n2 t2 tk2 hs2 sz2 e4 e3
  rw [e1] at e3
  cases e3
  rw [e2] at e4
  simp only [dictOf, Option.some.injEq, Obj.mk.injEq, Data.dict.injEq, List.toArray_eq_iff, List.cons.injEq, DictEntry.mk.injEq, Value.int.injEq] at e4
  simp at e4
  simp [e4]
theorem Rep.flatRep {H : Heap} {v : Value} {x : PV} (h : Rep G H v x) (hx : x.flat = true) : FlatRep v x := by
  cases h <;> first | exact .int _ _ | exact .bool _ | cases hx
theorem FlatRep.rep {H : Heap} {v : Value} {x : PV} (h : FlatRep v x) : Rep G H v x := by
  cases h <;> first | exact .int _ _ | exact .bool _

theorem repl_of_all {H : Heap} : ∀ {xs : List PV} {vs : List Value}, vs.length = xs.length → (∀ (j : Nat) v, vs[j]? = some v → ∃ y, xs[j]? = some y ∧ Rep G H v y) → RepL G H vs xs
  | [], [], _, _ => .nil
  | x :: xs, v :: vs, hl, h => by
    obtain ⟨y, e, r⟩ := h 0 v rfl
    cases e
    exact .cons r (repl_of_all (by simpa using hl) fun j v e => h (j + 1) v (by simpa using e))
  | [], _ :: _, hl, _ => by simp at hl
  | _ :: _, [], hl, _ => by simp at hl

theorem flat_filter {V : Heap} {b : PV → Bool} {f : PV → PV} {p : Value → Bool} {F : Value → Value → Prop} : ∀ {xs : List PV} {vs ys : List Value}, RepL G V vs xs →
    (∀ v y, y ∈ xs → Rep G V v y → p v = b y) → (∀ v y u, y ∈ xs → Rep G V v y → F v u → FlatRep u (f y)) → PySem.Paired F (vs.filter p) ys → ∀ H, RepL G H ys ((xs.filter b).map f)
  | _, _, _, .nil, _, _, hP, H => by cases hP; exact .nil
  | _, _, _, .cons (x := x) (xs := xs) r rs, hp, hF, hP, H => by
    rename_i v vs
    have e := hp v x (.head _) r
    have ih := fun {ys} h => flat_filter (ys := ys) rs (fun v y hy => hp v y (.tail _ hy)) (fun v y u hy => hF v y u (.tail _ hy)) h H
    by_cases q : b x = true
    · rw [List.filter_cons_of_pos (by rw [e]; exact q)] at hP
      rw [List.filter_cons_of_pos q]
      cases hP with
      | cons h1 h2 => exact .cons (hF v x _ (.head _) r h1).rep (ih h2)
    · rw [List.filter_cons_of_neg (by rw [e]; exact q)] at hP
      rw [List.filter_cons_of_neg q]
      exact ih hP

/-- the block of a comprehension -/
def compCx (c : Cx) (scope : Scope) (cl : List (Str × Addr)) (C : Addr) : Cx := { c with env := compEnvC scope cl C c.env }
def TestsAre (G : Gl) (c : Cx) (σ : Sg) : List Expr → Bool → Prop
  | [], b => b = true
  | [e], b => EvT G c σ e (fun r => r = b)
  | _, _ => False

structure CompOk (c : Cx) (scope : Scope) (cl : List (Str × Addr)) (x : Str) (fr : List Str) : Prop where
  clos : closureFor scope c.env = pure cl
  cell : (scope.names.all fun y => y.2 != .cell) = true
  kind : scope.kind = .function
  names : (scope.names.all fun y => y.2 != .local || decide (scope.names.lookup y.1 = some .local)) = true
  hx : scope.names.lookup x = some .local
  free : ∀ n ∈ fr, c.env.kindOf n = some .cell ∧ (relabel scope c.env).names.lookup n = some .cell ∧ cl.lookup n = c.env.cells.lookup n ∧ n ≠ x

open Classical in
theorem comp_core {elt : Expr} {x : Str} {ifs : List Expr} {scope : Scope} {cl : List (Str × Addr)} {fr : List Str} {v : Value} {src : PV} {xs : List PV} {b : PV → Bool} {f : PV → PV} {m : Str → Option Value} {ow al : Led} {s : Shared} {Q : Value → Shared → Prop}
    (ok : c.Ok G) (S : St G c σ m ow al s) (K : CompOk c scope cl x fr) (rx : Rep G (Vw c (ow ++ al) s.heap) v src) (hi : Items src xs) (hlen : xs.length ≤ 1000) (hs : ∀ y ∈ xs, y.simple = true) (hf : ∀ y ∈ xs, (f y).flat = true)
    (ht : ∀ C, ∀ y ∈ xs, TestsAre G (compCx c scope cl C) ((x, y) :: fr.filterMap fun n => (σ.lookup n).map fun z => (n, z)) ifs (b y))
    (he : ∀ C, ∀ y ∈ xs, b y = true → Ev G (compCx c scope cl C) ((x, y) :: fr.filterMap fun n => (σ.lookup n).map fun z => (n, z)) elt (fun r => r = f y))
    (hQ : ∀ (I : Addr) (fp wr : List Addr) (n : Nat) (P : Nat → Value → Prop) (St' : Nat → Heap → Prop) (p : Value → Bool) (F : Value → Value → Prop) (s₂ : Shared), s₂ = { s with heap := s₂.heap } → s.heap.StaysIn s₂.heap → I = s.heap.objs.size → wr = [I] → Walks G.prog G.w c.A I fp wr n P St' → n ≤ sizeLine → St' 0 s₂.heap →
      (∀ b ∈ fp, b < s₂.heap.objs.size) → QuietOnC G.prog G.w c.A c.env scope cl x ifs elt wr P p F s₂ →
      (∀ (ys : Array Value) (vs : List Value), vs.length = n → (∀ j v, vs[j]? = some v → P j v) → PySem.Paired F (vs.filter p) ys.toList → ∀ H, RepL G H ys.toList ((xs.filter b).map f)) → Q (.ref I) s₂) :
    wpAny G.M c.A (pyIter v) Q Bot s := by
  let V := Vw c (ow ++ al) s.heap
  refine iter_src ok.hh vw_sub rx hi (fun o fp P St' hof W st0 hfp hob hP => ?_)
  have W' := W.bound
  let p : Value → Bool := fun u => decide (∃ y ∈ xs, Rep G V u y ∧ b y = true)
  let F : Value → Value → Prop := fun u r => ∃ y ∈ xs, Rep G V u y ∧ FlatRep r (f y)
  have hp : ∀ u y, y ∈ xs → Rep G V u y → p u = b y := fun u y hy r => by
    cases hb : b y with
    | true => exact decide_eq_true ⟨y, hy, r, hb⟩
    | false =>
      refine decide_eq_false ?_
      rintro ⟨z, hz, rz, hbz⟩
      rw [Rep.inj r rz (hs _ hy) (hs _ hz)] at hb
      rw [hb] at hbz; cases hbz
  have k0 : s.heap.StaysIn (s.heap.push o) := stays_push _ _
  have inner : ∀ (C : Addr) (u : Value) (y : PV) (s₃ : Shared) (m₃ : Str → Option Value), (s.heap.push o).objs.size ≤ C → Rep G V u y → s₃.heap.Ns C m₃ → m₃ x = some u → (∀ b q, b ∉ [s.heap.objs.size] → (s.heap.push o).get? b = some q → s₃.heap.get? b = some q) →
      (compCx c scope cl C).Ok G ∧ ∃ oC, St G (compCx c scope cl C) ((x, y) :: fr.filterMap fun n => (σ.lookup n).map fun z => (n, z)) m ((C, oC) :: ow) al s₃ := by
    intro C u y s₃ m₃ hC ru hn hm hk
    have hsz : (s.heap.push o).objs.size = s.heap.objs.size + 1 := Heap.size_push ..
    have old : s.heap.StaysIn s₃.heap := fun b q e => hk b q (by simpa using Nat.ne_of_lt (Heap.lt_size e)) (k0 _ _ e)
    have hCs : @LT.lt Nat _ s.heap.objs.size C := Nat.lt_of_lt_of_le (by rw [hsz]; exact Nat.lt_succ_self _) hC
    have hCn : s.heap.get? C = none := by
      cases q : s.heap.get? C with
      | none => rfl
      | some o' => exact absurd (Nat.lt_trans (Heap.lt_size q) hCs) (Nat.lt_irrefl _)
    obtain ⟨oC, es, ep, hoC, hdC, hkC, hfC⟩ := hn
    refine ⟨⟨ok.hh, ok.K, ok.T, by show (relabel scope c.env).kind = _; exact K.kind, ok.eg, ok.eb, ok.hsome, ok.hK⟩, oC, ⟨fr_grow S.F old, fun q hq => ?_, ?_, fun z pv e => ?_, fun e => ?_⟩⟩
    · rcases List.mem_cons.mp hq with rfl | hq
      · refine ⟨hoC, fun e => ?_, ?_⟩
        · obtain ⟨oL, _, _, hL, _⟩ := S.F.ns
          have e : C = c.L := e
          rw [e, hL] at hCn; cases hCn
        · show c.g0.get? C = none
          cases q : c.g0.get? C with
          | none => rfl
          | some o' => rw [S.F.keep _ _ q] at hCn; cases hCn
      · exact ⟨old _ _ (S.N q hq).1, (S.N q hq).2⟩
    · show (C :: (ow ++ al).map (·.1)).Nodup
      rw [List.nodup_cons]
      refine ⟨fun hm => ?_, S.nd⟩
      obtain ⟨q, hq, e⟩ := List.mem_map.mp hm
      have := (S.N q hq).1
      rw [e, hCn] at this; cases this
    · have hview : V.StaysIn (Vw (compCx c scope cl C) ((C, oC) :: ow ++ al) s₃.heap) := fun a q e => by
        have e' := mem_vw.mp e
        refine mem_vw.mpr ⟨old _ _ e'.1, fun hm => e'.2 ?_⟩
        rcases List.mem_append.mp hm with h | h
        · exact List.mem_append_left _ h
        · refine List.mem_append_right _ ?_
          rcases List.mem_cons.mp h with h | h
          · exact h ▸ .head _
          · refine .tail _ ?_
            rcases List.mem_cons.mp h with h | h
            · have e'' : a = C := h
              rw [e'', hCn] at e'; cases e'.1
            · exact h
      simp only [List.lookup] at e
      split at e
      · rename_i hz
        obtain rfl := beq_iff_eq.mp hz
        cases e
        exact ⟨u, .locC (lookup_relabel_local K.hx) (.head _) ⟨es, ep, hdC, hkC, hfC⟩ hm, .rep (ru.keeps hview)⟩
      · have hmem : (z, pv) ∈ fr.filterMap fun n => (σ.lookup n).map fun z => (n, z) := mem_lookup e
        obtain ⟨n, hn', e2⟩ := List.mem_filterMap.mp hmem
        obtain ⟨z', hz', e3⟩ := Option.map_eq_some_iff.mp e2
        obtain ⟨e4, e5⟩ := Prod.mk.inj e3
        subst e4 e5
        obtain ⟨g1, g2, g3, g4⟩ := K.free _ hn'
        obtain ⟨w', hw', rw'⟩ := S.vars _ _ hz'
        cases hw' with
        | loc a b d => rw [g1] at a; cases a
        | locC a b d e => rw [g1] at a; cases a
        | free a b d e f => rw [g1] at a; cases a
        | cel a b d e =>
          refine ⟨w', .cel g2 (g3.trans b) (.tail _ d) e, ?_⟩
          cases rw' with
          | rep r => exact .rep (r.keeps hview)
          | mlst a b d r => exact .mlst (.tail _ a) b d (r.keeps hview)
    · exfalso
      obtain ⟨oL, _, _, hL, _⟩ := S.F.ns
      have e' : C = c.L := e
      rw [e', hL] at hCn; cases hCn
  refine hQ _ _ _ _ _ _ p F { s with heap := s.heap.push o } rfl k0 rfl rfl W' (Nat.le_trans hlen (by decide)) st0 ?_ ⟨?_, ?_⟩ ?_
  · intro a ha
    show @LT.lt Nat _ a (s.heap.push o).objs.size
    rw [Heap.size_push]
    rcases hfp a ha with rfl | ⟨q, hq⟩
    · exact Nat.lt_succ_self _
    · exact Nat.lt_succ_of_lt (Heap.lt_size (mem_vw.mp hq).1)
  · intro C i u s₃ m₃ E' hC hPu hn hm hk htk
    obtain ⟨y, hy, ry⟩ := hP i u hPu.1 hPu.2
    have hyx : y ∈ xs := List.mem_of_getElem? hy
    obtain ⟨ok', oC, S'⟩ := inner C u y s₃ m₃ hC ry hn hm hk
    have h1 := ht C y hyx
    rw [hp u y hyx ry]
    match ifs, h1 with
    | [], h1 => exact wpAny_pure ⟨h1.symm, s₃.heap, s₃.toks, rfl, stays_refl _⟩
    | [e], h1 =>
      show wpAny _ _ (forIn [e] true _) _ _ _
      simp only [List.forIn_cons, List.forIn_nil, if_true]
      refine wpAny_bind (wpAny_bind (wpAny_mono (h1 m _ al s₃ ok' S') (fun r s4 hp4 => ?_) (fun _ _ z => z.elim)))
      obtain ⟨h4, t4, rfl, k4, q4⟩ := hp4
      exact wpAny_pure (wpAny_pure ⟨q4, h4, t4, rfl, k4⟩)
    | _ :: _ :: _, h1 => exact h1.elim
  · intro C i u s₃ m₃ E' hC hPu hpu hn hm hk htk
    obtain ⟨y, hy, ry⟩ := hP i u hPu.1 hPu.2
    have hyx : y ∈ xs := List.mem_of_getElem? hy
    obtain ⟨ok', oC, S'⟩ := inner C u y s₃ m₃ hC ry hn hm hk
    rw [hp u y hyx ry] at hpu
    refine wpAny_mono (he C y hyx hpu m _ al s₃ ok' S') (fun r s4 hp4 => ?_) (fun _ _ z => z.elim)
    obtain ⟨h4, t4, rfl, k4, pv, r4, q4⟩ := hp4
    subst q4
    exact ⟨⟨y, hyx, ry, r4.flatRep (hf y hyx)⟩, h4, t4, rfl, k4⟩
  · intro ys vs hl hv hPa H
    refine flat_filter (p := p) (F := F) (V := V) (repl_of_all hl fun j u e => hP j u (hv j u e).1 (hv j u e).2) hp (fun u y r hy ru hF => ?_) hPa H
    obtain ⟨z, hz, rz, fz⟩ := hF
    rw [Rep.inj ru rz (hs _ hy) (hs _ hz)]; exact fz

theorem ev_ListComp {elt iter : Expr} {x : Str} {px : Pos} {ifs : List Expr} {scope : Scope} {pos : Pos} {cl : List (Str × Addr)} {Q : PV → Prop} (fr : List Str) (b : PV → Bool) (f : PV → PV) (K : CompOk c scope cl x fr)
    (h : Ev G c σ iter (fun src => ∃ xs, Items src xs ∧ xs.length ≤ 1000 ∧ (∀ y ∈ xs, y.simple = true) ∧ (∀ y ∈ xs, (f y).flat = true) ∧
      (∀ C, ∀ y ∈ xs, TestsAre G (compCx c scope cl C) ((x, y) :: fr.filterMap fun n => (σ.lookup n).map fun z => (n, z)) ifs (b y)) ∧
      (∀ C, ∀ y ∈ xs, b y = true → Ev G (compCx c scope cl C) ((x, y) :: fr.filterMap fun n => (σ.lookup n).map fun z => (n, z)) elt (fun r => r = f y)) ∧ Q (.lst ((xs.filter b).map f))))
    (hs : ∀ x, foldedSetIterable iter c.env x = pure x := by intro _; rfl) : Ev G c σ (.ListComp elt [⟨.Name x px, iter, ifs, 0⟩] scope pos) Q := by
  intro m ow al s ok S
  rw [eval_ListComp]
  have hn : ∀ y ∈ scope.names, y.2 = .local → scope.names.lookup y.1 = some .local := fun y hy e => by
    have := List.all_eq_true.mp K.names y hy
    simpa [e] using this
  have hc : ∀ y ∈ scope.names, y.2 ≠ .cell := fun y hy => by simpa using List.all_eq_true.mp K.cell y hy
  refine wpAny_comprehension_free (use := none) rfl hs K.clos K.kind hn (wpAny_mono (h m ow al s ok S) (fun v s1 hp => ?_) bot_elim)
  obtain ⟨h1, t1, rfl, k1, src, rsrc, xs, hi, hlen, hsim, hfl, ht, he, hQ⟩ := hp
  refine comp_core ok (S.grow (tk := t1) k1) K rsrc hi hlen hsim hfl ht he (fun I fp wr n P St' p F s₂ es k2 hI hwr W hsz hst hfp hq hend => ?_)
  rw [es] at hst hfp hq ⊢
  refine comp_block_walkC (RR := fun acc C => compPost G.M c.A Bot none _ acc C) W hsz p F hc K.kind K.hx hst hfp hq ?_
  intro D C h' tk m' ys vs hD hC hDC hnC hlD hplD hl hP hF hk
  refine ⟨m', hnC, fun h'' hs'' => ?_⟩
  have hkeep : s.heap.StaysIn h'' := fun a q e => by
    have e1 := k2 _ _ (k1 _ _ e)
    refine hs''.extBut a q (fun hx => ?_) (hk a q (fun hm => ?_) e1)
    · subst hx; dsimp only at hC; rw [hC] at e1; cases e1
    · rw [hwr] at hm
      have : a = I := List.mem_singleton.mp hm
      rw [this, hI] at e
      exact absurd (Heap.lt_size (k1 _ _ e)) (Nat.lt_irrefl _)
  refine ⟨h'', _, rfl, hkeep, _, .lst ?_ (hend ys vs hl hP hF _), hQ⟩
  obtain ⟨o, ho, r⟩ := hlD.extBut hs''.extBut hDC
  refine ⟨o, mem_vw.mpr ⟨ho, fun hm => ?_⟩, r⟩
  obtain ⟨q, hq⟩ := S.hsome ok D hm
  dsimp only at hD
  rw [k2 _ _ (k1 _ _ hq)] at hD; cases hD

/-- y = [.. for x in ..]: the store is made within -/
theorem ex_assign_comp {elt iter : Expr} {x y : Str} {px py : Pos} {ifs : List Expr} {scope : Scope} {pos spos : Pos} {cl : List (Str × Addr)} {Q : Fl → Sg → Prop} (fr : List Str) (b : PV → Bool) (f : PV → PV) (K : CompOk c scope cl x fr)
    (hk : c.env.kindOf y = some .local) (hl : c.env.locals = c.L)
    (hsw : swapsWith (.ListComp elt [⟨.Name x px, iter, ifs, 0⟩] scope pos) (some (.Name y py)) spos.line c.env = pure true)
    (h : Ev G c σ iter (fun src => ∃ xs, Items src xs ∧ xs.length ≤ 1000 ∧ (∀ y ∈ xs, y.simple = true) ∧ (∀ y ∈ xs, (f y).flat = true) ∧
      (∀ C, ∀ y ∈ xs, TestsAre G (compCx c scope cl C) ((x, y) :: fr.filterMap fun n => (σ.lookup n).map fun z => (n, z)) ifs (b y)) ∧
      (∀ C, ∀ y ∈ xs, b y = true → Ev G (compCx c scope cl C) ((x, y) :: fr.filterMap fun n => (σ.lookup n).map fun z => (n, z)) elt (fun r => r = f y)) ∧ Q .nxt (upd σ y (.lst ((xs.filter b).map f)))))
    (hs : ∀ x, foldedSetIterable iter c.env x = pure x := by intro _; rfl) : Ex1 G c σ (.Assign [.Name y py] (.ListComp elt [⟨.Name x px, iter, ifs, 0⟩] scope pos) spos) Q := by
  intro m ow al s ok S
  have hn : ∀ y ∈ scope.names, y.2 = .local → scope.names.lookup y.1 = some .local := fun y hy e => by
    have := List.all_eq_true.mp K.names y hy
    simpa [e] using this
  have hc : ∀ y ∈ scope.names, y.2 ≠ .cell := fun y hy => by simpa using List.all_eq_true.mp K.cell y hy
  rw [exec_Assign_Name_used _ _ _ _ hsw]
  refine wpAny_bind (wpAny_standAt (wpAny_bind ?_))
  show wpAny _ c.A (do let _ ← comprehension (.ListComp elt [⟨.Name x px, iter, ifs, 0⟩] scope pos) scope c.env _ (newList []) false (eval iter c.env) (some (assign (.Name y py) c.env))) _ _ s
  refine wpAny_bind (wpAny_mono (wpAny_comprehension_free (use := some (assign (.Name y py) c.env)) (Q := fun _ s' => ExPost G c al (ow ++ al) s Q .next s') rfl hs K.clos K.kind hn
    (wpAny_mono (h m ow al s ok S) (fun v s1 hp => ?_) bot_elim)) (fun _ s' hq => wpAny_pure (wpAny_pure hq)) bot_elim)
  obtain ⟨h1, t1, rfl, k1, src, rsrc, xs, hi, hlen, hsim, hfl, ht, he, hQ⟩ := hp
  refine comp_core ok (S.grow (tk := t1) k1) K rsrc hi hlen hsim hfl ht he (fun I fp wr n P St' p F s₂ es k2 hI hwr W hsz hst hfp hq hend => ?_)
  rw [es] at hst hfp hq ⊢
  refine comp_block_walkC (RR := fun acc C => compPost G.M c.A Bot (some (assign (.Name y py) c.env)) _ acc C) W hsz p F hc K.kind K.hx hst hfp hq ?_
  intro D C h' tk m' ys vs hD hC hDC hnC hlD hplD hlv hP hF hk'
  dsimp only at hD hC
  have hkeep : s.heap.StaysIn h' := fun a q e => by
    have e1 := k2 _ _ (k1 _ _ e)
    refine hk' a q (fun hm => ?_) e1
    rw [hwr] at hm
    have : a = I := List.mem_singleton.mp hm
    rw [this, hI] at e
    exact absurd (Heap.lt_size (k1 _ _ e)) (Nat.lt_irrefl _)
  have S' := S.grow (tk := tk) hkeep
  have hDvis : D ∉ c.hid ++ c.L :: (ow ++ al).map (·.1) := fun hm => by
    obtain ⟨q, hq⟩ := S.hsome ok D hm
    rw [k2 _ _ (k1 _ _ hq)] at hD; cases hD
  have hCvis : C ∉ c.hid ++ c.L :: (ow ++ al).map (·.1) := fun hm => by
    obtain ⟨q, hq⟩ := S.hsome ok C hm
    rw [k2 _ _ (k1 _ _ hq)] at hC; cases hC
  have rD : Rep G (Vw c (ow ++ al) h') (.ref D) (.lst ((xs.filter b).map f)) := by
    obtain ⟨o, ho, r⟩ := hlD
    exact .lst ⟨o, mem_vw.mpr ⟨ho, hDvis⟩, r⟩ (hend ys vs hlv hP hF _)
  show wpAny _ c.A (assign (.Name y py) c.env (.ref D)) _ _ _
  refine wpAny_assign_Name (wpAny_storeName_local hk (hl ▸ S'.F.ns) (fun h₂ hn₂ hs₂ => ?_) (by rw [ok.ek]; rfl))
  rw [hl] at hn₂ hs₂
  have hLC : C ≠ c.L := fun e => hCvis (by rw [e]; simp)
  refine ⟨m', hnC.sameBut hs₂ hLC, fun h₃ hs₃ => ?_⟩
  -- what the store leaves, and then the block's names let go
  have hne3 : ∀ a o, s.heap.get? a = some o → a ≠ C := fun a o e hx => by
    have := k2 _ _ (k1 _ _ e)
    rw [hx, hC] at this; cases this
  have oL := S.F.ns
  have k2' := vw_same (c := c) (mu := ow ++ al) (mu' := ow ++ al) (h := h') (h' := h₂) hs₂ (List.mem_append_right _ (.head _)) rfl
  have hDC' : D ≠ C := hDC
  have N' : News c.g0 c.L h₃ (ow ++ al) := fun p hp => by
    have := S'.N p hp
    refine ⟨hs₃.extBut _ _ (hne3 _ _ (S.N p hp).1) ((hs₂.2 p.1 this.2.1).trans this.1), this.2⟩
  have F' : Fr c.g0 c.L h₃ (fun z => if z = y then some (.ref D) else m z) := by
    refine ⟨hn₂.sameBut hs₃ (Ne.symm hLC), fun a o e => ?_, S.F.above⟩
    have hs1 := S.F.keep a o e
    exact hs₃.extBut a o (hne3 _ _ hs1) ((hs₂.2 a (fun q => by
      have := S.F.above
      exact absurd (Nat.lt_of_lt_of_le (Heap.lt_size e) this) (by rw [q]; exact Nat.lt_irrefl _))).trans (hkeep _ _ hs1))
  have hvw : (Vw c (ow ++ al) s.heap).StaysIn (Vw c (ow ++ al) h₃) := fun a o e => by
    have e' := mem_vw.mp e
    exact mem_vw.mpr ⟨hs₃.extBut a o (hne3 _ _ e'.1) ((hs₂.2 a (fun q => e'.2 (by rw [q]; simp))).trans (hkeep _ _ e'.1)), e'.2⟩
  have rD3 : Rep G (Vw c (ow ++ al) h₃) (.ref D) (.lst ((xs.filter b).map f)) := by
    obtain ⟨o, ho, r⟩ := hlD
    exact .lst ⟨o, mem_vw.mpr ⟨hs₃.extBut _ _ hDC' ((hs₂.2 D (fun q => hDvis (by rw [q]; simp))).trans ho), hDvis⟩, r⟩ (hend ys vs hlv hP hF _)
  refine ⟨h₃, _, _, ow, upd σ y (.lst ((xs.filter b).map f)), .nxt, rfl, hvw, ⟨F', N', S.nd, fun z pv e => ?_, S.cells⟩, .nxt, hQ⟩
  rw [lookup_upd] at e
  split at e
  · rename_i hz
    obtain rfl := beq_iff_eq.mp hz
    cases e
    exact ⟨_, .loc hk hl (by simp), .rep rD3⟩
  · rename_i hz
    obtain ⟨u, hu, ru⟩ := S.vars z pv e
    refine ⟨u, ?_, ru.keeps hvw⟩
    have hne : z ≠ y := fun q => hz (by rw [q]; simp)
    cases hu with
    | loc a b d => exact .loc a b (by simp [hne, d])
    | locC a ho hn' d => exact absurd hl (S.N _ (List.mem_append_left _ ho)).2.1
    | cel a b d e => exact .cel a b d e
    | free a b d e f => exact .free a b d e f
end
end Mine
end Part5
section Part6
open PySem PySem.W PySem.Calls
set_option maxRecDepth 100000
set_option autoImplicit false
set_option linter.unusedVariables false
namespace Mine
open PyProof.Rows (Fr News Top IsTup Below envOf envOfC)

section
variable {G : Gl} {c : Cx} {σ : Sg}

theorem seq_nxt {rest : List Stmt} {Q : Fl → Sg → Prop} (h : Ex G c σ rest Q) : seqQ G c rest Q .nxt σ := h
theorem seq_ret {rest : List Stmt} {x : PV} {Q : Fl → Sg → Prop} (h : Q (.ret x) σ) : seqQ G c rest Q (.ret x) σ := h
theorem seq_brk {rest : List Stmt} {Q : Fl → Sg → Prop} (h : Q .brk σ) : seqQ G c rest Q .brk σ := h
theorem body_ret {x : PV} {Q : PV → Prop} (h : Q x) : bodyQ Q (.ret x) σ := h
theorem body_nxt {Q : PV → Prop} (h : Q .none) : bodyQ Q .nxt σ := h
theorem for_nxt {k : Sg → Prop} {Q : Fl → Sg → Prop} (h : k σ) : forStep Q k .nxt σ := h
theorem for_ret {k : Sg → Prop} {Q : Fl → Sg → Prop} {x : PV} (h : Q (.ret x) σ) : forStep Q k (.ret x) σ := h
theorem forL_nil {tgt : Expr} {body : List Stmt} {Q : Fl → Sg → Prop} (h : Q .nxt σ) : ForL G c tgt body Q [] σ := h
theorem forL_cons {y : Str} {p : Pos} {body : List Stmt} {x : PV} {xs : List PV} {Q : Fl → Sg → Prop} (hk : c.env.kindOf y = some .local) (hl : c.env.locals = c.L)
    (h : Ex G c (upd σ y x) body (forStep Q (ForL G c (.Name y p) body Q xs))) : ForL G c (.Name y p) body Q (x :: xs) σ := as_name hk hl h
theorem ite_t {b : Bool} {A B : Prop} (hb : b = true) (h : A) : if b = true then A else B := by rw [if_pos hb]; exact h
theorem ite_f {b : Bool} {A B : Prop} (hb : b = false) (h : B) : if b = true then A else B := by rw [if_neg (by rw [hb]; decide)]; exact h
theorem and_tt {P : Prop} (h : P) : true = true ∧ P := ⟨rfl, h⟩
theorem asAll_cons {y : Str} {p : Pos} {es : List Expr} {x : PV} {xs : List PV} {Q : Sg → Prop} {ts : List (Value → Sem Unit)} (hk : c.env.kindOf y = some .local) (hl : c.env.locals = c.L)
    (h : AsAll G c ts xs Q (upd σ y x)) : AsAll G c (assign (.Name y p) c.env :: ts) (x :: xs) Q σ := as_name hk hl h
theorem asAll_nil {Q : Sg → Prop} (h : Q σ) : AsAll G c [] [] Q σ := h
theorem q_cell {Q : PV → Prop} {a b : Int} (e : a = b) (h : Q (.cell b)) : Q (.cell a) := e ▸ h
theorem q_int {Q : PV → Prop} {a b : Int} (e : a = b) (h : Q (.int b)) : Q (.int a) := e ▸ h
theorem q_bool {Q : PV → Prop} {a b : Bool} (e : a = b) (h : Q (.bool b)) : Q (.bool a) := e ▸ h

/-! a name that is a cell -/
theorem store_cell {m : Str → Option Value} {ow al : Led} {s : Shared} {y : Str} {a : Addr} {v : Value} {x : PV} {Q : Sg → Prop} (hk : c.env.kindOf y = some .cell) (ha : c.env.cells.lookup y = some a) (hinj : ∀ z, c.env.cells.lookup z = some a → z = y)
    (ho : ∃ o v₀, (a, o) ∈ ow ∧ o.data = .cell v₀) (ok : c.Ok G) (S : St G c σ m ow al s)
    (r : Rep G (Vw c (ow ++ al) s.heap) v x) (q : Q (upd σ y x)) : wpAny G.M c.A (storeName c.env y v) (fun _ s' => ∃ ow', ow'.map (·.1) = ow.map (·.1) ∧ (∀ b o, (b, o) ∈ ow → (∃ v₀, o.data = .cell v₀) → ∃ o' v₀, (b, o') ∈ ow' ∧ o'.data = .cell v₀) ∧
      ∃ h' tk, s' = { s with heap := h', toks := tk } ∧ (Vw c (ow ++ al) s.heap).StaysIn (Vw c (ow' ++ al) h') ∧ St G c (upd σ y x) m ow' al s' ∧ Q (upd σ y x)) Bot s := by
  obtain ⟨o, v₀, hao, hd⟩ := ho
  have hN := S.N (a, o) (List.mem_append_left _ hao)
  refine wpAny_storeName_cell ok.ek hk ha ⟨o, hN.1, hd⟩ fun h' hv hs => ?_
  obtain ⟨o', ho', hd'⟩ := hv
  let ow' : Led := ow.map fun p => if p.1 = a then (a, o') else p
  have hmap : ow'.map (·.1) = ow.map (·.1) := by
    simp only [ow', List.map_map]
    refine List.map_congr_left fun p hp => ?_
    show (if p.1 = a then (a, o') else p).1 = p.1
    split
    · rename_i e; exact e.symm
    · rfl
  have hmap2 : (ow' ++ al).map (·.1) = (ow ++ al).map (·.1) := by rw [List.map_append, List.map_append, hmap]
  have mem' : ∀ p ∈ ow', p = (a, o') ∨ (p ∈ ow ∧ p.1 ≠ a) := fun p hp => by
    obtain ⟨q, hq, rfl⟩ := List.mem_map.mp hp
    by_cases e : q.1 = a
    · left; simp [e]
    · right; simp [e, hq]
  have hne : ∀ p ∈ al, p.1 ≠ a := fun p hp e => by
    have nd := S.nd
    rw [List.map_append, List.nodup_append] at nd
    exact nd.2.2 a (List.mem_map.mpr ⟨_, hao, rfl⟩) p.1 (List.mem_map_of_mem hp) e.symm
  have hview := vw_same (c := c) (mu := ow ++ al) (mu' := ow' ++ al) hs (List.mem_append_right _ (.tail _ (List.mem_map.mpr ⟨_, List.mem_append_left _ hao, rfl⟩))) hmap2
  refine ⟨ow', hmap, ?_, h', s.toks, rfl, hview, ?_, q⟩
  · intro b ob hb ⟨w, hw⟩
    by_cases e : b = a
    · exact ⟨o', some v, List.mem_map.mpr ⟨_, hb, by simp [e]⟩, hd'⟩
    · exact ⟨ob, w, List.mem_map.mpr ⟨_, hb, by simp [e]⟩, hw⟩
  · refine ⟨⟨S.F.ns.sameBut hs (Ne.symm hN.2.1), fun b ob e => (hs.2 b (fun q => ?_)).trans (S.F.keep b ob e), S.F.above⟩, fun p hp => ?_, by rw [hmap2]; exact S.nd, fun z pv e => ?_, S.cells.mono fun b ob w hb hw => ?_⟩
    · have h3 := hN.2.2
      rw [← show b = a from q, e] at h3; cases h3
    · rcases List.mem_append.mp hp with hp | hp
      · rcases mem' p hp with rfl | ⟨hp, hpa⟩
        · exact ⟨ho', hN.2⟩
        · have := S.N p (List.mem_append_left _ hp)
          exact ⟨(hs.2 _ hpa).trans this.1, this.2⟩
      · have := S.N p (List.mem_append_right _ hp)
        exact ⟨(hs.2 _ (hne p hp)).trans this.1, this.2⟩
    · rw [lookup_upd] at e
      split at e
      · rename_i hz
        obtain rfl := beq_iff_eq.mp hz
        cases e
        exact ⟨v, .cel hk ha (List.mem_map.mpr ⟨_, hao, by simp⟩) hd', .rep (r.keeps hview)⟩
      · rename_i hz
        obtain ⟨u, hu, ru⟩ := S.vars z pv e
        have hne' : z ≠ y := fun q => hz (by rw [q]; simp)
        have lst : ∀ p ∈ ow, p.2.cls = .type "list" → p.1 ≠ a → p ∈ ow' := fun p hp _ hpa => List.mem_map.mpr ⟨p, hp, by simp [hpa]⟩
        refine ⟨u, ?_, ?_⟩
        · cases hu with
          | loc a1 b1 d1 => exact .loc a1 b1 d1
          | locC a1 b1 d1 e1 =>
            rename_i o1 m1
            refine .locC (o := o1) a1 (List.mem_map.mpr ⟨_, b1, ?_⟩) d1 e1
            have : c.env.locals ≠ a := fun e => by
              have := S.N _ (List.mem_append_left _ b1)
              rw [show (c.env.locals, o1).1 = a from e, hN.1] at this
              obtain ⟨es, ep, hde, _⟩ := d1
              have h1 := this.1
              simp only [Option.some.injEq] at h1
              rw [← h1, hd] at hde; cases hde
            simp [this]
          | cel a1 b1 d1 e1 =>
            rename_i a2 o2
            refine .cel a1 b1 (List.mem_map.mpr ⟨_, d1, ?_⟩) e1
            have : a2 ≠ a := fun e => hne' (hinj z (e ▸ b1))
            simp [this]
          | free a1 b1 d1 e1 f1 =>
            rename_i a2 o2
            refine .free a1 b1 (List.mem_map.mpr ⟨_, d1, ?_⟩) e1 f1
            have : a2 ≠ a := fun e => hne' (hinj z (e ▸ b1))
            simp [this]
        · cases ru with
          | rep r1 => exact .rep (r1.keeps hview)
          | mlst a1 b1 d1 r1 =>
            rename_i a2 o2 vs2 n2 xs2
            refine .mlst (lst _ a1 b1 fun e => ?_) b1 d1 (r1.keeps hview)
            have h2 := (S.N _ (List.mem_append_left _ a1)).1
            rw [show (a2, o2).1 = a from e, hN.1] at h2
            simp only [Option.some.injEq] at h2
            have d2 := d1.2; rw [← h2, hd] at d2; cases d2
    · by_cases e : b = a
      · exact ⟨o', some v, List.mem_map.mpr ⟨_, hb, by simp [e]⟩, hd'⟩
      · exact ⟨ob, w, List.mem_map.mpr ⟨_, hb, by simp [e]⟩, hw⟩

/-- names whose values are as they were -/
theorem St.same {m : Str → Option Value} {ow al : Led} {s : Shared} {σ' : Sg} (S : St G c σ m ow al s) (h : ∀ z pv, σ'.lookup z = some pv → σ.lookup z = some pv) : St G c σ' m ow al s :=
  ⟨S.F, S.N, S.nd, fun x pv e => S.vars x pv (h x pv e), S.cells⟩
/-- if test: y += n, as one way -/
theorem ex_if_add {test : Expr} {y : Str} {p apos cpos pos : Pos} {k : Nat} {n l : Int} {Q : Fl → Sg → Prop} (hx : σ.lookup y = some (.int l)) (hk : c.env.kindOf y = some .local) (hl : c.env.locals = c.L)
    (h : EvT G c σ test (fun b => Q .nxt (upd σ y (.int (l + if b = true then n else 0))))) : Ex1 G c σ (.If test [.AugAssign (.Name y p) .Add (.Constant (.int n) k cpos) apos] [] pos) Q := by
  refine ex_if ?_
  intro m ow al s ok S
  refine wpAny_mono (h m ow al s ok S) (fun b s1 hp => ?_) bot_elim
  obtain ⟨h1, t1, rfl, k1, q1⟩ := hp
  refine ⟨h1, t1, rfl, k1, ?_⟩
  cases b with
  | true => exact ex_cons (ex_aug hx rfl (ev_int (iop_add (ex_nil q1))) hk hl)
  | false =>
    simp only [Bool.false_eq_true, if_false, Int.add_zero] at q1 ⊢
    intro m ow al s ok S
    have S' := S.same (σ' := upd σ y (.int l)) (fun z pv e => by
      rw [lookup_upd] at e
      split at e
      · rename_i hz
        rw [beq_iff_eq.mp hz, hx]; exact e
      · exact e)
    exact wpAny_execs_nil ⟨s.heap, s.toks, m, ow, _, .nxt, rfl, stays_refl _, S', .nxt, q1⟩

theorem shl_fits {a n : Int} (ha : a.natAbs < 2 ^ 100) (h0 : 0 ≤ n) (hn : n ≤ 1000) : (Builtin.Int.intBits a : Int) + n ≤ 2 ^ 27 := by
  have : Builtin.Int.intBits a ≤ 101 := by
    unfold Builtin.Int.intBits
    split
    · omega
    · have h0 : a.natAbs ≠ 0 := by rename_i q; intro e; apply q; simp at e; simp [e]
      have := (Nat.log2_lt h0).mpr ha
      omega
  omega
theorem mul_ok_l {a b : Int} (ha : a.natAbs < 2 ^ 64) : IntMulOk a b := IntMulOk.of_left (by
  unfold Builtin.Int.intBits
  split
  · omega
  · have h0 : a.natAbs ≠ 0 := by rename_i q; intro e; apply q; simp at e; simp [e]
    have := (Nat.log2_lt h0).mpr ha
    omega)
theorem mul_ok_r {a b : Int} (ha : b.natAbs < 2 ^ 64) : IntMulOk a b := IntMulOk.of_right (by
  unfold Builtin.Int.intBits
  split
  · omega
  · have h0 : b.natAbs ≠ 0 := by rename_i q; intro e; apply q; simp at e; simp [e]
    have := (Nat.log2_lt h0).mpr ha
    omega)
end
end Mine
end Part6
section Part7
open PySem
set_option maxRecDepth 100000
set_option autoImplicit false
set_option linter.unusedVariables false
namespace Mine
open Builtin (bitAnd bitOr bitXor bitNot)

theorem and_nat (a b : Nat) : bitAnd (a : Int) (b : Int) = ((a &&& b : Nat) : Int) := by
  unfold bitAnd
  have h1 : decide ((0 : Int) ≤ a) = true := decide_eq_true (by omega)
  have h2 : decide ((0 : Int) ≤ b) = true := decide_eq_true (by omega)
  rw [h1, h2]
  simp
theorem and_negNat (a b : Nat) (hb : 0 < b) : bitAnd (a : Int) (-(b : Int)) = (a : Int) - ((a &&& (b - 1) : Nat) : Int) := by
  unfold bitAnd
  have h1 : decide ((0 : Int) ≤ a) = true := decide_eq_true (by omega)
  have h2 : decide ((0 : Int) ≤ -(b : Int)) = false := decide_eq_false (by omega)
  rw [h1, h2]
  have : bitNot (-(b : Int)) = ((b - 1 : Nat) : Int) := by unfold bitNot; omega
  simp [this]
theorem or_nat (a b : Nat) : bitOr (a : Int) (b : Int) = ((a ||| b : Nat) : Int) := by
  have e : ∀ x : Nat, bitNot (x : Int) = -(x : Int) - 1 := fun _ => rfl
  have e2 : ∀ x : Nat, bitNot (-(x : Int) - 1) = (x : Int) := fun x => by unfold bitNot; omega
  unfold bitOr
  rw [e, e]
  unfold bitAnd
  have h1 : decide ((0 : Int) ≤ -(a : Int) - 1) = false := decide_eq_false (by omega)
  have h2 : decide ((0 : Int) ≤ -(b : Int) - 1) = false := decide_eq_false (by omega)
  rw [h1, h2]
  simp only [e2, Int.toNat_natCast]
  rw [e, e2]
theorem or_eq_xor_add_and : ∀ (a b : Nat), (a ||| b) = (a ^^^ b) + (a &&& b) := by
  intro a
  induction a using Nat.strongRecOn with
  | ind a ih =>
    intro b
    by_cases ha : a = 0
    · subst ha; simp
    · have h := ih (a / 2) (by omega) (b / 2)
      have o2 := Nat.or_div_two (a := a) (b := b)
      have x2 := Nat.xor_div_two (a := a) (b := b)
      have a2 := Nat.and_div_two (a := a) (b := b)
      have om := Nat.or_mod_two_eq_one (a := a) (b := b)
      have xm := Nat.xor_mod_two_eq_one (a := a) (b := b)
      have am := Nat.and_mod_two_eq_one (a := a) (b := b)
      rw [← o2, ← x2, ← a2] at h
      have q1 := Nat.div_add_mod (a ||| b) 2
      have q2 := Nat.div_add_mod (a ^^^ b) 2
      have q3 := Nat.div_add_mod (a &&& b) 2
      have key : (a ||| b) % 2 = (a ^^^ b) % 2 + (a &&& b) % 2 := by
        by_cases u : a % 2 = 1 <;> by_cases v : b % 2 = 1 <;> simp only [u, v, true_or, or_true, or_self, and_self, and_true, true_and, iff_true, iff_false, true_iff, false_iff, not_true, not_false_iff, iff_self, and_false, false_and] at om xm am <;> omega
      omega
theorem xor_nat (a b : Nat) : bitXor (a : Int) (b : Int) = ((a ^^^ b : Nat) : Int) := by
  unfold bitXor
  rw [or_nat, and_nat, or_eq_xor_add_and]
  omega
theorem fdiv_nat (a b : Nat) : (a : Int).fdiv (b : Int) = ((a / b : Nat) : Int) := by
  rw [Int.fdiv_eq_ediv_of_nonneg _ (by omega)]; rfl
theorem fmod_nat (a b : Nat) : (a : Int).fmod (b : Int) = ((a % b : Nat) : Int) := by
  rw [Int.fmod_eq_emod_of_nonneg _ (by omega)]; rfl
theorem land_mask (n j : Nat) : n &&& (2 ^ j - 1) = n % 2 ^ j := Nat.and_two_pow_sub_one_eq_mod n j
theorem and_neg_pow (n j : Nat) : bitAnd (n : Int) (-((2 ^ j : Nat) : Int)) = ((n / 2 ^ j * 2 ^ j : Nat) : Int) := by
  rw [and_negNat _ _ (Nat.pow_pos (by decide)), land_mask]
  have := Nat.div_add_mod n (2 ^ j)
  have h : n / 2 ^ j * 2 ^ j = n - n % 2 ^ j := by rw [Nat.mul_comm]; omega
  rw [h]
  have := Nat.mod_le n (2 ^ j)
  omega
theorem or_one (a : Nat) : a ||| 1 = 2 * (a / 2) + 1 := by
  have o2 := Nat.or_div_two (a := a) (b := 1)
  have om := Nat.or_mod_two_eq_one (a := a) (b := 1)
  have q1 := Nat.div_add_mod (a ||| 1) 2
  have om' : (a ||| 1) % 2 = 1 := om.mpr (.inr rfl)
  rw [show (1 : Nat) / 2 = 0 from rfl, Nat.or_zero] at o2
  omega
theorem or_pow (a j : Nat) : (a * 2 ^ j) ||| 2 ^ j = (2 * (a / 2) + 1) * 2 ^ j := by
  have h1 : (2 : Nat) ^ j = 1 * 2 ^ j := by omega
  have h2 : (a * 2 ^ j) ||| (1 * 2 ^ j) = (a ||| 1) * 2 ^ j := by
    rw [← Nat.shiftLeft_eq, ← Nat.shiftLeft_eq, ← Nat.shiftLeft_eq, Nat.shiftLeft_or_distrib]
  rw [← h1] at h2
  rw [h2, or_one]

/-! cells: the p-th one of level L on the whole curve -/
def gidN (L p : Nat) : Nat := (2 * p + 1) * 2 ^ (60 - 2 * L)
def gid (L p : Nat) : Int := (gidN L p : Nat)

theorem gid_pos (L p : Nat) : 0 < gidN L p := Nat.mul_pos (by omega) (Nat.pow_pos (by decide))
theorem pow_split {a b c : Nat} (h : c = a + b) : 2 ^ c = 2 ^ a * 2 ^ b := by rw [h, Nat.pow_add]
theorem gid_lt {L p : Nat} (hL : L ≤ 30) (hp : p < 6 * 2 ^ (2 * L)) : gidN L p < 6 * 2 ^ 61 := by
  unfold gidN
  have e : (2 : Nat) ^ 61 = 2 * (2 ^ (2 * L) * 2 ^ (60 - 2 * L)) := by
    rw [← Nat.pow_add, show 2 * L + (60 - 2 * L) = 60 by omega]
  have h : (2 * p + 1) * 2 ^ (60 - 2 * L) < (2 * (6 * 2 ^ (2 * L))) * 2 ^ (60 - 2 * L) := Nat.mul_lt_mul_of_pos_right (by omega) (Nat.pow_pos (by decide))
  rw [e]
  have : (2 * (6 * 2 ^ (2 * L))) * 2 ^ (60 - 2 * L) = 6 * (2 * (2 ^ (2 * L) * 2 ^ (60 - 2 * L))) := by
    simp only [Nat.mul_assoc, Nat.mul_left_comm]
  omega
theorem odd_and (p : Nat) : (2 * p + 1) &&& (2 * p) = 2 * p := by
  have a2 := Nat.and_div_two (a := 2 * p + 1) (b := 2 * p)
  have am := Nat.and_mod_two_eq_one (a := 2 * p + 1) (b := 2 * p)
  rw [show (2 * p + 1) / 2 = p by omega, show 2 * p / 2 = p by omega, Nat.and_self] at a2
  have q := Nat.div_add_mod ((2 * p + 1) &&& (2 * p)) 2
  have : ¬ ((2 * p + 1) &&& (2 * p)) % 2 = 1 := fun h => by
    have := (am.mp h).2; omega
  omega
theorem lsb_nat (p k : Nat) : ((2 * p + 1) * 2 ^ k) &&& ((2 * p + 1) * 2 ^ k - 1) = 2 * p * 2 ^ k := by
  have hk : 0 < 2 ^ k := Nat.pow_pos (by decide)
  have h1 : (2 * p + 1) * 2 ^ k - 1 = 2 ^ k * (2 * p) + (2 ^ k - 1) := by
    rw [Nat.add_mul, Nat.one_mul, Nat.mul_comm (2 * p)]; omega
  have hd := Nat.and_div_two_pow (a := (2 * p + 1) * 2 ^ k) (b := (2 * p + 1) * 2 ^ k - 1) (n := k)
  have hm := Nat.and_mod_two_pow (a := (2 * p + 1) * 2 ^ k) (b := (2 * p + 1) * 2 ^ k - 1) (n := k)
  rw [Nat.mul_div_cancel _ hk] at hd
  rw [h1] at hd hm ⊢
  rw [Nat.mul_add_div hk, Nat.div_eq_of_lt (by omega : 2 ^ k - 1 < 2 ^ k), show (2 * p + 0 : Nat) = 2 * p from rfl, odd_and] at hd
  rw [Nat.mul_mod_left, Nat.zero_and] at hm
  have q := Nat.div_add_mod ((2 * p + 1) * 2 ^ k &&& (2 ^ k * (2 * p) + (2 ^ k - 1))) (2 ^ k)
  rw [hd, hm] at q
  rw [← q, Nat.add_zero, Nat.mul_comm]
theorem gid_lsb (L p : Nat) : bitAnd (gid L p) (-(gid L p)) = ((2 ^ (60 - 2 * L) : Nat) : Int) := by
  unfold gid
  rw [and_negNat _ _ (gid_pos L p)]
  unfold gidN
  rw [lsb_nat]
  have : (2 * p + 1) * 2 ^ (60 - 2 * L) = 2 * p * 2 ^ (60 - 2 * L) + 2 ^ (60 - 2 * L) := by rw [Nat.add_mul, Nat.one_mul]
  omega
theorem gid_div (L p j : Nat) (h : 60 - 2 * L ≤ j) : gidN L p / 2 ^ (j + 1) = p / 2 ^ (j - (60 - 2 * L)) := by
  unfold gidN
  rw [show j + 1 = (60 - 2 * L) + (1 + (j - (60 - 2 * L))) by omega, Nat.pow_add, ← Nat.div_div_eq_div_mul, Nat.mul_div_cancel _ (Nat.pow_pos (by decide)), Nat.pow_add, ← Nat.div_div_eq_div_mul]
  congr 1
  omega
theorem gid_face {L p : Nat} (hL : L ≤ 30) : gidN L p / 2 ^ 61 = p / 2 ^ (2 * L) := by
  have := gid_div L p 60 (by omega)
  rw [this]; congr 2; omega
theorem gid_odd {L p : Nat} (hL : L ≤ 30) : gidN L p % 2 = if L = 30 then 1 else 0 := by
  unfold gidN
  split
  · subst L; simp only [Nat.mul_comm]; omega
  · rw [show 60 - 2 * L = (59 - 2 * L) + 1 by omega, Nat.pow_succ, ← Nat.mul_assoc]; omega
theorem gid_parent {L l p : Nat} (hl : l ≤ L) (hL : L ≤ 30) : ((gidN L p / 2 ^ (60 - 2 * l)) * 2 ^ (60 - 2 * l)) ||| 2 ^ (60 - 2 * l) = gidN l (p / 2 ^ (2 * (L - l))) := by
  rw [or_pow, Nat.div_div_eq_div_mul, ← Nat.pow_succ, gid_div _ _ _ (by omega)]
  unfold gidN
  congr 5; omega
theorem parent_int {L l p : Nat} (hl : l ≤ L) (hL : L ≤ 30) : bitOr (bitAnd (gid L p) (-((2 ^ (60 - 2 * l) : Nat) : Int))) ((2 ^ (60 - 2 * l) : Nat) : Int) = gid l (p / 2 ^ (2 * (L - l))) := by
  unfold gid
  rw [and_neg_pow, or_nat, gid_parent hl hL]
theorem gid_mod {L p : Nat} (hL : L ≤ 30) (hp : p < 6 * 2 ^ (2 * L)) : (gid L p).fmod 18446744073709551615 = gid L p := by
  unfold gid
  rw [show (18446744073709551615 : Int) = ((18446744073709551615 : Nat) : Int) from rfl, fmod_nat, Nat.mod_eq_of_lt]
  have := gid_lt hL hp
  omega
theorem valid_mask {L : Nat} (hL : L ≤ 30) : bitAnd ((2 ^ (60 - 2 * L) : Nat) : Int) 1537228672809129301 ≠ 0 := by
  rw [show (1537228672809129301 : Int) = ((1537228672809129301 : Nat) : Int) from rfl, and_nat]
  have : ∀ L : Fin 31, 2 ^ (60 - 2 * L.val) &&& 1537228672809129301 ≠ 0 := by decide +kernel
  have := this ⟨L, by omega⟩
  simpa using this
end Mine
end Part7
section Part8
open PySem
set_option maxRecDepth 100000
set_option autoImplicit false
set_option linter.unusedVariables false
namespace Mine
open Builtin (bitAnd bitOr bitXor bitNot)

theorem face_int {L p : Nat} (hL : L ≤ 30) : (gid L p).fdiv (2 ^ Int.toNat 61) = ((p / 2 ^ (2 * L) : Nat) : Int) := by
  rw [← gid_face hL]; exact fdiv_nat _ _
theorem leaf_bool {L p : Nat} (hL : L ≤ 30) : (bitAnd (gid L p) 1 != 0) = decide (L = 30) := by
  have e : bitAnd (gid L p) 1 = ((gidN L p % 2 : Nat) : Int) := by
    rw [show (1 : Int) = ((1 : Nat) : Int) from rfl, gid, and_nat, Nat.and_one_is_mod]
  rw [e, gid_odd hL]
  by_cases q : L = 30 <;> simp [q]
theorem face_lt {L p : Nat} (hp : p < 6 * 2 ^ (2 * L)) : ((p / 2 ^ (2 * L) : Nat) : Int) < 6 := by
  have : p / 2 ^ (2 * L) < 6 := (Nat.div_lt_iff_lt_mul (Nat.pow_pos (by decide))).mpr hp
  omega
theorem gid_le {L p : Nat} (hL : L ≤ 30) (hp : p ≤ 6 * 2 ^ (2 * L)) : gidN L p ≤ 6 * 2 ^ 61 + 2 ^ 60 := by
  unfold gidN
  have e : (2 : Nat) ^ 60 = 2 ^ (2 * L) * 2 ^ (60 - 2 * L) := by
    rw [← Nat.pow_add, show 2 * L + (60 - 2 * L) = 60 by omega]
  have h : (2 * p + 1) * 2 ^ (60 - 2 * L) ≤ (2 * (6 * 2 ^ (2 * L)) + 1) * 2 ^ (60 - 2 * L) := Nat.mul_le_mul_right _ (by omega)
  have h2 : (2 * (6 * 2 ^ (2 * L)) + 1) * 2 ^ (60 - 2 * L) = 12 * (2 ^ (2 * L) * 2 ^ (60 - 2 * L)) + 2 ^ (60 - 2 * L) := by
    generalize (2 : Nat) ^ (60 - 2 * L) = z
    generalize (2 : Nat) ^ (2 * L) = y
    grind
  have h3 : 2 ^ (60 - 2 * L) ≤ 2 ^ 60 := Nat.pow_le_pow_right (by decide) (by omega)
  rw [← e] at h2
  omega
theorem gid_mod' {L p : Nat} (hL : L ≤ 30) (hp : p ≤ 6 * 2 ^ (2 * L)) : (gid L p).fmod 18446744073709551615 = gid L p := by
  unfold gid
  rw [show (18446744073709551615 : Int) = ((18446744073709551615 : Nat) : Int) from rfl, fmod_nat, Nat.mod_eq_of_lt]
  have := gid_le hL hp
  omega

/-! the level -/
theorem low_mask (n : Nat) : bitAnd (n : Int) 4294967295 = ((n % 2 ^ 32 : Nat) : Int) := by
  rw [show (4294967295 : Int) = ((2 ^ 32 - 1 : Nat) : Int) from rfl, and_nat, land_mask]
theorem odd_mod (p k : Nat) (hk : k < 32) : ((2 * p + 1) * 2 ^ k) % 2 ^ 32 = (2 * (p % 2 ^ (31 - k)) + 1) * 2 ^ k := by
  rw [show (2 : Nat) ^ 32 = 2 ^ (32 - k) * 2 ^ k by rw [← Nat.pow_add]; congr 1; omega, Nat.mul_mod_mul_right]
  congr 1
  rw [show 32 - k = (31 - k) + 1 by omega, Nat.pow_succ, Nat.mul_comm (2 ^ (31 - k)) 2, Nat.add_mod, Nat.mul_mod_mul_left]
  have h1 : p % 2 ^ (31 - k) < 2 ^ (31 - k) := Nat.mod_lt _ (Nat.pow_pos (by decide))
  have h2 : 1 % (2 * 2 ^ (31 - k)) = 1 := Nat.mod_eq_of_lt (by omega)
  rw [h2, Nat.mod_eq_of_lt (by omega)]
theorem and_neg_odd (q k : Nat) : bitAnd (((2 * q + 1) * 2 ^ k : Nat) : Int) (-(((2 * q + 1) * 2 ^ k : Nat) : Int)) = ((2 ^ k : Nat) : Int) := by
  rw [and_negNat _ _ (Nat.mul_pos (by omega) (Nat.pow_pos (by decide))), lsb_nat]
  have : (2 * q + 1) * 2 ^ k = 2 * q * 2 ^ k + 2 ^ k := by rw [Nat.add_mul, Nat.one_mul]
  omega
/-- the low half of an id -/
theorem low_ne {L p : Nat} (h : 15 ≤ L) (hL : L ≤ 30) : bitAnd (gid L p) 4294967295 ≠ 0 ∧ bitAnd (bitAnd (gid L p) 4294967295) (-(bitAnd (gid L p) 4294967295)) = ((2 ^ (60 - 2 * L) : Nat) : Int) := by
  have e : bitAnd (gid L p) 4294967295 = (((2 * (p % 2 ^ (31 - (60 - 2 * L))) + 1) * 2 ^ (60 - 2 * L) : Nat) : Int) := by
    rw [gid, low_mask, gidN, odd_mod _ _ (by omega)]
  rw [e]
  refine ⟨?_, and_neg_odd _ _⟩
  have := Nat.mul_pos (show 0 < 2 * (p % 2 ^ (31 - (60 - 2 * L))) + 1 by omega) (Nat.pow_pos (n := 60 - 2 * L) (show 0 < 2 by decide))
  omega
theorem low_zero {L p : Nat} (h : L < 15) : bitAnd (gid L p) 4294967295 = 0 := by
  rw [gid, low_mask, gidN]
  have : (2 * p + 1) * 2 ^ (60 - 2 * L) % 2 ^ 32 = 0 := by
    rw [show 60 - 2 * L = (28 - 2 * L) + 32 by omega, Nat.pow_add, ← Nat.mul_assoc, Nat.mul_mod_left]
  rw [this]; rfl
theorem high_lsb {L p : Nat} (h : L < 15) : bitAnd (bitAnd ((gid L p).fdiv (2 ^ Int.toNat 32)) 4294967295) (-(bitAnd ((gid L p).fdiv (2 ^ Int.toNat 32)) 4294967295)) = ((2 ^ (28 - 2 * L) : Nat) : Int) := by
  have e0 : (gid L p).fdiv (2 ^ Int.toNat 32) = (((2 * p + 1) * 2 ^ (28 - 2 * L) : Nat) : Int) := by
    have : (gid L p).fdiv (2 ^ Int.toNat 32) = ((gidN L p / 2 ^ 32 : Nat) : Int) := fdiv_nat _ _
    rw [this, gidN, show 60 - 2 * L = (28 - 2 * L) + 32 by omega, Nat.pow_add, ← Nat.mul_assoc, Nat.mul_div_cancel _ (by decide)]
  have e : bitAnd ((gid L p).fdiv (2 ^ Int.toNat 32)) 4294967295 = (((2 * (p % 2 ^ (31 - (28 - 2 * L))) + 1) * 2 ^ (28 - 2 * L) : Nat) : Int) := by
    rw [e0, low_mask, odd_mod _ _ (by omega)]
  rw [e]
  exact and_neg_odd _ _
def levSum (X l0 : Int) : Int :=
  l0 + (if (bitAnd X 21845 != 0) = true then 8 else 0) + (if (bitAnd X 5570645 != 0) = true then 4 else 0) + (if (bitAnd X 84215045 != 0) = true then 2 else 0) + (if (bitAnd X 286331153 != 0) = true then 1 else 0)
theorem lev_low {L : Nat} (h : 15 ≤ L) (hL : L < 30) : levSum ((2 ^ (60 - 2 * L) : Nat) : Int) (-1 + 16) = (L : Int) := by
  have : ∀ i : Fin 15, levSum ((2 ^ (60 - 2 * (15 + i.val)) : Nat) : Int) (-1 + 16) = ((15 + i.val : Nat) : Int) := by decide +kernel
  have := this ⟨L - 15, by omega⟩
  rw [show 15 + (⟨L - 15, by omega⟩ : Fin 15).val = L by show 15 + (L - 15) = L; omega] at this
  exact this
theorem lev_high {L : Nat} (h : L < 15) : levSum ((2 ^ (28 - 2 * L) : Nat) : Int) (-1) = (L : Int) := by
  have : ∀ i : Fin 15, levSum ((2 ^ (28 - 2 * i.val) : Nat) : Int) (-1) = ((i.val : Nat) : Int) := by decide +kernel
  exact this ⟨L, h⟩

theorem lsb_small {L : Nat} : (((2 ^ (60 - 2 * L) : Nat) : Int).fdiv (2 ^ Int.toNat 2)).natAbs < 2 ^ 64 := by
  have : ((2 ^ (60 - 2 * L) : Nat) : Int).fdiv (2 ^ Int.toNat 2) = ((2 ^ (60 - 2 * L) / 2 ^ 2 : Nat) : Int) := fdiv_nat _ _
  rw [this, Int.natAbs_natCast]
  have h3 : 2 ^ (60 - 2 * L) ≤ 2 ^ 60 := Nat.pow_le_pow_right (by decide) (by omega)
  have := Nat.div_le_self (2 ^ (60 - 2 * L)) (2 ^ 2)
  omega
/-! steps, children, ends -/
theorem lsbl_int {l : Nat} (hl : l ≤ 30) : (1 : Int) * 2 ^ (2 * (30 - (l : Int))).toNat = ((2 ^ (60 - 2 * l) : Nat) : Int) := by
  rw [show (2 * (30 - (l : Int))).toNat = 60 - 2 * l by omega]; simp
theorem child_int {L p r : Nat} (hL : L < 30) : gid L p + (2 * (r : Int) + 1 - 4) * (((2 ^ (60 - 2 * L) : Nat) : Int).fdiv (2 ^ Int.toNat 2)) = gid (L + 1) (4 * p + r) := by
  have e1 : ((2 ^ (60 - 2 * L) : Nat) : Int).fdiv (2 ^ Int.toNat 2) = ((2 ^ (58 - 2 * L) : Nat) : Int) := by
    have : ((2 ^ (60 - 2 * L) : Nat) : Int).fdiv (2 ^ Int.toNat 2) = ((2 ^ (60 - 2 * L) / 2 ^ 2 : Nat) : Int) := fdiv_nat _ _
    rw [this, show 60 - 2 * L = (58 - 2 * L) + 2 by omega, Nat.pow_add, Nat.mul_div_cancel _ (by decide)]
  rw [e1, gid, gid, gidN, gidN, show 60 - 2 * (L + 1) = 58 - 2 * L by omega, show 60 - 2 * L = (58 - 2 * L) + 2 by omega, Nat.pow_add]
  generalize (2 : Nat) ^ (58 - 2 * L) = z
  push_cast
  grind
theorem begin_int {L l p : Nat} (h : L ≤ l) (hl : l ≤ 30) : gid L p - ((2 ^ (60 - 2 * L) : Nat) : Int) + ((2 ^ (60 - 2 * l) : Nat) : Int) = gid l (p * 2 ^ (2 * (l - L))) := by
  rw [gid, gid, gidN, gidN]
  have e : (2 : Nat) ^ (60 - 2 * L) = 2 ^ (2 * (l - L)) * 2 ^ (60 - 2 * l) := by rw [← Nat.pow_add]; congr 1; omega
  rw [e]
  generalize (2 : Nat) ^ (60 - 2 * l) = z
  generalize (2 : Nat) ^ (2 * (l - L)) = y
  have : (2 * p + 1) * (y * z) = 2 * (p * y) * z + y * z := by rw [Nat.add_mul, Nat.one_mul]; congr 1; rw [← Nat.mul_assoc, Nat.mul_assoc 2]
  rw [this, Nat.add_mul (2 * (p * y)) 1 z, Nat.one_mul]
  omega
theorem end_int {L l p : Nat} (h : L ≤ l) (hl : l ≤ 30) : gid L p + ((2 ^ (60 - 2 * L) : Nat) : Int) + ((2 ^ (60 - 2 * l) : Nat) : Int) = gid l ((p + 1) * 2 ^ (2 * (l - L))) := by
  rw [gid, gid, gidN, gidN]
  have e : (2 : Nat) ^ (60 - 2 * L) = 2 ^ (2 * (l - L)) * 2 ^ (60 - 2 * l) := by rw [← Nat.pow_add]; congr 1; omega
  rw [e]
  generalize (2 : Nat) ^ (60 - 2 * l) = z
  generalize (2 : Nat) ^ (2 * (l - L)) = y
  have : (2 * p + 1) * (y * z) = 2 * (p * y) * z + y * z := by rw [Nat.add_mul, Nat.one_mul]; congr 1; rw [← Nat.mul_assoc, Nat.mul_assoc 2]
  have h2 : (2 * ((p + 1) * y) + 1) * z = 2 * (p * y) * z + 2 * (y * z) + z := by
    rw [Nat.add_mul, Nat.one_mul, Nat.add_mul p 1 y, Nat.one_mul, Nat.mul_add, Nat.add_mul, Nat.mul_assoc 2 y z]
  rw [this, h2]
  omega
theorem shr_pos {L p : Nat} (hL : L ≤ 30) : (gid L p).fdiv (2 ^ (2 * (30 - (L : Int)) + 1).toNat) = (p : Int) := by
  rw [show (2 * (30 - (L : Int)) + 1).toNat = (60 - 2 * L) + 1 by omega]
  have : (gid L p).fdiv (2 ^ ((60 - 2 * L) + 1)) = ((gidN L p / 2 ^ ((60 - 2 * L) + 1) : Nat) : Int) := by
    rw [gid, ← fdiv_nat]; congr 1
  rw [this, gid_div _ _ _ (Nat.le_refl _), Nat.sub_self, Nat.pow_zero, Nat.div_one]
theorem step_int {L p q : Nat} {n : Int} (hL : L ≤ 30) (e : (q : Int) = p + n) : gid L p + n * 2 ^ (2 * (30 - (L : Int)) + 1).toNat = gid L q := by
  rw [show (2 * (30 - (L : Int)) + 1).toNat = (60 - 2 * L) + 1 by omega, gid, gid, gidN, gidN, Int.pow_succ]
  push_cast
  generalize (2 : Int) ^ (60 - 2 * L) = z
  rw [e]
  grind
/-- how many steps there are ahead -/
theorem max_steps {L p : Nat} (hL : L ≤ 30) (hp : p ≤ 6 * 2 ^ (2 * L)) : (13835058055282163712 + ((2 ^ (60 - 2 * L) : Nat) : Int) - gid L p).fdiv (2 ^ (2 * (30 - (L : Int)) + 1).toNat) = ((6 * 2 ^ (2 * L) - p : Nat) : Int) := by
  have e : (13835058055282163712 + ((2 ^ (60 - 2 * L) : Nat) : Int) - gid L p) = (((6 * 2 ^ (2 * L) - p) * 2 ^ ((60 - 2 * L) + 1) : Nat) : Int) := by
    have e60 : (2 : Nat) ^ 60 = 2 ^ (2 * L) * 2 ^ (60 - 2 * L) := by
      rw [← Nat.pow_add, show 2 * L + (60 - 2 * L) = 60 by omega]
    rw [gid, gidN, Nat.pow_succ, show (13835058055282163712 : Int) = ((12 * 2 ^ 60 : Nat) : Int) from rfl, e60]
    generalize (2 : Nat) ^ (60 - 2 * L) = z
    generalize hy : (2 : Nat) ^ (2 * L) = y at *
    have : (6 * y - p) * (z * 2) = 12 * (y * z) - 2 * p * z := by
      rw [Nat.sub_mul]
      congr 1 <;> grind
    have hle : 2 * p * z ≤ 12 * (y * z) := by
      rw [← Nat.mul_assoc]; exact Nat.mul_le_mul_right _ (by omega)
    rw [this, Nat.add_mul, Nat.one_mul]
    omega
  rw [e, show (2 * (30 - (L : Int)) + 1).toNat = (60 - 2 * L) + 1 by omega]
  have : (((6 * 2 ^ (2 * L) - p) * 2 ^ ((60 - 2 * L) + 1) : Nat) : Int).fdiv (2 ^ ((60 - 2 * L) + 1)) = ((((6 * 2 ^ (2 * L) - p) * 2 ^ ((60 - 2 * L) + 1)) / 2 ^ ((60 - 2 * L) + 1) : Nat) : Int) := by
    rw [← fdiv_nat]; congr 1
  rw [this, Nat.mul_div_cancel _ (Nat.pow_pos (by decide))]
theorem begin_le {L l p : Nat} (h : L ≤ l) (hp : p ≤ 6 * 2 ^ (2 * L)) : p * 2 ^ (2 * (l - L)) ≤ 6 * 2 ^ (2 * l) := by
  have e : (2 : Nat) ^ (2 * l) = 2 ^ (2 * L) * 2 ^ (2 * (l - L)) := by rw [← Nat.pow_add]; congr 1; omega
  rw [e, ← Nat.mul_assoc]; exact Nat.mul_le_mul_right _ hp
theorem parent_lt {L l p : Nat} (h : l ≤ L) (hp : p < 6 * 2 ^ (2 * L)) : p / 2 ^ (2 * (L - l)) < 6 * 2 ^ (2 * l) := by
  have e : (2 : Nat) ^ (2 * L) = 2 ^ (2 * l) * 2 ^ (2 * (L - l)) := by rw [← Nat.pow_add]; congr 1; omega
  rw [Nat.div_lt_iff_lt_mul (Nat.pow_pos (by decide)), Nat.mul_assoc, ← e]; exact hp
/-- the leaf that from_face_pos_level makes first -/
theorem fpl_int {f P L : Nat} (hL : L ≤ 30) : (f : Int) * 2 ^ Int.toNat 61 + bitOr ((P * 2 ^ (61 - 2 * L) : Nat) : Int) 1 = gid 30 (f * 2 ^ 60 + P * 2 ^ (60 - 2 * L)) := by
  have e1 : bitOr ((P * 2 ^ (61 - 2 * L) : Nat) : Int) 1 = ((P * 2 ^ (61 - 2 * L) + 1 : Nat) : Int) := by
    rw [show (1 : Int) = ((1 : Nat) : Int) from rfl, or_nat, or_one, show 61 - 2 * L = (60 - 2 * L) + 1 by omega, Nat.pow_succ]
    generalize (2 : Nat) ^ (60 - 2 * L) = z
    congr 2
    rw [← Nat.mul_assoc, Nat.mul_div_cancel _ (by decide)]; grind
  rw [e1, gid, gidN, show 60 - 2 * 30 = 0 from rfl, show 61 - 2 * L = (60 - 2 * L) + 1 by omega, Nat.pow_succ]
  generalize (2 : Nat) ^ (60 - 2 * L) = z
  have : (f : Int) * 2 ^ Int.toNat 61 = ((2 * (f * 2 ^ 60) : Nat) : Int) := by
    rw [show (2 : Int) ^ Int.toNat 61 = 2305843009213693952 from rfl, show (2 : Nat) ^ 60 = 1152921504606846976 from rfl]; omega
  rw [this, show (2 : Nat) ^ 60 = 1152921504606846976 from rfl, show P * (z * 2) = 2 * (P * z) by grind]
  omega
theorem fpl_parent {f P L : Nat} (hL : L ≤ 30) : (f * 2 ^ 60 + P * 2 ^ (60 - 2 * L)) / 2 ^ (2 * (30 - L)) = f * 2 ^ (2 * L) + P := by
  rw [show 2 * (30 - L) = 60 - 2 * L by omega]
  have e : (2 : Nat) ^ 60 = 2 ^ (2 * L) * 2 ^ (60 - 2 * L) := by
    rw [← Nat.pow_add, show 2 * L + (60 - 2 * L) = 60 by omega]
  rw [e, ← Nat.mul_assoc, ← Nat.add_mul, Nat.mul_div_cancel _ (Nat.pow_pos (by decide))]
theorem fpl_lt {f P L : Nat} (hL : L ≤ 30) (hf : f < 6) (hP : P < 2 ^ (2 * L)) : f * 2 ^ 60 + P * 2 ^ (60 - 2 * L) < 6 * 2 ^ (2 * 30) := by
  have e : (2 : Nat) ^ 60 = 2 ^ (2 * L) * 2 ^ (60 - 2 * L) := by
    rw [← Nat.pow_add, show 2 * L + (60 - 2 * L) = 60 by omega]
  have : P * 2 ^ (60 - 2 * L) < 2 ^ (2 * L) * 2 ^ (60 - 2 * L) := Nat.mul_lt_mul_of_pos_right hP (Nat.pow_pos (by decide))
  rw [← e] at this
  show f * 2 ^ 60 + P * 2 ^ (60 - 2 * L) < 6 * 2 ^ 60
  omega
end Mine
end Part8
section Part9
set_option maxRecDepth 100000
set_option autoImplicit false
set_option linter.unusedVariables false
namespace Mine
def pij (o d : Nat) : Nat := (([[0, 1, 3, 2], [0, 2, 3, 1], [3, 2, 0, 1], [3, 1, 0, 2]] : List (List Nat)).getD o []).getD d 0
def po (d : Nat) : Nat := ([1, 0, 0, 3] : List Nat).getD d 0
def ho : Nat → Nat → Nat → Nat
  | 0, o, _ => o
  | n + 1, o, q => ho n o (q / 4) ^^^ po (q % 4)
def hx : Nat → Nat → Nat → Nat
  | 0, _, _ => 0
  | n + 1, o, q => 2 * hx n o (q / 4) + pij (ho n o (q / 4)) (q % 4) / 2
def hy : Nat → Nat → Nat → Nat
  | 0, _, _ => 0
  | n + 1, o, q => 2 * hy n o (q / 4) + pij (ho n o (q / 4)) (q % 4) % 2

theorem pij_lt : ∀ o < 4, ∀ d < 4, pij o d < 4 := by decide
theorem xor_lt4 : ∀ a < 4, ∀ b < 4, a ^^^ b < 4 := by decide
theorem po_lt : ∀ d < 4, po d < 4 := by decide
theorem m4 (q : Nat) : q % 4 < 4 := Nat.mod_lt _ (by decide)
theorem ho_lt {o : Nat} (h : o < 4) : ∀ (n q : Nat), ho n o q < 4
  | 0, _ => h
  | n + 1, q => xor_lt4 _ (ho_lt h n _) _ (po_lt _ (m4 q))
theorem hx_lt {o : Nat} (h : o < 4) : ∀ (n q : Nat), hx n o q < 2 ^ n
  | 0, _ => Nat.one_pos
  | n + 1, q => by
    have := hx_lt h n (q / 4)
    have := pij_lt _ (ho_lt h n (q / 4)) _ (m4 q)
    simp only [hx]; rw [Nat.pow_succ]; omega
theorem hy_lt {o : Nat} (h : o < 4) : ∀ (n q : Nat), hy n o q < 2 ^ n
  | 0, _ => Nat.one_pos
  | n + 1, q => by
    have := hy_lt h n (q / 4)
    have := pij_lt _ (ho_lt h n (q / 4)) _ (m4 q)
    simp only [hy]; rw [Nat.pow_succ]; omega

theorem div4 (q n : Nat) : q / 4 ^ (n + 1) = q / 4 / 4 ^ n := by rw [Nat.pow_succ, Nat.mul_comm, Nat.div_div_eq_div_mul]
theorem ho_add (o m : Nat) : ∀ (n q : Nat), ho (m + n) o q = ho n (ho m o (q / 4 ^ n)) q
  | 0, q => by simp [ho]
  | n + 1, q => by
    show ho (m + n) o (q / 4) ^^^ po (q % 4) = _
    rw [ho_add o m n (q / 4), div4]; rfl
theorem hx_add (o m : Nat) : ∀ (n q : Nat), hx (m + n) o q = hx m o (q / 4 ^ n) * 2 ^ n + hx n (ho m o (q / 4 ^ n)) q
  | 0, q => by simp [hx]
  | n + 1, q => by
    show 2 * hx (m + n) o (q / 4) + pij (ho (m + n) o (q / 4)) (q % 4) / 2 = _
    rw [hx_add o m n (q / 4), ho_add, div4, Nat.pow_succ, ← Nat.mul_assoc]
    show _ = _ + (2 * hx n _ (q / 4) + _)
    omega
theorem hy_add (o m : Nat) : ∀ (n q : Nat), hy (m + n) o q = hy m o (q / 4 ^ n) * 2 ^ n + hy n (ho m o (q / 4 ^ n)) q
  | 0, q => by simp [hy]
  | n + 1, q => by
    show 2 * hy (m + n) o (q / 4) + pij (ho (m + n) o (q / 4)) (q % 4) % 2 = _
    rw [hy_add o m n (q / 4), ho_add, div4, Nat.pow_succ, ← Nat.mul_assoc]
    show _ = _ + (2 * hy n _ (q / 4) + _)
    omega

theorem drop4 (r q n : Nat) : (r * 4 ^ (n + 1) + q) / 4 = r * 4 ^ n + q / 4 ∧ (r * 4 ^ (n + 1) + q) % 4 = q % 4 := by
  rw [Nat.pow_succ, ← Nat.mul_assoc]; omega
theorem ho_drop (o r : Nat) : ∀ (n q : Nat), ho n o (r * 4 ^ n + q) = ho n o q
  | 0, _ => rfl
  | n + 1, q => by simp only [ho]; rw [(drop4 r q n).1, (drop4 r q n).2, ho_drop o r n]
theorem hx_drop (o r : Nat) : ∀ (n q : Nat), hx n o (r * 4 ^ n + q) = hx n o q
  | 0, _ => rfl
  | n + 1, q => by simp only [hx]; rw [(drop4 r q n).1, (drop4 r q n).2, hx_drop o r n, ho_drop]
theorem hy_drop (o r : Nat) : ∀ (n q : Nat), hy n o (r * 4 ^ n + q) = hy n o q
  | 0, _ => rfl
  | n + 1, q => by simp only [hy]; rw [(drop4 r q n).1, (drop4 r q n).2, hy_drop o r n, ho_drop]
theorem ho_mod (o n q : Nat) : ho n o (q % 4 ^ n) = ho n o q := by
  conv => rhs; rw [← Nat.div_add_mod q (4 ^ n), Nat.mul_comm]
  rw [ho_drop]
theorem hx_mod (o n q : Nat) : hx n o (q % 4 ^ n) = hx n o q := by
  conv => rhs; rw [← Nat.div_add_mod q (4 ^ n), Nat.mul_comm]
  rw [hx_drop]
theorem hy_mod (o n q : Nat) : hy n o (q % 4 ^ n) = hy n o q := by
  conv => rhs; rw [← Nat.div_add_mod q (4 ^ n), Nat.mul_comm]
  rw [hy_drop]

/-! the digits 2, 0, 0, .. : the middle of a cell -/
theorem two_div (m : Nat) : 2 * 4 ^ (m + 1) / 4 = 2 * 4 ^ m ∧ 2 * 4 ^ (m + 1) % 4 = 0 := by rw [Nat.pow_succ, ← Nat.mul_assoc]; omega
theorem xor_xor (a b : Nat) : a ^^^ b ^^^ b = a := by rw [Nat.xor_assoc, Nat.xor_self, Nat.xor_zero]
theorem ho_tail (o : Nat) : ∀ m, ho (m + 1) o (2 * 4 ^ m) = if m % 2 = 0 then o else o ^^^ 1
  | 0 => by simp [ho, po]
  | m + 1 => by
    rw [ho, (two_div m).1, (two_div m).2, ho_tail o m]
    show _ ^^^ 1 = _
    rcases Nat.mod_two_eq_zero_or_one m with h | h
    · rw [if_pos h, if_neg (by omega)]
    · rw [if_neg (by omega), if_pos (by omega), xor_xor]
def mid (o m : Nat) : Nat := if m = 0 then 0 else if o < 2 then 2 ^ (m - 1) else 2 ^ (m - 1) - 1
theorem pij_two : ∀ o < 4, pij o 2 / 2 = (if o < 2 then 1 else 0) ∧ pij o 2 % 2 = (if o < 2 then 1 else 0) := by decide
theorem pij_zero : ∀ o < 4, (pij o 0 / 2 = (if o < 2 then 0 else 1) ∧ pij o 0 % 2 = (if o < 2 then 0 else 1)) ∧ (pij (o ^^^ 1) 0 / 2 = (if o < 2 then 0 else 1) ∧ pij (o ^^^ 1) 0 % 2 = (if o < 2 then 0 else 1)) := by decide
theorem pij_tail {o : Nat} (h : o < 4) (m : Nat) : pij (ho (m + 1) o (2 * 4 ^ m)) 0 / 2 = (if o < 2 then 0 else 1) ∧ pij (ho (m + 1) o (2 * 4 ^ m)) 0 % 2 = (if o < 2 then 0 else 1) := by
  rw [ho_tail]; split
  · exact (pij_zero o h).1
  · exact (pij_zero o h).2
theorem hx_tail {o : Nat} (h : o < 4) : ∀ m, hx (m + 1) o (2 * 4 ^ m) = mid o (m + 1)
  | 0 => by
    show 2 * 0 + pij o 2 / 2 = _
    rw [(pij_two o h).1]; simp [mid]
  | m + 1 => by
    rw [hx, (two_div m).1, (two_div m).2, hx_tail h m, (pij_tail h m).1]
    have : 0 < 2 ^ m := Nat.pow_pos (by decide)
    simp only [mid, Nat.add_sub_cancel, Nat.pow_succ]
    split <;> split <;> first | omega | (split <;> omega)
theorem hy_tail {o : Nat} (h : o < 4) : ∀ m, hy (m + 1) o (2 * 4 ^ m) = mid o (m + 1)
  | 0 => by
    show 2 * 0 + pij o 2 % 2 = _
    rw [(pij_two o h).2]; simp [mid]
  | m + 1 => by
    rw [hy, (two_div m).1, (two_div m).2, hy_tail h m, (pij_tail h m).2]
    have : 0 < 2 ^ m := Nat.pow_pos (by decide)
    simp only [mid, Nat.add_sub_cancel, Nat.pow_succ]
    split <;> split <;> first | omega | (split <;> omega)

/-! the leaf at the middle of a cell -/
def leafPos (L p : Nat) : Nat := gidN L p / 2
theorem leaf_eq {L p : Nat} (hL : L ≤ 30) : leafPos L p = p * 4 ^ (30 - L) + (if L = 30 then 0 else 2 * 4 ^ (29 - L)) := by
  unfold leafPos gidN
  by_cases h : L = 30
  · subst h; simp; omega
  · rw [if_neg h]
    obtain ⟨m, hm⟩ : ∃ m, L = 29 - m ∧ m ≤ 29 := ⟨29 - L, by omega, by omega⟩
    obtain ⟨rfl, hm⟩ := hm
    rw [show 60 - 2 * (29 - m) = 2 * m + 2 by omega, show 30 - (29 - m) = m + 1 by omega, show 29 - (29 - m) = m by omega, Nat.pow_succ 4 m, Nat.pow_add, Nat.pow_mul]
    rw [show (2 : Nat) ^ 2 = 4 from rfl, Nat.add_mul]
    have : 2 * p * (4 ^ m * 4) = p * (4 ^ m * 4) * 2 := by rw [Nat.mul_comm 2 p, Nat.mul_assoc, Nat.mul_comm 2, ← Nat.mul_assoc]
    rw [this]; omega

theorem leaf_div {L p : Nat} (hL : L ≤ 30) : leafPos L p / 4 ^ (30 - L) = p := by
  rw [leaf_eq hL]
  by_cases h : L = 30
  · subst h; simp
  · rw [if_neg h, show 30 - L = (29 - L) + 1 by omega, Nat.pow_succ]
    have : 0 < 4 ^ (29 - L) := Nat.pow_pos (by decide)
    rw [Nat.mul_comm p, Nat.mul_add_div (by omega), Nat.div_eq_of_lt (by omega)]; rfl
theorem leaf_x {L p o : Nat} (hL : L ≤ 30) (ho' : o < 4) : hx 30 o (leafPos L p) = hx L o p * 2 ^ (30 - L) + mid (ho L o p) (30 - L) := by
  have e : (30 : Nat) = L + (30 - L) := by omega
  conv => lhs; rw [e]
  rw [hx_add, leaf_div hL, leaf_eq hL, hx_drop]
  by_cases h : L = 30
  · subst h; simp [hx, mid]
  · rw [if_neg h, show 30 - L = (29 - L) + 1 by omega, hx_tail (ho_lt ho' _ _)]
theorem leaf_y {L p o : Nat} (hL : L ≤ 30) (ho' : o < 4) : hy 30 o (leafPos L p) = hy L o p * 2 ^ (30 - L) + mid (ho L o p) (30 - L) := by
  have e : (30 : Nat) = L + (30 - L) := by omega
  conv => lhs; rw [e]
  rw [hy_add, leaf_div hL, leaf_eq hL, hy_drop]
  by_cases h : L = 30
  · subst h; simp [hy, mid]
  · rw [if_neg h, show 30 - L = (29 - L) + 1 by omega, hy_tail (ho_lt ho' _ _)]
theorem leaf_o {L p o : Nat} (hL : L ≤ 30) : ho 30 o (leafPos L p) = if (30 - L) % 2 = 0 ∧ L ≠ 30 then ho L o p ^^^ 1 else ho L o p := by
  have e : (30 : Nat) = L + (30 - L) := by omega
  conv => lhs; rw [e]
  rw [ho_add, leaf_div hL, leaf_eq hL, ho_drop]
  by_cases h : L = 30
  · subst h; simp [ho]
  · rw [if_neg h, show 30 - L = (29 - L) + 1 by omega, ho_tail]
    by_cases g : (29 - L) % 2 = 0
    · rw [if_pos g, if_neg (by omega)]
    · rw [if_neg g, if_pos ⟨by omega, h⟩]

/-! the table of four digits -/
def tabN (n : Nat) : Nat := 64 * hx 4 (n % 4) (n / 4) + 4 * hy 4 (n % 4) (n / 4) + ho 4 (n % 4) (n / 4)
theorem tab_parts {o q : Nat} (h : o < 4) : tabN (4 * (q % 256) + o) / 64 = hx 4 o q ∧ tabN (4 * (q % 256) + o) / 4 % 16 = hy 4 o q ∧ tabN (4 * (q % 256) + o) % 4 = ho 4 o q := by
  unfold tabN
  rw [show (4 * (q % 256) + o) % 4 = o by omega, show (4 * (q % 256) + o) / 4 = q % 4 ^ 4 by omega, hx_mod, hy_mod, ho_mod]
  have := hx_lt h 4 q; have := hy_lt h 4 q; have := ho_lt h 4 q
  omega
theorem tab_lt {n : Nat} : tabN n < 1024 := by
  unfold tabN
  have := hx_lt (m4 n) 4 (n / 4); have := hy_lt (m4 n) 4 (n / 4); have := ho_lt (m4 n) 4 (n / 4)
  omega
/-- the first two digits, told by the table as four -/
theorem first_two {o q : Nat} (h : o < 2) : hx 4 o (q % 16) = hx 2 o q ∧ hy 4 o (q % 16) = hy 2 o q ∧ ho 4 o (q % 16) = ho 2 o q := by
  have hx2 : hx 2 o (q % 16) = hx 2 o q := hx_mod o 2 q
  have hy2 : hy 2 o (q % 16) = hy 2 o q := hy_mod o 2 q
  have ho2 : ho 2 o (q % 16) = ho 2 o q := ho_mod o 2 q
  have e1 : hx 4 o (q % 16) = _ := hx_add o 2 2 (q % 16)
  have e2 : hy 4 o (q % 16) = _ := hy_add o 2 2 (q % 16)
  have e3 : ho 4 o (q % 16) = _ := ho_add o 2 2 (q % 16)
  rw [show q % 16 / 4 ^ 2 = 0 by omega] at e1 e2 e3
  have z : ∀ o < 2, hx 2 o 0 = 0 ∧ hy 2 o 0 = 0 ∧ ho 2 o 0 = o := by decide
  obtain ⟨z1, z2, z3⟩ := z o h
  rw [z1, z3] at e1; rw [z2, z3] at e2; rw [z3] at e3
  exact ⟨by omega, by omega, by rw [e3, ho2]⟩
end Mine
end Part9
section Part10
open PySem PySem.W PySem.Calls
set_option maxRecDepth 100000
set_option autoImplicit false
set_option linter.unusedVariables false
namespace Mine
/-! tables of ints -/
def intsEq : List Value → List Int → Bool
  | [], [] => true
  | .int n _ :: vs, m :: ms => n == m && intsEq vs ms
  | _, _ => false
def intsIn (K : Frag) (v : Value) (xs : List Int) : Bool := match v with
  | .ref a => match K.lookup a with
    | some ⟨.type "list", _, .seq items _, _⟩ => intsEq items.toList xs
    | _ => false
  | _ => false
def rowsEq (K : Frag) : List Value → List (List Int) → Bool
  | [], [] => true
  | v :: vs, m :: ms => intsIn K v m && rowsEq K vs ms
  | _, _ => false
def rowsIn (K : Frag) (v : Value) (xs : List (List Int)) : Bool := match v with
  | .ref a => match K.lookup a with
    | some ⟨.type "list", _, .seq items _, _⟩ => rowsEq K items.toList xs
    | _ => false
  | _ => false
@[reducible] def pvInts (xs : List Int) : PV := .lst (xs.map .int)
def pvRows (xs : List (List Int)) : PV := .lst (xs.map pvInts)
theorem ints_rep {G : Gl} {H : Heap} : ∀ {vs : List Value} {xs : List Int}, intsEq vs xs = true → RepL G H vs (xs.map .int)
  | [], [], _ => .nil
  | .int n t :: vs, m :: ms, e => by
    simp only [intsEq, Bool.and_eq_true, beq_iff_eq] at e
    obtain ⟨rfl, e⟩ := e
    exact .cons (.int n t) (ints_rep e)
theorem rep_ints {G : Gl} {H : Heap} (X : G.K.In H) {v : Value} {xs : List Int} (e : intsIn G.K v xs = true) : Rep G H v (pvInts xs) := by
  unfold intsIn at e
  split at e
  · rename_i a
    split at e
    · rename_i od items n sl ho
      refine .lst (vs := items.toList) ⟨_, X _ _ ho, rfl, n, by simp⟩ (ints_rep e)
    · cases e
  · cases e
theorem rows_rep {G : Gl} {H : Heap} (X : G.K.In H) : ∀ {vs : List Value} {xs : List (List Int)}, rowsEq G.K vs xs = true → RepL G H vs (xs.map pvInts)
  | [], [], _ => .nil
  | v :: vs, m :: ms, e => by
    simp only [rowsEq, Bool.and_eq_true] at e
    exact .cons (rep_ints X e.1) (rows_rep X e.2)
theorem rep_rows {G : Gl} {H : Heap} (X : G.K.In H) {v : Value} {xs : List (List Int)} (e : rowsIn G.K v xs = true) : Rep G H v (pvRows xs) := by
  unfold rowsIn at e
  split at e
  · rename_i a
    split at e
    · rename_i od items n sl ho
      refine .lst (vs := items.toList) ⟨_, X _ _ ho, rfl, n, by simp⟩ (rows_rep X e)
    · cases e
  · cases e
def hrow (r : Nat) : List Int := (List.range 128).map fun i => ((tabN (128 * r + i) : Nat) : Int)
def htab : List (List Int) := (List.range 8).map hrow
theorem ex_sub {G : Gl} {c : Cx} {σ σ' : Sg} {ss : List Stmt} {Q : Fl → Sg → Prop} (e : ∀ z pv, σ'.lookup z = some pv → σ.lookup z = some pv) (h : Ex G c σ' ss Q) : Ex G c σ ss Q :=
  fun m ow al s ok S => h m ow al s ok (S.same e)
theorem sub_upd {σ σ' : Sg} {y : Str} {x : PV} (e : ∀ z pv, σ'.lookup z = some pv → σ.lookup z = some pv) : ∀ z pv, (upd σ' y x).lookup z = some pv → (upd σ y x).lookup z = some pv := by
  intro z pv h
  rw [lookup_upd] at h ⊢
  split at h
  · rename_i q; rw [if_pos q]; exact h
  · rename_i q; rw [if_neg q]; exact e _ _ h
theorem resBool_bool {b : Bool} : resBool (.bool b) := ⟨b, rfl⟩
def SubL : Sg → Sg → Prop
  | [], _ => True
  | (z, pv) :: r, σ => σ.lookup z = some pv ∧ SubL r σ
theorem SubL.get {σ : Sg} : ∀ {B : Sg}, SubL B σ → ∀ z pv, B.lookup z = some pv → σ.lookup z = some pv
  | [], _, z, pv, e => by cases e
  | (y, x) :: r, h, z, pv, e => by
    simp only [List.lookup] at e
    split at e
    · rename_i q
      cases e
      rw [beq_iff_eq.mp q]; exact h.1
    · exact h.2.get z pv e
section
variable {G : Gl} {c : Cx} {σ : Sg}
theorem asE_cons {y : Str} {p : Pos} {es : List Expr} {x : PV} {xs : List PV} {Q : Sg → Prop} (hk : c.env.kindOf y = some .local) (hl : c.env.locals = c.L)
    (h : AsAll G c ((assignEach es c.env).map (·.2)) xs Q (upd σ y x)) : AsAll G c ((assignEach (.Name y p :: es) c.env).map (·.2)) (x :: xs) Q σ := as_name hk hl h
theorem asE_nil {Q : Sg → Prop} (h : Q σ) : AsAll G c ((assignEach [] c.env).map (·.2)) [] Q σ := h
theorem ex_sig {ss : List Stmt} {σ' : Sg} {Q : Fl → Sg → Prop} (e : σ = σ') (h : Ex G c σ' ss Q) : Ex G c σ ss Q := e ▸ h
theorem forL_list {y : Str} {p : Pos} {body : List Stmt} {Q : Fl → Sg → Prop} (I : Nat → Sg → Prop) (hk : c.env.kindOf y = some .local) (hl : c.env.locals = c.L) (fin : Nat) (hQ : ∀ σ, I fin σ → Q .nxt σ) :
    ∀ (xs : List PV) (i : Nat) (σ : Sg), fin = i + xs.length → (∀ j x σ, xs[j]? = some x → I (i + j) σ → Ex G c (upd σ y x) body (forStep Q (I (i + j + 1)))) → I i σ → ForL G c (.Name y p) body Q xs σ
  | [], i, σ, e, _, h => hQ σ (by rw [e]; exact h)
  | x :: xs, i, σ, e, step, h => by
    refine forL_cons hk hl ?_
    have h1 := step 0 x σ rfl h
    intro m ow al s ok S
    refine wpAny_mono (h1 m ow al s ok S) (fun fl s1 hp => ?_) bot_elim
    obtain ⟨h', tk, m', ow', σ', f, rfl, k1, S1, r1, q1⟩ := hp
    refine ⟨h', tk, m', ow', σ', f, rfl, k1, S1, r1, ?_⟩
    have go : ∀ σ, I (i + 1) σ → ForL G c (.Name y p) body Q xs σ := fun σ hi =>
      forL_list I hk hl fin hQ xs (i + 1) σ (by rw [e, List.length_cons]; omega) (fun j x σ hx hI => by
        have := step (j + 1) x σ (by simpa using hx) (by rw [show i + (j + 1) = i + 1 + j by omega]; exact hI)
        rw [show i + (j + 1) + 1 = i + 1 + j + 1 by omega] at this
        exact this) hi
    cases f with
    | nxt => exact go _ q1
    | cont => exact go _ q1
    | brk => exact q1
    | ret v => exact q1
theorem op_htab {value slice : Expr} {k : Nat} {Q : PV → Prop} (hk : k < 8) (h : Q (pvInts (hrow k)))
    (hs : ∀ (l : Addr) (u : Tok), subscripted slice false (.ref l) (.int k u) = operate [.ref l, .int k u] (getItem (.ref l) (.int k u)) := by intros; with_unfolding_all rfl) :
    Op2 G c σ (PyProof.Rows.subscriptTail value slice) (pvRows htab) (.int k) Q :=
  op_item_lst (by omega) (by omega) (x := pvInts (hrow k)) (by simp [htab, hk]) h hs
theorem op_hrow {value slice : Expr} {r k : Nat} {Q : PV → Prop} (hk : k < 128) (h : Q (.int ((tabN (128 * r + k) : Nat) : Int)))
    (hs : ∀ (l : Addr) (u : Tok), subscripted slice false (.ref l) (.int k u) = operate [.ref l, .int k u] (getItem (.ref l) (.int k u)) := by intros; with_unfolding_all rfl) :
    Op2 G c σ (PyProof.Rows.subscriptTail value slice) (pvInts (hrow r)) (.int k) Q :=
  op_item_lst (by omega) (by omega) (x := .int ((tabN (128 * r + k) : Nat) : Int)) (by simp [hrow, hk]) h hs
end
end Mine
end Part10
section Part11
open PySem PySem.W PySem.Calls
set_option maxRecDepth 100000
set_option autoImplicit false
set_option linter.unusedVariables false
namespace Mine
open Builtin (bitAnd bitOr bitXor bitNot)
theorem and_mask (n j : Nat) : bitAnd (n : Int) ((2 ^ j - 1 : Nat) : Int) = ((n % 2 ^ j : Nat) : Int) := by rw [and_nat, land_mask]
theorem and_1 (n : Nat) : bitAnd (n : Int) 1 = ((n % 2 : Nat) : Int) := and_mask n 1
theorem and_2m (n : Nat) : bitAnd (n : Int) (bitOr 1 2) = ((n % 4 : Nat) : Int) := and_mask n 2
theorem and_127 (n : Nat) : bitAnd (n : Int) 127 = ((n % 128 : Nat) : Int) := and_mask n 7
theorem shr_int (n : Nat) (k : Int) : (n : Int).fdiv (2 ^ k.toNat) = ((n / 2 ^ k.toNat : Nat) : Int) := by
  have := fdiv_nat n (2 ^ k.toNat)
  rwa [Int.natCast_pow] at this
theorem shl_int (n : Nat) (k : Int) : (n : Int) * 2 ^ k.toNat = ((n * 2 ^ k.toNat : Nat) : Int) := by
  rw [Int.natCast_mul, Int.natCast_pow]; rfl
theorem chunk7 {L p : Nat} : bitAnd ((gid L p).fdiv (2 ^ Int.toNat (7 * 2 * 4 + 1))) (1 * 2 ^ Int.toNat (2 * (30 - 7 * 4)) - 1) = ((leafPos L p / 4 ^ 28 % 16 : Nat) : Int) := by
  unfold gid; rw [shr_int]
  rw [show (1 * 2 ^ Int.toNat (2 * (30 - 7 * 4)) - 1 : Int) = ((2 ^ 4 - 1 : Nat) : Int) by decide, and_mask]
  unfold leafPos; rw [Nat.div_div_eq_div_mul]; rfl
theorem chunk4 {L p : Nat} (k : Nat) : bitAnd ((gid L p).fdiv (2 ^ Int.toNat ((k : Int) * 2 * 4 + 1))) (1 * 2 ^ Int.toNat (2 * 4) - 1) = ((leafPos L p / 4 ^ (4 * k) % 256 : Nat) : Int) := by
  unfold gid; rw [shr_int]
  rw [show (1 * 2 ^ Int.toNat (2 * 4) - 1 : Int) = ((2 ^ 8 - 1 : Nat) : Int) by decide, and_mask]
  unfold leafPos; rw [Nat.div_div_eq_div_mul, show Int.toNat ((k : Int) * 2 * 4 + 1) = 8 * k + 1 by omega, Nat.pow_succ, Nat.mul_comm, show 8 * k = 2 * (4 * k) by omega, Nat.pow_mul]
theorem put_bits (b c : Nat) : (b : Int) + (c : Int) * 2 ^ Int.toNat 2 = ((4 * c + b : Nat) : Int) := by
  show (b : Int) + (c : Int) * 4 = _
  omega
theorem idx_hi (n : Nat) : (n : Int).fdiv (2 ^ Int.toNat 7) = ((n / 128 : Nat) : Int) := shr_int n 7
theorem t_hi (n : Nat) : (n : Int).fdiv (2 ^ Int.toNat (4 + 2)) = ((n / 64 : Nat) : Int) := shr_int n 6
theorem t_mid (n : Nat) : bitAnd ((n : Int).fdiv (2 ^ Int.toNat 2)) (1 * 2 ^ Int.toNat 4 - 1) = ((n / 4 % 16 : Nat) : Int) := by
  rw [shr_int]; exact and_mask (n / 2 ^ 2) 4
theorem nat_small {n : Nat} (h : n < 1024) : ((n : Int)).natAbs < 2 ^ 64 := by omega
theorem next_i (a b k : Nat) (hk : k ≤ 7) : ((a * 2 ^ (30 - 4 * (7 - k) - 2) : Nat) : Int) + ((b : Nat) : Int) * 2 ^ Int.toNat ((k : Int) * 4) = ((a * 2 ^ (4 * k) + b * 2 ^ (4 * k) : Nat) : Int) := by
  rw [shl_int, show 30 - 4 * (7 - k) - 2 = 4 * k by omega, show Int.toNat ((k : Int) * 4) = 4 * k by omega]; omega
theorem idx_split (n : Nat) : 128 * (n / 128) + n % 128 = n := Nat.div_add_mod n 128
/-! the loop of to_face_ij_orientation: 2 digits, then 4 at a time -/
def sI (o q i : Nat) : Nat := hx (2 + 4 * i) o (q / 4 ^ (28 - 4 * i)) * 2 ^ (28 - 4 * i)
def sJ (o q i : Nat) : Nat := hy (2 + 4 * i) o (q / 4 ^ (28 - 4 * i)) * 2 ^ (28 - 4 * i)
def sO (o q i : Nat) : Nat := ho (2 + 4 * i) o (q / 4 ^ (28 - 4 * i))
theorem first_tab {o Q : Nat} (h : o < 2) : tabN (4 * (Q % 16) + o) / 64 = hx 2 o Q ∧ tabN (4 * (Q % 16) + o) / 4 % 16 = hy 2 o Q ∧ tabN (4 * (Q % 16) + o) % 4 = ho 2 o Q := by
  have t := tab_parts (o := o) (q := Q % 16) (by omega)
  rw [show Q % 16 % 256 = Q % 16 by omega, (first_two h).1, (first_two h).2.1, (first_two h).2.2] at t
  exact t
theorem div_split (q i : Nat) (hi : i < 7) : q / 4 ^ (4 * (6 - i)) / 4 ^ 4 = q / 4 ^ (28 - 4 * i) := by
  rw [Nat.div_div_eq_div_mul, ← Nat.pow_add, show 4 * (6 - i) + 4 = 28 - 4 * i by omega]
theorem sI_next {o q i : Nat} (hi : i < 7) : sI o q i + hx 4 (sO o q i) (q / 4 ^ (4 * (6 - i))) * 2 ^ (4 * (6 - i)) = sI o q (i + 1) := by
  unfold sI sO
  have := hx_add o (2 + 4 * i) 4 (q / 4 ^ (4 * (6 - i)))
  rw [div_split q i hi] at this
  rw [show 28 - 4 * (i + 1) = 4 * (6 - i) by omega, show 2 + 4 * (i + 1) = 2 + 4 * i + 4 by omega, this, Nat.add_mul, Nat.mul_assoc, ← Nat.pow_add, show 4 + 4 * (6 - i) = 28 - 4 * i by omega]
theorem sJ_next {o q i : Nat} (hi : i < 7) : sJ o q i + hy 4 (sO o q i) (q / 4 ^ (4 * (6 - i))) * 2 ^ (4 * (6 - i)) = sJ o q (i + 1) := by
  unfold sJ sO
  have := hy_add o (2 + 4 * i) 4 (q / 4 ^ (4 * (6 - i)))
  rw [div_split q i hi] at this
  rw [show 28 - 4 * (i + 1) = 4 * (6 - i) by omega, show 2 + 4 * (i + 1) = 2 + 4 * i + 4 by omega, this, Nat.add_mul, Nat.mul_assoc, ← Nat.pow_add, show 4 + 4 * (6 - i) = 28 - 4 * i by omega]
theorem sO_next {o q i : Nat} (hi : i < 7) : ho 4 (sO o q i) (q / 4 ^ (4 * (6 - i))) = sO o q (i + 1) := by
  unfold sO
  have := ho_add o (2 + 4 * i) 4 (q / 4 ^ (4 * (6 - i)))
  rw [div_split q i hi] at this
  rw [show 28 - 4 * (i + 1) = 4 * (6 - i) by omega, show 2 + 4 * (i + 1) = 2 + 4 * i + 4 by omega, this]
theorem shl_k (n k : Nat) : (n : Int) * 2 ^ Int.toNat ((k : Int) * 4) = ((n * 2 ^ (4 * k) : Nat) : Int) := by
  rw [shl_int, show Int.toNat ((k : Int) * 4) = 4 * k by omega]
theorem shl_7 (n : Nat) : 0 + (n : Int) * 2 ^ Int.toNat (7 * 4) = ((n * 2 ^ 28 : Nat) : Int) := by
  rw [shl_int, Int.zero_add]; rfl
theorem addN (a b : Nat) : (a : Int) + (b : Int) = ((a + b : Nat) : Int) := rfl
/-- the mask of the levels whose last turn is undone -/
theorem lsb_mask : ∀ L ≤ 30, (bitAnd ((2 ^ (60 - 2 * L) : Nat) : Int) 1229782938247303440 != 0) = decide ((30 - L) % 2 = 0 ∧ L ≠ 30) := by decide +kernel
theorem sI_fin {L p o : Nat} (hL : L ≤ 30) (h : o < 4) : sI o (leafPos L p) 7 = hx L o p * 2 ^ (30 - L) + mid (ho L o p) (30 - L) := by
  rw [← leaf_x hL h]; simp [sI]
theorem sJ_fin {L p o : Nat} (hL : L ≤ 30) (h : o < 4) : sJ o (leafPos L p) 7 = hy L o p * 2 ^ (30 - L) + mid (ho L o p) (30 - L) := by
  rw [← leaf_y hL h]; simp [sJ]
theorem sO_fin1 {L p o : Nat} (hL : L ≤ 30) (g : (30 - L) % 2 = 0 ∧ L ≠ 30) : sO o (leafPos L p) 7 ^^^ 1 = ho L o p := by
  have := leaf_o (p := p) (o := o) hL
  rw [if_pos g] at this
  have e : sO o (leafPos L p) 7 = ho 30 o (leafPos L p) := by simp [sO]
  rw [e, this, xor_xor]
theorem sO_fin2 {L p o : Nat} (hL : L ≤ 30) (g : ¬((30 - L) % 2 = 0 ∧ L ≠ 30)) : sO o (leafPos L p) 7 = ho L o p := by
  have := leaf_o (p := p) (o := o) hL
  rw [if_neg g] at this
  have e : sO o (leafPos L p) 7 = ho 30 o (leafPos L p) := by simp [sO]
  rw [e, this]
theorem xor_1 (n : Nat) : bitXor (n : Int) 1 = ((n ^^^ 1 : Nat) : Int) := xor_nat n 1
end Mine
end Part11
section Part12
open PySem PySem.W PySem.Calls
set_option maxRecDepth 100000
set_option autoImplicit false
set_option linter.unusedVariables false
namespace Mine
open PyProof.Rows (Fr News Top IsTup Below envOf envOfC)
/-! lists that grow -/
section
variable {G : Gl} {c : Cx} {σ : Sg}
theorem vw_mem {mu mu' : Led} {h : Heap} (e : ∀ a, a ∈ mu'.map (·.1) → a ∈ mu.map (·.1)) : (Vw c mu h).StaysIn (Vw c mu' h) := by
  intro b o hb
  rw [mem_vw] at hb ⊢
  refine ⟨hb.1, fun hm => hb.2 ?_⟩
  rcases List.mem_append.mp hm with hm | hm
  · exact List.mem_append_left _ hm
  · rcases List.mem_cons.mp hm with hm | hm
    · exact List.mem_append_right _ (hm ▸ .head _)
    · exact List.mem_append_right _ (.tail _ (e _ hm))
theorem VarV.mono {m : Str → Option Value} {ow ow' : Led} {x : Str} {v : Value} (h : ∀ p ∈ ow, p ∈ ow') : VarV c m ow x v → VarV c m ow' x v
  | .loc a b d => .loc a b d
  | .locC a b d e => .locC a (h _ b) d e
  | .cel a b d e => .cel a b (h _ d) e
  | .free a b d e f => .free a b (h _ d) e f
theorem RepO.mono {H H' : Heap} {ow ow' : Led} {v : Value} {x : PV} (k : H.StaysIn H') (h : ∀ p ∈ ow, p ∈ ow') : RepO G H ow v x → RepO G H' ow' v x
  | .rep r => .rep (r.keeps k)
  | .mlst a b d r => .mlst (h _ a) b d (r.keeps k)

theorem St.move {m : Str → Option Value} {ow al : Led} {s : Shared} {I : Addr} {o : Obj} (S : St G c σ m ow ((I, o) :: al) s) : St G c σ m ((I, o) :: ow) al s := by
  have hp : (ow ++ (I, o) :: al).Perm ((I, o) :: ow ++ al) := List.perm_middle
  refine ⟨S.F, fun p h => S.N p (hp.mem_iff.mpr h), (hp.map _).nodup_iff.mp S.nd, fun x pv e => ?_, S.cells.mono fun a ob v₀ ha hd => ⟨ob, v₀, .tail _ ha, hd⟩⟩
  obtain ⟨v, a, r⟩ := S.vars x pv e
  exact ⟨v, a.mono fun _ h => .tail _ h, r.mono (vw_mem fun a ha => (hp.map _).mem_iff.mpr ha) fun _ h => .tail _ h⟩

/-- y = [] -/
theorem ex_assign_nil {y : Str} {p : Pos} {lpos : Pos} {pos : Pos} {Q : Fl → Sg → Prop} (hk : c.env.kindOf y = some .local) (hl : c.env.locals = c.L) (h : Q .nxt (upd σ y (.mlst [])))
    (hs : swapsWith (.List [] lpos) (some (.Name y p)) pos.line c.env = pure false := by rfl) : Ex1 G c σ (.Assign [.Name y p] (.List [] lpos) pos) Q := by
  intro m ow al s ok S
  refine wpAny_Assign_Name ?_ hs
  refine PyProof.Rows.List_ (PyProof.Rows.spliced_none ?_)
  refine wpAny_newObj_type ?_ (by show (0 : Nat) ≤ sizeLine; exact Nat.zero_le _)
  obtain ⟨S2, v2⟩ := S.add (o := { cls := .type "list", data := .seq #[] 0 }) ok rfl
  have S3 := S2.move
  have e0 : RepO G (Vw c ((s.heap.objs.size, { cls := .type "list", data := .seq #[] 0 }) :: ow ++ al) (s.heap.push { cls := .type "list", data := .seq #[] 0 })) ((s.heap.objs.size, { cls := .type "list", data := .seq #[] 0 }) :: ow) (.ref s.heap.objs.size) (.mlst []) :=
    .mlst (vs := []) (n := 0) (.head _) rfl ⟨rfl, rfl⟩ .nil
  refine wpAny_mono (store_local (Q := fun σ' => Q .nxt σ') hk hl ok S3 e0 h) (fun _ s2 h2 => ?_) bot_elim
  obtain ⟨h', tk, m', ow', σ', f, rfl, st, S', r, q⟩ := h2
  refine ⟨h', tk, m', ow', σ', .nxt, rfl, stays_trans v2 (stays_trans (vw_mem ?_) st), S', .nxt, q⟩
  intro a ha
  have hp : (ow ++ (s.heap.objs.size, ({ cls := .type "list", data := .seq #[] 0 } : Obj)) :: al).Perm ((s.heap.objs.size, { cls := .type "list", data := .seq #[] 0 }) :: ow ++ al) := List.perm_middle
  exact (hp.map _).mem_iff.mpr ha

def others (σ : Sg) (y : Str) : Bool := σ.all fun p => p.1 == y || p.2.plain
theorem others_plain {y z : Str} {pv : PV} (h : others σ y = true) (e : σ.lookup z = some pv) (hz : z ≠ y) : pv.plain = true := by
  unfold others at h
  rw [List.all_eq_true] at h
  induction σ with
  | nil => cases e
  | cons p r ih =>
    obtain ⟨a, b⟩ := p
    simp only [List.lookup] at e
    split at e
    · rename_i q
      cases e
      have := h (a, pv) (.head _)
      simp only [Bool.or_eq_true, beq_iff_eq] at this
      rcases this with t | t
      · exact absurd ((beq_iff_eq.mp q).trans t) hz
      · exact t
    · exact ih (fun q hq => h q (.tail _ hq)) e

theorem repL_snoc {H : Heap} {v : Value} {x : PV} : ∀ {vs : List Value} {xs : List PV}, RepL G H vs xs → Rep G H v x → RepL G H (vs ++ [v]) (xs ++ [x])
  | _, _, .nil, r => .cons r .nil
  | _, _, .cons a b, r => .cons a (repL_snoc b r)

theorem nd_fst {l : Led} (h : (l.map (·.1)).Nodup) {a : Addr} {o o' : Obj} (x : (a, o) ∈ l) (y : (a, o') ∈ l) : o = o' := by
  induction l with
  | nil => cases x
  | cons p r ih =>
    rw [List.map_cons, List.nodup_cons] at h
    rcases List.mem_cons.mp x with ex | ex <;> rcases List.mem_cons.mp y with ey | ey
    · rw [← ex] at ey; exact (Prod.mk.inj ey).2.symm
    · exact absurd (List.mem_map.mpr ⟨_, ey, by rw [← ex]⟩) h.1
    · exact absurd (List.mem_map.mpr ⟨_, ex, by rw [← ey]⟩) h.1
    · exact ih h.2 ex ey

/-- y.append(e) -/
theorem ex_append {y : Str} {py apos cpos pos : Pos} {e : Expr} {xs : List PV} {Q : Fl → Sg → Prop} (hx : σ.lookup y = some (.mlst xs)) (hot : others σ y = true) (hlen : xs.length ≤ 1000)
    (h : Ev G c σ e (fun v => Q .nxt (upd σ y (.mlst (xs ++ [v])))))
    (hbase : attributeBase (.Name y py) "append" c.env (eval (.Name y py) c.env) = eval (.Name y py) c.env := by rfl)
    (hfew : ((backTo cpos (starEach [e] c.env)).all (fun x => !x.1) && (backToKw cpos (keywordEach [] c.env)).all (fun x => x.1.isSome)
      && decide (([e] : List Expr).length + ([] : List Keyword).length + (if ([] : List Keyword).isEmpty then 0 else 1) < 30)) = true := by rfl)
    (hline : (apos.endLine == cpos.line) = true := by rfl)
    (htrees : backTo cpos (starEach [e] c.env) = [(false, eval e c.env)] := by rfl) (hd : (y == ("__debug__" : Str)) = false := by decide)
    (hsw : swapsWith (.Call (.Attribute (.Name y py) "append" apos) [e] [] cpos) none pos.line c.env = pure false := by rfl) :
    Ex1 G c σ (.Expr (.Call (.Attribute (.Name y py) "append" apos) [e] [] cpos) pos) Q := by
  intro m ow al s ok S
  obtain ⟨v, hv, r⟩ := S.vars y _ hx
  cases r with
  | rep r => cases r
  | mlst hao hcls hdd rl =>
  rename_i a o vs n
  refine wpAny_Expr (wpAny_Call_append hbase hfew hline htrees ?_) (by unfold interactive; rw [ok.ek]; rfl) hsw
  refine wpAny_Name (load_var ok S hv ?_) hd
  have hN := S.N (a, o) (List.mem_append_left _ hao)
  refine ⟨a, vs.toArray, rfl, ⟨o, n, hN.1, hcls, hdd.1, hdd.2⟩, ?_⟩
  refine wpAny_mono (h m ow al s ok S) (fun u s1 hp => ?_) bot_elim
  obtain ⟨h1, t1, rfl, k1, x, rx, q1⟩ := hp
  have S1 := S.grow (tk := t1) k1
  have hN1 := S1.N (a, o) (List.mem_append_left _ hao)
  refine list_append_plainL (its := vs.toArray) ⟨o, n, hN1.1, hcls, hdd.1, hdd.2⟩ (fun h' hpl hsb => ?_) (by rw [List.size_toArray, rl.length]; exact Nat.le_trans hlen (by decide))
  obtain ⟨o', n', ho', hc', hd1', hd2'⟩ := hpl
  dsimp only
  let ow' : Led := ow.map fun p => if p.1 = a then (a, o') else p
  have hmap : ow'.map (·.1) = ow.map (·.1) := by
    simp only [ow', List.map_map]
    refine List.map_congr_left fun p hp => ?_
    show (if p.1 = a then (a, o') else p).1 = p.1
    split
    · rename_i e; exact e.symm
    · rfl
  have hmap2 : (ow' ++ al).map (·.1) = (ow ++ al).map (·.1) := by rw [List.map_append, List.map_append, hmap]
  have mem' : ∀ p ∈ ow', p = (a, o') ∨ (p ∈ ow ∧ p.1 ≠ a) := fun p hp => by
    obtain ⟨q, hq, rfl⟩ := List.mem_map.mp hp
    by_cases e : q.1 = a
    · left; simp [e]
    · right; simp [e, hq]
  have inM : ∀ p ∈ ow, p.1 ≠ a → p ∈ ow' := fun p hp e => List.mem_map.mpr ⟨p, hp, by simp [e]⟩
  have hne : ∀ p ∈ al, p.1 ≠ a := fun p hp e => by
    have nd := S.nd
    rw [List.map_append, List.nodup_append] at nd
    exact nd.2.2 a (List.mem_map.mpr ⟨_, hao, rfl⟩) p.1 (List.mem_map_of_mem hp) e.symm
  have hview : (Vw c (ow ++ al) h1).StaysIn (Vw c (ow' ++ al) h') := vw_same (c := c) (mu := ow ++ al) (mu' := ow' ++ al) hsb (List.mem_append_right _ (.tail _ (List.mem_map.mpr ⟨_, List.mem_append_left _ hao, rfl⟩))) hmap2
  have hself : (a, o') ∈ ow' := List.mem_map.mpr ⟨_, hao, by simp⟩
  have other : ∀ b ob, (b, ob) ∈ ow → ob ≠ o → b ≠ a := fun b ob hb hne q => hne (nd_fst S.nd (List.mem_append_left _ (q ▸ hb)) (List.mem_append_left _ hao))
  have varS : ∀ z u, VarV c m ow z u → VarV c m ow' z u := fun z u hu => by
    cases hu with
    | loc a1 b1 d1 => exact .loc a1 b1 d1
    | locC a1 b1 d1 e1 =>
      refine .locC a1 (inM _ b1 (other _ _ b1 fun q => ?_)) d1 e1
      obtain ⟨es, ep, de, _⟩ := d1
      rw [q, hdd.2] at de; cases de
    | cel a1 b1 d1 e1 =>
      refine .cel a1 b1 (inM _ d1 (other _ _ d1 fun q => ?_)) e1
      rw [q, hdd.2] at e1; cases e1
    | free a1 b1 d1 e1 f1 =>
      refine .free a1 b1 (inM _ d1 (other _ _ d1 fun q => ?_)) e1 f1
      rw [q, hdd.2] at e1; cases e1
  refine ⟨h', t1, m, ow', upd σ y (.mlst (xs ++ [x])), .nxt, rfl, stays_trans (vw_mono k1) hview, ?_, .nxt, q1⟩
  refine ⟨⟨S1.F.ns.sameBut hsb (Ne.symm hN1.2.1), fun b ob e => (hsb.2 b (fun q => ?_)).trans (S1.F.keep b ob e), S1.F.above⟩, fun p hp => ?_, by rw [hmap2]; exact S.nd, fun z pv e => ?_, S.cells.mono fun b ob w hb hw => ⟨ob, w, inM _ hb (other _ _ hb fun q => by rw [q, hdd.2] at hw; cases hw), hw⟩⟩
  · have h3 := hN1.2.2
    rw [← show b = a from q, e] at h3; cases h3
  · rcases List.mem_append.mp hp with hp | hp
    · rcases mem' p hp with rfl | ⟨hp, hpa⟩
      · exact ⟨ho', hN1.2⟩
      · have := S1.N p (List.mem_append_left _ hp)
        exact ⟨(hsb.2 _ hpa).trans this.1, this.2⟩
    · have := S1.N p (List.mem_append_right _ hp)
      exact ⟨(hsb.2 _ (hne p hp)).trans this.1, this.2⟩
  · rw [lookup_upd] at e
    split at e
    · rename_i hz
      obtain rfl := beq_iff_eq.mp hz
      cases e
      refine ⟨.ref a, varS _ _ hv, .mlst (vs := vs ++ [u]) (n := n') hself hc' ⟨hd1', by rw [hd2']; simp⟩ ?_⟩
      exact repL_snoc ((rl.keeps (vw_mono k1)).keeps hview) (rx.keeps hview)
    · rename_i hz
      obtain ⟨u', hu, ru⟩ := S1.vars z pv e
      have hne' : z ≠ y := fun q => hz (by rw [q]; simp)
      exact ⟨u', varS _ _ hu, .rep ((ru.plain (others_plain hot e hne')).keeps hview)⟩

/-- a list that grows no more -/
theorem ex_freeze {y : Str} {xs : List PV} {ss : List Stmt} {Q : Fl → Sg → Prop} (hx : σ.lookup y = some (.mlst xs)) (hot : others σ y = true) (h : Ex G c (upd σ y (.lst xs)) ss Q) : Ex G c σ ss Q := by
  intro m ow al s ok S
  obtain ⟨v, hv, r⟩ := S.vars y _ hx
  cases r with
  | rep r => cases r
  | mlst hao hcls hdd rl =>
  rename_i a o vs n
  let ow' : Led := ow.filter fun p => p.1 != a
  have inM : ∀ p ∈ ow, p.1 ≠ a → p ∈ ow' := fun p hp e => List.mem_filter.mpr ⟨hp, by simp [e]⟩
  have sub : ow'.Sublist ow := List.filter_sublist
  have hview : (Vw c (ow ++ al) s.heap).StaysIn (Vw c (ow' ++ al) s.heap) := vw_mem fun b hb => by
    rw [List.map_append] at hb ⊢
    rcases List.mem_append.mp hb with hb | hb
    · exact List.mem_append_left _ ((sub.map _).subset hb)
    · exact List.mem_append_right _ hb
  have hne : ∀ p ∈ al, p.1 ≠ a := fun p hp e => by
    have nd := S.nd
    rw [List.map_append, List.nodup_append] at nd
    exact nd.2.2 a (List.mem_map.mpr ⟨_, hao, rfl⟩) p.1 (List.mem_map_of_mem hp) e.symm
  have other : ∀ b ob, (b, ob) ∈ ow → ob ≠ o → b ≠ a := fun b ob hb hne q => hne (nd_fst S.nd (List.mem_append_left _ (q ▸ hb)) (List.mem_append_left _ hao))
  have varS : ∀ z u, VarV c m ow z u → VarV c m ow' z u := fun z u hu => by
    cases hu with
    | loc a1 b1 d1 => exact .loc a1 b1 d1
    | locC a1 b1 d1 e1 =>
      refine .locC a1 (inM _ b1 (other _ _ b1 fun q => ?_)) d1 e1
      obtain ⟨es, ep, de, _⟩ := d1
      rw [q, hdd.2] at de; cases de
    | cel a1 b1 d1 e1 =>
      refine .cel a1 b1 (inM _ d1 (other _ _ d1 fun q => ?_)) e1
      rw [q, hdd.2] at e1; cases e1
    | free a1 b1 d1 e1 f1 =>
      refine .free a1 b1 (inM _ d1 (other _ _ d1 fun q => ?_)) e1 f1
      rw [q, hdd.2] at e1; cases e1
  have hN := S.N (a, o) (List.mem_append_left _ hao)
  have hvis : (Vw c (ow' ++ al) s.heap).get? a = some o := by
    rw [mem_vw]
    refine ⟨hN.1, fun hm => ?_⟩
    rcases List.mem_append.mp hm with hm | hm
    · obtain ⟨o1, e1⟩ := ok.hsome a hm
      have := hN.2.2
      rw [e1] at this; cases this
    · rcases List.mem_cons.mp hm with hm | hm
      · exact hN.2.1 hm
      · rw [List.map_append] at hm
        rcases List.mem_append.mp hm with hm | hm
        · obtain ⟨p, hp, e⟩ := List.mem_map.mp hm
          have := (List.mem_filter.mp hp).2
          simp [e] at this
        · obtain ⟨p, hp, e⟩ := List.mem_map.mp hm
          exact hne p hp e
  have S' : St G c (upd σ y (.lst xs)) m ow' al s := by
    refine ⟨S.F, fun p hp => S.N p ?_, S.nd.sublist ?_, fun z pv e => ?_, S.cells.mono fun b ob w hb hw => ⟨ob, w, inM _ hb (other _ _ hb fun q => by rw [q, hdd.2] at hw; cases hw), hw⟩⟩
    · rcases List.mem_append.mp hp with hp | hp
      · exact List.mem_append_left _ (sub.subset hp)
      · exact List.mem_append_right _ hp
    · rw [List.map_append, List.map_append]
      exact List.Sublist.append (sub.map _) (List.Sublist.refl _)
    · rw [lookup_upd] at e
      split at e
      · rename_i hz
        obtain rfl := beq_iff_eq.mp hz
        cases e
        exact ⟨.ref a, varS _ _ hv, .rep (.lst ⟨o, hvis, hcls, n, hdd.2⟩ (rl.keeps hview))⟩
      · rename_i hz
        obtain ⟨u', hu, ru⟩ := S.vars z pv e
        have hne' : z ≠ y := fun q => hz (by rw [q]; simp)
        exact ⟨u', varS _ _ hu, .rep ((ru.plain (others_plain hot e hne')).keeps hview)⟩
  exact wpAny_mono (h m ow' al s ok S') (fun fl s2 h2 => ExPost.mono (h1 := s.heap) (t1 := s.toks) hview h2 fun _ _ q => q) bot_elim
end
end Mine
end Part12
section Part13
open PySem PySem.W PySem.Calls
set_option maxRecDepth 100000
set_option autoImplicit false
set_option linter.unusedVariables false
namespace Mine
open PyProof.Rows (Fr News Top IsTup Below envOf envOfC)
/-- if test: return False, where the test is false -/
theorem ex_if_no {G : Gl} {c : Cx} {σ : Sg} {test : Expr} {k : Nat} {p1 p2 pos : Pos} {Q : Fl → Sg → Prop} (h : EvT G c σ test (fun b => b = false)) (q : Q .nxt σ) :
    Ex1 G c σ (.If test [.Return (some (.Constant (.bool false) k p1)) p2] [] pos) Q := by
  refine ex_if ?_
  intro m ow al s ok S
  refine wpAny_mono (h m ow al s ok S) (fun b s1 hp => ?_) bot_elim
  obtain ⟨h1, t1, rfl, k1, rfl⟩ := hp
  exact ⟨h1, t1, rfl, k1, (ite_f (A := Ex G c σ [.Return (some (.Constant (.bool false) k p1)) p2] Q) rfl (ex_nil q) :)⟩
theorem not_beq_self {a : Int} : (!(a == a)) = false := by simp
theorem op_ne_same {G : Gl} {c : Cx} {σ : Sg} {x y : PV} {dx : PyData} {Q : PV → Prop} (e : x = y) (hr : c.Room 20) (ex : x.data? = some dx) (sx : SeqAt.shaped dx = true) (h : Q (.bool false)) : Op2 G c σ (compareOp .NotEq) x y Q := by
  subst e
  exact op_ne_data hr ex ex sx sx (by rw [SeqAt.eqv_refl dx (SeqAt.canLay_of_shaped sx)]; exact h)
theorem op_eq_same {G : Gl} {c : Cx} {σ : Sg} {x y : PV} {dx : PyData} {Q : PV → Prop} (e : x = y) (hr : c.Room 20) (ex : x.data? = some dx) (sx : SeqAt.shaped dx = true) (h : Q (.bool true)) : Op2 G c σ (compareOp .Eq) x y Q := by
  subst e
  exact op_eq_data hr ex ex sx sx (by rw [SeqAt.eqv_refl dx (SeqAt.canLay_of_shaped sx)]; exact h)
/-- an if whose ways meet: one name set -/
theorem ex_if_set {G : Gl} {c : Cx} {σ : Sg} {st : Stmt} {Q : Fl → Sg → Prop} (y : Str) (v : PV) (h : Ex1 G c σ st (fun f σ' => f = .nxt ∧ ∀ z pv, (upd σ y v).lookup z = some pv → σ'.lookup z = some pv))
    (q : Q .nxt (upd σ y v)) : Ex1 G c σ st Q := by
  intro m ow al s ok S
  refine wpAny_mono (h m ow al s ok S) (fun fl s1 hp => ?_) bot_elim
  obtain ⟨h', tk, m', ow', σ', f, rfl, k1, S1, r1, rfl, hs⟩ := hp
  exact ⟨h', tk, m', ow', _, .nxt, rfl, k1, S1.same hs, r1, q⟩
theorem ex_if_set2 {G : Gl} {c : Cx} {σ : Sg} {st : Stmt} {Q : Fl → Sg → Prop} (y : Str) (v : PV) (z : Str) (u : PV) (h : Ex1 G c σ st (fun f σ' => f = .nxt ∧ ∀ t pv, (upd (upd σ y v) z u).lookup t = some pv → σ'.lookup t = some pv))
    (q : Q .nxt (upd (upd σ y v) z u)) : Ex1 G c σ st Q := by
  intro m ow al s ok S
  refine wpAny_mono (h m ow al s ok S) (fun fl s1 hp => ?_) bot_elim
  obtain ⟨h', tk, m', ow', σ', f, rfl, k1, S1, r1, rfl, hs⟩ := hp
  exact ⟨h', tk, m', ow', _, .nxt, rfl, k1, S1.same hs, r1, q⟩
theorem upd_here {σ : Sg} {y : Str} {v : PV} (e : σ.lookup y = some v) : ∀ z pv, (upd σ y v).lookup z = some pv → σ.lookup z = some pv := by
  intro z pv h
  rw [lookup_upd] at h
  split at h
  · rename_i q; rw [beq_iff_eq.mp q, e]; exact h
  · exact h
theorem upd_eq {σ : Sg} {y : Str} {v u : PV} (e : v = u) : ∀ z pv, (upd σ y v).lookup z = some pv → (upd σ y u).lookup z = some pv := by
  subst e; exact fun _ _ h => h
theorem ints_repL {G : Gl} {H : Heap} : ∀ {vs : List Value} {ns : List Int}, PyProof.Rows.IntsAre vs ns → RepL G H vs (ns.map .int)
  | _, _, .nil => .nil
  | _, _, .cons n t h => .cons (.int n t) (ints_repL h)
theorem cellsAre_get {cm : Str → Option Value} : ∀ {cs : List (Str × Addr)} {news : Led}, PyProof.Rows.CellsAre cm cs news → ∀ {y : Str} {a : Addr}, cs.lookup y = some a → ∃ o, (a, o) ∈ news ∧ o.data = .cell (cm y)
  | _, _, .nil, y, a, e => by cases e
  | _, _, .cons (n := n) (o := o) h r, y, a, e => by
    simp only [List.lookup] at e
    split at e
    · rename_i q
      cases e
      rw [beq_iff_eq.mp q]
      exact ⟨o, .head _, h⟩
    · obtain ⟨o', h1, h2⟩ := cellsAre_get r e
      exact ⟨o', .tail _ h1, h2⟩
theorem cellsAre_fst {cm : Str → Option Value} : ∀ {cs : List (Str × Addr)} {news : Led}, PyProof.Rows.CellsAre cm cs news → news.map (·.1) = cs.map (·.2)
  | _, _, .nil => rfl
  | _, _, .cons h r => by simp only [List.map_cons]; rw [cellsAre_fst r]
theorem law_enter {G : Gl} {A : Around} {env : Env} {body : List Stmt} {s₁ : Shared} {h₁ : Heap} {tk₁ : Nat} {m cm : Str → Option Value} {news : Led} {lst : Addr} {vs : List Value} {ns : List Int} {Qk : Flow → Shared → Prop} {Ek : Value → Shared → Prop}
    (hA : A.handled = none) (KX : G.K.In s₁.heap) (T : Top G.p G.loose G.mean G.mg G.mb s₁.heap) (F : Fr s₁.heap s₁.heap.objs.size h₁ m) (N : News s₁.heap s₁.heap.objs.size h₁ news)
    (X : PyProof.Rows.CellsAre cm env.cells news) (hsc : cm "script" = some (.ref lst)) (hL : s₁.heap.IsList lst vs.toArray) (hI : PyProof.Rows.IntsAre vs ns) {ca : Addr}
    (hk : env.kindOf ("script" : Str) = some .cell) (hc : env.cells.lookup ("script" : Str) = some ca) (ek : env.scope.kind = .function) (eg : env.globals = mainGlobals) (eb : env.builtins = builtinsNs)
    (hinj : (env.cells.map (·.2)).Nodup) (habove : ∀ p ∈ env.cells, s₁.heap.objs.size < p.2) (hall : ∀ y, env.kindOf y = some .cell → ∃ a, env.cells.lookup y = some a)
    (hrm : Cx.Room ⟨A, env, s₁.heap, s₁.heap.objs.size, []⟩ 40)
    (h : Cx.Room ⟨A, env, s₁.heap, s₁.heap.objs.size, []⟩ 40 → Ex G ⟨A, env, s₁.heap, s₁.heap.objs.size, []⟩ [("script", .lst (ns.map .int))] body (fun f _ => f = .ret (.bool true)))
    (q : ∀ h' tk' m', Fr s₁.heap s₁.heap.objs.size h' m' → Qk (.ret (.bool true)) { s₁ with heap := h', toks := tk' }) :
    wpAny G.M A (execs body env) Qk Ek ⟨h₁, s₁.gens, s₁.drawn, tk₁, s₁.os⟩ := by
  have ok : Cx.Ok G ⟨A, env, s₁.heap, s₁.heap.objs.size, []⟩ := ⟨hA, KX, T, ek, eg, eb, fun _ h => by simp at h, fun a o e => hideAll_get _ (KX a o e) (by simp)⟩
  have hfst := cellsAre_fst X
  have S : St G ⟨A, env, s₁.heap, s₁.heap.objs.size, []⟩ [("script", .lst (ns.map .int))] m news [] { s₁ with heap := h₁, toks := tk₁ } := by
    refine ⟨F, by simpa using N, by rw [List.append_nil, hfst]; exact hinj, fun x pv e => ?_, fun _ y hy => ?_⟩
    · simp only [List.lookup] at e
      split at e
      · rename_i hx
        obtain rfl := beq_iff_eq.mp hx
        cases e
        obtain ⟨o, ho, hd⟩ := cellsAre_get X hc
        rw [hsc] at hd
        refine ⟨.ref lst, .cel hk hc ho hd, .rep (.lst ?_ (ints_repL hI))⟩
        obtain ⟨ob, hob, r⟩ := hL
        refine ⟨ob, ?_, r⟩
        rw [mem_vw]
        refine ⟨F.keep _ _ hob, fun hm => ?_⟩
        have hlt := Heap.lt_size hob
        simp only [List.nil_append, List.append_nil, List.mem_cons] at hm
        rcases hm with hm | hm
        · rw [hm] at hlt; exact absurd hlt (Nat.lt_irrefl _)
        · rw [hfst] at hm
          obtain ⟨p, hp, rfl⟩ := List.mem_map.mp hm
          exact absurd (Nat.lt_trans hlt (habove p hp)) (Nat.lt_irrefl _)
      · cases e
    · obtain ⟨a, ha⟩ := hall y hy
      obtain ⟨o, ho, hd⟩ := cellsAre_get X ha
      refine ⟨a, ha, fun z hz => ?_, o, _, ho, hd⟩
      have i1 := mem_lookup hz
      have i2 := mem_lookup ha
      have inj : ∀ {l : List (Str × Addr)}, (l.map (·.2)).Nodup → ∀ {z y : Str} {a : Addr}, (z, a) ∈ l → (y, a) ∈ l → z = y := by
        intro l
        induction l with
        | nil => intro _ z y a h; cases h
        | cons p r ih =>
          intro hn z y a h1 h2
          rw [List.map_cons, List.nodup_cons] at hn
          rcases List.mem_cons.mp h1 with e1 | e1 <;> rcases List.mem_cons.mp h2 with e2 | e2
          · rw [← e1] at e2; exact (Prod.mk.inj e2).1.symm
          · exact absurd (List.mem_map.mpr ⟨_, e2, by rw [← e1]⟩) hn.1
          · exact absurd (List.mem_map.mpr ⟨_, e1, by rw [← e2]⟩) hn.1
          · exact ih hn.2 e1 e2
      exact inj hinj i1 i2
  refine wpAny_mono (h hrm m _ [] _ ok S) (fun fl s2 hp => ?_) bot_elim
  obtain ⟨h', tk, m', ow', σ', f, rfl, k1, S1, r1, rfl⟩ := hp
  cases r1 with
  | ret r => cases r with | bool => exact q h' tk _ S1.F
end Mine
end Part13
section Part14
set_option maxRecDepth 100000
set_option autoImplicit false
set_option linter.unusedVariables false
namespace Mine
theorem whole_int {L : Nat} : (1 : Int) * 2 ^ (2 * (L : Int)).toNat = ((2 ^ (2 * L) : Nat) : Int) := by
  rw [Int.one_mul, show (2 * (L : Int)).toNat = 2 * L by omega, Int.natCast_pow]; rfl
theorem whole_ne {L : Nat} : ((2 ^ (2 * L) : Nat) : Int) ≠ 0 := by
  have : 0 < 2 ^ (2 * L) := Nat.pow_pos (by decide)
  omega
theorem pow_int {m : Nat} : (1 : Int) * 2 ^ (m : Int).toNat = ((2 ^ m : Nat) : Int) := by
  rw [Int.one_mul, Int.toNat_natCast, Int.natCast_pow]; rfl
theorem pow_ne {m : Nat} : ((2 ^ m : Nat) : Int) ≠ 0 := by
  have : 0 < 2 ^ m := Nat.pow_pos (by decide)
  omega
theorem fmod_whole (x : Int) (L : Nat) : ∃ P : Nat, P < 2 ^ (2 * L) ∧ x.fmod ((2 ^ (2 * L) : Nat) : Int) = (P : Int) := by
  have h : (0 : Int) < ((2 ^ (2 * L) : Nat) : Int) := by
    have : 0 < 2 ^ (2 * L) := Nat.pow_pos (by decide)
    omega
  have h1 := Int.fmod_nonneg_of_pos x h
  have h2 := Int.fmod_lt_of_pos x h
  exact ⟨(x.fmod ((2 ^ (2 * L) : Nat) : Int)).toNat, by omega, by omega⟩
theorem place_small {L P : Nat} (hL : L ≤ 30) (hP : P < 2 ^ (2 * L)) : ((P : Int)).natAbs < 2 ^ 100 := by
  have : 2 ^ (2 * L) ≤ 2 ^ 60 := Nat.pow_le_pow_right (by decide) (by omega)
  omega
theorem place_int {P L : Nat} : (P : Int) * 2 ^ (61 - 2 * (L : Int)).toNat = ((P * 2 ^ (61 - 2 * L) : Nat) : Int) := by
  rw [Int.natCast_mul, Int.natCast_pow, show (61 - 2 * (L : Int)).toNat = 61 - 2 * L by omega]; rfl
theorem mid_lt {o m : Nat} : mid o m < 2 ^ m := by
  unfold mid
  have : 0 < 2 ^ m := Nat.pow_pos (by decide)
  by_cases h : m = 0
  · rw [if_pos h]; exact this
  · rw [if_neg h]
    obtain ⟨k, rfl⟩ : ∃ k, m = k + 1 := ⟨m - 1, by omega⟩
    rw [Nat.add_sub_cancel, Nat.pow_succ] at *
    split <;> omega
theorem mid_mod {A o m : Nat} : ((A * 2 ^ m + mid o m : Nat) : Int).fmod ((2 ^ m : Nat) : Int) = (mid o m : Int) := by
  rw [fmod_nat, Nat.mul_comm, Nat.mul_add_mod, Nat.mod_eq_of_lt mid_lt]
theorem fmod_fit (x : Int) (n : Nat) (h : 0 < n) : ∃ r : Nat, r < n ∧ x.fmod (n : Int) = (r : Int) := by
  have h' : (0 : Int) < (n : Int) := by omega
  have h1 := Int.fmod_nonneg_of_pos x h'
  have h2 := Int.fmod_lt_of_pos x h'
  exact ⟨(x.fmod (n : Int)).toNat, by omega, by omega⟩
theorem log2_small {x : Int} (h : x.natAbs < 2 ^ 64) : x.natAbs.log2 < 9000 := by
  by_cases h0 : x.natAbs = 0
  · rw [h0]; decide
  · have := (Nat.log2_lt h0).mpr h
    omega
theorem mid_abs {o m : Nat} (h0 : ¬m = 0) : ((((2 * ((mid o m : Nat) : Int) + 1 - ((2 ^ m : Nat) : Int)).natAbs : Nat) : Int) == 1) = true := by
  unfold mid
  rw [if_neg h0]
  obtain ⟨k, rfl⟩ : ∃ k, m = k + 1 := ⟨m - 1, by omega⟩
  have : 0 < 2 ^ k := Nat.pow_pos (by decide)
  rw [Nat.add_sub_cancel, Nat.pow_succ]
  rw [beq_iff_eq]
  split <;> omega
end Mine
end Part14
section Part15
set_option maxRecDepth 100000
set_option autoImplicit false
set_option linter.unusedVariables false
namespace Mine
/-! the curve of another orientation -/
def Sim (t n x y x2 y2 : Nat) : Prop :=
  if t % 2 = 0 then (if t / 2 = 0 then x2 = x ∧ y2 = y else x2 + x + 1 = 2 ^ n ∧ y2 + y + 1 = 2 ^ n)
  else (if t / 2 = 0 then x2 = y ∧ y2 = x else x2 + y + 1 = 2 ^ n ∧ y2 + x + 1 = 2 ^ n)
theorem sim_one : ∀ t < 4, ∀ o < 4, ∀ d < 4, Sim t 1 (pij o d / 2) (pij o d % 2) (pij (o ^^^ t) d / 2) (pij (o ^^^ t) d % 2) := by unfold Sim; decide
theorem xor_right : ∀ t < 4, ∀ o < 4, ∀ d < 4, (o ^^^ t) ^^^ po d = (o ^^^ po d) ^^^ t := by decide
theorem ho_sim {t o : Nat} (ht : t < 4) (h : o < 4) : ∀ n q, ho n (o ^^^ t) q = ho n o q ^^^ t
  | 0, _ => rfl
  | n + 1, q => by
    simp only [ho]
    rw [ho_sim ht h n (q / 4)]
    exact xor_right t ht _ (ho_lt h n _) _ (m4 q)
theorem sim {t o : Nat} (ht : t < 4) (h : o < 4) : ∀ n q, Sim t n (hx n o q) (hy n o q) (hx n (o ^^^ t) q) (hy n (o ^^^ t) q)
  | 0, _ => by
    unfold Sim; simp [hx, hy]
  | n + 1, q => by
    have ih := sim ht h n (q / 4)
    have s1 := sim_one t ht _ (ho_lt h n (q / 4)) _ (m4 q)
    simp only [hx, hy]
    rw [ho_sim ht h n (q / 4)]
    unfold Sim at *
    rw [Nat.pow_succ]
    split <;> split <;> simp_all <;> omega

/-! the curve run backwards -/
def mo (O o : Nat) : Nat := o ^^^ (2 * ((o ^^^ O) % 2))
def Mir (O n x y x2 y2 : Nat) : Prop := if O % 2 = 0 then x2 + x + 1 = 2 ^ n ∧ y2 = y else x2 = x ∧ y2 + y + 1 = 2 ^ n
theorem mir_one : ∀ O < 4, ∀ o < 4, ∀ d < 4, Mir O 1 (pij o d / 2) (pij o d % 2) (pij (mo O o) (3 - d) / 2) (pij (mo O o) (3 - d) % 2) ∧ mo O o ^^^ po (3 - d) = mo O (o ^^^ po d) := by unfold Mir; decide
theorem mo_self (O : Nat) : mo O O = O := by unfold mo; rw [Nat.xor_self]; simp
theorem back_div {n q : Nat} (h : q < 4 ^ (n + 1)) : (4 ^ (n + 1) - 1 - q) / 4 = 4 ^ n - 1 - q / 4 ∧ (4 ^ (n + 1) - 1 - q) % 4 = 3 - q % 4 ∧ q / 4 < 4 ^ n := by
  rw [Nat.pow_succ] at *; omega
theorem ho_mir {O : Nat} (h : O < 4) : ∀ n q, q < 4 ^ n → ho n O (4 ^ n - 1 - q) = mo O (ho n O q)
  | 0, _, _ => (mo_self O).symm
  | n + 1, q, hq => by
    obtain ⟨e1, e2, e3⟩ := back_div hq
    simp only [ho]
    rw [e1, e2, ho_mir h n _ e3]
    exact (mir_one O h _ (ho_lt h n _) _ (m4 q)).2
theorem mir {O : Nat} (h : O < 4) : ∀ n q, q < 4 ^ n → Mir O n (hx n O q) (hy n O q) (hx n O (4 ^ n - 1 - q)) (hy n O (4 ^ n - 1 - q))
  | 0, _, _ => by unfold Mir; simp [hx, hy]
  | n + 1, q, hq => by
    obtain ⟨e1, e2, e3⟩ := back_div hq
    have ih := mir h n _ e3
    have s1 := (mir_one O h _ (ho_lt h n (q / 4)) _ (m4 q)).1
    simp only [hx, hy]
    rw [e1, e2, ho_mir h n _ e3]
    unfold Mir at *
    rw [Nat.pow_succ]
    split <;> simp_all <;> omega

/-! the way in and out of a cell: corners -/
def inX (o : Nat) : Nat := if o < 2 then 0 else 1
def outX (o : Nat) : Nat := if o = 0 ∨ o = 3 then 1 else 0
def outY (o : Nat) : Nat := if o = 0 ∨ o = 3 then 0 else 1
theorem con_one : ∀ o < 4, (∀ d < 3, pij o d / 2 + outX (o ^^^ po d) = pij o (d + 1) / 2 + inX (o ^^^ po (d + 1)) ∧ pij o d % 2 + outY (o ^^^ po d) = pij o (d + 1) % 2 + inX (o ^^^ po (d + 1))) ∧
    (pij o 3 / 2 + outX (o ^^^ po 3) = 2 * outX o ∧ pij o 3 % 2 + outY (o ^^^ po 3) = 2 * outY o) ∧ (pij o 0 / 2 + inX (o ^^^ po 0) = 2 * inX o ∧ pij o 0 % 2 + inX (o ^^^ po 0) = 2 * inX o) := by decide
theorem con {O : Nat} (h : O < 4) : ∀ n q, q + 1 < 4 ^ n → hx n O q + outX (ho n O q) = hx n O (q + 1) + inX (ho n O (q + 1)) ∧ hy n O q + outY (ho n O q) = hy n O (q + 1) + inX (ho n O (q + 1))
  | 0, q, hq => by simp at hq
  | n + 1, q, hq => by
    simp only [hx, hy, ho]
    by_cases d3 : q % 4 = 3
    · have e1 : (q + 1) / 4 = q / 4 + 1 := by omega
      have e2 : (q + 1) % 4 = 0 := by omega
      have ih := con h n (q / 4) (by rw [Nat.pow_succ] at hq; omega)
      rw [e1, e2, d3]
      have s1 := (con_one _ (ho_lt h n (q / 4))).2.1
      have s2 := (con_one _ (ho_lt h n (q / 4 + 1))).2.2
      omega
    · have e1 : (q + 1) / 4 = q / 4 := by omega
      have e2 : (q + 1) % 4 = q % 4 + 1 := by omega
      rw [e1, e2]
      have s1 := (con_one _ (ho_lt h n (q / 4))).1 (q % 4) (by omega)
      omega
theorem side {O n q : Nat} (h : O < 4) (hq : q + 1 < 4 ^ n) : ((hx n O q : Int) - (hx n O (q + 1) : Int)).natAbs + ((hy n O q : Int) - (hy n O (q + 1) : Int)).natAbs = 1 := by
  have := con h n q hq
  have : (outX (ho n O q) = 1 ∧ outY (ho n O q) = 0) ∨ (outX (ho n O q) = 0 ∧ outY (ho n O q) = 1) := by unfold outX outY; split <;> simp
  have : inX (ho n O (q + 1)) = 0 ∨ inX (ho n O (q + 1)) = 1 := by unfold inX; split <;> simp
  omega

/-! squares within squares -/
theorem cell_x {T d p o b : Nat} (hd : b < 4 ^ d) : hx (T + d) o (p * 4 ^ d + b) = hx T o p * 2 ^ d + hx d (ho T o p) b := by
  rw [hx_add, hx_drop]
  rw [Nat.mul_comm p, Nat.mul_add_div (Nat.pow_pos (by decide)), Nat.div_eq_of_lt hd]; rfl
theorem cell_y {T d p o b : Nat} (hd : b < 4 ^ d) : hy (T + d) o (p * 4 ^ d + b) = hy T o p * 2 ^ d + hy d (ho T o p) b := by
  rw [hy_add, hy_drop]
  rw [Nat.mul_comm p, Nat.mul_add_div (Nat.pow_pos (by decide)), Nat.div_eq_of_lt hd]; rfl
theorem cell_o {T d p o b : Nat} (hd : b < 4 ^ d) : ho (T + d) o (p * 4 ^ d + b) = ho d (ho T o p) b := by
  rw [ho_add, ho_drop]
  rw [Nat.mul_comm p, Nat.mul_add_div (Nat.pow_pos (by decide)), Nat.div_eq_of_lt hd]; rfl
theorem pow4 (n : Nat) : 2 ^ (2 * n) = 4 ^ n := by rw [Nat.pow_mul]
theorem cell_f {T d p b f P : Nat} (hp : p = f * 4 ^ T + P) (hP : P < 4 ^ T) (hd : b < 4 ^ d) : (p * 4 ^ d + b) / 2 ^ (2 * (T + d)) = f := by
  have : b / 4 ^ d = 0 := Nat.div_eq_of_lt hd
  rw [pow4, Nat.add_comm T d, Nat.pow_add, ← Nat.div_div_eq_div_mul, Nat.mul_comm p, Nat.mul_add_div (Nat.pow_pos (by decide)), this, hp, Nat.add_zero, Nat.mul_comm f, Nat.mul_add_div (Nat.pow_pos (by decide)), Nat.div_eq_of_lt hP]; rfl
theorem shr_sq {A B m : Nat} {k : Int} (hk : k = (m : Int)) (hB : B < 2 ^ m) : ((A * 2 ^ m + B : Nat) : Int).fdiv (2 ^ k.toNat) = (A : Int) := by
  subst hk
  rw [shr_int, Int.toNat_natCast, Nat.mul_comm, Nat.mul_add_div (Nat.pow_pos (by decide)), Nat.div_eq_of_lt hB]; rfl
theorem one_f {T f P : Nat} (hP : P < 2 ^ (2 * T)) : (f * 2 ^ (2 * T) + P) / 2 ^ (2 * T) = f := by
  rw [Nat.mul_comm, Nat.mul_add_div (Nat.pow_pos (by decide)), Nat.div_eq_of_lt hP]; rfl
theorem one_lt {T f P : Nat} (hf : f < 6) (hP : P < 2 ^ (2 * T)) : f * 2 ^ (2 * T) + P < 6 * 2 ^ (2 * T) := by
  have : f * 2 ^ (2 * T) ≤ 5 * 2 ^ (2 * T) := Nat.mul_le_mul_right _ (by omega)
  omega
theorem shl_nat {a n : Nat} : (a : Int) * 2 ^ (n : Int).toNat = ((a * 2 ^ n : Nat) : Int) := by
  rw [shl_int, Int.toNat_natCast]
theorem fmod_nat' (a n : Nat) : (a : Int).fmod (n : Int) = ((a % n : Nat) : Int) := fmod_nat a n
theorem whole_lt {T d p : Nat} (hp : p < 6 * 2 ^ (2 * T)) : p * 4 ^ d + 4 ^ d ≤ 6 * 2 ^ (2 * (T + d)) ∧ (p + 1) * 4 ^ d = p * 4 ^ d + 4 ^ d := by
  have h1 : (p + 1) * 4 ^ d ≤ 6 * 2 ^ (2 * T) * 4 ^ d := Nat.mul_le_mul_right _ (by omega)
  have e : (p + 1) * 4 ^ d = p * 4 ^ d + 4 ^ d := by rw [Nat.add_mul, Nat.one_mul]
  rw [pow4] at h1
  rw [pow4, Nat.pow_add, ← Nat.mul_assoc]
  exact ⟨by omega, e⟩
theorem many_small {d : Nat} (hd : d ≤ 4) : (((2 ^ (2 * d) : Nat) : Int)).natAbs < 2 ^ 100 := by
  have : 2 ^ (2 * d) ≤ 2 ^ 8 := Nat.pow_le_pow_right (by decide) (by omega)
  rw [Int.natAbs_natCast]
  exact Nat.lt_of_le_of_lt this (by decide)
theorem many_pos {d : Nat} (h : 1 ≤ d) : 4 ≤ 4 ^ d := by
  have := Nat.pow_le_pow_right (n := 4) (by decide) h
  simpa using this
theorem many_ne {d : Nat} (h : 1 ≤ d) : ((4 ^ d : Nat) : Int) - 1 ≠ 0 := by
  have := many_pos h
  omega
theorem many_sub {d : Nat} (h : 1 ≤ d) : ((4 ^ d : Nat) : Int) - 1 = ((4 ^ d - 1 : Nat) : Int) := by
  have := many_pos h
  omega
theorem digit_int {n d k : Nat} (hk : k < d) : PySem.Builtin.bitAnd ((n : Int).fdiv (2 ^ (2 * ((d : Int) - 1 - (k : Int))).toNat)) 3 = ((n / 4 ^ (d - 1 - k) % 4 : Nat) : Int) := by
  rw [shr_int, show (2 * ((d : Int) - 1 - (k : Int))).toNat = 2 * (d - 1 - k) by omega, pow4]
  exact and_mask _ 2
theorem part_lt {n d k : Nat} (hn : n < 4 ^ d) (hk : k ≤ d) : n / 4 ^ (d - k) < 4 ^ k := by
  rw [Nat.div_lt_iff_lt_mul (Nat.pow_pos (by decide)), ← Nat.pow_add, show k + (d - k) = d by omega]; exact hn
theorem twin_lt {U k q m : Nat} (hq : q < 6 * 2 ^ (2 * U)) (hm : m < 4 ^ k) : q * 4 ^ k + m < 6 * 2 ^ (2 * (U + k)) := by
  have := (whole_lt (d := k) hq).1
  omega
theorem twin_next {n d k q : Nat} (hk : k < d) : 4 * (q * 4 ^ k + n / 4 ^ (d - k)) + n / 4 ^ (d - 1 - k) % 4 = q * 4 ^ (k + 1) + n / 4 ^ (d - (k + 1)) := by
  rw [show d - k = (d - 1 - k) + 1 by omega, show d - (k + 1) = d - 1 - k by omega, Nat.pow_succ 4 (d - 1 - k), ← Nat.div_div_eq_div_mul, Nat.pow_succ, ← Nat.mul_assoc]
  omega
theorem rng_d : ∀ d : Nat, 1 ≤ d ∧ d ≤ 4 → PySem.Builtin.Range.small 0 (d : Int) 1 = true ∧ PySem.Builtin.Range.rangeSize 0 (d : Int) 1 = (d : Int)
  | 1, _ => by decide
  | 2, _ => by decide
  | 3, _ => by decide
  | 4, _ => by decide
  | 0, h => absurd h.1 (by decide)
  | n + 5, h => absurd h.2 (by omega)
theorem sub_sq (A B : Nat) : ((A + B : Nat) : Int) - (A : Int) = (B : Int) := by omega
theorem mo_int (O o : Nat) : ((mo O o : Nat) : Int) = PySem.Builtin.bitXor (o : Int) (2 * (PySem.Builtin.bitXor (o : Int) (O : Int)).fmod 2) := by
  rw [xor_nat, show ((o ^^^ O : Nat) : Int).fmod 2 = (((o ^^^ O) % 2 : Nat) : Int) from fmod_nat _ 2, show (2 : Int) * (((o ^^^ O) % 2 : Nat) : Int) = ((2 * ((o ^^^ O) % 2) : Nat) : Int) from rfl, xor_nat]; rfl
theorem and_two_bit : ∀ t < 4, (PySem.Builtin.bitAnd ((t : Nat) : Int) 2 != 0) = decide (t / 2 ≠ 0) := by decide
theorem and_one_bit : ∀ t < 4, (PySem.Builtin.bitAnd ((t : Nat) : Int) 1 != 0) = decide (t % 2 ≠ 0) := by decide
theorem sim_even {t n x y x2 y2 : Nat} (h : Sim t n x y x2 y2) (he : t % 2 = 0) : (if t / 2 = 0 then x else 2 ^ n - 1 - x) = x2 ∧ (if t / 2 = 0 then y else 2 ^ n - 1 - y) = y2 := by
  unfold Sim at h
  rw [if_pos he] at h
  by_cases g : t / 2 = 0
  · rw [if_pos g] at h ⊢; rw [if_pos g]; omega
  · rw [if_neg g] at h ⊢; rw [if_neg g]; omega
theorem sim_odd {t n x y x2 y2 : Nat} (h : Sim t n x y x2 y2) (he : ¬t % 2 = 0) : (if t / 2 = 0 then y else 2 ^ n - 1 - y) = x2 ∧ (if t / 2 = 0 then x else 2 ^ n - 1 - x) = y2 := by
  unfold Sim at h
  rw [if_neg he] at h
  by_cases g : t / 2 = 0
  · rw [if_pos g] at h ⊢; rw [if_pos g]; omega
  · rw [if_neg g] at h ⊢; rw [if_neg g]; omega
theorem road_int (a b : Nat) : ((a : Int) + (b : Int)) = ((a + b : Nat) : Int) := rfl
theorem fmod_two (a : Nat) : (a : Int).fmod 2 = ((a % 2 : Nat) : Int) := fmod_nat a 2
end Mine
end Part15
section Part16
open PySem PySem.W PySem.Calls
set_option maxRecDepth 100000
set_option autoImplicit false
set_option linter.unusedVariables false
namespace Mine
open PyProof.Rows (Fr News Top IsTup Below envOf envOfC)
section
variable {G : Gl} {c : Cx} {σ : Sg}
/-! instances of Point -/
def Cx.in1 (c : Cx) : Cx := { c with A := c.A.in1 }
theorem Cx.Ok.in1 (ok : c.Ok G) : c.in1.Ok G := ⟨ok.hh, ok.K, ok.T, ok.ek, ok.eg, ok.eb, ok.hsome, ok.hK⟩
theorem Cx.Room.in1 {k : Nat} (h : c.Room (k + 1)) : c.in1.Room k := ⟨by have := h.1; show c.A.depth + k < _; omega, by have := h.2; show c.A.units + 1 + 8 * k < _; omega⟩
theorem St.in1 {m : Str → Option Value} {ow al : Led} {s : Shared} (S : St G c σ m ow al s) : St G c.in1 [] m ow al s := ⟨S.F, S.N, S.nd, fun x pv e => (by cases e), S.cells⟩

theorem at_point {x y z : Int} {Q : PV → Prop} (A : OwnAttr G G.CP "_Point__point") (h : Q (.tup [.int x, .int y, .int z])) : Op1 G c σ (fun v => getAttr v "_Point__point" true) (.point x y z) Q := by
  intro m ow al s ok S v rv
  cases rv with
  | point h1 h2 h3 =>
    refine get_own S.F ok.K (inst_cell (vw_sub _ _ h1) (vw_sub _ _ h2)) A.a A.b A.c noGet_none rfl rfl (post_tok ?_ h)
    exact .tup h3 (.cons (.int _ _) (.cons (.int _ _) (.cons (.int _ _) .nil)))
theorem mth_class_pt {x y z : Int} {pos : Pos} {args : List Expr} {Q : PV → Prop} (A : ClassAttr G G.CP) (h : CallW G c σ pos args (.raw (.ref G.CP)) Q) : MthW G c σ "__class__" pos args (.point x y z) Q := by
  intro m ow al s ok S v pl rv
  cases rv with
  | point h1 h2 h3 =>
    have I := inst_cell (vw_sub _ _ h1) (vw_sub _ _ h2)
    refine method_usual (S.inK ok) I (plainGet_of A.a).1 (plainGet_of A.a).2 A.c A.g ?_
    refine get_class S.F ok.K I A.a A.b A.c A.d A.e A.f ?_
    exact wpAny_mono (h m ow al _ ok (S.grow (tk := s.toks + 1) (stays_refl _)) _ (.raw _)) (fun v' s3 h3 => Post.mono (stays_refl _) h3 fun _ q => q) bot_elim
structure MethPt (G : Gl) (name : Str) (f : Addr) : Prop where
  a : plainGet G.K G.CP name = true
  b : findIn G.K (.ref G.CP) name = some (some (.ref f))
  c : isFn G.K (.ref f) = true
  d : keepIn G.K (.ref f) = true
  e : (Str.ofString "_Point__point" == name) = false
theorem mth_pt {name : Str} {x y z : Int} {f : Addr} {pos : Pos} {e : Expr} {rest : List Expr} {Q : PV → Prop} (A : MethPt G name f)
    (h : EvL G c σ (spliced (backTo pos (starEach (e :: rest) c.env))) (fun xs => Cl G c σ (.ref f) (.point x y z :: xs) Q))
    (he : starEach (e :: rest) c.env = (false, eval e c.env) :: starEach rest c.env := by rfl) (hplain : (backTo pos (starEach rest c.env)).any (·.1) = false := by rfl) : MthW G c σ name pos (e :: rest) (.point x y z) Q := by
  intro m ow al s ok S v pl rv
  cases rv with
  | point h1 h2 h3 =>
    have rv' : Rep G (Vw c (ow ++ al) s.heap) _ _ := .point h1 h2 h3
    refine method_inst S.F ok.K (inst_cell (vw_sub _ _ h1) (vw_sub _ _ h2)) A.a A.b A.c (getL_one A.e) ?_
    refine callWith_K ok.K A.d (wpAny_mono (h m ow al s ok S) (fun vs s1 hp => ?_) bot_elim) he hplain
    obtain ⟨h1, t1, rfl, k1, a, ra, q1⟩ := hp
    exact ⟨(S.grow (tk := t1) k1).inK ok, wpAny_mono (wp_of_code (q1 m ow al _ ok (S.grow k1) _ (.cons (rv'.keeps (vw_mono k1)) ra))) (fun v' s3 h3 => Post.mono k1 h3 fun _ q => q) bot_elim⟩
theorem mth_pt0 {name : Str} {x y z : Int} {f : Addr} {pos : Pos} {Q : PV → Prop} (A : MethPt G name f) (h : Cl G c σ (.ref f) [.point x y z] Q) : MthW G c σ name pos [] (.point x y z) Q := by
  intro m ow al s ok S v pl rv
  cases rv with
  | point h1 h2 h3 =>
    have rv' : Rep G (Vw c (ow ++ al) s.heap) _ _ := .point h1 h2 h3
    refine method_inst S.F ok.K (inst_cell (vw_sub _ _ h1) (vw_sub _ _ h2)) A.a A.b A.c (getL_one A.e) ?_
    exact callWith_K0 (S.inK ok) A.d (wp_of_code (h m ow al s ok S _ (.cons rv' .nil)))
/-- p[k] -/
structure ItemPt (G : Gl) (f : Addr) : Prop where
  a : findIn G.K (.ref G.CP) "__getitem__" = some (some (.ref f))
  b : fnIn G.K f = true
  c : isFn G.K (.ref f) = true
theorem op_item_pt {value slice : Expr} {x y z k : Int} {f : Addr} {Q : PV → Prop} (A : ItemPt G f) (h : Cl G c.in1 [] (.ref f) [.point x y z, .int k] Q)
    (hs : ∀ (l : Addr) (u : Tok), subscripted slice true (.ref l) (.int k u) = runValue (.builtin "lifetime.subscript" ⟨[.ref l, .int k u], []⟩) := by intros; with_unfolding_all rfl) :
    Op2 G c σ (PyProof.Rows.subscriptTail value slice) (.point x y z) (.int k) Q := by
  intro m ow al s ok S v u rv ru
  cases rv with
  | point h1 h2 h3 =>
    have rv' : Rep G (Vw c (ow ++ al) s.heap) _ _ := .point h1 h2 h3
    cases ru
    refine sub_K S.F ok.K (inst_cell (vw_sub _ _ h1) (vw_sub _ _ h2)) A.a A.b A.c ?_ (hs _ _)
    exact wp_of_code (h m ow al s ok.in1 S.in1 _ (.cons rv' (.cons (.int _ _) .nil)))
/-- p + q, p * n -/
structure AddPt (G : Gl) (f : Addr) : Prop where
  a : selfFirst G.K G.CP = true
  b : findIn G.K (.ref G.CP) "__add__" = some (some (.ref f))
  c : isFn G.K (.ref f) = true
def resPt (v : PV) : Prop := ∃ x y z, v = .point x y z
theorem cmpBack_pt {mu : Led} {s s' : Shared} {v : Value} {Q : PV → Prop} (hp : Post G c mu s (fun x => resPt x ∧ Q x) v s') : CmpBack (Post G c mu s Q) v s' := by
  obtain ⟨h1, t1, rfl, k1, x, rx, ⟨a, b, e, rfl⟩, q1⟩ := hp
  cases rx with
  | point g1 g2 g3 => exact ⟨h1, t1, rfl, k1, _, .point g1 g2 g3, q1⟩
theorem op_add_pt {x y z x2 y2 z2 : Int} {f : Addr} {Q : PV → Prop} (A : AddPt G f) (h : Cl G c σ (.ref f) [.point x y z, .point x2 y2 z2] (fun v => resPt v ∧ Q v)) : Op2 G c σ (binaryOp .Add) (.point x y z) (.point x2 y2 z2) Q := by
  intro m ow al s ok S v u rv ru
  cases rv with
  | point h1 h2 h3 =>
    have rv' : Rep G (Vw c (ow ++ al) s.heap) _ _ := .point h1 h2 h3
    cases ru with
    | point g1 g2 g3 =>
      have ru' : Rep G (Vw c (ow ++ al) s.heap) _ _ := .point g1 g2 g3
      refine binop_K S.F ok.K (inst_cell (vw_sub _ _ h1) (vw_sub _ _ h2)) (inst_cell (vw_sub _ _ g1) (vw_sub _ _ g2)).type A.a A.b A.c ?_
      exact wpAny_mono (wp_of_code (h m ow al s ok S _ (.cons rv' (.cons ru' .nil)))) (fun w s1 hp => cmpBack_pt hp) bot_elim
structure MulPt (G : Gl) (f : Addr) (fo ro : Option Value) (g : Addr) : Prop where
  a : selfFirst G.K G.CP = true
  b : findIn G.K (.ref G.CP) "__mul__" = some (some (.ref f))
  c : isFn G.K (.ref f) = true
  d : findIn G.K (.ref G.CP) "__rmul__" = some (some (.ref g))
  e : findIn G.K (.type "int") "__mul__" = some fo
  f : findIn G.K (.type "int") "__rmul__" = some ro
  g : subIn G.K (.type "int") (.ref G.CP) = some false
theorem op_mul_pt {x y z n : Int} {f g : Addr} {fo ro : Option Value} {Q : PV → Prop} (A : MulPt G f fo ro g) (h : Cl G c σ (.ref f) [.point x y z, .int n] (fun v => resPt v ∧ Q v)) : Op2 G c σ (binaryOp .Mult) (.point x y z) (.int n) Q := by
  intro m ow al s ok S v u rv ru
  cases rv with
  | point h1 h2 h3 =>
    have rv' : Rep G (Vw c (ow ++ al) s.heap) _ _ := .point h1 h2 h3
    cases ru
    refine ksp_binT (T := "int") S.F ok.K (inst_cell (vw_sub _ _ h1) (vw_sub _ _ h2)) rfl A.a A.b A.c A.d (.inr ⟨_, rfl⟩) A.e A.f A.g ?_
    exact wpAny_mono (wp_of_code (h m ow al s ok S _ (.cons rv' (.cons (.int _ _) .nil)))) (fun w s1 hp => cmpBack_pt hp) bot_elim
end
end Mine
end Part16
section Part17
open PySem PySem.W PySem.Calls
set_option maxRecDepth 100000
set_option autoImplicit false
set_option linter.unusedVariables false
namespace Mine
open PyProof.Rows (Fr News Top IsTup Below envOf envOfC)
section
variable {G : Gl} {c : Cx} {σ : Sg}
/-- a classmethod met through an instance -/
structure CmInst (G : Gl) (name : Str) (p fd : Addr) (rest : List Value) : Prop where
  a : plainGet G.K G.C name = true
  b : hasDictIn G.K G.C = true
  c : findIn G.K (.ref G.C) name = some (some (.ref p))
  d : typeIn G.K (.ref p) = some (.type "classmethod")
  e : specialIn G.K (.ref p) "__get__" = some (some (.builtin "classmethod.__get__"))
  f : takesIn G.K (.ref p) = some false
  g : copiedNames.contains name = false
  h : (Str.ofString "_CellId__id" == name) = false
  i : recIn G.K p "classmethod" = some (.ref fd :: rest)
  j : fnIn G.K fd = true
theorem mth_cm {n : Int} {name : Str} {p f : Addr} {vr : List Value} {pos : Pos} {e : Expr} {rest : List Expr} {Q : PV → Prop} (A : CmInst G name p f vr)
    (h : EvL G c σ (spliced (backTo pos (starEach (e :: rest) c.env))) (fun xs => Cl G c σ (.ref f) (.raw (.ref G.C) :: xs) Q))
    (he : starEach (e :: rest) c.env = (false, eval e c.env) :: starEach rest c.env := by rfl) (hplain : (backTo pos (starEach rest c.env)).any (·.1) = false := by rfl) : MthW G c σ name pos (e :: rest) (.cell n) Q := by
  intro m ow al s ok S v pl rv
  cases rv with
  | cell h1 h2 =>
  have I := inst_cell (vw_sub _ _ h1) (vw_sub _ _ h2)
  refine method_usual (r := some (.ref p)) (S.inK ok) I (plainGet_of A.a).1 (plainGet_of A.a).2 A.c (by simp only [Option.all_some, A.d, Option.any_some]; decide +kernel)
    (get_bind (S.inK ok) I (plainGet_of A.a).1 (findObj_fn A.b A.c A.e A.f A.g (by show lookIn name (dictOf _ _) = _; rw [lookIn_dict, getL_one A.h])) (plainGet_of A.a).2
      (wpAny_call (cm_get (s := { s with toks := s.toks + 1 }) (ok.K.keeps S.F.keep) A.i (handed_on rfl ?_))))
  have hq : ({ s with toks := s.toks + 1, heap := s.heap.push (methodObj (.ref f) (.ref G.C)) } : Shared).heap.get? s.heap.objs.size = some (methodObj (.ref f) (.ref G.C)) := Heap.get?_push_size _ rfl
  have k0 : s.heap.StaysIn (s.heap.push (methodObj (.ref f) (.ref G.C))) := stays_push _ _
  have S0 := S.grow (tk := s.toks + 1) k0
  refine callWith_of (P := MethP G.K s.heap.objs.size f (.ref G.C)) ?_ (keeps_M A.j) ?_
  · rw [he]; show ((false || (backTo pos (starEach rest c.env)).any (·.1)) || false) = false; rw [hplain]; rfl
  · have hh := h m ow al _ ok S0
    rw [he] at hh ⊢
    refine evalArgs_plain (wpAny_mono hh (fun vs s1 hp => ?_) bot_elim)
    obtain ⟨h1, t1, rfl, k1, a, ra, q1⟩ := hp
    have k01 := stays_trans k0 k1
    have hm : ({ s with heap := h1, toks := t1 } : Shared).heap.get? s.heap.objs.size = some (methodObj (.ref f) (.ref G.C)) := k1 _ _ hq
    refine ⟨⟨hm, (S.grow (tk := t1) k01).inK ok⟩, wpAny_call (method_call hm (codeAny_mono (q1 m ow al _ ok (S.grow k01) _ (.cons (.raw _) ra)) fun r s' hr => ?_))⟩
    cases r with
    | error e => exact hr
    | ok fl => cases fl <;> first | exact Post.mono k01 hr (fun _ q => q) | exact hr
end
end Mine
end Part17
section Part18
open PySem PySem.W PySem.Calls
set_option maxRecDepth 100000
set_option autoImplicit false
set_option linter.unusedVariables false
namespace Mine
open PyProof.Rows (Fr News Top IsTup Below envOf envOfC)
section
variable {G : Gl} {c : Cx} {σ : Sg}
/-! names with a cell of their own -/
theorem store_c {m : Str → Option Value} {ow al : Led} {s : Shared} {y : Str} {v : Value} {x : PV} {Q : Sg → Prop} (hk : c.env.kindOf y = some .cell) (hl : c.env.locals = c.L) (ok : c.Ok G) (S : St G c σ m ow al s)
    (r : Rep G (Vw c (ow ++ al) s.heap) v x) (q : Q (upd σ y x)) : wpAny G.M c.A (storeName c.env y v) (fun _ s' => ExPost G c al (ow ++ al) s (fun _ σ' => Q σ') .next s') Bot s := by
  obtain ⟨a, ha, hinj, ho⟩ := S.cells hl y hk
  refine wpAny_mono (store_cell hk ha hinj ho ok S r q) (fun _ s2 h2 => ?_) bot_elim
  obtain ⟨ow', _, _, h', tk, rfl, hv, S', q'⟩ := h2
  exact ⟨h', tk, m, ow', upd σ y x, .nxt, rfl, hv, S', .nxt, q'⟩
theorem ex_assign_c {y : Str} {p : Pos} {e : Expr} {pos : Pos} {Q : Fl → Sg → Prop} (h : Ev G c σ e (fun x => Q .nxt (upd σ y x))) (hk : c.env.kindOf y = some .cell) (hl : c.env.locals = c.L)
    (hs : swapsWith e (some (.Name y p)) pos.line c.env = pure false := by rfl) : Ex1 G c σ (.Assign [.Name y p] e pos) Q := by
  intro m ow al s ok S
  refine wpAny_Assign_Name (wpAny_mono (h m ow al s ok S) (fun v s1 hp => ?_) bot_elim) hs
  obtain ⟨h1, t1, rfl, k1, x, rx, q1⟩ := hp
  refine wpAny_mono (store_c (Q := fun σ' => Q .nxt σ') hk hl ok (S.grow k1) rx q1) (fun _ s2 h2 => ?_) bot_elim
  obtain ⟨h', tk, m', ow', σ', f, rfl, st, S', r, q⟩ := h2
  exact ⟨h', tk, m', ow', σ', .nxt, rfl, stays_trans (vw_mono k1) st, S', .nxt, q⟩

theorem bindL_other {k : Str → Option NameKind} {x : Str} : ∀ {binds : List (Str × Value)} {m : Str → Option Value}, x ∉ binds.map (·.1) → PySem.bindL k binds m x = m x
  | [], _, _ => rfl
  | (n, w) :: r, m, h => by
    rw [List.map_cons, List.mem_cons, not_or] at h
    unfold PySem.bindL
    rw [bindL_other h.2]
    split
    · simp [h.1]
    · rfl
theorem bindL_get {k : Str → Option NameKind} {x : Str} {v : Value} : ∀ {binds : List (Str × Value)} {m : Str → Option Value}, (binds.map (·.1)).Nodup → (x, v) ∈ binds → k x = some .local → PySem.bindL k binds m x = some v
  | (n, w) :: r, m, hn, hm, hk => by
    rw [List.map_cons, List.nodup_cons] at hn
    unfold PySem.bindL
    rcases List.mem_cons.mp hm with e | e
    · cases e
      rw [bindL_other hn.1, if_pos hk]; simp
    · exact bindL_get hn.2 e hk
theorem bindC_other {k : Str → Option NameKind} {x : Str} : ∀ {binds : List (Str × Value)} {m : Str → Option Value}, x ∉ binds.map (·.1) → PySem.bindC k binds m x = m x
  | [], _, _ => rfl
  | (n, w) :: r, m, h => by
    rw [List.map_cons, List.mem_cons, not_or] at h
    unfold PySem.bindC
    rw [bindC_other h.2]
    split
    · rfl
    · simp [h.1]
theorem bindC_get {k : Str → Option NameKind} {x : Str} {v : Value} : ∀ {binds : List (Str × Value)} {m : Str → Option Value}, (binds.map (·.1)).Nodup → (x, v) ∈ binds → k x = some .cell → PySem.bindC k binds m x = some v
  | (n, w) :: r, m, hn, hm, hk => by
    rw [List.map_cons, List.nodup_cons] at hn
    unfold PySem.bindC
    rcases List.mem_cons.mp hm with e | e
    · cases e
      rw [bindC_other hn.1, if_neg (by rw [hk]; decide)]; simp
    · exact bindC_get hn.2 e hk
theorem lookup_some_names {α : Type} {y : Str} : ∀ {l : List (Str × α)}, y ∈ l.map (·.1) → ∃ a, l.lookup y = some a
  | (n, a) :: r, h => by
    simp only [List.lookup]
    by_cases e : y = n
    · subst e; exact ⟨a, by simp⟩
    · rw [show (y == n) = false from beq_eq_false_iff_ne.mpr e]
      rw [List.map_cons, List.mem_cons] at h
      exact lookup_some_names (h.resolve_left e)
theorem apart_nodup {l : List (Str × Addr)} (h : l.Pairwise fun x y => x.2 ≠ y.2) : (l.map (·.2)).Nodup := by
  rw [List.Nodup, List.pairwise_map]; exact h
theorem pair_inj {l : List (Str × Addr)} (hn : (l.map (·.2)).Nodup) {z y : Str} {a : Addr} (h1 : (z, a) ∈ l) (h2 : (y, a) ∈ l) : z = y := by
  induction l with
  | nil => cases h1
  | cons p r ih =>
    rw [List.map_cons, List.nodup_cons] at hn
    rcases List.mem_cons.mp h1 with e1 | e1 <;> rcases List.mem_cons.mp h2 with e2 | e2
    · rw [← e1] at e2; exact (Prod.mk.inj e2).1.symm
    · exact absurd (List.mem_map.mpr ⟨_, e2, by rw [← e1]⟩) hn.1
    · exact absurd (List.mem_map.mpr ⟨_, e1, by rw [← e2]⟩) hn.1
    · exact ih hn.2 e1 e2
/-- each name that is a cell has one -/
def cellsGood (scope : Scope) : Bool := (scope.names.all fun p => p.2 != .cell || decide (p.1 ∈ (PySem.cellsFrom 0 scope.names []).map (·.1))) && decide (((PySem.cellsFrom 0 scope.names []).map (·.1)).Nodup)
theorem cellsGood_get {scope : Scope} (h : cellsGood scope = true) {y : Str} (hy : scope.names.lookup y = some .cell) (n : Nat) : ∃ a, (PySem.cellsFrom n scope.names []).lookup y = some a := by
  unfold cellsGood at h
  rw [Bool.and_eq_true] at h
  have := List.all_eq_true.mp h.1 (y, .cell) (mem_lookup hy)
  have h2 : y ∈ (PySem.cellsFrom 0 scope.names []).map (·.1) := by simpa using this
  rw [PyProof.Rows.cellsFrom_names scope.names 0 n [] [] rfl] at h2
  exact lookup_some_names h2
/-- a def with cells -/
theorem cl_defC {name qual : Str} {params : Arguments} {body : List Stmt} {scope : Scope} {dV kV doc pm cdv ct oc : Value} {an od : Option Addr} {osl : Array (Option Value)} {f : Addr} {xs : List PV} {k : Nat} {ns : List Str} {Q : PV → Prop}
    (ho : G.K.lookup f = some ⟨oc, od, .func (fnOf name qual params body scope dV kV doc pm an cdv ct), osl⟩) (hcd : codeIn G.K cdv qual = true) (hroom : c.Room (k + 1))
    (hbind : ∀ vs, vs.length = xs.length → bindArgs (fnOf name qual params body scope dV kV doc pm an cdv ct) ⟨vs, []⟩ = pure (ns.zip vs))
    (hloc : (ns.all fun x => decide (scope.names.lookup x = some .local) || decide (scope.names.lookup x = some .cell)) = true) (hnd : ns.Nodup) (hcells : cellsGood scope = true)
    (h : ∀ A g0 L hid, (Cx.mk A (envOfC qual scope L f cdv) g0 L hid).Room k → Ex G (Cx.mk A (envOfC qual scope L f cdv) g0 L hid) (ns.zip xs) body (bodyQ Q))
    (hco : scope.isCoroutine = false := by rfl) (hgen : scope.isGenerator = false := by rfl) (hk : scope.kind = .function := by rfl) : Cl G c σ (.ref f) xs Q := by
  intro m ow al s ok S vs r
  have X := S.inK ok
  have hlen := r.length
  have kinds : ∀ x ∈ ns, scope.names.lookup x = some .local ∨ scope.names.lookup x = some .cell := fun x hx => by simpa using List.all_eq_true.mp hloc x hx
  refine PySem.codeAny_call_cells (fd := fnOf name qual params body scope dV kV doc pm an cdv ct) (body := body) (binds := ns.zip vs) (by have := hroom.1; omega) (X _ _ ho) rfl (ok.T.nolimit.keeps S.F.keep) (codeRec_of X hcd) rfl (hbind vs hlen) rfl
    (fun x hx => by
      have h1 : x.1 ∈ ns := (List.of_mem_zip hx).1
      rcases kinds _ h1 with e | e
      · exact .inl e
      · obtain ⟨a, ha⟩ := cellsGood_get hcells e (s.heap.objs.size + 1)
        exact .inr ⟨e, by rw [ha]; rfl⟩) (fun s₁ Y => ?_) hco hgen hk
  obtain ⟨h₁, tk, rfl, keep⟩ := Y.done
  let L : Addr := s.heap.objs.size
  let env : Env := envOfC qual scope L f cdv
  let c' : Cx := ⟨c.A.deeper env, env, s.heap, L, c.hid ++ c.L :: (ow ++ al).map (·.1)⟩
  have hnd2 : ((PySem.cellsFrom (s.heap.objs.size + 1) scope.names []).map (·.1)).Nodup := by
    unfold cellsGood at hcells
    rw [Bool.and_eq_true] at hcells
    have h2 := of_decide_eq_true hcells.2
    rw [PyProof.Rows.cellsFrom_names scope.names 0 (s.heap.objs.size + 1) [] [] rfl] at h2
    exact h2
  obtain ⟨cells, N, X0⟩ := PyProof.Rows.Cl.news (h₀ := s.heap) (L := L) (Nat.le_refl _) fun n a hm => ⟨Y.cell n a (PyProof.Rows.lookup_of_mem_nodup hnd2 hm), Y.above n a hm⟩
  have hfst := cellsAre_fst X0
  have hhid : ∀ a ∈ c'.hid, ∃ o, s.heap.get? a = some o := S.hsome ok
  have ok' : c'.Ok G := ⟨ok.hh, X, ok.T.keeps S.F.keep, hk, rfl, rfl, hhid, S.hidden ok⟩
  have F' : Fr c'.g0 c'.L h₁ (PySem.bindL env.kindOf (ns.zip vs) fun _ => none) := ⟨Y.toInCall.ns, keep, Nat.le_refl _⟩
  have hview : (Vw c (ow ++ al) s.heap).StaysIn (Vw c' (cells ++ []) h₁) := fun b o e => by
    rw [mem_vw] at e ⊢
    refine ⟨keep _ _ e.1, fun hm => ?_⟩
    have hlt : @LT.lt Nat _ b s.heap.objs.size := Heap.lt_size e.1
    rcases List.mem_append.mp hm with q | q
    · exact e.2 q
    · rcases List.mem_cons.mp q with q | q
      · exact absurd hlt (by rw [q]; exact Nat.lt_irrefl _)
      · rw [List.append_nil, hfst] at q
        obtain ⟨p, hp, rfl⟩ := List.mem_map.mp q
        exact absurd (Nat.lt_trans hlt (Y.above p.1 p.2 hp)) (Nat.lt_irrefl _)
  have hnd' : ((ns.zip vs).map (·.1)).Nodup := hnd.sublist (zip_names ns vs)
  have hap := apart_nodup Y.apart
  have S' : St G c' (ns.zip xs) (PySem.bindL env.kindOf (ns.zip vs) fun _ => none) cells [] { s with heap := h₁, toks := tk } := by
    refine ⟨F', by rw [List.append_nil]; exact N, by rw [List.append_nil, hfst]; exact hap, fun x pv e => ?_, fun _ y hy => ?_⟩
    · obtain ⟨v, hv, rv⟩ := zip_lookup r x pv e
      have h0 := mem_lookup hv
      have h1 : x ∈ ns := (List.of_mem_zip h0).1
      refine ⟨v, ?_, .rep (rv.keeps hview)⟩
      rcases kinds _ h1 with q | q
      · exact .loc q rfl (bindL_get hnd' h0 q)
      · obtain ⟨a, ha⟩ := cellsGood_get hcells q (s.heap.objs.size + 1)
        obtain ⟨o, ho', hd⟩ := cellsAre_get X0 ha
        refine .cel q ha ho' (hd.trans ?_)
        exact congrArg Data.cell (bindC_get hnd' h0 q)
    · obtain ⟨a, ha⟩ := cellsGood_get hcells hy (s.heap.objs.size + 1)
      obtain ⟨o, ho', hd⟩ := cellsAre_get X0 ha
      exact ⟨a, ha, fun z hz => pair_inj hap (mem_lookup hz) (mem_lookup ha), o, _, ho', hd⟩
  have room' : c'.Room k := ⟨by have := hroom.1; show c.A.depth + 1 + k < _; omega, by have := hroom.2; show c.A.units + 3 + 8 * k < _; omega⟩
  refine wpAny_mono (h _ _ _ _ room' _ cells [] _ ok' S') (fun fl s1 hp => ?_) bot_elim
  obtain ⟨h1, t1, m1, ow1, σ1, fq, rfl, k1, S1, r1, q1⟩ := hp
  have kk : s.heap.StaysIn h1 := S1.F.keep
  have vv : (Vw c' (ow1 ++ []) h1).StaysIn (Vw c (ow ++ al) h1) := fun b o e => by
    rw [mem_vw] at e ⊢
    exact ⟨e.1, fun hm => e.2 (List.mem_append_left _ hm)⟩
  cases r1 with
  | nxt => exact ⟨h1, t1, rfl, kk, _, .none, q1⟩
  | brk => exact q1.elim
  | cont => exact q1.elim
  | ret r => exact ⟨h1, t1, rfl, kk, _, r.keeps vv, q1⟩
end
end Mine
end Part18
section Part19
open PySem PySem.W PySem.Calls
set_option maxRecDepth 100000
set_option autoImplicit false
set_option linter.unusedVariables false
namespace Mine
open PyProof.Rows (Fr News Top IsTup Below envOf envOfC)
theorem cf_ok : ∀ (names : List (Str × NameKind)) (n lo : Nat) (acc : List (Str × Addr)), lo ≤ n → (∀ p ∈ acc, lo ≤ p.2 ∧ @LT.lt Nat _ p.2 n) → (acc.map (·.2)).Nodup →
    ((PySem.cellsFrom n names acc).map (·.2)).Nodup ∧ ∀ p ∈ PySem.cellsFrom n names acc, lo ≤ p.2
  | [], n, lo, acc, _, h, hn => ⟨hn, fun p hp => (h p hp).1⟩
  | (name, kind) :: r, n, lo, acc, hl, h, hn => by
    unfold PySem.cellsFrom
    split
    · refine cf_ok r (n + 1) lo ((name, n) :: acc) (Nat.le_succ_of_le hl) (fun p hp => ?_) ?_
      · rcases List.mem_cons.mp hp with rfl | hp
        · exact ⟨hl, Nat.lt_succ_self _⟩
        · exact ⟨(h p hp).1, Nat.lt_succ_of_lt (h p hp).2⟩
      · rw [List.map_cons, List.nodup_cons]
        refine ⟨fun hm => ?_, hn⟩
        obtain ⟨p, hp, e⟩ := List.mem_map.mp hm
        exact absurd (h p hp).2 (by rw [e]; exact Nat.lt_irrefl _)
    · exact cf_ok r n lo acc hl h hn
theorem law_enterC {G : Gl} {A : Around} {env : Env} {body : List Stmt} {s₁ : Shared} {h₁ : Heap} {tk₁ : Nat} {m cm : Str → Option Value} {news : Led} {lst : Addr} {vs : List Value} {ns : List Int} {Qk : Flow → Shared → Prop} {Ek : Value → Shared → Prop}
    (hA : A.handled = none) (KX : G.K.In s₁.heap) (T : Top G.p G.loose G.mean G.mg G.mb s₁.heap) (F : Fr s₁.heap s₁.heap.objs.size h₁ m) (N : News s₁.heap s₁.heap.objs.size h₁ news)
    (X : PyProof.Rows.CellsAre cm env.cells news) (hsc : cm "script" = some (.ref lst)) (hL : s₁.heap.IsList lst vs.toArray) (hI : PyProof.Rows.IntsAre vs ns)
    (hcs : env.cells = PySem.cellsFrom (s₁.heap.objs.size + 1) env.scope.names []) (hgood : cellsGood env.scope = true)
    (hk : env.kindOf ("script" : Str) = some .cell) (ek : env.scope.kind = .function) (eg : env.globals = mainGlobals) (eb : env.builtins = builtinsNs)
    (hrm : Cx.Room ⟨A, env, s₁.heap, s₁.heap.objs.size, []⟩ 40)
    (h : Cx.Room ⟨A, env, s₁.heap, s₁.heap.objs.size, []⟩ 40 → Ex G ⟨A, env, s₁.heap, s₁.heap.objs.size, []⟩ [("script", .lst (ns.map .int))] body (fun f _ => f = .ret (.bool true)))
    (q : ∀ h' tk' m', Fr s₁.heap s₁.heap.objs.size h' m' → Qk (.ret (.bool true)) { s₁ with heap := h', toks := tk' }) :
    wpAny G.M A (execs body env) Qk Ek ⟨h₁, s₁.gens, s₁.drawn, tk₁, s₁.os⟩ := by
  have cf := cf_ok env.scope.names (s₁.heap.objs.size + 1) (s₁.heap.objs.size + 1) [] (Nat.le_refl _) (fun p hp => by cases hp) List.nodup_nil
  rw [← hcs] at cf
  have hall : ∀ y, env.kindOf y = some .cell → ∃ a, env.cells.lookup y = some a := fun y hy => by
    rw [hcs]; exact cellsGood_get hgood hy _
  obtain ⟨ca, hc⟩ := hall _ hk
  exact law_enter hA KX T F N X hsc hL hI hk hc ek eg eb cf.1 (fun p hp => Nat.lt_of_succ_le (cf.2 p hp)) hall hrm h q
section
variable {G : Gl} {c : Cx} {σ : Sg}
/-- l op1 r1 op2 r2 -/
theorem evt_chain {l r1 r2 : Expr} {op1 op2 : CmpOp} {pos : Pos} {Q : Bool → Prop}
    (h : Ev G c σ l (fun a => Ev G c σ r1 (fun b => Op2 G c σ (compareOp op1) a b (fun x => OpT G c σ truthy x (fun t => if t then Ev G c σ r2 (fun d => Op2 G c σ (compareOp op2) b d (fun y => OpT G c σ truthy y Q)) else Q false)))))
    (hm : PySem.lastMarks [op1, op2] [r1, r2] = false := by with_unfolding_all rfl) : EvT G c σ (.Compare l [op1, op2] [r1, r2] pos) Q := by
  intro m ow al s ok S
  refine PyProof.Rows.isTrue_chain (wpAny_mono (h m ow al s ok S) (fun a s1 hp => ?_) bot_elim) hm
  obtain ⟨h1, t1, rfl, k1, x, rx, q1⟩ := hp
  refine PyProof.Rows.test_link (wpAny_mono (q1 m ow al _ ok (S.grow k1)) (fun b s2 hp2 => ?_) bot_elim)
  obtain ⟨h2, t2, rfl, k2, y, ry, q2⟩ := hp2
  have k12 := stays_trans k1 k2
  refine wpAny_mono (q2 m ow al _ ok (S.grow k12) a b (rx.keeps (vw_mono k2)) ry) (fun v s3 hp3 => ?_) bot_elim
  obtain ⟨h3, t3, rfl, k3, z, rz, q3⟩ := hp3
  have k13 := stays_trans k12 k3
  refine wpAny_mono (q3 m ow al _ ok (S.grow k13) v rz) (fun t s4 hp4 => ?_) bot_elim
  obtain ⟨h4, t4, rfl, k4, q4⟩ := hp4
  have k14 := stays_trans k13 k4
  cases t with
  | false => exact ⟨h4, t4, rfl, k14, q4⟩
  | true =>
    refine PyProof.Rows.test_last (wpAny_mono (q4 m ow al _ ok (S.grow k14)) (fun d s5 hp5 => ?_) bot_elim)
    obtain ⟨h5, t5, rfl, k5, u, ru, q5⟩ := hp5
    have k15 := stays_trans k14 k5
    refine wpAny_mono (q5 m ow al _ ok (S.grow k15) b d (ry.keeps (vw_mono (stays_trans k3 (stays_trans k4 k5)))) ru) (fun v' s6 hp6 => ?_) bot_elim
    obtain ⟨h6, t6, rfl, k6, z', rz', q6⟩ := hp6
    have k16 := stays_trans k15 k6
    refine wpAny_mono (q6 m ow al _ ok (S.grow k16) v' rz') (fun t' s7 hp7 => PostB.mono k16 hp7 fun _ q => q) bot_elim
theorem evt_mono {e : Expr} {Q Q' : Bool → Prop} (h : EvT G c σ e Q) (hq : ∀ b, Q b → Q' b) : EvT G c σ e Q' := by
  intro m ow al s ok S
  refine wpAny_mono (h m ow al s ok S) (fun b s1 hp => ?_) bot_elim
  obtain ⟨h1, t1, rfl, k1, q1⟩ := hp
  exact ⟨h1, t1, rfl, k1, hq _ q1⟩
theorem ex_keep {st : Stmt} {Q : Fl → Sg → Prop} (h : Ex1 G c σ st (fun f σ' => f = .nxt ∧ σ' = σ)) (q : Q .nxt σ) : Ex1 G c σ st Q :=
  ex1_mono h fun f σ' hh => by obtain ⟨rfl, rfl⟩ := hh; exact q
end
end Mine
end Part19
section Part20
set_option maxRecDepth 100000
set_option autoImplicit false
set_option linter.unusedVariables false
namespace Mine
/-! the neighbours over the sides, by digits -/
/-- the corner (counterclockwise from the least) in which the child of a digit lies -/
def qd (o d : Nat) : Nat := (([[0, 3, 2, 1], [0, 1, 2, 3], [2, 1, 0, 3], [2, 3, 0, 1]] : List (List Nat)).getD o []).getD d 0
/-- the digit of the child in a corner -/
def dg (o k : Nat) : Nat := (([[0, 3, 2, 1], [0, 1, 2, 3], [2, 1, 0, 3], [2, 3, 0, 1]] : List (List Nat)).getD o []).getD k 0
theorem dg_qd : ∀ o < 4, ∀ d < 4, dg o (qd o d) = d ∧ qd o (dg o d) = d ∧ qd o d < 4 ∧ dg o d < 4 := by decide
theorem qd_pij : ∀ o < 4, ∀ d < 4, pij o d / 2 = (if qd o d = 1 ∨ qd o d = 2 then 1 else 0) ∧ pij o d % 2 = (if 2 ≤ qd o d then 1 else 0) := by decide
def cube (f t : Nat) : Nat × Nat := (([[(5, 2), (1, 3), (2, 3), (4, 2)], [(5, 1), (3, 0), (2, 0), (0, 1)], [(1, 2), (3, 3), (4, 3), (0, 2)], [(1, 1), (5, 0), (4, 0), (2, 1)], [(3, 2), (5, 3), (0, 3), (2, 2)], [(3, 1), (1, 0), (0, 0), (4, 1)]] : List (List (Nat × Nat))).getD f []).getD t (0, 0)
theorem cube_back : ∀ f < 6, ∀ t < 4, cube (cube f t).1 (cube f t).2 = (f, t) ∧ (cube f t).1 < 6 ∧ (cube f t).2 < 4 := by decide
/-- the orientation of the cell at the place p of the whole curve -/
def oz : Nat → Nat → Nat
  | 0, p => p % 2
  | L + 1, p => oz L (p / 4) ^^^ po (p % 4)
theorem oz_lt : ∀ (L p : Nat), oz L p < 4
  | 0, p => by unfold oz; omega
  | L + 1, p => xor_lt4 _ (oz_lt L _) _ (po_lt _ (m4 p))
theorem oz_ho : ∀ (L p : Nat), oz L p = ho L (p / 4 ^ L % 2) p
  | 0, p => by simp [oz, ho]
  | L + 1, p => by
    show oz L (p / 4) ^^^ _ = ho L _ (p / 4) ^^^ _
    rw [oz_ho L (p / 4), Nat.div_div_eq_div_mul, Nat.pow_succ, Nat.mul_comm]
def nbr : Nat → Nat → Nat → Nat × Nat
  | 0, p, t => cube p t
  | L + 1, p, t =>
    let k := qd (oz L (p / 4)) (p % 4)
    if t = k then
      let n := nbr L (p / 4) t
      (4 * n.1 + dg (oz L n.1) ((n.2 + 1) % 4), n.2)
    else if t = (k + 3) % 4 then
      let n := nbr L (p / 4) t
      (4 * n.1 + dg (oz L n.1) n.2, n.2)
    else if t = (k + 1) % 4 then (4 * (p / 4) + dg (oz L (p / 4)) ((k + 1) % 4), (t + 2) % 4)
    else (4 * (p / 4) + dg (oz L (p / 4)) ((k + 3) % 4), (t + 2) % 4)
theorem sd (q d : Nat) (h : d < 4) : (4 * q + d) / 4 = q ∧ (4 * q + d) % 4 = d := by omega
theorem nbr_fit : ∀ (L p t : Nat), p < 6 * 4 ^ L → t < 4 → (nbr L p t).1 < 6 * 4 ^ L ∧ (nbr L p t).2 < 4
  | 0, p, t, hp, ht => (cube_back p (by simpa using hp) t ht).2 |> fun h => ⟨by rw [Nat.pow_zero]; exact h.1, h.2⟩
  | L + 1, p, t, hp, ht => by
    have hq : p / 4 < 6 * 4 ^ L := by rw [Nat.pow_succ] at hp; omega
    have ih := nbr_fit L (p / 4) t hq ht
    have b := oz_lt L (nbr L (p / 4) t).1
    have b2 := oz_lt L (p / 4)
    have d1 := (dg_qd _ b ((nbr L (p / 4) t).2) ih.2).2.2.2
    have d2 := (dg_qd _ b (((nbr L (p / 4) t).2 + 1) % 4) (m4 _)).2.2.2
    have d3 := (dg_qd _ b2 ((qd (oz L (p / 4)) (p % 4) + 1) % 4) (m4 _)).2.2.2
    have d4 := (dg_qd _ b2 ((qd (oz L (p / 4)) (p % 4) + 3) % 4) (m4 _)).2.2.2
    simp only [nbr]
    rw [Nat.pow_succ]
    split
    · exact ⟨by dsimp only; omega, ih.2⟩
    split
    · exact ⟨by dsimp only; omega, ih.2⟩
    split
    · exact ⟨by dsimp only; omega, m4 _⟩
    · exact ⟨by dsimp only; omega, m4 _⟩
theorem nbr_back : ∀ (L p t : Nat), p < 6 * 4 ^ L → t < 4 → nbr L (nbr L p t).1 (nbr L p t).2 = (p, t)
  | 0, p, t, hp, ht => (cube_back p (by simpa using hp) t ht).1
  | L + 1, p, t, hp, ht => by
    have hq : p / 4 < 6 * 4 ^ L := by rw [Nat.pow_succ] at hp; omega
    have ih := nbr_back L (p / 4) t hq ht
    have fit := nbr_fit L (p / 4) t hq ht
    have b := oz_lt L (nbr L (p / 4) t).1
    have b2 := oz_lt L (p / 4)
    have k4 := (dg_qd _ b2 (p % 4) (m4 p)).2.2.1
    have kd := (dg_qd _ b2 (p % 4) (m4 p)).1
    generalize hk : qd (oz L (p / 4)) (p % 4) = k at k4 kd
    have e4 : 4 * (p / 4) + p % 4 = p := Nat.div_add_mod p 4
    generalize hn : nbr L (p / 4) t = n at ih fit b
    by_cases h1 : t = k
    · have e : nbr (L + 1) p t = (4 * n.1 + dg (oz L n.1) ((n.2 + 1) % 4), n.2) := by simp only [nbr, hk]; rw [if_pos h1, hn]
      have s := sd n.1 (dg (oz L n.1) ((n.2 + 1) % 4)) (dg_qd _ b _ (m4 _)).2.2.2
      rw [e]
      simp only [nbr]
      rw [s.1, s.2, (dg_qd _ b ((n.2 + 1) % 4) (m4 _)).2.1, if_neg (by omega), if_pos (by omega), ih]
      dsimp only
      rw [h1, kd, e4]
    by_cases h2 : t = (k + 3) % 4
    · have e : nbr (L + 1) p t = (4 * n.1 + dg (oz L n.1) n.2, n.2) := by simp only [nbr, hk]; rw [if_neg h1, if_pos h2, hn]
      have s := sd n.1 (dg (oz L n.1) n.2) (dg_qd _ b _ fit.2).2.2.2
      rw [e]
      simp only [nbr]
      rw [s.1, s.2, (dg_qd _ b n.2 fit.2).2.1, if_pos rfl, ih]
      dsimp only
      rw [show (t + 1) % 4 = k by omega, kd, e4]
    by_cases h3 : t = (k + 1) % 4
    · have e : nbr (L + 1) p t = (4 * (p / 4) + dg (oz L (p / 4)) ((k + 1) % 4), (t + 2) % 4) := by simp only [nbr, hk]; rw [if_neg h1, if_neg h2, if_pos h3]
      have s := sd (p / 4) (dg (oz L (p / 4)) ((k + 1) % 4)) (dg_qd _ b2 _ (m4 _)).2.2.2
      rw [e]
      simp only [nbr]
      rw [s.1, s.2, (dg_qd _ b2 ((k + 1) % 4) (m4 _)).2.1, if_neg (by omega), if_neg (by omega), if_neg (by omega)]
      rw [show ((k + 1) % 4 + 3) % 4 = k by omega, kd, e4, show ((t + 2) % 4 + 2) % 4 = t by omega]
    · have e : nbr (L + 1) p t = (4 * (p / 4) + dg (oz L (p / 4)) ((k + 3) % 4), (t + 2) % 4) := by simp only [nbr, hk]; rw [if_neg h1, if_neg h2, if_neg h3]
      have s := sd (p / 4) (dg (oz L (p / 4)) ((k + 3) % 4)) (dg_qd _ b2 _ (m4 _)).2.2.2
      rw [e]
      simp only [nbr]
      rw [s.1, s.2, (dg_qd _ b2 ((k + 3) % 4) (m4 _)).2.1, if_neg (by omega), if_neg (by omega), if_pos (by omega)]
      rw [show ((k + 3) % 4 + 1) % 4 = k by omega, kd, e4, show ((t + 2) % 4 + 2) % 4 = t by omega]
end Mine
end Part20
section Part21
set_option maxRecDepth 100000
set_option autoImplicit false
set_option linter.unusedVariables false
namespace Mine
/-! coordinates -/
def bx (k : Nat) : Nat := if k = 1 ∨ k = 2 then 1 else 0
def by' (k : Nat) : Nat := if 2 ≤ k then 1 else 0
def xz : Nat → Nat → Nat
  | 0, _ => 0
  | L + 1, p => 2 * xz L (p / 4) + bx (qd (oz L (p / 4)) (p % 4))
def yz : Nat → Nat → Nat
  | 0, _ => 0
  | L + 1, p => 2 * yz L (p / 4) + by' (qd (oz L (p / 4)) (p % 4))
theorem fz_div (L p : Nat) : p / 4 / 4 ^ L = p / 4 ^ (L + 1) := (div4 p L).symm
theorem xz_hx : ∀ (L p : Nat), xz L p = hx L (p / 4 ^ L % 2) p
  | 0, p => rfl
  | L + 1, p => by
    show 2 * xz L (p / 4) + _ = 2 * hx L _ (p / 4) + _
    rw [xz_hx L (p / 4), fz_div]
    have := (qd_pij _ (oz_lt L (p / 4)) _ (m4 p)).1
    rw [show ho L (p / 4 ^ (L + 1) % 2) (p / 4) = oz L (p / 4) by rw [oz_ho, fz_div], this]; rfl
theorem yz_hy : ∀ (L p : Nat), yz L p = hy L (p / 4 ^ L % 2) p
  | 0, p => rfl
  | L + 1, p => by
    show 2 * yz L (p / 4) + _ = 2 * hy L _ (p / 4) + _
    rw [yz_hy L (p / 4), fz_div]
    have := (qd_pij _ (oz_lt L (p / 4)) _ (m4 p)).2
    rw [show ho L (p / 4 ^ (L + 1) % 2) (p / 4) = oz L (p / 4) by rw [oz_ho, fz_div], this]; rfl
theorem xz_lt (L p : Nat) : xz L p < 2 ^ L := by rw [xz_hx]; exact hx_lt (by omega) _ _
theorem yz_lt (L p : Nat) : yz L p < 2 ^ L := by rw [yz_hy]; exact hy_lt (by omega) _ _
/-- the square is at the rim t of its face -/
def rim (L t x y : Nat) : Prop := if t = 0 then y = 0 else if t = 1 then x + 1 = 2 ^ L else if t = 2 then y + 1 = 2 ^ L else x = 0
/-- the place along the side, counterclockwise -/
def along (L t x y : Nat) : Nat := if t = 0 then x else if t = 1 then y else if t = 2 then 2 ^ L - 1 - x else 2 ^ L - 1 - y
/-- the square next to it -/
def nextTo (t x y x2 y2 : Nat) : Prop := if t = 0 then x2 = x ∧ y2 + 1 = y else if t = 1 then x2 = x + 1 ∧ y2 = y else if t = 2 then x2 = x ∧ y2 = y + 1 else x2 + 1 = x ∧ y2 = y
def Geo (L p t p2 t2 : Nat) : Prop :=
  (rim L t (xz L p) (yz L p) ∧ (p2 / 4 ^ L, t2) = cube (p / 4 ^ L) t ∧ rim L t2 (xz L p2) (yz L p2) ∧ along L t (xz L p) (yz L p) + along L t2 (xz L p2) (yz L p2) + 1 = 2 ^ L) ∨
  (¬rim L t (xz L p) (yz L p) ∧ p2 / 4 ^ L = p / 4 ^ L ∧ t2 = (t + 2) % 4 ∧ nextTo t (xz L p) (yz L p) (xz L p2) (yz L p2))
theorem child_at (L q o k : Nat) (hk : k < 4) (ho : o = oz L q) : xz (L + 1) (4 * q + dg o k) = 2 * xz L q + bx k ∧ yz (L + 1) (4 * q + dg o k) = 2 * yz L q + by' k ∧ (4 * q + dg o k) / 4 ^ (L + 1) = q / 4 ^ L := by
  subst ho
  have h := dg_qd _ (oz_lt L q) k hk
  have s := sd q (dg (oz L q) k) h.2.2.2
  simp only [xz, yz]
  rw [s.1, s.2, h.2.1, ← fz_div, s.1]
  exact ⟨rfl, rfl, rfl⟩
theorem rim_child {L t k x y : Nat} (ht : t < 4) (hk : k < 4) (hx : x < 2 ^ L) (hy : y < 2 ^ L) : rim (L + 1) t (2 * x + bx k) (2 * y + by' k) ↔ (t = k ∨ t = (k + 3) % 4) ∧ rim L t x y := by
  unfold rim bx by'
  rw [Nat.pow_succ]
  have : k = 0 ∨ k = 1 ∨ k = 2 ∨ k = 3 := by omega
  have : t = 0 ∨ t = 1 ∨ t = 2 ∨ t = 3 := by omega
  rcases ‹k = 0 ∨ _› with rfl | rfl | rfl | rfl <;> rcases ‹t = 0 ∨ _› with rfl | rfl | rfl | rfl <;> simp <;> omega
theorem along_child {L t k x y : Nat} (hk : k < 4) (ht : t = k ∨ t = (k + 3) % 4) (hx : x < 2 ^ L) (hy : y < 2 ^ L) : along (L + 1) t (2 * x + bx k) (2 * y + by' k) = 2 * along L t x y + (if t = k then 0 else 1) := by
  unfold along bx by'
  rw [Nat.pow_succ]
  have : k = 0 ∨ k = 1 ∨ k = 2 ∨ k = 3 := by omega
  rcases this with rfl | rfl | rfl | rfl <;> rcases ht with rfl | rfl <;> simp <;> omega
theorem next_outer {t k x y x2 y2 : Nat} (hk : k < 4) (ht : t = k ∨ t = (k + 3) % 4) (h : nextTo t x y x2 y2) : nextTo t (2 * x + bx k) (2 * y + by' k) (2 * x2 + bx (if t = k then ((t + 2) % 4 + 1) % 4 else (t + 2) % 4)) (2 * y2 + by' (if t = k then ((t + 2) % 4 + 1) % 4 else (t + 2) % 4)) := by
  unfold nextTo at *
  have : k = 0 ∨ k = 1 ∨ k = 2 ∨ k = 3 := by omega
  rcases this with rfl | rfl | rfl | rfl <;> rcases ht with rfl | rfl <;> simp [bx, by'] at * <;> omega
theorem next_inner {t k x y : Nat} (hk : k < 4) (ht : t < 4) (h1 : ¬t = k) (h2 : ¬t = (k + 3) % 4) : nextTo t (2 * x + bx k) (2 * y + by' k) (2 * x + bx (if t = (k + 1) % 4 then (k + 1) % 4 else (k + 3) % 4)) (2 * y + by' (if t = (k + 1) % 4 then (k + 1) % 4 else (k + 3) % 4)) := by
  unfold nextTo
  have : k = 0 ∨ k = 1 ∨ k = 2 ∨ k = 3 := by omega
  have : t = 0 ∨ t = 1 ∨ t = 2 ∨ t = 3 := by omega
  rcases ‹k = 0 ∨ _› with rfl | rfl | rfl | rfl <;> rcases ‹t = 0 ∨ _› with rfl | rfl | rfl | rfl <;> simp [bx, by'] at * <;> omega
theorem self_at (L p : Nat) : xz (L + 1) p = 2 * xz L (p / 4) + bx (qd (oz L (p / 4)) (p % 4)) ∧ yz (L + 1) p = 2 * yz L (p / 4) + by' (qd (oz L (p / 4)) (p % 4)) := ⟨rfl, rfl⟩
theorem geo : ∀ (L p t : Nat), p < 6 * 4 ^ L → t < 4 → Geo L p t (nbr L p t).1 (nbr L p t).2
  | 0, p, t, hp, ht => by
    left
    have hb := (cube_back p (by simpa using hp) t ht).2.2
    refine ⟨by unfold rim; simp [xz, yz], ?_, by unfold rim; simp [xz, yz], by unfold along; simp [xz, yz]⟩
    simp [nbr]
  | L + 1, p, t, hp, ht => by
    have hq : p / 4 < 6 * 4 ^ L := by rw [Nat.pow_succ] at hp; omega
    have ih := geo L (p / 4) t hq ht
    have fit := nbr_fit L (p / 4) t hq ht
    have k4 := (dg_qd _ (oz_lt L (p / 4)) (p % 4) (m4 p)).2.2.1
    have hX := xz_lt L (p / 4)
    have hY := yz_lt L (p / 4)
    unfold Geo
    rw [(self_at L p).1, (self_at L p).2]
    generalize hk : qd (oz L (p / 4)) (p % 4) = k at k4
    rw [rim_child ht k4 hX hY, ← fz_div L p]
    by_cases ho : t = k ∨ t = (k + 3) % 4
    · have e : nbr (L + 1) p t = (4 * (nbr L (p / 4) t).1 + dg (oz L (nbr L (p / 4) t).1) (if t = k then ((nbr L (p / 4) t).2 + 1) % 4 else (nbr L (p / 4) t).2), (nbr L (p / 4) t).2) := by
        simp only [nbr, hk]
        by_cases h1 : t = k
        · rw [if_pos h1, if_pos h1]
        · rw [if_neg h1, if_neg h1, if_pos (by omega)]
      rw [e]
      generalize nbr L (p / 4) t = n at ih fit ⊢
      have hk2 : (if t = k then (n.2 + 1) % 4 else n.2) < 4 := by split <;> omega
      have c := child_at L n.1 _ _ hk2 rfl
      dsimp only
      rw [c.1, c.2.1, c.2.2]
      have hX2 := xz_lt L n.1
      have hY2 := yz_lt L n.1
      have ho2 : n.2 = (if t = k then (n.2 + 1) % 4 else n.2) ∨ n.2 = ((if t = k then (n.2 + 1) % 4 else n.2) + 3) % 4 := by split <;> omega
      rcases ih with ⟨r1, r2, r3, r4⟩ | ⟨r1, r2, r3, r4⟩
      · left
        refine ⟨⟨ho, r1⟩, r2, (rim_child fit.2 hk2 hX2 hY2).mpr ⟨ho2, r3⟩, ?_⟩
        rw [along_child k4 ho hX hY, along_child hk2 ho2 hX2 hY2, Nat.pow_succ]
        by_cases h1 : t = k
        · rw [if_pos h1, if_pos h1, if_neg (by omega)]; omega
        · rw [if_neg h1, if_neg h1, if_pos rfl]; omega
      · right
        refine ⟨fun h => r1 h.2, r2, r3, ?_⟩
        have := next_outer k4 ho r4
        rw [r3]
        exact this
    · have e : nbr (L + 1) p t = (4 * (p / 4) + dg (oz L (p / 4)) (if t = (k + 1) % 4 then (k + 1) % 4 else (k + 3) % 4), (t + 2) % 4) := by
        simp only [nbr, hk]
        rw [if_neg (fun h => ho (.inl h)), if_neg (fun h => ho (.inr h))]
        by_cases h1 : t = (k + 1) % 4
        · rw [if_pos h1, if_pos h1]
        · rw [if_neg h1, if_neg h1]
      rw [e]
      have c := child_at L (p / 4) _ (if t = (k + 1) % 4 then (k + 1) % 4 else (k + 3) % 4) (by split <;> omega) rfl
      dsimp only
      rw [c.1, c.2.1, c.2.2]
      right
      exact ⟨fun h => ho h.1, rfl, rfl, next_inner k4 ht (fun h => ho (.inl h)) (fun h => ho (.inr h))⟩
end Mine
end Part21
section Part22
set_option maxRecDepth 100000
set_option autoImplicit false
set_option linter.unusedVariables false
namespace Mine
/-! the place of a square -/
def corner (a b : Nat) : Nat := if b = 0 then (if a = 0 then 0 else 1) else (if a = 0 then 3 else 2)
theorem corner_bits : ∀ k < 4, corner (bx k) (by' k) = k := by decide
theorem bits_corner : ∀ a < 2, ∀ b < 2, bx (corner a b) = a ∧ by' (corner a b) = b ∧ corner a b < 4 := by decide
def pz : Nat → Nat → Nat → Nat → Nat
  | 0, f, _, _ => f
  | L + 1, f, x, y => 4 * pz L f (x / 2) (y / 2) + dg (oz L (pz L f (x / 2) (y / 2))) (corner (x % 2) (y % 2))
theorem bx_lt : ∀ k, bx k < 2 := fun k => by unfold bx; split <;> omega
theorem by_lt : ∀ k, by' k < 2 := fun k => by unfold by'; split <;> omega
theorem pz_at : ∀ (L p : Nat), pz L (p / 4 ^ L) (xz L p) (yz L p) = p
  | 0, p => by simp [pz]
  | L + 1, p => by
    simp only [pz, xz, yz]
    have b1 := bx_lt (qd (oz L (p / 4)) (p % 4))
    have b2 := by_lt (qd (oz L (p / 4)) (p % 4))
    have h := dg_qd _ (oz_lt L (p / 4)) (p % 4) (m4 p)
    rw [show (2 * xz L (p / 4) + bx (qd (oz L (p / 4)) (p % 4))) / 2 = xz L (p / 4) by omega, show (2 * yz L (p / 4) + by' (qd (oz L (p / 4)) (p % 4))) / 2 = yz L (p / 4) by omega,
      show (2 * xz L (p / 4) + bx (qd (oz L (p / 4)) (p % 4))) % 2 = bx (qd (oz L (p / 4)) (p % 4)) by omega, show (2 * yz L (p / 4) + by' (qd (oz L (p / 4)) (p % 4))) % 2 = by' (qd (oz L (p / 4)) (p % 4)) by omega,
      ← fz_div, pz_at L (p / 4), corner_bits _ h.2.2.1, h.1]
    exact Nat.div_add_mod p 4
theorem at_pz : ∀ (L f x y : Nat), x < 2 ^ L → y < 2 ^ L → xz L (pz L f x y) = x ∧ yz L (pz L f x y) = y ∧ pz L f x y / 4 ^ L = f
  | 0, f, x, y, hx, hy => by simp [pz, xz, yz] at *; omega
  | L + 1, f, x, y, hx, hy => by
    rw [Nat.pow_succ] at hx hy
    have ih := at_pz L f (x / 2) (y / 2) (by omega) (by omega)
    have hc := bits_corner (x % 2) (by omega) (y % 2) (by omega)
    have c := child_at L (pz L f (x / 2) (y / 2)) _ (corner (x % 2) (y % 2)) hc.2.2 rfl
    simp only [pz]
    rw [c.1, c.2.1, c.2.2, ih.1, ih.2.1, ih.2.2, hc.1, hc.2.1]
    omega
/-- a square has one place -/
theorem place_one {L p p2 : Nat} (hf : p / 4 ^ L = p2 / 4 ^ L) (hx : xz L p = xz L p2) (hy : yz L p = yz L p2) : p = p2 := by
  rw [← pz_at L p, ← pz_at L p2, hf, hx, hy]
/-- the parent's square -/
theorem pz_up (L f x y : Nat) : pz (L + 1) f x y / 4 = pz L f (x / 2) (y / 2) := by
  by_cases h : True
  · simp only [pz]
    have := (dg_qd _ (oz_lt L (pz L f (x / 2) (y / 2))) (corner (x % 2) (y % 2)) (bits_corner (x % 2) (by omega) (y % 2) (by omega)).2.2).2.2.2
    omega
  · exact absurd trivial h
theorem pz_anc (L f : Nat) : ∀ (n x y : Nat), pz (L + n) f x y / 4 ^ n = pz L f (x / 2 ^ n) (y / 2 ^ n)
  | 0, x, y => by simp
  | n + 1, x, y => by
    rw [← Nat.add_assoc, ← fz_div, pz_up, pz_anc L f n, Nat.div_div_eq_div_mul, Nat.div_div_eq_div_mul, Nat.pow_succ, Nat.mul_comm 2]
end Mine
end Part22
section Part23
set_option maxRecDepth 100000
set_option autoImplicit false
set_option linter.unusedVariables false
namespace Mine
/-! the way in and out of a cell: sides -/
def gs : Nat → Nat → Nat
  | 0, f => if f % 2 = 0 then 1 else 2
  | L + 1, p => if p % 4 = 3 then gs L (p / 4) else
      if qd (oz L (p / 4)) (p % 4 + 1) = (qd (oz L (p / 4)) (p % 4) + 1) % 4 then (qd (oz L (p / 4)) (p % 4) + 1) % 4 else (qd (oz L (p / 4)) (p % 4) + 2) % 4
def cs : Nat → Nat → Nat
  | 0, f => if f % 2 = 0 then 0 else 3
  | L + 1, p => if p % 4 = 0 then cs L (p / 4) else
      if qd (oz L (p / 4)) (p % 4) = (qd (oz L (p / 4)) (p % 4 - 1) + 1) % 4 then (qd (oz L (p / 4)) (p % 4 - 1) + 3) % 4 else qd (oz L (p / 4)) (p % 4 - 1)
def nx (L p : Nat) : Nat := (p + 1) % (6 * 4 ^ L)
def Lk (o g o2 c2 : Nat) : Prop := (g = qd o 3 ∧ qd o2 0 = (c2 + 1) % 4) ∨ (g = (qd o 3 + 3) % 4 ∧ qd o2 0 = c2)
theorem cs_lt : ∀ (L p : Nat), cs L p < 4
  | 0, p => by unfold cs; split <;> omega
  | L + 1, p => by
    have h := (dg_qd _ (oz_lt L (p / 4)) (p % 4 - 1) (by omega)).2.2.1
    unfold cs; split
    · exact cs_lt L _
    · split <;> omega
theorem gs_lt : ∀ (L p : Nat), gs L p < 4
  | 0, p => by unfold gs; split <;> omega
  | L + 1, p => by
    unfold gs; split
    · exact gs_lt L _
    · split <;> omega
theorem qd_next : ∀ o < 4, ∀ d < 3, qd o (d + 1) = (qd o d + 1) % 4 ∨ qd o (d + 1) = (qd o d + 3) % 4 := by decide
theorem qd_ends : ∀ o < 4, qd (o ^^^ po 3) 3 = qd o 3 ∧ qd (o ^^^ po 0) 0 = qd o 0 := by decide
theorem in_one : ∀ o < 4, ∀ d < 3, Lk (o ^^^ po d) (if qd o (d + 1) = (qd o d + 1) % 4 then (qd o d + 1) % 4 else (qd o d + 2) % 4) (o ^^^ po (d + 1)) (if qd o (d + 1) = (qd o d + 1) % 4 then (qd o d + 3) % 4 else qd o d) := by unfold Lk; decide
theorem nx_div {L p : Nat} (hp : p < 6 * 4 ^ (L + 1)) (h : p % 4 = 3) : nx (L + 1) p / 4 = nx L (p / 4) ∧ nx (L + 1) p % 4 = 0 := by
  unfold nx
  rw [Nat.pow_succ] at *
  by_cases e : p + 1 = 6 * (4 ^ L * 4)
  · have e2 : p / 4 + 1 = 6 * 4 ^ L := by omega
    rw [e, e2, Nat.mod_self, Nat.mod_self]; simp
  · have e2 : p / 4 + 1 < 6 * 4 ^ L := by omega
    rw [Nat.mod_eq_of_lt (by omega), Nat.mod_eq_of_lt e2]; omega
theorem nx_in {L p : Nat} (hp : p < 6 * 4 ^ (L + 1)) (h : ¬p % 4 = 3) : nx (L + 1) p = p + 1 ∧ (p + 1) / 4 = p / 4 ∧ (p + 1) % 4 = p % 4 + 1 := by
  unfold nx
  rw [Nat.pow_succ] at *
  rw [Nat.mod_eq_of_lt (by omega)]; omega
theorem base_link : ∀ f < 6, cube f (gs 0 f) = (nx 0 f, cs 0 (nx 0 f)) ∧ Lk (f % 2) (gs 0 f) (nx 0 f % 2) (cs 0 (nx 0 f)) := by unfold Lk; decide
theorem link : ∀ (L p : Nat), p < 6 * 4 ^ L → nbr L p (gs L p) = (nx L p, cs L (nx L p)) ∧ Lk (oz L p) (gs L p) (oz L (nx L p)) (cs L (nx L p))
  | 0, p, hp => by
    have h := base_link p (by simpa using hp)
    simp only [nbr, oz]; exact h
  | L + 1, p, hp => by
    have hq : p / 4 < 6 * 4 ^ L := by rw [Nat.pow_succ] at hp; omega
    have ih := link L (p / 4) hq
    have b := oz_lt L (p / 4)
    by_cases h3 : p % 4 = 3
    · have n := nx_div hp h3
      have b2 := oz_lt L (nx L (p / 4))
      have e1 : gs (L + 1) p = gs L (p / 4) := by simp only [gs]; rw [if_pos h3]
      have e2 : cs (L + 1) (nx (L + 1) p) = cs L (nx L (p / 4)) := by simp only [cs]; rw [if_pos n.2, n.1]
      have e3 : oz (L + 1) p = oz L (p / 4) ^^^ po 3 := by simp only [oz]; rw [h3]
      have e4 : oz (L + 1) (nx (L + 1) p) = oz L (nx L (p / 4)) ^^^ po 0 := by simp only [oz]; rw [n.1, n.2]
      have k1 := (qd_ends _ b).1
      have k2 := (qd_ends _ b2).2
      have hd := (dg_qd _ b2 0 (by decide)).1
      have e5 : 4 * nx L (p / 4) = nx (L + 1) p := by have := n.1; have := n.2; omega
      rw [e1, e2, e3, e4]
      refine ⟨?_, ?_⟩
      · simp only [nbr]
        rw [h3]
        rcases ih.2 with ⟨g1, g2⟩ | ⟨g1, g2⟩
        · rw [if_pos g1, ih.1]
          dsimp only
          rw [← g2, hd, Nat.add_zero, e5]
        · have k3 := (dg_qd _ b 3 (by decide)).2.2.1
          rw [if_neg (by omega), if_pos g1, ih.1]
          dsimp only
          rw [← g2, hd, Nat.add_zero, e5, g2]
      · unfold Lk
        rw [k1, k2]; exact ih.2
    · have n := nx_in hp h3
      have k3 := (dg_qd _ b (p % 4) (m4 p)).2.2.1
      have hnext := qd_next _ b (p % 4) (by omega)
      have hdn := (dg_qd _ b (p % 4 + 1) (by omega)).1
      have e1 : gs (L + 1) p = (if qd (oz L (p / 4)) (p % 4 + 1) = (qd (oz L (p / 4)) (p % 4) + 1) % 4 then (qd (oz L (p / 4)) (p % 4) + 1) % 4 else (qd (oz L (p / 4)) (p % 4) + 2) % 4) := by simp only [gs]; rw [if_neg h3]
      have e2 : cs (L + 1) (p + 1) = (if qd (oz L (p / 4)) (p % 4 + 1) = (qd (oz L (p / 4)) (p % 4) + 1) % 4 then (qd (oz L (p / 4)) (p % 4) + 3) % 4 else qd (oz L (p / 4)) (p % 4)) := by
        simp only [cs]; rw [n.2.1, n.2.2, if_neg (by omega), Nat.add_sub_cancel]
      have l1 := in_one _ b (p % 4) (by omega)
      rw [n.1, e2, e1]
      refine ⟨?_, ?_⟩
      · simp only [nbr]
        rcases hnext with hn | hn
        · rw [if_pos hn, if_pos hn, if_neg (by omega), if_neg (by omega), if_pos rfl, ← hn, hdn]
          rw [show 4 * (p / 4) + (p % 4 + 1) = p + 1 by omega]
          refine Prod.ext rfl ?_
          dsimp only; omega
        · have hne : ¬qd (oz L (p / 4)) (p % 4 + 1) = (qd (oz L (p / 4)) (p % 4) + 1) % 4 := by omega
          simp only [if_neg hne]
          rw [if_neg (by omega), if_neg (by omega), if_neg (by omega), ← hn, hdn]
          rw [show 4 * (p / 4) + (p % 4 + 1) = p + 1 by omega]
          refine Prod.ext rfl ?_
          dsimp only; omega
      · have e3 : oz (L + 1) p = oz L (p / 4) ^^^ po (p % 4) := rfl
        have e4 : oz (L + 1) (p + 1) = oz L (p / 4) ^^^ po (p % 4 + 1) := by simp only [oz]; rw [n.2.1, n.2.2]
        rw [e3, e4]; exact l1
end Mine
end Part23
section Part24
set_option maxRecDepth 100000
set_option autoImplicit false
set_option linter.unusedVariables false
namespace Mine
/-! hands -/
/-- the side t is free and lies on the hand b (0 left, 1 right) of the way from c to g -/
def fr (b c g t : Nat) : Bool := t != c && t != g && (decide ((t + 4 - g) % 4 < (c + 4 - g) % 4) == (b == 0))
def rk (b c t : Nat) : Nat := if b = 0 then (c + 7 - t) % 4 else (t + 7 - c) % 4
/-- the ways of a child -/
def cw (o c d : Nat) : Nat := if d = 0 then c else if qd o d = (qd o (d - 1) + 1) % 4 then (qd o (d - 1) + 3) % 4 else qd o (d - 1)
def gw (o g d : Nat) : Nat := if d = 3 then g else if qd o (d + 1) = (qd o d + 1) % 4 then (qd o d + 1) % 4 else (qd o d + 2) % 4
def okc (o c g : Nat) : Bool := (g == qd o 3 || g == (qd o 3 + 3) % 4) && (qd o 0 == (c + 1) % 4 || qd o 0 == c) && c != g
def outer (o d t : Nat) : Bool := t == qd o d || t == (qd o d + 3) % 4
def lk (b o c d t : Nat) : Nat := 4 * d + rk b (cw o c d) t
def L4 : List Nat := [0, 1, 2, 3]
def allCells (P : Nat → Nat → Nat → Nat → Bool) : Bool := [0, 1].all fun b => L4.all fun o => L4.all fun c => L4.all fun g => !okc o c g || P b o c g
def F1 (b o c g : Nat) : Bool := L4.all fun d => L4.all fun t => !(outer o d t && t != c && t != g) || fr b (cw o c d) (gw o g d) t == fr b c g t
def sib (o d t : Nat) : Nat := if t = (qd o d + 1) % 4 then dg o ((qd o d + 1) % 4) else dg o ((qd o d + 3) % 4)
def F2 (b o c g : Nat) : Bool := L4.all fun d => L4.all fun t => !(!outer o d t && fr b (cw o c d) (gw o g d) t) ||
  ((d == 0 && sib o d t == 3 || d == 3 && sib o d t == 0) && fr b (cw o c (sib o d t)) (gw o g (sib o d t)) ((t + 2) % 4) &&
    L4.all fun d2 => L4.all fun t2 => !fr b (cw o c d2) (gw o g d2) t2 || !(decide (min (lk b o c d t) (lk b o c (sib o d t) ((t + 2) % 4)) < lk b o c d2 t2) && decide (lk b o c d2 t2 < max (lk b o c d t) (lk b o c (sib o d t) ((t + 2) % 4)))))
def F3 (b o c g : Nat) : Bool := L4.all fun d => L4.all fun t => !(outer o d t && fr b (cw o c d) (gw o g d) t) ||
  ((t != g || L4.all fun d2 => L4.all fun t2 => !(fr b (cw o c d2) (gw o g d2) t2 && decide (lk b o c d t < lk b o c d2 t2)) || !outer o d2 t2) &&
   (t != c || L4.all fun d2 => L4.all fun t2 => !(fr b (cw o c d2) (gw o g d2) t2 && decide (lk b o c d2 t2 < lk b o c d t)) || !outer o d2 t2))
def F4 (b o c g : Nat) : Bool := L4.all fun t => L4.all fun t2 => !(fr b c g t && fr b c g t2 && decide (rk b c t < rk b c t2)) ||
  L4.all fun d => L4.all fun d2 => !(outer o d t && outer o d2 t2) || decide (lk b o c d t < lk b o c d2 t2)
def F5 (b o c g : Nat) : Bool := L4.all fun t => !fr b c g t || (if b = 0 then decide (lk b o c (dg o ((t + 1) % 4)) t < lk b o c (dg o t) t) else decide (lk b o c (dg o t) t < lk b o c (dg o ((t + 1) % 4)) t))
def F6 (b o c g : Nat) : Bool := (if g = qd o 3 then fr b (cw o c (dg o ((g + 1) % 4))) (gw o g (dg o ((g + 1) % 4))) g == (b == 0) else fr b (cw o c (dg o g)) (gw o g (dg o g)) g == (b == 1)) &&
  (if qd o 0 = (c + 1) % 4 then fr b (cw o c (dg o c)) (gw o g (dg o c)) c == (b == 0) else fr b (cw o c (dg o ((c + 1) % 4))) (gw o g (dg o ((c + 1) % 4))) c == (b == 1))
theorem F1_all : allCells F1 = true := by decide +kernel
theorem F2_all : allCells F2 = true := by decide +kernel
theorem F3_all : allCells F3 = true := by decide +kernel
theorem F4_all : allCells F4 = true := by decide +kernel
theorem F5_all : allCells F5 = true := by decide +kernel
theorem F6_all : allCells F6 = true := by decide +kernel
end Mine
end Part24
section Part25
set_option maxRecDepth 100000
set_option autoImplicit false
set_option linter.unusedVariables false
namespace Mine
theorem L4_mem {d : Nat} (h : d < 4) : d ∈ L4 := by unfold L4; have : d = 0 ∨ d = 1 ∨ d = 2 ∨ d = 3 := by omega
                                                    rcases this with rfl | rfl | rfl | rfl <;> simp
theorem use {P : Nat → Nat → Nat → Nat → Bool} (h : allCells P = true) {b o c g : Nat} (hb : b < 2) (ho : o < 4) (hc : c < 4) (hg : g < 4) (ok : okc o c g = true) : P b o c g = true := by
  unfold allCells at h
  have h1 := List.all_eq_true.mp h b (by have : b = 0 ∨ b = 1 := by omega
                                         rcases this with rfl | rfl <;> simp)
  have h2 := List.all_eq_true.mp (List.all_eq_true.mp (List.all_eq_true.mp h1 o (L4_mem ho)) c (L4_mem hc)) g (L4_mem hg)
  rw [ok] at h2; simpa using h2
def F0 (b o c g : Nat) : Bool := L4.all fun d => okc (o ^^^ po d) (cw o c d) (gw o g d)
theorem F0_all : allCells F0 = true := by decide +kernel
theorem cs_cw (L p : Nat) : cs (L + 1) p = cw (oz L (p / 4)) (cs L (p / 4)) (p % 4) := rfl
theorem gs_gw (L p : Nat) : gs (L + 1) p = gw (oz L (p / 4)) (gs L (p / 4)) (p % 4) := rfl
theorem okc_base : ∀ f < 6, okc (f % 2) (cs 0 f) (gs 0 f) = true := by decide
theorem okc_all : ∀ (L p : Nat), p < 6 * 4 ^ L → okc (oz L p) (cs L p) (gs L p) = true
  | 0, p, hp => by
    have := okc_base p (by simpa using hp)
    simpa [oz] using this
  | L + 1, p, hp => by
    have hq : p / 4 < 6 * 4 ^ L := by rw [Nat.pow_succ] at hp; omega
    have h := use F0_all (b := 0) (by decide) (oz_lt L (p / 4)) (cs_lt L (p / 4)) (gs_lt L (p / 4)) (okc_all L (p / 4) hq)
    exact List.all_eq_true.mp h (p % 4) (L4_mem (m4 p))
/-- a free side on the hand b -/
def fre (b L p t : Nat) : Bool := fr b (cs L p) (gs L p) t
/-- its place along the curve -/
def key (b L p t : Nat) : Nat := 4 * p + rk b (cs L p) t
theorem rk_lt (b c t : Nat) : rk b c t < 4 := by unfold rk; split <;> omega
theorem fr_ne {b c g t : Nat} (h : fr b c g t = true) : t ≠ c ∧ t ≠ g := by
  unfold fr at h; simp at h; exact ⟨h.1.1, h.1.2⟩

/-! the one before -/
def pv (L p : Nat) : Nat := (p + (6 * 4 ^ L - 1)) % (6 * 4 ^ L)
theorem many_p (L : Nat) : 6 ≤ 6 * 4 ^ L := by have : 0 < 4 ^ L := Nat.pow_pos (by decide)
                                               omega
theorem nx_fit (L p : Nat) : nx L p < 6 * 4 ^ L := Nat.mod_lt _ (by have := many_p L; omega)
theorem pv_fit (L p : Nat) : pv L p < 6 * 4 ^ L := Nat.mod_lt _ (by have := many_p L; omega)
theorem nx_pv {L p : Nat} (hp : p < 6 * 4 ^ L) : nx L (pv L p) = p := by
  have := many_p L
  unfold nx pv
  generalize 6 * 4 ^ L = N at *
  by_cases h : p = 0
  · subst h; rw [Nat.zero_add, Nat.mod_eq_of_lt (by omega : N - 1 < N), show N - 1 + 1 = N by omega, Nat.mod_self]
  · rw [show p + (N - 1) = p - 1 + N by omega, Nat.add_mod_right, Nat.mod_eq_of_lt (by omega : p - 1 < N), show p - 1 + 1 = p by omega, Nat.mod_eq_of_lt hp]
theorem pv_nx {L p : Nat} (hp : p < 6 * 4 ^ L) : pv L (nx L p) = p := by
  have := many_p L
  unfold nx pv
  generalize 6 * 4 ^ L = N at *
  by_cases h : p + 1 = N
  · rw [h, Nat.mod_self, Nat.zero_add, Nat.mod_eq_of_lt (by omega : N - 1 < N)]; omega
  · rw [Nat.mod_eq_of_lt (by omega : p + 1 < N), show p + 1 + (N - 1) = p + N by omega, Nat.add_mod_right, Nat.mod_eq_of_lt hp]
theorem nbr_gs {L p : Nat} (hp : p < 6 * 4 ^ L) : nbr L p (gs L p) = (nx L p, cs L (nx L p)) := (link L p hp).1
theorem nbr_cs {L p : Nat} (hp : p < 6 * 4 ^ L) : nbr L p (cs L p) = (pv L p, gs L (pv L p)) := by
  have h := nbr_gs (pv_fit L p)
  rw [nx_pv hp] at h
  have := nbr_back L (pv L p) (gs L (pv L p)) (pv_fit L p) (gs_lt L _)
  rw [h] at this; exact this

/-! the neighbours of a child -/
def outr (L p t : Nat) : Bool := outer (oz L (p / 4)) (p % 4) t
theorem nbr_in {L p t : Nat} (h : outr L p t = false) : nbr (L + 1) p t = (4 * (p / 4) + sib (oz L (p / 4)) (p % 4) t, (t + 2) % 4) := by
  unfold outr outer at h
  simp at h
  simp only [nbr, sib]
  rw [if_neg h.1, if_neg h.2]
  split <;> rfl
def half (L p t : Nat) : Nat := if t = qd (oz L (p / 4)) (p % 4) then 0 else 1
def hc (t h : Nat) : Nat := if h = 0 then t else (t + 1) % 4
theorem hc_lt {t h : Nat} (ht : t < 4) : hc t h < 4 := by unfold hc; split <;> omega
theorem nbr_out {L p t : Nat} (h : outr L p t = true) : nbr (L + 1) p t = (4 * (nbr L (p / 4) t).1 + dg (oz L (nbr L (p / 4) t).1) (hc (nbr L (p / 4) t).2 (1 - half L p t)), (nbr L (p / 4) t).2) := by
  unfold outr outer at h
  simp at h
  by_cases e : t = qd (oz L (p / 4)) (p % 4)
  · have hf : half L p t = 0 := if_pos e
    rw [hf]
    simp only [nbr, hc]
    rw [if_pos e, if_neg (by decide)]
  · have hf : half L p t = 1 := if_neg e
    rw [hf]
    simp only [nbr, hc]
    rw [if_neg e, if_pos (h.resolve_left e), if_pos (by decide)]
theorem half_digit {L p t : Nat} (h : outr L p t = true) (ht : t < 4) : p % 4 = dg (oz L (p / 4)) (hc t (half L p t)) ∧ half L p t < 2 := by
  have d := dg_qd _ (oz_lt L (p / 4)) (p % 4) (m4 p)
  unfold outr outer at h
  simp at h
  unfold half hc
  by_cases e : t = qd (oz L (p / 4)) (p % 4)
  · rw [if_pos e, if_pos rfl, e]; exact ⟨d.1.symm, by decide⟩
  · rw [if_neg e, if_neg (by decide)]
    have := h.resolve_left e
    rw [show (t + 1) % 4 = qd (oz L (p / 4)) (p % 4) by omega]; exact ⟨d.1.symm, by decide⟩
theorem out_dg {L q t h : Nat} (ht : t < 4) : outr L (4 * q + dg (oz L q) (hc t h)) t = true := by
  have d := dg_qd _ (oz_lt L q) (hc t h) (hc_lt ht)
  have s := sd q _ d.2.2.2
  unfold outr outer
  rw [s.1, s.2, d.2.1]
  unfold hc
  simp
  split <;> omega
theorem half_dg {L q t h : Nat} (ht : t < 4) (hh : h < 2) : half L (4 * q + dg (oz L q) (hc t h)) t = h := by
  have d := dg_qd _ (oz_lt L q) (hc t h) (hc_lt ht)
  have s := sd q _ d.2.2.2
  unfold half
  rw [s.1, s.2, d.2.1]
  unfold hc
  by_cases e : h = 0
  · rw [if_pos e, if_pos rfl, e]
  · rw [if_neg e, if_neg (by omega)]; omega
end Mine
end Part25
section Part26
set_option maxRecDepth 100000
set_option autoImplicit false
set_option linter.unusedVariables false
namespace Mine
theorem all4 {f : Nat → Bool} (h : L4.all f = true) {d : Nat} (hd : d < 4) : f d = true := List.all_eq_true.mp h d (L4_mem hd)
def Pr (b L p t : Nat) : Prop := p < 6 * 4 ^ L ∧ t < 4 ∧ fre b L p t = true
theorem up_lt {L p : Nat} (hp : p < 6 * 4 ^ (L + 1)) : p / 4 < 6 * 4 ^ L := by rw [Nat.pow_succ] at hp; omega
section
variable {b L p t : Nat}
theorem cellAll {P : Nat → Nat → Nat → Nat → Bool} (h : allCells P = true) (hb : b < 2) {q : Nat} (hq : q < 6 * 4 ^ L) : P b (oz L q) (cs L q) (gs L q) = true :=
  use h hb (oz_lt L q) (cs_lt L q) (gs_lt L q) (okc_all L q hq)
theorem f1 (hb : b < 2) (hp : p < 6 * 4 ^ (L + 1)) (ht : t < 4) (ho : outr L p t = true) (h1 : t ≠ cs L (p / 4)) (h2 : t ≠ gs L (p / 4)) : fre b (L + 1) p t = fre b L (p / 4) t := by
  have h := all4 (all4 (cellAll F1_all hb (up_lt hp)) (m4 p)) ht
  unfold outr at ho
  simp [ho, h1, h2] at h
  exact h
theorem f2 (hb : b < 2) (h : Pr b (L + 1) p t) (ho : outr L p t = false) :
    (p % 4 = 0 ∧ sib (oz L (p / 4)) (p % 4) t = 3 ∨ p % 4 = 3 ∧ sib (oz L (p / 4)) (p % 4) t = 0) ∧ fre b (L + 1) (4 * (p / 4) + sib (oz L (p / 4)) (p % 4) t) ((t + 2) % 4) = true ∧
    ∀ p2 t2, p2 / 4 = p / 4 → t2 < 4 → fre b (L + 1) p2 t2 = true → ¬(min (key b (L + 1) p t) (key b (L + 1) (4 * (p / 4) + sib (oz L (p / 4)) (p % 4) t) ((t + 2) % 4)) < key b (L + 1) p2 t2 ∧
      key b (L + 1) p2 t2 < max (key b (L + 1) p t) (key b (L + 1) (4 * (p / 4) + sib (oz L (p / 4)) (p % 4) t) ((t + 2) % 4))) := by
  obtain ⟨hp, ht, hf⟩ := h
  have h := all4 (all4 (cellAll F2_all hb (up_lt hp)) (m4 p)) ht
  unfold outr at ho
  have hf' : fr b (cw (oz L (p / 4)) (cs L (p / 4)) (p % 4)) (gw (oz L (p / 4)) (gs L (p / 4)) (p % 4)) t = true := hf
  simp only [ho, hf', Bool.not_false, Bool.and_self, Bool.not_true, Bool.false_or, Bool.and_eq_true] at h
  obtain ⟨⟨h1, h2⟩, h3⟩ := h
  have e1 : p % 4 = 0 ∧ sib (oz L (p / 4)) (p % 4) t = 3 ∨ p % 4 = 3 ∧ sib (oz L (p / 4)) (p % 4) t = 0 := by simpa using h1
  have s4 : sib (oz L (p / 4)) (p % 4) t < 4 := by omega
  have sdd := sd (p / 4) _ s4
  refine ⟨e1, ?_, ?_⟩
  · show fr b (cw (oz L ((4 * (p / 4) + _) / 4)) (cs L ((4 * (p / 4) + _) / 4)) ((4 * (p / 4) + _) % 4)) (gw (oz L ((4 * (p / 4) + _) / 4)) (gs L ((4 * (p / 4) + _) / 4)) ((4 * (p / 4) + _) % 4)) _ = true
    rw [sdd.1, sdd.2]; exact h2
  · intro p2 t2 hq2 ht2 hf2 hh
    have h4 := all4 (all4 h3 (m4 p2)) ht2
    have hf2' : fr b (cw (oz L (p / 4)) (cs L (p / 4)) (p2 % 4)) (gw (oz L (p / 4)) (gs L (p / 4)) (p2 % 4)) t2 = true := by rw [← hq2]; exact hf2
    rw [hf2'] at h4
    have k1 : key b (L + 1) p t = 16 * (p / 4) + lk b (oz L (p / 4)) (cs L (p / 4)) (p % 4) t := by unfold key lk; rw [cs_cw]; omega
    have k2 : key b (L + 1) (4 * (p / 4) + sib (oz L (p / 4)) (p % 4) t) ((t + 2) % 4) = 16 * (p / 4) + lk b (oz L (p / 4)) (cs L (p / 4)) (sib (oz L (p / 4)) (p % 4) t) ((t + 2) % 4) := by
      unfold key lk; rw [cs_cw, sdd.1, sdd.2]; omega
    have k3 : key b (L + 1) p2 t2 = 16 * (p / 4) + lk b (oz L (p / 4)) (cs L (p / 4)) (p2 % 4) t2 := by unfold key lk; rw [cs_cw, hq2]; omega
    rw [k1, k2, k3] at hh
    simp at h4
    omega
theorem f3 (hb : b < 2) (h : Pr b (L + 1) p t) (ho : outr L p t = true) :
    (t = gs L (p / 4) → ∀ p2 t2, p2 / 4 = p / 4 → t2 < 4 → fre b (L + 1) p2 t2 = true → key b (L + 1) p t < key b (L + 1) p2 t2 → outr L p2 t2 = false) ∧
    (t = cs L (p / 4) → ∀ p2 t2, p2 / 4 = p / 4 → t2 < 4 → fre b (L + 1) p2 t2 = true → key b (L + 1) p2 t2 < key b (L + 1) p t → outr L p2 t2 = false) := by
  obtain ⟨hp, ht, hf⟩ := h
  have h := all4 (all4 (cellAll F3_all hb (up_lt hp)) (m4 p)) ht
  unfold outr at ho
  have hf' : fr b (cw (oz L (p / 4)) (cs L (p / 4)) (p % 4)) (gw (oz L (p / 4)) (gs L (p / 4)) (p % 4)) t = true := hf
  simp only [ho, hf', Bool.and_self, Bool.not_true, Bool.false_or, Bool.and_eq_true] at h
  obtain ⟨h1, h2⟩ := h
  have k1 : key b (L + 1) p t = 16 * (p / 4) + lk b (oz L (p / 4)) (cs L (p / 4)) (p % 4) t := by unfold key lk; rw [cs_cw]; omega
  refine ⟨fun e p2 t2 hq2 ht2 hf2 hk => ?_, fun e p2 t2 hq2 ht2 hf2 hk => ?_⟩
  · have h1' : (L4.all fun d2 => L4.all fun t2 => !(fr b (cw (oz L (p / 4)) (cs L (p / 4)) d2) (gw (oz L (p / 4)) (gs L (p / 4)) d2) t2 && decide (lk b (oz L (p / 4)) (cs L (p / 4)) (p % 4) t < lk b (oz L (p / 4)) (cs L (p / 4)) d2 t2)) || !outer (oz L (p / 4)) d2 t2) = true := by
      rw [← e] at h1 ⊢; simpa using h1
    have h4 := all4 (all4 h1' (m4 p2)) ht2
    have hf2' : fr b (cw (oz L (p / 4)) (cs L (p / 4)) (p2 % 4)) (gw (oz L (p / 4)) (gs L (p / 4)) (p2 % 4)) t2 = true := by rw [← hq2]; exact hf2
    have k3 : key b (L + 1) p2 t2 = 16 * (p / 4) + lk b (oz L (p / 4)) (cs L (p / 4)) (p2 % 4) t2 := by unfold key lk; rw [cs_cw, hq2]; omega
    rw [k1, k3] at hk
    have hk' : decide (lk b (oz L (p / 4)) (cs L (p / 4)) (p % 4) t < lk b (oz L (p / 4)) (cs L (p / 4)) (p2 % 4) t2) = true := decide_eq_true (by omega)
    rw [hf2', hk'] at h4
    unfold outr; rw [hq2]; simpa using h4
  · have h1' : (L4.all fun d2 => L4.all fun t2 => !(fr b (cw (oz L (p / 4)) (cs L (p / 4)) d2) (gw (oz L (p / 4)) (gs L (p / 4)) d2) t2 && decide (lk b (oz L (p / 4)) (cs L (p / 4)) d2 t2 < lk b (oz L (p / 4)) (cs L (p / 4)) (p % 4) t)) || !outer (oz L (p / 4)) d2 t2) = true := by
      rw [← e] at h2 ⊢; simpa using h2
    have h4 := all4 (all4 h1' (m4 p2)) ht2
    have hf2' : fr b (cw (oz L (p / 4)) (cs L (p / 4)) (p2 % 4)) (gw (oz L (p / 4)) (gs L (p / 4)) (p2 % 4)) t2 = true := by rw [← hq2]; exact hf2
    have k3 : key b (L + 1) p2 t2 = 16 * (p / 4) + lk b (oz L (p / 4)) (cs L (p / 4)) (p2 % 4) t2 := by unfold key lk; rw [cs_cw, hq2]; omega
    rw [k1, k3] at hk
    have hk' : decide (lk b (oz L (p / 4)) (cs L (p / 4)) (p2 % 4) t2 < lk b (oz L (p / 4)) (cs L (p / 4)) (p % 4) t) = true := decide_eq_true (by omega)
    rw [hf2', hk'] at h4
    unfold outr; rw [hq2]; simpa using h4
/-- the order of the children's sides follows the order of the parents' -/
theorem f4 {p2 t2 : Nat} (hb : b < 2) (hp : p < 6 * 4 ^ (L + 1)) (ht : t < 4) (ht2 : t2 < 4) (h : fre b L (p / 4) t = true) (h2 : fre b L (p2 / 4) t2 = true) (ho : outr L p t = true) (ho2 : outr L p2 t2 = true)
    (hk : key b L (p / 4) t < key b L (p2 / 4) t2) : key b (L + 1) p t < key b (L + 1) p2 t2 := by
  have r1 := rk_lt b (cs (L + 1) p) t
  have r2 := rk_lt b (cs L (p / 4)) t
  have r3 := rk_lt b (cs L (p2 / 4)) t2
  by_cases e : p / 4 = p2 / 4
  · have hr : rk b (cs L (p / 4)) t < rk b (cs L (p / 4)) t2 := by unfold key at hk; rw [← e] at hk; omega
    have h := all4 (all4 (cellAll F4_all hb (up_lt hp)) ht) ht2
    have h' : fr b (cs L (p / 4)) (gs L (p / 4)) t = true := ‹fre b L (p / 4) t = true›
    have h2' : fr b (cs L (p / 4)) (gs L (p / 4)) t2 = true := by rw [e]; exact h2
    rw [h', h2', decide_eq_true hr] at h
    simp only [Bool.and_self, Bool.not_true, Bool.false_or] at h
    have h3 := all4 (all4 h (m4 p)) (m4 p2)
    unfold outr at ho ho2
    rw [← e] at ho2
    rw [ho, ho2] at h3
    have h4 : lk b (oz L (p / 4)) (cs L (p / 4)) (p % 4) t < lk b (oz L (p / 4)) (cs L (p / 4)) (p2 % 4) t2 := by simpa using h3
    unfold lk at h4
    unfold key; rw [cs_cw, cs_cw, ← e]; omega
  · unfold key at *; omega
/-- the two halves of a side -/
theorem f5 (hb : b < 2) {q : Nat} (hq : q < 6 * 4 ^ L) (ht : t < 4) (h : fre b L q t = true) :
    if b = 0 then key b (L + 1) (4 * q + dg (oz L q) (hc t 1)) t < key b (L + 1) (4 * q + dg (oz L q) (hc t 0)) t else key b (L + 1) (4 * q + dg (oz L q) (hc t 0)) t < key b (L + 1) (4 * q + dg (oz L q) (hc t 1)) t := by
  have h1 := all4 (cellAll F5_all hb hq) ht
  have h' : fr b (cs L q) (gs L q) t = true := h
  rw [h'] at h1
  simp only [Bool.not_true, Bool.false_or] at h1
  have k : ∀ hh, hh < 2 → key b (L + 1) (4 * q + dg (oz L q) (hc t hh)) t = 16 * q + lk b (oz L q) (cs L q) (dg (oz L q) (hc t hh)) t := fun hh _ => by
    have s := sd q _ (dg_qd _ (oz_lt L q) (hc t hh) (hc_lt ht)).2.2.2
    unfold key lk; rw [cs_cw, s.1, s.2]; omega
  rw [k 0 (by decide), k 1 (by decide)]
  have e0 : hc t 0 = t := rfl
  have e1 : hc t 1 = (t + 1) % 4 := rfl
  rw [e0, e1]
  split
  · rename_i e; rw [if_pos e] at h1; have := of_decide_eq_true h1; omega
  · rename_i e; rw [if_neg e] at h1; have := of_decide_eq_true h1; omega
end
end Mine
end Part26
section Part27
set_option maxRecDepth 100000
set_option autoImplicit false
set_option linter.unusedVariables false
namespace Mine
def F7 (b o c g : Nat) : Bool := [0, 1].all fun h => (fr b (cw o c (dg o (hc g h))) (gw o g (dg o (hc g h))) g == ((h == 1 && g == qd o 3 && b == 0) || (h == 0 && g != qd o 3 && b == 1))) &&
  (fr b (cw o c (dg o (hc c h))) (gw o g (dg o (hc c h))) c == ((h == 0 && qd o 0 == (c + 1) % 4 && b == 0) || (h == 1 && qd o 0 != (c + 1) % 4 && b == 1)))
theorem F7_all : allCells F7 = true := by decide +kernel
section
variable {b L p t : Nat}
theorem f7 (hb : b < 2) {q h : Nat} (hq : q < 6 * 4 ^ L) (hh : h < 2) :
    (fre b (L + 1) (4 * q + dg (oz L q) (hc (gs L q) h)) (gs L q) = ((h == 1 && gs L q == qd (oz L q) 3 && b == 0) || (h == 0 && gs L q != qd (oz L q) 3 && b == 1))) ∧
    (fre b (L + 1) (4 * q + dg (oz L q) (hc (cs L q) h)) (cs L q) = ((h == 0 && qd (oz L q) 0 == (cs L q + 1) % 4 && b == 0) || (h == 1 && qd (oz L q) 0 != (cs L q + 1) % 4 && b == 1))) := by
  have h1 := cellAll F7_all hb hq
  unfold F7 at h1
  have h2 := List.all_eq_true.mp h1 h (by have : h = 0 ∨ h = 1 := by omega
                                          rcases this with rfl | rfl <;> simp)
  rw [Bool.and_eq_true, beq_iff_eq, beq_iff_eq] at h2
  have k : ∀ t, t < 4 → fre b (L + 1) (4 * q + dg (oz L q) (hc t h)) t = fr b (cw (oz L q) (cs L q) (dg (oz L q) (hc t h))) (gw (oz L q) (gs L q) (dg (oz L q) (hc t h))) t := fun t ht => by
    have s := sd q _ (dg_qd _ (oz_lt L q) (hc t h) (hc_lt ht)).2.2.2
    unfold fre; rw [cs_cw, gs_gw, s.1, s.2]
  rw [k _ (gs_lt L q), k _ (cs_lt L q)]
  exact h2
/-- the other half of the link of the curve -/
theorem f7_link (hb : b < 2) {q h : Nat} (hq : q < 6 * 4 ^ L) (hh : h < 2) :
    fre b (L + 1) (4 * q + dg (oz L q) (hc (gs L q) h)) (gs L q) = fre b (L + 1) (4 * nx L q + dg (oz L (nx L q)) (hc (cs L (nx L q)) (1 - h))) (cs L (nx L q)) := by
  rw [(f7 hb hq hh).1, (f7 hb (nx_fit L q) (by omega)).2]
  have l := (link L q hq).2
  have o1 := (dg_qd _ (oz_lt L q) 3 (by decide)).2.2.1
  have o2 := cs_lt L (nx L q)
  have : h = 0 ∨ h = 1 := by omega
  rcases l with ⟨l1, l2⟩ | ⟨l1, l2⟩
  · have e1 : (gs L q == qd (oz L q) 3) = true := beq_iff_eq.mpr l1
    have e2 : (qd (oz L (nx L q)) 0 == (cs L (nx L q) + 1) % 4) = true := beq_iff_eq.mpr l2
    simp only [bne, e1, e2]
    rcases this with rfl | rfl <;> simp
  · have e1 : (gs L q == qd (oz L q) 3) = false := beq_eq_false_iff_ne.mpr (by omega)
    have e2 : (qd (oz L (nx L q)) 0 == (cs L (nx L q) + 1) % 4) = false := beq_eq_false_iff_ne.mpr (by omega)
    simp only [bne, e1, e2]
    rcases this with rfl | rfl <;> simp
theorem as_child (ho : outr L p t = true) (ht : t < 4) : p = 4 * (p / 4) + dg (oz L (p / 4)) (hc t (half L p t)) := by
  rw [← (half_digit ho ht).1]; omega
/-- the neighbour's square over an outer side -/
theorem out_fit (ho : outr L p t = true) (hp : p < 6 * 4 ^ (L + 1)) (ht : t < 4) :
    (nbr (L + 1) p t).1 / 4 = (nbr L (p / 4) t).1 ∧ (nbr (L + 1) p t).2 = (nbr L (p / 4) t).2 ∧ outr L (nbr (L + 1) p t).1 (nbr (L + 1) p t).2 = true := by
  have n := nbr_fit L (p / 4) t (up_lt hp) ht
  rw [nbr_out ho]
  have s := sd (nbr L (p / 4) t).1 _ (dg_qd _ (oz_lt L (nbr L (p / 4) t).1) (hc (nbr L (p / 4) t).2 (1 - half L p t)) (hc_lt n.2)).2.2.2
  exact ⟨s.1, rfl, out_dg n.2⟩
theorem in_fit (hb : b < 2) (h : Pr b (L + 1) p t) (ho : outr L p t = false) : (nbr (L + 1) p t).1 / 4 = p / 4 := by
  have f := (f2 hb h ho).1
  rw [nbr_in ho]
  have : sib (oz L (p / 4)) (p % 4) t < 4 := by omega
  exact (sd _ _ this).1
theorem hand_base : ∀ b < 2, ∀ f < 6, ∀ t < 4, fr b (cs 0 f) (gs 0 f) t = true → fr b (cs 0 (cube f t).1) (gs 0 (cube f t).1) (cube f t).2 = true := by decide +kernel
/-- over a free side the other cell has it on the same hand -/
theorem hand (hb : b < 2) : ∀ (L p t : Nat), Pr b L p t → Pr b L (nbr L p t).1 (nbr L p t).2
  | 0, p, t, h => by
    have fit := nbr_fit 0 p t h.1 h.2.1
    exact ⟨fit.1, fit.2, hand_base b hb p (by simpa using h.1) t h.2.1 h.2.2⟩
  | L + 1, p, t, h => by
    have fit := nbr_fit (L + 1) p t h.1 h.2.1
    refine ⟨fit.1, fit.2, ?_⟩
    have hq := up_lt h.1
    cases ho : outr L p t with
    | false =>
      have f := f2 hb h ho
      rw [nbr_in ho]; exact f.2.1
    | true =>
      have hf := half_digit ho h.2.1
      have hs := as_child ho h.2.1
      by_cases e1 : t = gs L (p / 4)
      · rw [nbr_out ho]
        have n := nbr_gs hq
        have hl := f7_link hb (h := half L p t) hq hf.2
        have := h.2.2
        rw [hs] at this
        rw [← e1] at n hl
        rw [n]
        dsimp only
        rw [← hl]; exact this
      by_cases e2 : t = cs L (p / 4)
      · rw [nbr_out ho]
        have n := nbr_cs hq
        have hl := f7_link hb (h := 1 - half L p t) (pv_fit L (p / 4)) (by omega)
        rw [nx_pv hq, show 1 - (1 - half L p t) = half L p t by omega] at hl
        have := h.2.2
        rw [hs] at this
        rw [← e2] at n hl
        rw [n]
        dsimp only
        rw [hl]; exact this
      · have of := out_fit ho h.1 h.2.1
        have fp := f1 hb h.1 h.2.1 ho e2 e1
        have ih := hand hb L (p / 4) t ⟨hq, h.2.1, fp ▸ h.2.2⟩
        have ne := fr_ne ih.2.2
        rw [f1 hb fit.1 fit.2 of.2.2 (by rw [of.2.1, of.1]; exact ne.1) (by rw [of.2.1, of.1]; exact ne.2), of.1, of.2.1]
        exact ih.2.2

theorem key_div : key b L p t / 4 = p := by
  have := rk_lt b (cs L p) t
  unfold key; omega
theorem key_inj {q u : Nat} (hb : b < 2) (ht : t < 4) (hu : u < 4) (e : key b L p t = key b L q u) : p = q ∧ t = u := by
  have h1 := key_div (b := b) (L := L) (p := p) (t := t)
  have h2 := key_div (b := b) (L := L) (p := q) (t := u)
  have hpq : p = q := by rw [← h1, ← h2, e]
  subst hpq
  have c := cs_lt L p
  unfold key rk at e
  refine ⟨rfl, ?_⟩
  split at e <;> omega
theorem inner_gap (hb : b < 2) (h : Pr b (L + 1) p t) (ho : outr L p t = false) {p2 t2 : Nat} (h2 : Pr b (L + 1) p2 t2) :
    ¬(key b (L + 1) p t < key b (L + 1) p2 t2 ∧ key b (L + 1) p2 t2 < key b (L + 1) (nbr (L + 1) p t).1 (nbr (L + 1) p t).2) ∧ ¬(key b (L + 1) (nbr (L + 1) p t).1 (nbr (L + 1) p t).2 < key b (L + 1) p2 t2 ∧ key b (L + 1) p2 t2 < key b (L + 1) p t) := by
  have f := (f2 hb h ho).2.2 p2 t2
  have hi := in_fit hb h ho
  have k1 := key_div (b := b) (L := L + 1) (p := p) (t := t)
  have k2 := key_div (b := b) (L := L + 1) (p := p2) (t := t2)
  have k3 := key_div (b := b) (L := L + 1) (p := (nbr (L + 1) p t).1) (t := (nbr (L + 1) p t).2)
  rw [← show (nbr (L + 1) p t).1 = 4 * (p / 4) + sib (oz L (p / 4)) (p % 4) t by rw [nbr_in ho], ← show (nbr (L + 1) p t).2 = (t + 2) % 4 by rw [nbr_in ho]] at f
  constructor
  · intro hh
    exact f (by omega) h2.2.1 h2.2.2 (by omega)
  · intro hh
    exact f (by omega) h2.2.1 h2.2.2 (by omega)
end
end Mine
end Part27
section Part28
set_option maxRecDepth 100000
set_option autoImplicit false
set_option linter.unusedVariables false
namespace Mine
def kpart (b L p t : Nat) : Nat := key b L (nbr L p t).1 (nbr L p t).2
def L6 : List Nat := [0, 1, 2, 3, 4, 5]
theorem L6_mem {d : Nat} (h : d < 6) : d ∈ L6 := by
  unfold L6; have : d = 0 ∨ d = 1 ∨ d = 2 ∨ d = 3 ∨ d = 4 ∨ d = 5 := by omega
  rcases this with rfl | rfl | rfl | rfl | rfl | rfl <;> simp
def crossB (b p t q u : Nat) : Bool := !(fr b (cs 0 p) (gs 0 p) t && fr b (cs 0 q) (gs 0 q) u) ||
  !(decide (key b 0 p t < key b 0 q u) && decide (key b 0 q u < key b 0 (cube p t).1 (cube p t).2) && decide (key b 0 (cube p t).1 (cube p t).2 < key b 0 (cube q u).1 (cube q u).2))
theorem cross_base : ([0, 1].all fun b => L6.all fun p => L4.all fun t => L6.all fun q => L4.all fun u => crossB b p t q u) = true := by decide +kernel
section
variable {b L p t q u : Nat}
theorem link_key (h : p < 6 * 4 ^ (L + 1)) (ht : t < 4) (ho : outr L p t = true) :
    (t = gs L (p / 4) → (nbr (L + 1) p t).1 / 4 = nx L (p / 4) ∧ (nbr (L + 1) p t).2 = cs L (nx L (p / 4))) ∧
    (t = cs L (p / 4) → (nbr (L + 1) p t).1 / 4 = pv L (p / 4) ∧ (nbr (L + 1) p t).2 = gs L (pv L (p / 4))) := by
  have of := out_fit ho h ht
  have hq := up_lt h
  constructor
  · intro e
    have n := nbr_gs hq
    rw [← e] at n
    rw [of.1, of.2.1, n]; exact ⟨rfl, rfl⟩
  · intro e
    have n := nbr_cs hq
    rw [← e] at n
    rw [of.1, of.2.1, n]; exact ⟨rfl, rfl⟩
theorem nx_or (hp : p < 6 * 4 ^ L) : nx L p = p + 1 ∨ (p + 1 = 6 * 4 ^ L ∧ nx L p = 0) := by
  unfold nx
  by_cases h : p + 1 = 6 * 4 ^ L
  · right; rw [h, Nat.mod_self]; exact ⟨rfl, rfl⟩
  · left; exact Nat.mod_eq_of_lt (by omega)
theorem pv_or (hp : p < 6 * 4 ^ L) : (1 ≤ p ∧ pv L p = p - 1) ∨ (p = 0 ∧ pv L p + 1 = 6 * 4 ^ L) := by
  have := many_p L
  unfold pv
  by_cases h : p = 0
  · right; subst h; rw [Nat.zero_add, Nat.mod_eq_of_lt (by omega)]; omega
  · left
    rw [show p + (6 * 4 ^ L - 1) = p - 1 + 6 * 4 ^ L by omega, Nat.add_mod_right, Nat.mod_eq_of_lt (by omega)]; omega
/-- over a link of the curve: what is strictly between is inner; where it wraps, what is outside -/
theorem link_gap (hb : b < 2) (h : Pr b (L + 1) p t) (ho : outr L p t = true) (e : t = gs L (p / 4) ∨ t = cs L (p / 4)) (hlt : key b (L + 1) p t < kpart b (L + 1) p t) (h2 : Pr b (L + 1) q u) :
    (e = e ∧ t = gs L (p / 4) ∧ (key b (L + 1) p t < key b (L + 1) q u ∧ key b (L + 1) q u < kpart b (L + 1) p t → outr L q u = false)) ∨
    (t = cs L (p / 4) ∧ (key b (L + 1) q u < key b (L + 1) p t → outr L q u = false) ∧ (kpart b (L + 1) p t < key b (L + 1) q u → outr L q u = false)) := by
  have lk' := link_key h.1 h.2.1 ho
  have hn := hand hb (L + 1) p t h
  have hon := (out_fit ho h.1 h.2.1).2.2
  have k1 := key_div (b := b) (L := L + 1) (p := p) (t := t)
  have k2 := key_div (b := b) (L := L + 1) (p := q) (t := u)
  have k3 := key_div (b := b) (L := L + 1) (p := (nbr (L + 1) p t).1) (t := (nbr (L + 1) p t).2)
  have hq := up_lt h.1
  have hq2 := up_lt h2.1
  have many := many_p L
  unfold kpart at hlt ⊢
  by_cases e1 : t = gs L (p / 4)
  · left
    refine ⟨rfl, e1, fun hh => ?_⟩
    have l := lk'.1 e1
    have nxo := nx_or hq
    rw [← l.1] at nxo
    have : q / 4 = p / 4 ∨ q / 4 = (nbr (L + 1) p t).1 / 4 := by omega
    rcases this with e2 | e2
    · exact (f3 hb h ho).1 e1 q u e2 h2.2.1 h2.2.2 hh.1
    · exact (f3 hb hn hon).2 (by rw [l.1, l.2]) q u e2 h2.2.1 h2.2.2 hh.2
  · right
    have e2 := e.resolve_left e1
    have l := lk'.2 e2
    have pvo := pv_or hq
    rw [← l.1] at pvo
    refine ⟨e2, fun hh => ?_, fun hh => ?_⟩
    · exact (f3 hb h ho).2 e2 q u (by omega) h2.2.1 h2.2.2 hh
    · exact (f3 hb hn hon).1 (by rw [l.1, l.2]) q u (by omega) h2.2.1 h2.2.2 hh
theorem kpart_back (h : Pr b L p t) : kpart b L (nbr L p t).1 (nbr L p t).2 = key b L p t := by
  unfold kpart; rw [nbr_back L p t h.1 h.2.1]
/-- parents' keys keep the order -/
theorem up_le (hb : b < 2) (hp : Pr b (L + 1) p t) (hq : Pr b (L + 1) q u) (ho : outr L p t = true) (ho2 : outr L q u = true) (f : fre b L (p / 4) t = true) (f' : fre b L (q / 4) u = true)
    (hk : key b (L + 1) p t < key b (L + 1) q u) : key b L (p / 4) t ≤ key b L (q / 4) u := by
  apply Nat.le_of_not_lt
  intro hlt
  have := f4 hb hq.1 hq.2.1 hp.2.1 f' f ho2 ho hlt
  omega
end
theorem nocross {b : Nat} (hb : b < 2) : ∀ (L p t q u : Nat), Pr b L p t → Pr b L q u → ¬(key b L p t < key b L q u ∧ key b L q u < kpart b L p t ∧ kpart b L p t < kpart b L q u)
  | 0, p, t, q, u, h, h2 => by
    intro hh
    have hb' : b ∈ [0, 1] := by have : b = 0 ∨ b = 1 := by omega
                                rcases this with rfl | rfl <;> simp
    have c := all4 (List.all_eq_true.mp (all4 (List.all_eq_true.mp (List.all_eq_true.mp cross_base b hb') p (L6_mem (by simpa using h.1))) h.2.1) q (L6_mem (by simpa using h2.1))) h2.2.1
    have e1 : fr b (cs 0 p) (gs 0 p) t = true := h.2.2
    have e2 : fr b (cs 0 q) (gs 0 q) u = true := h2.2.2
    unfold crossB at c
    rw [e1, e2, decide_eq_true hh.1, decide_eq_true (show key b 0 q u < key b 0 (cube p t).1 (cube p t).2 from hh.2.1), decide_eq_true (show key b 0 (cube p t).1 (cube p t).2 < key b 0 (cube q u).1 (cube q u).2 from hh.2.2)] at c
    simp at c
  | L + 1, p, t, q, u, h, h2 => by
    intro hh
    obtain ⟨h1', h2', h3'⟩ := hh
    have hn := hand hb (L + 1) p t h
    have hm := hand hb (L + 1) q u h2
    have bn := kpart_back h
    have bm := kpart_back h2
    cases ho : outr L p t with
    | false => exact (inner_gap hb h ho h2).1 ⟨h1', h2'⟩
    | true =>
    cases ho2 : outr L q u with
    | false => exact (inner_gap hb h2 ho2 hn).1 ⟨h2', h3'⟩
    | true =>
    have ofn := out_fit ho h.1 h.2.1
    have ofm := out_fit ho2 h2.1 h2.2.1
    by_cases c1 : t = gs L (p / 4) ∨ t = cs L (p / 4)
    · rcases link_gap hb h ho c1 (by omega) h2 with ⟨_, _, g⟩ | ⟨e, _, _⟩
      · rw [g ⟨h1', h2'⟩] at ho2; cases ho2
      · rcases link_gap hb h ho c1 (by omega) hm with ⟨_, e', g⟩ | ⟨_, _, g⟩
        · have n1 := nbr_gs (up_lt h.1)
          have n2 := nbr_cs (up_lt h.1)
          have := okc_all L (p / 4) (up_lt h.1)
          unfold okc at this
          simp at this
          omega
        · rw [g h3'] at ofm; exact absurd ofm.2.2 (by decide)
    by_cases c2 : u = gs L (q / 4) ∨ u = cs L (q / 4)
    · have ne := okc_all L (q / 4) (up_lt h2.1)
      unfold okc at ne
      simp at ne
      rcases link_gap hb h2 ho2 c2 (by omega) hn with ⟨_, _, g⟩ | ⟨e, _, _⟩
      · rw [g ⟨h2', h3'⟩] at ofn; exact absurd ofn.2.2 (by decide)
      · rcases link_gap hb h2 ho2 c2 (by omega) h with ⟨_, e', g⟩ | ⟨_, g, _⟩
        · omega
        · rw [g h1'] at ho; cases ho
    have fp : fre b L (p / 4) t = true := (f1 hb h.1 h.2.1 ho (fun e => c1 (.inr e)) (fun e => c1 (.inl e))) ▸ h.2.2
    have fq : fre b L (q / 4) u = true := (f1 hb h2.1 h2.2.1 ho2 (fun e => c2 (.inr e)) (fun e => c2 (.inl e))) ▸ h2.2.2
    have P1 : Pr b L (p / 4) t := ⟨up_lt h.1, h.2.1, fp⟩
    have P2 : Pr b L (q / 4) u := ⟨up_lt h2.1, h2.2.1, fq⟩
    have N1 := hand hb L _ _ P1
    have N2 := hand hb L _ _ P2
    have ih := nocross hb L (p / 4) t (q / 4) u P1 P2
    have fn : fre b L ((nbr (L + 1) p t).1 / 4) (nbr (L + 1) p t).2 = true := by rw [ofn.1, ofn.2.1]; exact N1.2.2
    have fm : fre b L ((nbr (L + 1) q u).1 / 4) (nbr (L + 1) q u).2 = true := by rw [ofm.1, ofm.2.1]; exact N2.2.2
    have a1 := up_le hb h h2 ho ho2 fp fq h1'
    have a2 := up_le hb h2 hn ho2 ofn.2.2 fq fn h2'
    have a3 := up_le hb hn hm ofn.2.2 ofm.2.2 fn fm h3'
    rw [ofn.1, ofn.2.1] at a2 a3
    rw [ofm.1, ofm.2.1] at a3
    have k1 : key b L (nbr L (p / 4) t).1 (nbr L (p / 4) t).2 = kpart b L (p / 4) t := rfl
    have k2 : key b L (nbr L (q / 4) u).1 (nbr L (q / 4) u).2 = kpart b L (q / 4) u := rfl
    have same : key b L (p / 4) t = key b L (q / 4) u := by
      by_cases e1 : key b L (p / 4) t = key b L (q / 4) u
      · exact e1
      by_cases e2 : key b L (q / 4) u = kpart b L (p / 4) t
      · have := key_inj hb P2.2.1 N1.2.1 e2
        have : kpart b L (q / 4) u = key b L (p / 4) t := by
          unfold kpart
          rw [this.1, this.2, nbr_back L _ _ P1.1 P1.2.1]
        omega
      by_cases e3 : kpart b L (p / 4) t = kpart b L (q / 4) u
      · have := key_inj hb N1.2.1 N2.2.1 e3
        have back := nbr_back L _ _ P1.1 P1.2.1
        rw [this.1, this.2, nbr_back L _ _ P2.1 P2.2.1] at back
        have e4 : q / 4 = p / 4 := congrArg Prod.fst back
        have e5 : u = t := congrArg Prod.snd back
        rw [e4, e5]
      · exact absurd ⟨by omega, by omega, by omega⟩ ih
    obtain ⟨e4, e5⟩ := key_inj hb P1.2.1 P2.2.1 same
    subst e5
    have hf1 := half_digit ho h.2.1
    have hf2 := half_digit ho2 h2.2.1
    have s1 := as_child ho h.2.1
    have s2 := as_child ho2 h2.2.1
    have g1 := f5 hb P1.1 P1.2.1 fp
    have g2 := f5 hb N1.1 N1.2.1 N1.2.2
    have n1 : nbr (L + 1) p t = _ := nbr_out ho
    have n2 : nbr (L + 1) q t = _ := nbr_out ho2
    rw [← e4] at s2 n2
    unfold kpart at h2' h3'
    rw [n1] at h3'
    rw [n2] at h3'
    dsimp only at h3'
    rw [s1, s2] at h1'
    generalize half L p t = x at *
    generalize half L q t = y at *
    have xy : (x = 0 ∨ x = 1) ∧ (y = 0 ∨ y = 1) := by omega
    rcases xy with ⟨rfl | rfl, rfl | rfl⟩
    · omega
    · simp only [Nat.sub_self, Nat.sub_zero] at h3'
      by_cases b0 : b = 0
      · rw [if_pos b0] at g1 g2; omega
      · rw [if_neg b0] at g1 g2; omega
    · simp only [Nat.sub_self, Nat.sub_zero] at h3'
      by_cases b0 : b = 0
      · rw [if_pos b0] at g1 g2; omega
      · rw [if_neg b0] at g1 g2; omega
    · omega
end Mine
end Part28
section Part29
set_option maxRecDepth 100000
set_option autoImplicit false
set_option linter.unusedVariables false
namespace Mine
/-! the four neighbours are four, and none is the cell itself -/
theorem four_base : ∀ f < 6, ∀ t < 4, (cube f t).1 ≠ f ∧ ∀ u < 4, (cube f t).1 = (cube f u).1 → t = u := by decide
def sibB (o d t : Nat) : Bool := outer o d t || (sib o d t != d && L4.all fun u => outer o d u || sib o d t != sib o d u || t == u)
theorem sib_all : (L4.all fun o => L4.all fun d => L4.all fun t => sibB o d t) = true := by decide +kernel
theorem sib_one (o : Nat) (ho : o < 4) (d : Nat) (hd : d < 4) (t : Nat) (ht : t < 4) (h : outer o d t = false) : sib o d t ≠ d ∧ ∀ u < 4, outer o d u = false → sib o d t = sib o d u → t = u := by
  have a := all4 (all4 (all4 sib_all ho) hd) ht
  unfold sibB at a
  rw [h, Bool.false_or, Bool.and_eq_true] at a
  refine ⟨by simpa using a.1, fun u hu h2 e => ?_⟩
  have c := all4 a.2 hu
  rw [h2] at c
  simpa [e] using c
theorem sib_lt (o d t : Nat) (ho : o < 4) : sib o d t < 4 := by
  unfold sib; split
  · exact (dg_qd o ho _ (m4 _)).2.2.2
  · exact (dg_qd o ho _ (m4 _)).2.2.2
theorem out_up {L p t : Nat} (ho : outr L p t = true) (hp : p < 6 * 4 ^ (L + 1)) (ht : t < 4) : (nbr (L + 1) p t).1 / 4 = (nbr L (p / 4) t).1 := (out_fit ho hp ht).1
theorem in_up {L p t : Nat} (ho : outr L p t = false) : (nbr (L + 1) p t).1 / 4 = p / 4 ∧ (nbr (L + 1) p t).1 % 4 = sib (oz L (p / 4)) (p % 4) t := by
  rw [nbr_in ho]
  exact sd _ _ (sib_lt _ _ _ (oz_lt L _))
theorem four : ∀ (L p t : Nat), p < 6 * 4 ^ L → t < 4 → (nbr L p t).1 ≠ p ∧ ∀ u, u < 4 → (nbr L p t).1 = (nbr L p u).1 → t = u
  | 0, p, t, hp, ht => by
    have h := four_base p (by simpa using hp) t ht
    exact h
  | L + 1, p, t, hp, ht => by
    have hq := up_lt hp
    have ih := four L (p / 4) t hq ht
    cases ho : outr L p t with
    | true =>
      have h1 := out_up ho hp ht
      refine ⟨fun e => ih.1 (by rw [← h1, e]), fun u hu e => ?_⟩
      cases ho2 : outr L p u with
      | true => exact ih.2 u hu (by rw [← h1, e, out_up ho2 hp hu])
      | false => exact absurd (by rw [← h1, e, (in_up ho2).1]) ih.1
    | false =>
      have h1 := in_up ho
      have s := sib_one _ (oz_lt L (p / 4)) (p % 4) (m4 p) t ht ho
      refine ⟨fun e => s.1 (by rw [← h1.2, e]), fun u hu e => ?_⟩
      cases ho2 : outr L p u with
      | true => exact absurd (by rw [← out_up ho2 hp hu, ← e, h1.1]) (four L (p / 4) u hq hu).1
      | false => exact s.2 u hu ho2 (by rw [← h1.2, e, (in_up ho2).2])
theorem come_one {L p t : Nat} (hp : p < 6 * 4 ^ L) (ht : t < 4) : (nbr L p t).1 = pv L p ↔ t = cs L p := by
  constructor
  · intro e; exact (four L p t hp ht).2 _ (cs_lt L p) (by rw [nbr_cs hp]; exact e)
  · rintro rfl; rw [nbr_cs hp]
theorem go_one {L p t : Nat} (hp : p < 6 * 4 ^ L) (ht : t < 4) : (nbr L p t).1 = nx L p ↔ t = gs L p := by
  constructor
  · intro e; exact (four L p t hp ht).2 _ (gs_lt L p) (by rw [nbr_gs hp]; exact e)
  · rintro rfl; rw [nbr_gs hp]
theorem ways_ne {L p : Nat} (hp : p < 6 * 4 ^ L) : cs L p ≠ gs L p := by
  have := okc_all L p hp
  unfold okc at this
  simp at this
  exact this.2
theorem home_one {L p t u : Nat} (hp : p < 6 * 4 ^ L) (ht : t < 4) (hu : u < 4) : (nbr L (nbr L p t).1 u).1 = p ↔ u = (nbr L p t).2 := by
  have fit := nbr_fit L p t hp ht
  constructor
  · intro e; exact (four L _ u fit.1 hu).2 _ fit.2 (by rw [nbr_back L p t hp ht]; exact e)
  · rintro rfl; rw [nbr_back L p t hp ht]
/-- how far ahead -/
def ahead (L a x : Nat) : Nat := (x + (6 * 4 ^ L - a)) % (6 * 4 ^ L)
theorem ahead_or {L a x : Nat} (ha : a < 6 * 4 ^ L) (hx : x < 6 * 4 ^ L) : (a ≤ x ∧ ahead L a x = x - a) ∨ (x < a ∧ ahead L a x = x + 6 * 4 ^ L - a) := by
  unfold ahead
  generalize 6 * 4 ^ L = N at *
  by_cases h : a ≤ x
  · left; rw [show x + (N - a) = x - a + N by omega, Nat.add_mod_right, Nat.mod_eq_of_lt (by omega)]; omega
  · right; rw [Nat.mod_eq_of_lt (by omega)]; omega
/-- a free neighbour is neither the cell, nor the next, nor the one before -/
theorem apart_free {L a t : Nat} (ha : a < 6 * 4 ^ L) (ht : t < 4) (h1 : t ≠ cs L a) (h2 : t ≠ gs L a) : 2 ≤ ahead L a (nbr L a t).1 ∧ ahead L a (nbr L a t).1 + 2 ≤ 6 * 4 ^ L := by
  have fit := (nbr_fit L a t ha ht).1
  have n0 := (four L a t ha ht).1
  have n1 : (nbr L a t).1 ≠ pv L a := fun e => h1 ((come_one ha ht).mp e)
  have n2 : (nbr L a t).1 ≠ nx L a := fun e => h2 ((go_one ha ht).mp e)
  have p1 := pv_or ha
  have p2 := nx_or ha
  have many := many_p L
  have nf := nx_fit L a
  have h := ahead_or ha fit
  generalize (nbr L a t).1 = x at *
  generalize ahead L a x = y at *
  generalize pv L a = z at *
  generalize nx L a = v at *
  generalize 6 * 4 ^ L = N at *
  omega
theorem key_lt {b L p t q u : Nat} (h : p < q) : key b L p t < key b L q u := by
  have := key_div (b := b) (L := L) (p := p) (t := t)
  have := key_div (b := b) (L := L) (p := q) (t := u)
  omega
/-- the stretch is shut in -/
theorem shut {b L a t x u : Nat} (hb : b < 2) (h : Pr b L a t) (h2 : Pr b L x u) (hs : 1 ≤ ahead L a x) (hs2 : ahead L a x < ahead L a (nbr L a t).1) : ahead L a (nbr L x u).1 ≤ ahead L a (nbr L a t).1 := by
  apply Nat.le_of_not_lt
  intro hlt
  have n1 := hand hb L _ _ h
  have n2 := hand hb L _ _ h2
  have c1 := nocross hb L a t x u h h2
  have c2 := nocross hb L x u _ _ h2 n1
  have c3 := nocross hb L _ _ _ _ n1 n2
  have c4 := nocross hb L _ _ a t n2 h
  rw [kpart_back h] at c2 c3
  rw [kpart_back h2] at c3 c4
  unfold kpart at *
  have d1 : ¬(a < x ∧ x < (nbr L a t).1 ∧ (nbr L a t).1 < (nbr L x u).1) := fun k => c1 ⟨key_lt k.1, key_lt k.2.1, key_lt k.2.2⟩
  have d2 : ¬(x < (nbr L a t).1 ∧ (nbr L a t).1 < (nbr L x u).1 ∧ (nbr L x u).1 < a) := fun k => c2 ⟨key_lt k.1, key_lt k.2.1, key_lt k.2.2⟩
  have d3 : ¬((nbr L a t).1 < (nbr L x u).1 ∧ (nbr L x u).1 < a ∧ a < x) := fun k => c3 ⟨key_lt k.1, key_lt k.2.1, key_lt k.2.2⟩
  have d4 : ¬((nbr L x u).1 < a ∧ a < x ∧ x < (nbr L a t).1) := fun k => c4 ⟨key_lt k.1, key_lt k.2.1, key_lt k.2.2⟩
  have g1 := ahead_or h.1 h2.1
  have g2 := ahead_or h.1 n1.1
  have g3 := ahead_or h.1 n2.1
  have b1 := h.1
  have b2 := h2.1
  have b3 := n1.1
  have b4 := n2.1
  clear c1 c2 c3 c4 n1 n2 h h2
  generalize (nbr L a t).1 = e at *
  generalize (nbr L x u).1 = y at *
  generalize ahead L a x = r1 at *
  generalize ahead L a e = r2 at *
  generalize ahead L a y = r3 at *
  generalize 6 * 4 ^ L = N at *
  omega
end Mine
end Part29
section Part30
set_option maxRecDepth 100000
set_option autoImplicit false
set_option linter.unusedVariables false
namespace Mine
/-! the place of a square, some digits at a time -/
def ph : Nat → Nat → Nat → Nat → Nat
  | 0, _, _, _ => 0
  | n + 1, o, x, y => 4 * ph n o (x / 2) (y / 2) + dg (ho n o (ph n o (x / 2) (y / 2))) (corner (x % 2) (y % 2))
theorem ph_lt {o : Nat} (h : o < 4) : ∀ n x y, ph n o x y < 4 ^ n
  | 0, _, _ => Nat.one_pos
  | n + 1, x, y => by
    have := ph_lt h n (x / 2) (y / 2)
    have := (dg_qd _ (ho_lt h n (ph n o (x / 2) (y / 2))) (corner (x % 2) (y % 2)) (bits_corner (x % 2) (by omega) (y % 2) (by omega)).2.2).2.2.2
    simp only [ph]; rw [Nat.pow_succ]; omega
theorem ph_mod (o : Nat) : ∀ n x y, ph n o (x % 2 ^ n) (y % 2 ^ n) = ph n o x y
  | 0, _, _ => rfl
  | n + 1, x, y => by
    have e : ∀ x : Nat, x % 2 ^ (n + 1) / 2 = x / 2 % 2 ^ n ∧ x % 2 ^ (n + 1) % 2 = x % 2 := fun x => by
      rw [Nat.pow_succ, Nat.mul_comm]
      exact ⟨Nat.mod_mul_right_div_self x 2 (2 ^ n), Nat.mod_mul_right_mod x 2 (2 ^ n)⟩
    simp only [ph]
    rw [(e x).1, (e x).2, (e y).1, (e y).2, ph_mod o n]
theorem oz_add (L : Nat) : ∀ (m q r : Nat), r < 4 ^ m → oz (L + m) (q * 4 ^ m + r) = ho m (oz L q) r
  | 0, q, r, h => by rw [Nat.pow_zero] at *; rw [show q * 1 + r = q by omega]; rfl
  | m + 1, q, r, h => by
    rw [Nat.pow_succ] at h
    show oz (L + m) ((q * 4 ^ (m + 1) + r) / 4) ^^^ po ((q * 4 ^ (m + 1) + r) % 4) = ho m (oz L q) (r / 4) ^^^ po (r % 4)
    rw [(drop4 q r m).1, (drop4 q r m).2, oz_add L m q (r / 4) (by omega)]
theorem pz_add (L f : Nat) : ∀ (m x y : Nat), pz (L + m) f x y = pz L f (x / 2 ^ m) (y / 2 ^ m) * 4 ^ m + ph m (oz L (pz L f (x / 2 ^ m) (y / 2 ^ m))) x y
  | 0, x, y => by simp [ph]
  | m + 1, x, y => by
    show 4 * pz (L + m) f (x / 2) (y / 2) + dg (oz (L + m) (pz (L + m) f (x / 2) (y / 2))) (corner (x % 2) (y % 2)) = _
    rw [pz_add L f m, oz_add L m _ _ (ph_lt (oz_lt L _) m _ _), Nat.div_div_eq_div_mul, Nat.div_div_eq_div_mul, Nat.pow_succ, Nat.pow_succ, Nat.mul_comm 2]
    simp only [ph]
    rw [← Nat.mul_assoc]
    omega
def ptabN (n : Nat) : Nat := 4 * ph 4 (n % 4) (n / 64) (n / 4 % 16) + ho 4 (n % 4) (ph 4 (n % 4) (n / 64) (n / 4 % 16))
theorem ptab_parts {o x y : Nat} (h : o < 4) : ptabN (64 * (x % 16) + 4 * (y % 16) + o) / 4 = ph 4 o x y ∧ ptabN (64 * (x % 16) + 4 * (y % 16) + o) % 4 = ho 4 o (ph 4 o x y) ∧ ptabN (64 * (x % 16) + 4 * (y % 16) + o) < 1024 := by
  unfold ptabN
  rw [show (64 * (x % 16) + 4 * (y % 16) + o) % 4 = o by omega, show (64 * (x % 16) + 4 * (y % 16) + o) / 64 = x % 2 ^ 4 by omega, show (64 * (x % 16) + 4 * (y % 16) + o) / 4 % 16 = y % 2 ^ 4 by omega, ph_mod]
  have := ho_lt h 4 (ph 4 o x y)
  have := ph_lt h 4 x y
  omega
theorem start_zero : ∀ o < 2, ph 2 o 0 0 = 0 ∧ ho 2 o 0 = o := by decide
theorem pfirst {o x y : Nat} (h : o < 2) (hx : x < 4) (hy : y < 4) : ph 4 o x y = ph 2 o x y := by
  simp only [ph, ho]
  rw [show x / 2 / 2 = 0 by omega, show y / 2 / 2 = 0 by omega]
  have : o = 0 ∨ o = 1 := by omega
  have : x = 0 ∨ x = 1 ∨ x = 2 ∨ x = 3 := by omega
  have : y = 0 ∨ y = 1 ∨ y = 2 ∨ y = 3 := by omega
  rcases ‹o = 0 ∨ _› with rfl | rfl <;> rcases ‹x = 0 ∨ _› with rfl | rfl | rfl | rfl <;> rcases ‹y = 0 ∨ _› with rfl | rfl | rfl | rfl <;> decide
def pS (f i j n : Nat) : Nat := pz (2 + 4 * n) f (i / 2 ^ (28 - 4 * n)) (j / 2 ^ (28 - 4 * n))
theorem pS_zero {f i j : Nat} : pS f i j 0 = f * 16 + ph 2 (f % 2) (i / 2 ^ 28) (j / 2 ^ 28) := by
  unfold pS
  have := pz_add 0 f 2 (i / 2 ^ 28) (j / 2 ^ 28)
  rw [show 2 + 4 * 0 = 0 + 2 from rfl, show 28 - 4 * 0 = 28 from rfl, this]; rfl
theorem oS_zero {f i j : Nat} : oz 2 (pS f i j 0) = ho 2 (f % 2) (ph 2 (f % 2) (i / 2 ^ 28) (j / 2 ^ 28)) := by
  rw [pS_zero]
  exact oz_add 0 2 f _ (ph_lt (by omega) 2 _ _)
theorem div_down (i n : Nat) (hn : n < 7) : i / 2 ^ (4 * (6 - n)) / 2 ^ 4 = i / 2 ^ (28 - 4 * n) := by
  rw [Nat.div_div_eq_div_mul, ← Nat.pow_add, show 4 * (6 - n) + 4 = 28 - 4 * n by omega]
theorem pS_next {f i j n : Nat} (hn : n < 7) : pS f i j (n + 1) = pS f i j n * 256 + ph 4 (oz (2 + 4 * n) (pS f i j n)) (i / 2 ^ (4 * (6 - n))) (j / 2 ^ (4 * (6 - n))) := by
  have := pz_add (2 + 4 * n) f 4 (i / 2 ^ (4 * (6 - n))) (j / 2 ^ (4 * (6 - n)))
  rw [div_down _ _ hn, div_down _ _ hn] at this
  unfold pS
  rw [show 28 - 4 * (n + 1) = 4 * (6 - n) by omega, show 2 + 4 * (n + 1) = 2 + 4 * n + 4 by omega, this]
theorem oS_next {f i j n : Nat} (hn : n < 7) : oz (2 + 4 * (n + 1)) (pS f i j (n + 1)) = ho 4 (oz (2 + 4 * n) (pS f i j n)) (ph 4 (oz (2 + 4 * n) (pS f i j n)) (i / 2 ^ (4 * (6 - n))) (j / 2 ^ (4 * (6 - n)))) := by
  rw [pS_next hn, show 2 + 4 * (n + 1) = 2 + 4 * n + 4 by omega]
  exact oz_add (2 + 4 * n) 4 _ _ (ph_lt (oz_lt _ _) 4 _ _)
theorem pS_fin {f i j : Nat} : pS f i j 7 = pz 30 f i j := by unfold pS; simp
theorem or_put {a b m : Nat} (h : b < 2 ^ m) : (a * 2 ^ m) ||| b = a * 2 ^ m + b := by
  rw [Nat.mul_comm]; exact (Nat.two_pow_add_eq_or_of_lt h a).symm
end Mine
end Part30
section Part31
open PySem PySem.W PySem.Calls
set_option maxRecDepth 100000
set_option autoImplicit false
set_option linter.unusedVariables false
namespace Mine
open Builtin (bitAnd bitOr bitXor bitNot)
def prow (r : Nat) : List Int := (List.range 128).map fun i => ((ptabN (128 * r + i) : Nat) : Int)
def ptab : List (List Int) := (List.range 8).map prow
section
variable {G : Gl} {c : Cx} {σ : Sg}
theorem op_ptab {value slice : Expr} {k : Nat} {Q : PV → Prop} (hk : k < 8) (h : Q (pvInts (prow k)))
    (hs : ∀ (l : Addr) (u : Tok), subscripted slice false (.ref l) (.int k u) = operate [.ref l, .int k u] (getItem (.ref l) (.int k u)) := by intros; with_unfolding_all rfl) :
    Op2 G c σ (PyProof.Rows.subscriptTail value slice) (pvRows ptab) (.int k) Q :=
  op_item_lst (by omega) (by omega) (x := pvInts (prow k)) (by simp [ptab, hk]) h hs
theorem op_prow {value slice : Expr} {r k : Nat} {Q : PV → Prop} (hk : k < 128) (h : Q (.int ((ptabN (128 * r + k) : Nat) : Int)))
    (hs : ∀ (l : Addr) (u : Tok), subscripted slice false (.ref l) (.int k u) = operate [.ref l, .int k u] (getItem (.ref l) (.int k u)) := by intros; with_unfolding_all rfl) :
    Op2 G c σ (PyProof.Rows.subscriptTail value slice) (pvInts (prow r)) (.int k) Q :=
  op_item_lst (by omega) (by omega) (x := .int ((ptabN (128 * r + k) : Nat) : Int)) (by simp [prow, hk]) h hs
end
theorem nib (i k : Nat) : bitAnd ((i : Int).fdiv (2 ^ Int.toNat ((k : Int) * 4))) (1 * 2 ^ Int.toNat 4 - 1) = ((i / 2 ^ (4 * k) % 16 : Nat) : Int) := by
  rw [shr_int, show Int.toNat ((k : Int) * 4) = 4 * k by omega]; exact and_mask _ 4
theorem nib7 (i : Nat) : bitAnd ((i : Int).fdiv (2 ^ Int.toNat (7 * 4))) (1 * 2 ^ Int.toNat 4 - 1) = ((i / 2 ^ 28 % 16 : Nat) : Int) := nib i 7
theorem put_xy (b x y : Nat) : (b : Int) + (x : Int) * 2 ^ Int.toNat (4 + 2) + (y : Int) * 2 ^ Int.toNat 2 = ((64 * x + 4 * y + b : Nat) : Int) := by
  show (b : Int) + (x : Int) * 64 + (y : Int) * 4 = _
  omega
theorem shr2 (n : Nat) : (n : Int).fdiv (2 ^ Int.toNat 2) = ((n / 4 : Nat) : Int) := shr_int n 2
theorem face_put (f : Nat) : (f : Int) * 2 ^ Int.toNat (61 - 1) = ((f * 2 ^ 60 : Nat) : Int) := shl_int f 60
theorem or_60 {f b : Nat} (h : b < 16) : bitOr ((f * 2 ^ 60 : Nat) : Int) ((b : Int) * 2 ^ Int.toNat (7 * 2 * 4)) = (((f * 16 + b) * 2 ^ 56 : Nat) : Int) := by
  rw [shl_int, or_nat, show (7 * 2 * 4 : Int).toNat = 56 from rfl, show f * 2 ^ 60 = (f * 16) * 2 ^ 56 by rw [Nat.mul_assoc], ← Nat.shiftLeft_eq, ← Nat.shiftLeft_eq, ← Nat.shiftLeft_or_distrib, Nat.shiftLeft_eq]
  have := or_put (a := f) (m := 4) h
  rw [show f * 2 ^ 4 = f * 16 from rfl] at this
  rw [this]
theorem or_next {P b i : Nat} (hi : i < 7) (h : b < 256) : bitOr ((P * 2 ^ (56 - 8 * i) : Nat) : Int) ((b : Int) * 2 ^ Int.toNat (((6 - i : Nat) : Int) * 2 * 4)) = (((P * 256 + b) * 2 ^ (56 - 8 * (i + 1)) : Nat) : Int) := by
  rw [shl_int, or_nat, show (((6 - i : Nat) : Int) * 2 * 4).toNat = 56 - 8 * (i + 1) by omega, show 56 - 8 * i = 8 + (56 - 8 * (i + 1)) by omega, Nat.pow_add, ← Nat.mul_assoc, show P * 2 ^ 8 = P * 256 from rfl, ← Nat.shiftLeft_eq, ← Nat.shiftLeft_eq, ← Nat.shiftLeft_or_distrib, Nat.shiftLeft_eq]
  have := or_put (a := P) (m := 8) h
  rw [show P * 2 ^ 8 = P * 256 from rfl] at this
  rw [this]
theorem leaf_gid (P : Nat) : ((P * 2 ^ (56 - 8 * 7) : Nat) : Int) * 2 + 1 = gid 30 P := by
  unfold gid gidN
  simp only [Nat.reduceMul, Nat.reduceSub, Nat.pow_zero, Nat.mul_one]
  omega
theorem pz_lt {L f x y : Nat} (hf : f < 6) (hx : x < 2 ^ L) (hy : y < 2 ^ L) : pz L f x y < 6 * 4 ^ L := by
  have h := (at_pz L f x y hx hy).2.2
  have : 0 < 4 ^ L := Nat.pow_pos (by decide)
  rw [← Nat.div_lt_iff_lt_mul this, h]; exact hf
end Mine
end Part31
section Part32
set_option maxRecDepth 100000
set_option autoImplicit false
set_option linter.unusedVariables false
namespace Mine
/-! over the cube's edges -/
def fX (f : Nat) (u v : Int) : Int := match f with | 0 => 1 | 1 => -u | 2 => -u | 3 => -1 | 4 => v | _ => v
def fY (f : Nat) (u v : Int) : Int := match f with | 0 => u | 1 => 1 | 2 => -v | 3 => -v | 4 => -1 | _ => u
def fZ (f : Nat) (u v : Int) : Int := match f with | 0 => v | 1 => v | 2 => 1 | 3 => -u | 4 => -u | _ => -1
def lac (x y z : Int) : Nat := if max x (-x) > max y (-y) then (if max x (-x) > max z (-z) then 0 else 2) else (if max y (-y) > max z (-z) then 1 else 2)
def nth (k : Nat) (x y z : Int) : Int := match k with | 0 => x | 1 => y | _ => z
def fcN (x y z : Int) : Nat := if nth (lac x y z) x y z < 0 then lac x y z + 3 else lac x y z
def quo (a b : Int) : Int := (a * 18014398509481984 + b).fdiv (2 * b)
def vU (f : Nat) (x y z : Int) : Int := match f with | 0 => quo y x | 1 => quo (-x) y | 2 => quo (-x) z | 3 => quo z x | 4 => quo z y | _ => quo (-y) z
def vV (f : Nat) (x y z : Int) : Int := match f with | 0 => quo z x | 1 => quo z y | 2 => quo (-y) z | 3 => quo y x | 4 => quo (-x) y | _ => quo (-x) z
def axis (f : Nat) (x y z : Int) : Int := match f with | 0 => x | 1 => y | 2 => z | 3 => -x | 4 => -y | _ => -z
def dv (f : Nat) (x y z : Int) : Int := match f with | 0 => x | 1 => y | 2 => z | 3 => x | 4 => y | _ => z
def stij (s : Int) : Int := max 0 (min (1073741824 - 1) (s.fdiv 16777216))
theorem lac_lt (x y z : Int) : lac x y z < 3 := by unfold lac; split <;> split <;> omega
theorem fcN_lt (x y z : Int) : fcN x y z < 6 := by have := lac_lt x y z; unfold fcN; split <;> omega
theorem quo_pos (a b : Int) (hb : 0 < b) : quo a b = (a * 18014398509481984 + b) / (2 * b) := by
  unfold quo; rw [Int.fdiv_eq_ediv_of_nonneg _ (by omega)]
theorem quo_neg (a b : Int) : quo a (-b) = quo (-a) b := by
  unfold quo
  rw [show a * 18014398509481984 + -b = -(-a * 18014398509481984 + b) by omega, show 2 * -b = -(2 * b) by omega, Int.neg_fdiv_neg]
/-- which square a coordinate beyond the rim comes to -/
theorem quo_in (j : Nat) (hj : j < 2 ^ 30) : stij (quo (2 * (j : Int) + 1 - 1073741824) 1073741825 + 9007199254740992) = (j : Int) ∨ stij (quo (2 * (j : Int) + 1 - 1073741824) 1073741825 + 9007199254740992) = (j : Int) + 1 ∧ j + 1 < 2 ^ 30 := by
  unfold stij
  rw [quo_pos _ _ (by decide), Int.fdiv_eq_ediv_of_nonneg _ (by decide)]
  omega
theorem quo_in' (j : Nat) (hj : j < 2 ^ 30) : stij (quo (-(2 * (j : Int) + 1 - 1073741824)) 1073741825 + 9007199254740992) = 1073741823 - (j : Int) ∨ stij (quo (-(2 * (j : Int) + 1 - 1073741824)) 1073741825 + 9007199254740992) = 1073741823 - (j : Int) + 1 ∧ 1 ≤ j := by
  unfold stij
  rw [quo_pos _ _ (by decide), Int.fdiv_eq_ediv_of_nonneg _ (by decide)]
  omega
theorem quo_hi : stij (quo 1073741824 1073741825 + 9007199254740992) = 1073741823 := by decide +kernel
theorem quo_lo : stij (quo (-1073741824) 1073741825 + 9007199254740992) = 0 := by decide +kernel
/-- the wrap's answer: the neighbouring face and a leaf at its rim, the place along it kept but for one -/
def Wrapped (f t a : Nat) (f' : Nat) (i' j' : Int) : Prop := ∃ I J : Nat, i' = (I : Int) ∧ j' = (J : Int) ∧ I < 2 ^ 30 ∧ J < 2 ^ 30 ∧ f' = (cube f t).1 ∧ rim 30 (cube f t).2 I J ∧
  along 30 (cube f t).2 I J + a + 1 ≤ 2 ^ 30 + 1 ∧ 2 ^ 30 - 1 ≤ along 30 (cube f t).2 I J + a + 1
def outI (t a : Nat) : Int := match t with | 0 => (a : Int) | 1 => 1073741824 | 2 => 1073741823 - (a : Int) | _ => -1
def outJ (t a : Nat) : Int := match t with | 0 => -1 | 1 => (a : Int) | 2 => 1073741824 | _ => 1073741823 - (a : Int)
def uu (i : Int) : Int := 2 * i + 1 - 1073741824
def wX (f t a : Nat) : Int := fX f (uu (outI t a)) (uu (outJ t a)) + fX f 0 0 * (1073741824 - 1)
def wY (f t a : Nat) : Int := fY f (uu (outI t a)) (uu (outJ t a)) + fY f 0 0 * (1073741824 - 1)
def wZ (f t a : Nat) : Int := fZ f (uu (outI t a)) (uu (outJ t a)) + fZ f 0 0 * (1073741824 - 1)
end Mine
end Part32
section Part33
set_option maxRecDepth 100000
set_option autoImplicit false
set_option linter.all false
namespace Mine
theorem neg_neg_M : -(-(1073741824 : Int)) = 1073741824 := rfl
theorem wrap_00 (a : Nat) (ha : a < 2 ^ 30) : 0 < axis (fcN (wX 0 0 a) (wY 0 0 a) (wZ 0 0 a)) (wX 0 0 a) (wY 0 0 a) (wZ 0 0 a) ∧ Wrapped 0 0 a (fcN (wX 0 0 a) (wY 0 0 a) (wZ 0 0 a)) (stij (vU (fcN (wX 0 0 a) (wY 0 0 a) (wZ 0 0 a)) (wX 0 0 a) (wY 0 0 a) (wZ 0 0 a) + 9007199254740992)) (stij (vV (fcN (wX 0 0 a) (wY 0 0 a) (wZ 0 0 a)) (wX 0 0 a) (wY 0 0 a) (wZ 0 0 a) + 9007199254740992)) := by
  have hX : wX 0 0 a = 1073741824 := by simp only [wX, fX, uu, outI, outJ]; omega
  have hY : wY 0 0 a = (2 * (a : Int) + 1 - 1073741824) := by simp only [wY, fY, uu, outI, outJ]; omega
  have hZ : wZ 0 0 a = -1073741825 := by simp only [wZ, fZ, uu, outI, outJ]; omega
  have hl : lac (1073741824) ((2 * (a : Int) + 1 - 1073741824)) (-1073741825) = 2 := by unfold lac; split <;> split <;> omega
  have hf : fcN (1073741824) ((2 * (a : Int) + 1 - 1073741824)) (-1073741825) = 5 := by unfold fcN; rw [hl]; exact if_pos (by show ((-1073741825 : Int) < 0); omega)
  rw [hX, hY, hZ, hf]
  refine ⟨by show (0 : Int) < -(-1073741825); omega, ?_⟩
  have hU : vU 5 (1073741824) ((2 * (a : Int) + 1 - 1073741824)) (-1073741825) = quo ((2 * (a : Int) + 1 - 1073741824)) 1073741825 := by
    show quo _ _ = _
    first | rfl | exact quo_neg _ _ | (rw [quo_neg]; first | rfl | (congr 1; omega)) | (congr 1; omega)
  have hV : vV 5 (1073741824) ((2 * (a : Int) + 1 - 1073741824)) (-1073741825) = quo (1073741824) 1073741825 := by
    show quo _ _ = _
    first | rfl | exact quo_neg _ _ | (rw [quo_neg]; first | rfl | (congr 1; omega)) | (congr 1; omega)
  rw [hU, hV]
  rw [quo_hi]
  rcases quo_in a ha with h | h
  · refine ⟨a, 1073741823, ?_, ?_, by omega, by omega, rfl, ?_, ?_, ?_⟩ <;> first | exact h | (rw [h]; omega) | rfl | (simp [cube, rim, along]; done) | (simp [cube, rim, along]; omega) | (simp only [cube, rim, along]; simp; omega) | (simp only [cube, along]; simp only [List.getD_cons_zero, List.getD_cons_succ]; omega)
  · refine ⟨a + 1, 1073741823, ?_, ?_, by omega, by omega, rfl, ?_, ?_, ?_⟩ <;> first | exact h | (rw [h.1]; omega) | rfl | (simp [cube, rim, along]; done) | (simp [cube, rim, along]; omega) | (simp only [cube, rim, along]; simp; omega) | (simp only [cube, along]; simp only [List.getD_cons_zero, List.getD_cons_succ]; omega)
theorem wrap_01 (a : Nat) (ha : a < 2 ^ 30) : 0 < axis (fcN (wX 0 1 a) (wY 0 1 a) (wZ 0 1 a)) (wX 0 1 a) (wY 0 1 a) (wZ 0 1 a) ∧ Wrapped 0 1 a (fcN (wX 0 1 a) (wY 0 1 a) (wZ 0 1 a)) (stij (vU (fcN (wX 0 1 a) (wY 0 1 a) (wZ 0 1 a)) (wX 0 1 a) (wY 0 1 a) (wZ 0 1 a) + 9007199254740992)) (stij (vV (fcN (wX 0 1 a) (wY 0 1 a) (wZ 0 1 a)) (wX 0 1 a) (wY 0 1 a) (wZ 0 1 a) + 9007199254740992)) := by
  have hX : wX 0 1 a = 1073741824 := by simp only [wX, fX, uu, outI, outJ]; omega
  have hY : wY 0 1 a = 1073741825 := by simp only [wY, fY, uu, outI, outJ]; omega
  have hZ : wZ 0 1 a = (2 * (a : Int) + 1 - 1073741824) := by simp only [wZ, fZ, uu, outI, outJ]; omega
  have hl : lac (1073741824) (1073741825) ((2 * (a : Int) + 1 - 1073741824)) = 1 := by unfold lac; split <;> split <;> omega
  have hf : fcN (1073741824) (1073741825) ((2 * (a : Int) + 1 - 1073741824)) = 1 := by unfold fcN; rw [hl]; exact if_neg (by show ¬((1073741825 : Int) < 0); omega)
  rw [hX, hY, hZ, hf]
  refine ⟨by show (0 : Int) < 1073741825; omega, ?_⟩
  have hU : vU 1 (1073741824) (1073741825) ((2 * (a : Int) + 1 - 1073741824)) = quo (-1073741824) 1073741825 := by
    show quo _ _ = _
    first | rfl | exact quo_neg _ _ | (rw [quo_neg]; first | rfl | (congr 1; omega)) | (congr 1; omega)
  have hV : vV 1 (1073741824) (1073741825) ((2 * (a : Int) + 1 - 1073741824)) = quo ((2 * (a : Int) + 1 - 1073741824)) 1073741825 := by
    show quo _ _ = _
    first | rfl | exact quo_neg _ _ | (rw [quo_neg]; first | rfl | (congr 1; omega)) | (congr 1; omega)
  rw [hU, hV]
  rw [quo_lo]
  rcases quo_in a ha with h | h
  · refine ⟨0, a, ?_, ?_, by omega, by omega, rfl, ?_, ?_, ?_⟩ <;> first | exact h | (rw [h]; omega) | rfl | (simp [cube, rim, along]; done) | (simp [cube, rim, along]; omega) | (simp only [cube, rim, along]; simp; omega) | (simp only [cube, along]; simp only [List.getD_cons_zero, List.getD_cons_succ]; omega)
  · refine ⟨0, a + 1, ?_, ?_, by omega, by omega, rfl, ?_, ?_, ?_⟩ <;> first | exact h | (rw [h.1]; omega) | rfl | (simp [cube, rim, along]; done) | (simp [cube, rim, along]; omega) | (simp only [cube, rim, along]; simp; omega) | (simp only [cube, along]; simp only [List.getD_cons_zero, List.getD_cons_succ]; omega)
theorem wrap_02 (a : Nat) (ha : a < 2 ^ 30) : 0 < axis (fcN (wX 0 2 a) (wY 0 2 a) (wZ 0 2 a)) (wX 0 2 a) (wY 0 2 a) (wZ 0 2 a) ∧ Wrapped 0 2 a (fcN (wX 0 2 a) (wY 0 2 a) (wZ 0 2 a)) (stij (vU (fcN (wX 0 2 a) (wY 0 2 a) (wZ 0 2 a)) (wX 0 2 a) (wY 0 2 a) (wZ 0 2 a) + 9007199254740992)) (stij (vV (fcN (wX 0 2 a) (wY 0 2 a) (wZ 0 2 a)) (wX 0 2 a) (wY 0 2 a) (wZ 0 2 a) + 9007199254740992)) := by
  have hX : wX 0 2 a = 1073741824 := by simp only [wX, fX, uu, outI, outJ]; omega
  have hY : wY 0 2 a = -(2 * (a : Int) + 1 - 1073741824) := by simp only [wY, fY, uu, outI, outJ]; omega
  have hZ : wZ 0 2 a = 1073741825 := by simp only [wZ, fZ, uu, outI, outJ]; omega
  have hl : lac (1073741824) (-(2 * (a : Int) + 1 - 1073741824)) (1073741825) = 2 := by unfold lac; split <;> split <;> omega
  have hf : fcN (1073741824) (-(2 * (a : Int) + 1 - 1073741824)) (1073741825) = 2 := by unfold fcN; rw [hl]; exact if_neg (by show ¬((1073741825 : Int) < 0); omega)
  rw [hX, hY, hZ, hf]
  refine ⟨by show (0 : Int) < 1073741825; omega, ?_⟩
  have hU : vU 2 (1073741824) (-(2 * (a : Int) + 1 - 1073741824)) (1073741825) = quo (-1073741824) 1073741825 := by
    show quo _ _ = _
    first | rfl | exact quo_neg _ _ | (rw [quo_neg]; first | rfl | (congr 1; omega)) | (congr 1; omega)
  have hV : vV 2 (1073741824) (-(2 * (a : Int) + 1 - 1073741824)) (1073741825) = quo ((2 * (a : Int) + 1 - 1073741824)) 1073741825 := by
    show quo _ _ = _
    first | rfl | exact quo_neg _ _ | (rw [quo_neg]; first | rfl | (congr 1; omega)) | (congr 1; omega)
  rw [hU, hV]
  rw [quo_lo]
  rcases quo_in a ha with h | h
  · refine ⟨0, a, ?_, ?_, by omega, by omega, rfl, ?_, ?_, ?_⟩ <;> first | exact h | (rw [h]; omega) | rfl | (simp [cube, rim, along]; done) | (simp [cube, rim, along]; omega) | (simp only [cube, rim, along]; simp; omega) | (simp only [cube, along]; simp only [List.getD_cons_zero, List.getD_cons_succ]; omega)
  · refine ⟨0, a + 1, ?_, ?_, by omega, by omega, rfl, ?_, ?_, ?_⟩ <;> first | exact h | (rw [h.1]; omega) | rfl | (simp [cube, rim, along]; done) | (simp [cube, rim, along]; omega) | (simp only [cube, rim, along]; simp; omega) | (simp only [cube, along]; simp only [List.getD_cons_zero, List.getD_cons_succ]; omega)
theorem wrap_03 (a : Nat) (ha : a < 2 ^ 30) : 0 < axis (fcN (wX 0 3 a) (wY 0 3 a) (wZ 0 3 a)) (wX 0 3 a) (wY 0 3 a) (wZ 0 3 a) ∧ Wrapped 0 3 a (fcN (wX 0 3 a) (wY 0 3 a) (wZ 0 3 a)) (stij (vU (fcN (wX 0 3 a) (wY 0 3 a) (wZ 0 3 a)) (wX 0 3 a) (wY 0 3 a) (wZ 0 3 a) + 9007199254740992)) (stij (vV (fcN (wX 0 3 a) (wY 0 3 a) (wZ 0 3 a)) (wX 0 3 a) (wY 0 3 a) (wZ 0 3 a) + 9007199254740992)) := by
  have hX : wX 0 3 a = 1073741824 := by simp only [wX, fX, uu, outI, outJ]; omega
  have hY : wY 0 3 a = -1073741825 := by simp only [wY, fY, uu, outI, outJ]; omega
  have hZ : wZ 0 3 a = -(2 * (a : Int) + 1 - 1073741824) := by simp only [wZ, fZ, uu, outI, outJ]; omega
  have hl : lac (1073741824) (-1073741825) (-(2 * (a : Int) + 1 - 1073741824)) = 1 := by unfold lac; split <;> split <;> omega
  have hf : fcN (1073741824) (-1073741825) (-(2 * (a : Int) + 1 - 1073741824)) = 4 := by unfold fcN; rw [hl]; exact if_pos (by show ((-1073741825 : Int) < 0); omega)
  rw [hX, hY, hZ, hf]
  refine ⟨by show (0 : Int) < -(-1073741825); omega, ?_⟩
  have hU : vU 4 (1073741824) (-1073741825) (-(2 * (a : Int) + 1 - 1073741824)) = quo ((2 * (a : Int) + 1 - 1073741824)) 1073741825 := by
    show quo _ _ = _
    first | rfl | exact quo_neg _ _ | (rw [quo_neg]; first | rfl | (congr 1; omega)) | (congr 1; omega)
  have hV : vV 4 (1073741824) (-1073741825) (-(2 * (a : Int) + 1 - 1073741824)) = quo (1073741824) 1073741825 := by
    show quo _ _ = _
    first | rfl | exact quo_neg _ _ | (rw [quo_neg]; first | rfl | (congr 1; omega)) | (congr 1; omega)
  rw [hU, hV]
  rw [quo_hi]
  rcases quo_in a ha with h | h
  · refine ⟨a, 1073741823, ?_, ?_, by omega, by omega, rfl, ?_, ?_, ?_⟩ <;> first | exact h | (rw [h]; omega) | rfl | (simp [cube, rim, along]; done) | (simp [cube, rim, along]; omega) | (simp only [cube, rim, along]; simp; omega) | (simp only [cube, along]; simp only [List.getD_cons_zero, List.getD_cons_succ]; omega)
  · refine ⟨a + 1, 1073741823, ?_, ?_, by omega, by omega, rfl, ?_, ?_, ?_⟩ <;> first | exact h | (rw [h.1]; omega) | rfl | (simp [cube, rim, along]; done) | (simp [cube, rim, along]; omega) | (simp only [cube, rim, along]; simp; omega) | (simp only [cube, along]; simp only [List.getD_cons_zero, List.getD_cons_succ]; omega)
theorem wrap_10 (a : Nat) (ha : a < 2 ^ 30) : 0 < axis (fcN (wX 1 0 a) (wY 1 0 a) (wZ 1 0 a)) (wX 1 0 a) (wY 1 0 a) (wZ 1 0 a) ∧ Wrapped 1 0 a (fcN (wX 1 0 a) (wY 1 0 a) (wZ 1 0 a)) (stij (vU (fcN (wX 1 0 a) (wY 1 0 a) (wZ 1 0 a)) (wX 1 0 a) (wY 1 0 a) (wZ 1 0 a) + 9007199254740992)) (stij (vV (fcN (wX 1 0 a) (wY 1 0 a) (wZ 1 0 a)) (wX 1 0 a) (wY 1 0 a) (wZ 1 0 a) + 9007199254740992)) := by
  have hX : wX 1 0 a = -(2 * (a : Int) + 1 - 1073741824) := by simp only [wX, fX, uu, outI, outJ]; omega
  have hY : wY 1 0 a = 1073741824 := by simp only [wY, fY, uu, outI, outJ]; omega
  have hZ : wZ 1 0 a = -1073741825 := by simp only [wZ, fZ, uu, outI, outJ]; omega
  have hl : lac (-(2 * (a : Int) + 1 - 1073741824)) (1073741824) (-1073741825) = 2 := by unfold lac; split <;> split <;> omega
  have hf : fcN (-(2 * (a : Int) + 1 - 1073741824)) (1073741824) (-1073741825) = 5 := by unfold fcN; rw [hl]; exact if_pos (by show ((-1073741825 : Int) < 0); omega)
  rw [hX, hY, hZ, hf]
  refine ⟨by show (0 : Int) < -(-1073741825); omega, ?_⟩
  have hU : vU 5 (-(2 * (a : Int) + 1 - 1073741824)) (1073741824) (-1073741825) = quo (1073741824) 1073741825 := by
    show quo _ _ = _
    first | rfl | exact quo_neg _ _ | (rw [quo_neg]; first | rfl | (congr 1; omega)) | (congr 1; omega)
  have hV : vV 5 (-(2 * (a : Int) + 1 - 1073741824)) (1073741824) (-1073741825) = quo (-(2 * (a : Int) + 1 - 1073741824)) 1073741825 := by
    show quo _ _ = _
    first | rfl | exact quo_neg _ _ | (rw [quo_neg]; first | rfl | (congr 1; omega)) | (congr 1; omega)
  rw [hU, hV]
  rw [quo_hi]
  rcases quo_in' a ha with h | h
  · refine ⟨1073741823, 1073741823 - a, ?_, ?_, by omega, by omega, rfl, ?_, ?_, ?_⟩ <;> first | exact h | (rw [h]; omega) | rfl | (simp [cube, rim, along]; done) | (simp [cube, rim, along]; omega) | (simp only [cube, rim, along]; simp; omega) | (simp only [cube, along]; simp only [List.getD_cons_zero, List.getD_cons_succ]; omega)
  · refine ⟨1073741823, 1073741824 - a, ?_, ?_, by omega, by omega, rfl, ?_, ?_, ?_⟩ <;> first | exact h | (rw [h.1]; omega) | rfl | (simp [cube, rim, along]; done) | (simp [cube, rim, along]; omega) | (simp only [cube, rim, along]; simp; omega) | (simp only [cube, along]; simp only [List.getD_cons_zero, List.getD_cons_succ]; omega)
theorem wrap_11 (a : Nat) (ha : a < 2 ^ 30) : 0 < axis (fcN (wX 1 1 a) (wY 1 1 a) (wZ 1 1 a)) (wX 1 1 a) (wY 1 1 a) (wZ 1 1 a) ∧ Wrapped 1 1 a (fcN (wX 1 1 a) (wY 1 1 a) (wZ 1 1 a)) (stij (vU (fcN (wX 1 1 a) (wY 1 1 a) (wZ 1 1 a)) (wX 1 1 a) (wY 1 1 a) (wZ 1 1 a) + 9007199254740992)) (stij (vV (fcN (wX 1 1 a) (wY 1 1 a) (wZ 1 1 a)) (wX 1 1 a) (wY 1 1 a) (wZ 1 1 a) + 9007199254740992)) := by
  have hX : wX 1 1 a = -1073741825 := by simp only [wX, fX, uu, outI, outJ]; omega
  have hY : wY 1 1 a = 1073741824 := by simp only [wY, fY, uu, outI, outJ]; omega
  have hZ : wZ 1 1 a = (2 * (a : Int) + 1 - 1073741824) := by simp only [wZ, fZ, uu, outI, outJ]; omega
  have hl : lac (-1073741825) (1073741824) ((2 * (a : Int) + 1 - 1073741824)) = 0 := by unfold lac; split <;> split <;> omega
  have hf : fcN (-1073741825) (1073741824) ((2 * (a : Int) + 1 - 1073741824)) = 3 := by unfold fcN; rw [hl]; exact if_pos (by show ((-1073741825 : Int) < 0); omega)
  rw [hX, hY, hZ, hf]
  refine ⟨by show (0 : Int) < -(-1073741825); omega, ?_⟩
  have hU : vU 3 (-1073741825) (1073741824) ((2 * (a : Int) + 1 - 1073741824)) = quo (-(2 * (a : Int) + 1 - 1073741824)) 1073741825 := by
    show quo _ _ = _
    first | rfl | exact quo_neg _ _ | (rw [quo_neg]; first | rfl | (congr 1; omega)) | (congr 1; omega)
  have hV : vV 3 (-1073741825) (1073741824) ((2 * (a : Int) + 1 - 1073741824)) = quo (-1073741824) 1073741825 := by
    show quo _ _ = _
    first | rfl | exact quo_neg _ _ | (rw [quo_neg]; first | rfl | (congr 1; omega)) | (congr 1; omega)
  rw [hU, hV]
  rw [quo_lo]
  rcases quo_in' a ha with h | h
  · refine ⟨1073741823 - a, 0, ?_, ?_, by omega, by omega, rfl, ?_, ?_, ?_⟩ <;> first | exact h | (rw [h]; omega) | rfl | (simp [cube, rim, along]; done) | (simp [cube, rim, along]; omega) | (simp only [cube, rim, along]; simp; omega) | (simp only [cube, along]; simp only [List.getD_cons_zero, List.getD_cons_succ]; omega)
  · refine ⟨1073741824 - a, 0, ?_, ?_, by omega, by omega, rfl, ?_, ?_, ?_⟩ <;> first | exact h | (rw [h.1]; omega) | rfl | (simp [cube, rim, along]; done) | (simp [cube, rim, along]; omega) | (simp only [cube, rim, along]; simp; omega) | (simp only [cube, along]; simp only [List.getD_cons_zero, List.getD_cons_succ]; omega)
theorem wrap_12 (a : Nat) (ha : a < 2 ^ 30) : 0 < axis (fcN (wX 1 2 a) (wY 1 2 a) (wZ 1 2 a)) (wX 1 2 a) (wY 1 2 a) (wZ 1 2 a) ∧ Wrapped 1 2 a (fcN (wX 1 2 a) (wY 1 2 a) (wZ 1 2 a)) (stij (vU (fcN (wX 1 2 a) (wY 1 2 a) (wZ 1 2 a)) (wX 1 2 a) (wY 1 2 a) (wZ 1 2 a) + 9007199254740992)) (stij (vV (fcN (wX 1 2 a) (wY 1 2 a) (wZ 1 2 a)) (wX 1 2 a) (wY 1 2 a) (wZ 1 2 a) + 9007199254740992)) := by
  have hX : wX 1 2 a = (2 * (a : Int) + 1 - 1073741824) := by simp only [wX, fX, uu, outI, outJ]; omega
  have hY : wY 1 2 a = 1073741824 := by simp only [wY, fY, uu, outI, outJ]; omega
  have hZ : wZ 1 2 a = 1073741825 := by simp only [wZ, fZ, uu, outI, outJ]; omega
  have hl : lac ((2 * (a : Int) + 1 - 1073741824)) (1073741824) (1073741825) = 2 := by unfold lac; split <;> split <;> omega
  have hf : fcN ((2 * (a : Int) + 1 - 1073741824)) (1073741824) (1073741825) = 2 := by unfold fcN; rw [hl]; exact if_neg (by show ¬((1073741825 : Int) < 0); omega)
  rw [hX, hY, hZ, hf]
  refine ⟨by show (0 : Int) < 1073741825; omega, ?_⟩
  have hU : vU 2 ((2 * (a : Int) + 1 - 1073741824)) (1073741824) (1073741825) = quo (-(2 * (a : Int) + 1 - 1073741824)) 1073741825 := by
    show quo _ _ = _
    first | rfl | exact quo_neg _ _ | (rw [quo_neg]; first | rfl | (congr 1; omega)) | (congr 1; omega)
  have hV : vV 2 ((2 * (a : Int) + 1 - 1073741824)) (1073741824) (1073741825) = quo (-1073741824) 1073741825 := by
    show quo _ _ = _
    first | rfl | exact quo_neg _ _ | (rw [quo_neg]; first | rfl | (congr 1; omega)) | (congr 1; omega)
  rw [hU, hV]
  rw [quo_lo]
  rcases quo_in' a ha with h | h
  · refine ⟨1073741823 - a, 0, ?_, ?_, by omega, by omega, rfl, ?_, ?_, ?_⟩ <;> first | exact h | (rw [h]; omega) | rfl | (simp [cube, rim, along]; done) | (simp [cube, rim, along]; omega) | (simp only [cube, rim, along]; simp; omega) | (simp only [cube, along]; simp only [List.getD_cons_zero, List.getD_cons_succ]; omega)
  · refine ⟨1073741824 - a, 0, ?_, ?_, by omega, by omega, rfl, ?_, ?_, ?_⟩ <;> first | exact h | (rw [h.1]; omega) | rfl | (simp [cube, rim, along]; done) | (simp [cube, rim, along]; omega) | (simp only [cube, rim, along]; simp; omega) | (simp only [cube, along]; simp only [List.getD_cons_zero, List.getD_cons_succ]; omega)
theorem wrap_13 (a : Nat) (ha : a < 2 ^ 30) : 0 < axis (fcN (wX 1 3 a) (wY 1 3 a) (wZ 1 3 a)) (wX 1 3 a) (wY 1 3 a) (wZ 1 3 a) ∧ Wrapped 1 3 a (fcN (wX 1 3 a) (wY 1 3 a) (wZ 1 3 a)) (stij (vU (fcN (wX 1 3 a) (wY 1 3 a) (wZ 1 3 a)) (wX 1 3 a) (wY 1 3 a) (wZ 1 3 a) + 9007199254740992)) (stij (vV (fcN (wX 1 3 a) (wY 1 3 a) (wZ 1 3 a)) (wX 1 3 a) (wY 1 3 a) (wZ 1 3 a) + 9007199254740992)) := by
  have hX : wX 1 3 a = 1073741825 := by simp only [wX, fX, uu, outI, outJ]; omega
  have hY : wY 1 3 a = 1073741824 := by simp only [wY, fY, uu, outI, outJ]; omega
  have hZ : wZ 1 3 a = -(2 * (a : Int) + 1 - 1073741824) := by simp only [wZ, fZ, uu, outI, outJ]; omega
  have hl : lac (1073741825) (1073741824) (-(2 * (a : Int) + 1 - 1073741824)) = 0 := by unfold lac; split <;> split <;> omega
  have hf : fcN (1073741825) (1073741824) (-(2 * (a : Int) + 1 - 1073741824)) = 0 := by unfold fcN; rw [hl]; exact if_neg (by show ¬((1073741825 : Int) < 0); omega)
  rw [hX, hY, hZ, hf]
  refine ⟨by show (0 : Int) < 1073741825; omega, ?_⟩
  have hU : vU 0 (1073741825) (1073741824) (-(2 * (a : Int) + 1 - 1073741824)) = quo (1073741824) 1073741825 := by
    show quo _ _ = _
    first | rfl | exact quo_neg _ _ | (rw [quo_neg]; first | rfl | (congr 1; omega)) | (congr 1; omega)
  have hV : vV 0 (1073741825) (1073741824) (-(2 * (a : Int) + 1 - 1073741824)) = quo (-(2 * (a : Int) + 1 - 1073741824)) 1073741825 := by
    show quo _ _ = _
    first | rfl | exact quo_neg _ _ | (rw [quo_neg]; first | rfl | (congr 1; omega)) | (congr 1; omega)
  rw [hU, hV]
  rw [quo_hi]
  rcases quo_in' a ha with h | h
  · refine ⟨1073741823, 1073741823 - a, ?_, ?_, by omega, by omega, rfl, ?_, ?_, ?_⟩ <;> first | exact h | (rw [h]; omega) | rfl | (simp [cube, rim, along]; done) | (simp [cube, rim, along]; omega) | (simp only [cube, rim, along]; simp; omega) | (simp only [cube, along]; simp only [List.getD_cons_zero, List.getD_cons_succ]; omega)
  · refine ⟨1073741823, 1073741824 - a, ?_, ?_, by omega, by omega, rfl, ?_, ?_, ?_⟩ <;> first | exact h | (rw [h.1]; omega) | rfl | (simp [cube, rim, along]; done) | (simp [cube, rim, along]; omega) | (simp only [cube, rim, along]; simp; omega) | (simp only [cube, along]; simp only [List.getD_cons_zero, List.getD_cons_succ]; omega)
theorem wrap_20 (a : Nat) (ha : a < 2 ^ 30) : 0 < axis (fcN (wX 2 0 a) (wY 2 0 a) (wZ 2 0 a)) (wX 2 0 a) (wY 2 0 a) (wZ 2 0 a) ∧ Wrapped 2 0 a (fcN (wX 2 0 a) (wY 2 0 a) (wZ 2 0 a)) (stij (vU (fcN (wX 2 0 a) (wY 2 0 a) (wZ 2 0 a)) (wX 2 0 a) (wY 2 0 a) (wZ 2 0 a) + 9007199254740992)) (stij (vV (fcN (wX 2 0 a) (wY 2 0 a) (wZ 2 0 a)) (wX 2 0 a) (wY 2 0 a) (wZ 2 0 a) + 9007199254740992)) := by
  have hX : wX 2 0 a = -(2 * (a : Int) + 1 - 1073741824) := by simp only [wX, fX, uu, outI, outJ]; omega
  have hY : wY 2 0 a = 1073741825 := by simp only [wY, fY, uu, outI, outJ]; omega
  have hZ : wZ 2 0 a = 1073741824 := by simp only [wZ, fZ, uu, outI, outJ]; omega
  have hl : lac (-(2 * (a : Int) + 1 - 1073741824)) (1073741825) (1073741824) = 1 := by unfold lac; split <;> split <;> omega
  have hf : fcN (-(2 * (a : Int) + 1 - 1073741824)) (1073741825) (1073741824) = 1 := by unfold fcN; rw [hl]; exact if_neg (by show ¬((1073741825 : Int) < 0); omega)
  rw [hX, hY, hZ, hf]
  refine ⟨by show (0 : Int) < 1073741825; omega, ?_⟩
  have hU : vU 1 (-(2 * (a : Int) + 1 - 1073741824)) (1073741825) (1073741824) = quo ((2 * (a : Int) + 1 - 1073741824)) 1073741825 := by
    show quo _ _ = _
    first | rfl | exact quo_neg _ _ | (rw [quo_neg]; first | rfl | (congr 1; omega)) | (congr 1; omega)
  have hV : vV 1 (-(2 * (a : Int) + 1 - 1073741824)) (1073741825) (1073741824) = quo (1073741824) 1073741825 := by
    show quo _ _ = _
    first | rfl | exact quo_neg _ _ | (rw [quo_neg]; first | rfl | (congr 1; omega)) | (congr 1; omega)
  rw [hU, hV]
  rw [quo_hi]
  rcases quo_in a ha with h | h
  · refine ⟨a, 1073741823, ?_, ?_, by omega, by omega, rfl, ?_, ?_, ?_⟩ <;> first | exact h | (rw [h]; omega) | rfl | (simp [cube, rim, along]; done) | (simp [cube, rim, along]; omega) | (simp only [cube, rim, along]; simp; omega) | (simp only [cube, along]; simp only [List.getD_cons_zero, List.getD_cons_succ]; omega)
  · refine ⟨a + 1, 1073741823, ?_, ?_, by omega, by omega, rfl, ?_, ?_, ?_⟩ <;> first | exact h | (rw [h.1]; omega) | rfl | (simp [cube, rim, along]; done) | (simp [cube, rim, along]; omega) | (simp only [cube, rim, along]; simp; omega) | (simp only [cube, along]; simp only [List.getD_cons_zero, List.getD_cons_succ]; omega)
theorem wrap_21 (a : Nat) (ha : a < 2 ^ 30) : 0 < axis (fcN (wX 2 1 a) (wY 2 1 a) (wZ 2 1 a)) (wX 2 1 a) (wY 2 1 a) (wZ 2 1 a) ∧ Wrapped 2 1 a (fcN (wX 2 1 a) (wY 2 1 a) (wZ 2 1 a)) (stij (vU (fcN (wX 2 1 a) (wY 2 1 a) (wZ 2 1 a)) (wX 2 1 a) (wY 2 1 a) (wZ 2 1 a) + 9007199254740992)) (stij (vV (fcN (wX 2 1 a) (wY 2 1 a) (wZ 2 1 a)) (wX 2 1 a) (wY 2 1 a) (wZ 2 1 a) + 9007199254740992)) := by
  have hX : wX 2 1 a = -1073741825 := by simp only [wX, fX, uu, outI, outJ]; omega
  have hY : wY 2 1 a = -(2 * (a : Int) + 1 - 1073741824) := by simp only [wY, fY, uu, outI, outJ]; omega
  have hZ : wZ 2 1 a = 1073741824 := by simp only [wZ, fZ, uu, outI, outJ]; omega
  have hl : lac (-1073741825) (-(2 * (a : Int) + 1 - 1073741824)) (1073741824) = 0 := by unfold lac; split <;> split <;> omega
  have hf : fcN (-1073741825) (-(2 * (a : Int) + 1 - 1073741824)) (1073741824) = 3 := by unfold fcN; rw [hl]; exact if_pos (by show ((-1073741825 : Int) < 0); omega)
  rw [hX, hY, hZ, hf]
  refine ⟨by show (0 : Int) < -(-1073741825); omega, ?_⟩
  have hU : vU 3 (-1073741825) (-(2 * (a : Int) + 1 - 1073741824)) (1073741824) = quo (-1073741824) 1073741825 := by
    show quo _ _ = _
    first | rfl | exact quo_neg _ _ | (rw [quo_neg]; first | rfl | (congr 1; omega)) | (congr 1; omega)
  have hV : vV 3 (-1073741825) (-(2 * (a : Int) + 1 - 1073741824)) (1073741824) = quo ((2 * (a : Int) + 1 - 1073741824)) 1073741825 := by
    show quo _ _ = _
    first | rfl | exact quo_neg _ _ | (rw [quo_neg]; first | rfl | (congr 1; omega)) | (congr 1; omega)
  rw [hU, hV]
  rw [quo_lo]
  rcases quo_in a ha with h | h
  · refine ⟨0, a, ?_, ?_, by omega, by omega, rfl, ?_, ?_, ?_⟩ <;> first | exact h | (rw [h]; omega) | rfl | (simp [cube, rim, along]; done) | (simp [cube, rim, along]; omega) | (simp only [cube, rim, along]; simp; omega) | (simp only [cube, along]; simp only [List.getD_cons_zero, List.getD_cons_succ]; omega)
  · refine ⟨0, a + 1, ?_, ?_, by omega, by omega, rfl, ?_, ?_, ?_⟩ <;> first | exact h | (rw [h.1]; omega) | rfl | (simp [cube, rim, along]; done) | (simp [cube, rim, along]; omega) | (simp only [cube, rim, along]; simp; omega) | (simp only [cube, along]; simp only [List.getD_cons_zero, List.getD_cons_succ]; omega)
theorem wrap_22 (a : Nat) (ha : a < 2 ^ 30) : 0 < axis (fcN (wX 2 2 a) (wY 2 2 a) (wZ 2 2 a)) (wX 2 2 a) (wY 2 2 a) (wZ 2 2 a) ∧ Wrapped 2 2 a (fcN (wX 2 2 a) (wY 2 2 a) (wZ 2 2 a)) (stij (vU (fcN (wX 2 2 a) (wY 2 2 a) (wZ 2 2 a)) (wX 2 2 a) (wY 2 2 a) (wZ 2 2 a) + 9007199254740992)) (stij (vV (fcN (wX 2 2 a) (wY 2 2 a) (wZ 2 2 a)) (wX 2 2 a) (wY 2 2 a) (wZ 2 2 a) + 9007199254740992)) := by
  have hX : wX 2 2 a = (2 * (a : Int) + 1 - 1073741824) := by simp only [wX, fX, uu, outI, outJ]; omega
  have hY : wY 2 2 a = -1073741825 := by simp only [wY, fY, uu, outI, outJ]; omega
  have hZ : wZ 2 2 a = 1073741824 := by simp only [wZ, fZ, uu, outI, outJ]; omega
  have hl : lac ((2 * (a : Int) + 1 - 1073741824)) (-1073741825) (1073741824) = 1 := by unfold lac; split <;> split <;> omega
  have hf : fcN ((2 * (a : Int) + 1 - 1073741824)) (-1073741825) (1073741824) = 4 := by unfold fcN; rw [hl]; exact if_pos (by show ((-1073741825 : Int) < 0); omega)
  rw [hX, hY, hZ, hf]
  refine ⟨by show (0 : Int) < -(-1073741825); omega, ?_⟩
  have hU : vU 4 ((2 * (a : Int) + 1 - 1073741824)) (-1073741825) (1073741824) = quo (-1073741824) 1073741825 := by
    show quo _ _ = _
    first | rfl | exact quo_neg _ _ | (rw [quo_neg]; first | rfl | (congr 1; omega)) | (congr 1; omega)
  have hV : vV 4 ((2 * (a : Int) + 1 - 1073741824)) (-1073741825) (1073741824) = quo ((2 * (a : Int) + 1 - 1073741824)) 1073741825 := by
    show quo _ _ = _
    first | rfl | exact quo_neg _ _ | (rw [quo_neg]; first | rfl | (congr 1; omega)) | (congr 1; omega)
  rw [hU, hV]
  rw [quo_lo]
  rcases quo_in a ha with h | h
  · refine ⟨0, a, ?_, ?_, by omega, by omega, rfl, ?_, ?_, ?_⟩ <;> first | exact h | (rw [h]; omega) | rfl | (simp [cube, rim, along]; done) | (simp [cube, rim, along]; omega) | (simp only [cube, rim, along]; simp; omega) | (simp only [cube, along]; simp only [List.getD_cons_zero, List.getD_cons_succ]; omega)
  · refine ⟨0, a + 1, ?_, ?_, by omega, by omega, rfl, ?_, ?_, ?_⟩ <;> first | exact h | (rw [h.1]; omega) | rfl | (simp [cube, rim, along]; done) | (simp [cube, rim, along]; omega) | (simp only [cube, rim, along]; simp; omega) | (simp only [cube, along]; simp only [List.getD_cons_zero, List.getD_cons_succ]; omega)
theorem wrap_23 (a : Nat) (ha : a < 2 ^ 30) : 0 < axis (fcN (wX 2 3 a) (wY 2 3 a) (wZ 2 3 a)) (wX 2 3 a) (wY 2 3 a) (wZ 2 3 a) ∧ Wrapped 2 3 a (fcN (wX 2 3 a) (wY 2 3 a) (wZ 2 3 a)) (stij (vU (fcN (wX 2 3 a) (wY 2 3 a) (wZ 2 3 a)) (wX 2 3 a) (wY 2 3 a) (wZ 2 3 a) + 9007199254740992)) (stij (vV (fcN (wX 2 3 a) (wY 2 3 a) (wZ 2 3 a)) (wX 2 3 a) (wY 2 3 a) (wZ 2 3 a) + 9007199254740992)) := by
  have hX : wX 2 3 a = 1073741825 := by simp only [wX, fX, uu, outI, outJ]; omega
  have hY : wY 2 3 a = (2 * (a : Int) + 1 - 1073741824) := by simp only [wY, fY, uu, outI, outJ]; omega
  have hZ : wZ 2 3 a = 1073741824 := by simp only [wZ, fZ, uu, outI, outJ]; omega
  have hl : lac (1073741825) ((2 * (a : Int) + 1 - 1073741824)) (1073741824) = 0 := by unfold lac; split <;> split <;> omega
  have hf : fcN (1073741825) ((2 * (a : Int) + 1 - 1073741824)) (1073741824) = 0 := by unfold fcN; rw [hl]; exact if_neg (by show ¬((1073741825 : Int) < 0); omega)
  rw [hX, hY, hZ, hf]
  refine ⟨by show (0 : Int) < 1073741825; omega, ?_⟩
  have hU : vU 0 (1073741825) ((2 * (a : Int) + 1 - 1073741824)) (1073741824) = quo ((2 * (a : Int) + 1 - 1073741824)) 1073741825 := by
    show quo _ _ = _
    first | rfl | exact quo_neg _ _ | (rw [quo_neg]; first | rfl | (congr 1; omega)) | (congr 1; omega)
  have hV : vV 0 (1073741825) ((2 * (a : Int) + 1 - 1073741824)) (1073741824) = quo (1073741824) 1073741825 := by
    show quo _ _ = _
    first | rfl | exact quo_neg _ _ | (rw [quo_neg]; first | rfl | (congr 1; omega)) | (congr 1; omega)
  rw [hU, hV]
  rw [quo_hi]
  rcases quo_in a ha with h | h
  · refine ⟨a, 1073741823, ?_, ?_, by omega, by omega, rfl, ?_, ?_, ?_⟩ <;> first | exact h | (rw [h]; omega) | rfl | (simp [cube, rim, along]; done) | (simp [cube, rim, along]; omega) | (simp only [cube, rim, along]; simp; omega) | (simp only [cube, along]; simp only [List.getD_cons_zero, List.getD_cons_succ]; omega)
  · refine ⟨a + 1, 1073741823, ?_, ?_, by omega, by omega, rfl, ?_, ?_, ?_⟩ <;> first | exact h | (rw [h.1]; omega) | rfl | (simp [cube, rim, along]; done) | (simp [cube, rim, along]; omega) | (simp only [cube, rim, along]; simp; omega) | (simp only [cube, along]; simp only [List.getD_cons_zero, List.getD_cons_succ]; omega)
theorem wrap_30 (a : Nat) (ha : a < 2 ^ 30) : 0 < axis (fcN (wX 3 0 a) (wY 3 0 a) (wZ 3 0 a)) (wX 3 0 a) (wY 3 0 a) (wZ 3 0 a) ∧ Wrapped 3 0 a (fcN (wX 3 0 a) (wY 3 0 a) (wZ 3 0 a)) (stij (vU (fcN (wX 3 0 a) (wY 3 0 a) (wZ 3 0 a)) (wX 3 0 a) (wY 3 0 a) (wZ 3 0 a) + 9007199254740992)) (stij (vV (fcN (wX 3 0 a) (wY 3 0 a) (wZ 3 0 a)) (wX 3 0 a) (wY 3 0 a) (wZ 3 0 a) + 9007199254740992)) := by
  have hX : wX 3 0 a = -1073741824 := by simp only [wX, fX, uu, outI, outJ]; omega
  have hY : wY 3 0 a = 1073741825 := by simp only [wY, fY, uu, outI, outJ]; omega
  have hZ : wZ 3 0 a = -(2 * (a : Int) + 1 - 1073741824) := by simp only [wZ, fZ, uu, outI, outJ]; omega
  have hl : lac (-1073741824) (1073741825) (-(2 * (a : Int) + 1 - 1073741824)) = 1 := by unfold lac; split <;> split <;> omega
  have hf : fcN (-1073741824) (1073741825) (-(2 * (a : Int) + 1 - 1073741824)) = 1 := by unfold fcN; rw [hl]; exact if_neg (by show ¬((1073741825 : Int) < 0); omega)
  rw [hX, hY, hZ, hf]
  refine ⟨by show (0 : Int) < 1073741825; omega, ?_⟩
  have hU : vU 1 (-1073741824) (1073741825) (-(2 * (a : Int) + 1 - 1073741824)) = quo (1073741824) 1073741825 := by
    show quo _ _ = _
    first | rfl | exact quo_neg _ _ | (rw [quo_neg]; first | rfl | (congr 1; omega)) | (congr 1; omega)
  have hV : vV 1 (-1073741824) (1073741825) (-(2 * (a : Int) + 1 - 1073741824)) = quo (-(2 * (a : Int) + 1 - 1073741824)) 1073741825 := by
    show quo _ _ = _
    first | rfl | exact quo_neg _ _ | (rw [quo_neg]; first | rfl | (congr 1; omega)) | (congr 1; omega)
  rw [hU, hV]
  rw [quo_hi]
  rcases quo_in' a ha with h | h
  · refine ⟨1073741823, 1073741823 - a, ?_, ?_, by omega, by omega, rfl, ?_, ?_, ?_⟩ <;> first | exact h | (rw [h]; omega) | rfl | (simp [cube, rim, along]; done) | (simp [cube, rim, along]; omega) | (simp only [cube, rim, along]; simp; omega) | (simp only [cube, along]; simp only [List.getD_cons_zero, List.getD_cons_succ]; omega)
  · refine ⟨1073741823, 1073741824 - a, ?_, ?_, by omega, by omega, rfl, ?_, ?_, ?_⟩ <;> first | exact h | (rw [h.1]; omega) | rfl | (simp [cube, rim, along]; done) | (simp [cube, rim, along]; omega) | (simp only [cube, rim, along]; simp; omega) | (simp only [cube, along]; simp only [List.getD_cons_zero, List.getD_cons_succ]; omega)
theorem wrap_31 (a : Nat) (ha : a < 2 ^ 30) : 0 < axis (fcN (wX 3 1 a) (wY 3 1 a) (wZ 3 1 a)) (wX 3 1 a) (wY 3 1 a) (wZ 3 1 a) ∧ Wrapped 3 1 a (fcN (wX 3 1 a) (wY 3 1 a) (wZ 3 1 a)) (stij (vU (fcN (wX 3 1 a) (wY 3 1 a) (wZ 3 1 a)) (wX 3 1 a) (wY 3 1 a) (wZ 3 1 a) + 9007199254740992)) (stij (vV (fcN (wX 3 1 a) (wY 3 1 a) (wZ 3 1 a)) (wX 3 1 a) (wY 3 1 a) (wZ 3 1 a) + 9007199254740992)) := by
  have hX : wX 3 1 a = -1073741824 := by simp only [wX, fX, uu, outI, outJ]; omega
  have hY : wY 3 1 a = -(2 * (a : Int) + 1 - 1073741824) := by simp only [wY, fY, uu, outI, outJ]; omega
  have hZ : wZ 3 1 a = -1073741825 := by simp only [wZ, fZ, uu, outI, outJ]; omega
  have hl : lac (-1073741824) (-(2 * (a : Int) + 1 - 1073741824)) (-1073741825) = 2 := by unfold lac; split <;> split <;> omega
  have hf : fcN (-1073741824) (-(2 * (a : Int) + 1 - 1073741824)) (-1073741825) = 5 := by unfold fcN; rw [hl]; exact if_pos (by show ((-1073741825 : Int) < 0); omega)
  rw [hX, hY, hZ, hf]
  refine ⟨by show (0 : Int) < -(-1073741825); omega, ?_⟩
  have hU : vU 5 (-1073741824) (-(2 * (a : Int) + 1 - 1073741824)) (-1073741825) = quo (-(2 * (a : Int) + 1 - 1073741824)) 1073741825 := by
    show quo _ _ = _
    first | rfl | exact quo_neg _ _ | (rw [quo_neg]; first | rfl | (congr 1; omega)) | (congr 1; omega)
  have hV : vV 5 (-1073741824) (-(2 * (a : Int) + 1 - 1073741824)) (-1073741825) = quo (-1073741824) 1073741825 := by
    show quo _ _ = _
    first | rfl | exact quo_neg _ _ | (rw [quo_neg]; first | rfl | (congr 1; omega)) | (congr 1; omega)
  rw [hU, hV]
  rw [quo_lo]
  rcases quo_in' a ha with h | h
  · refine ⟨1073741823 - a, 0, ?_, ?_, by omega, by omega, rfl, ?_, ?_, ?_⟩ <;> first | exact h | (rw [h]; omega) | rfl | (simp [cube, rim, along]; done) | (simp [cube, rim, along]; omega) | (simp only [cube, rim, along]; simp; omega) | (simp only [cube, along]; simp only [List.getD_cons_zero, List.getD_cons_succ]; omega)
  · refine ⟨1073741824 - a, 0, ?_, ?_, by omega, by omega, rfl, ?_, ?_, ?_⟩ <;> first | exact h | (rw [h.1]; omega) | rfl | (simp [cube, rim, along]; done) | (simp [cube, rim, along]; omega) | (simp only [cube, rim, along]; simp; omega) | (simp only [cube, along]; simp only [List.getD_cons_zero, List.getD_cons_succ]; omega)
theorem wrap_32 (a : Nat) (ha : a < 2 ^ 30) : 0 < axis (fcN (wX 3 2 a) (wY 3 2 a) (wZ 3 2 a)) (wX 3 2 a) (wY 3 2 a) (wZ 3 2 a) ∧ Wrapped 3 2 a (fcN (wX 3 2 a) (wY 3 2 a) (wZ 3 2 a)) (stij (vU (fcN (wX 3 2 a) (wY 3 2 a) (wZ 3 2 a)) (wX 3 2 a) (wY 3 2 a) (wZ 3 2 a) + 9007199254740992)) (stij (vV (fcN (wX 3 2 a) (wY 3 2 a) (wZ 3 2 a)) (wX 3 2 a) (wY 3 2 a) (wZ 3 2 a) + 9007199254740992)) := by
  have hX : wX 3 2 a = -1073741824 := by simp only [wX, fX, uu, outI, outJ]; omega
  have hY : wY 3 2 a = -1073741825 := by simp only [wY, fY, uu, outI, outJ]; omega
  have hZ : wZ 3 2 a = (2 * (a : Int) + 1 - 1073741824) := by simp only [wZ, fZ, uu, outI, outJ]; omega
  have hl : lac (-1073741824) (-1073741825) ((2 * (a : Int) + 1 - 1073741824)) = 1 := by unfold lac; split <;> split <;> omega
  have hf : fcN (-1073741824) (-1073741825) ((2 * (a : Int) + 1 - 1073741824)) = 4 := by unfold fcN; rw [hl]; exact if_pos (by show ((-1073741825 : Int) < 0); omega)
  rw [hX, hY, hZ, hf]
  refine ⟨by show (0 : Int) < -(-1073741825); omega, ?_⟩
  have hU : vU 4 (-1073741824) (-1073741825) ((2 * (a : Int) + 1 - 1073741824)) = quo (-(2 * (a : Int) + 1 - 1073741824)) 1073741825 := by
    show quo _ _ = _
    first | rfl | exact quo_neg _ _ | (rw [quo_neg]; first | rfl | (congr 1; omega)) | (congr 1; omega)
  have hV : vV 4 (-1073741824) (-1073741825) ((2 * (a : Int) + 1 - 1073741824)) = quo (-1073741824) 1073741825 := by
    show quo _ _ = _
    first | rfl | exact quo_neg _ _ | (rw [quo_neg]; first | rfl | (congr 1; omega)) | (congr 1; omega)
  rw [hU, hV]
  rw [quo_lo]
  rcases quo_in' a ha with h | h
  · refine ⟨1073741823 - a, 0, ?_, ?_, by omega, by omega, rfl, ?_, ?_, ?_⟩ <;> first | exact h | (rw [h]; omega) | rfl | (simp [cube, rim, along]; done) | (simp [cube, rim, along]; omega) | (simp only [cube, rim, along]; simp; omega) | (simp only [cube, along]; simp only [List.getD_cons_zero, List.getD_cons_succ]; omega)
  · refine ⟨1073741824 - a, 0, ?_, ?_, by omega, by omega, rfl, ?_, ?_, ?_⟩ <;> first | exact h | (rw [h.1]; omega) | rfl | (simp [cube, rim, along]; done) | (simp [cube, rim, along]; omega) | (simp only [cube, rim, along]; simp; omega) | (simp only [cube, along]; simp only [List.getD_cons_zero, List.getD_cons_succ]; omega)
theorem wrap_33 (a : Nat) (ha : a < 2 ^ 30) : 0 < axis (fcN (wX 3 3 a) (wY 3 3 a) (wZ 3 3 a)) (wX 3 3 a) (wY 3 3 a) (wZ 3 3 a) ∧ Wrapped 3 3 a (fcN (wX 3 3 a) (wY 3 3 a) (wZ 3 3 a)) (stij (vU (fcN (wX 3 3 a) (wY 3 3 a) (wZ 3 3 a)) (wX 3 3 a) (wY 3 3 a) (wZ 3 3 a) + 9007199254740992)) (stij (vV (fcN (wX 3 3 a) (wY 3 3 a) (wZ 3 3 a)) (wX 3 3 a) (wY 3 3 a) (wZ 3 3 a) + 9007199254740992)) := by
  have hX : wX 3 3 a = -1073741824 := by simp only [wX, fX, uu, outI, outJ]; omega
  have hY : wY 3 3 a = (2 * (a : Int) + 1 - 1073741824) := by simp only [wY, fY, uu, outI, outJ]; omega
  have hZ : wZ 3 3 a = 1073741825 := by simp only [wZ, fZ, uu, outI, outJ]; omega
  have hl : lac (-1073741824) ((2 * (a : Int) + 1 - 1073741824)) (1073741825) = 2 := by unfold lac; split <;> split <;> omega
  have hf : fcN (-1073741824) ((2 * (a : Int) + 1 - 1073741824)) (1073741825) = 2 := by unfold fcN; rw [hl]; exact if_neg (by show ¬((1073741825 : Int) < 0); omega)
  rw [hX, hY, hZ, hf]
  refine ⟨by show (0 : Int) < 1073741825; omega, ?_⟩
  have hU : vU 2 (-1073741824) ((2 * (a : Int) + 1 - 1073741824)) (1073741825) = quo (1073741824) 1073741825 := by
    show quo _ _ = _
    first | rfl | exact quo_neg _ _ | (rw [quo_neg]; first | rfl | (congr 1; omega)) | (congr 1; omega)
  have hV : vV 2 (-1073741824) ((2 * (a : Int) + 1 - 1073741824)) (1073741825) = quo (-(2 * (a : Int) + 1 - 1073741824)) 1073741825 := by
    show quo _ _ = _
    first | rfl | exact quo_neg _ _ | (rw [quo_neg]; first | rfl | (congr 1; omega)) | (congr 1; omega)
  rw [hU, hV]
  rw [quo_hi]
  rcases quo_in' a ha with h | h
  · refine ⟨1073741823, 1073741823 - a, ?_, ?_, by omega, by omega, rfl, ?_, ?_, ?_⟩ <;> first | exact h | (rw [h]; omega) | rfl | (simp [cube, rim, along]; done) | (simp [cube, rim, along]; omega) | (simp only [cube, rim, along]; simp; omega) | (simp only [cube, along]; simp only [List.getD_cons_zero, List.getD_cons_succ]; omega)
  · refine ⟨1073741823, 1073741824 - a, ?_, ?_, by omega, by omega, rfl, ?_, ?_, ?_⟩ <;> first | exact h | (rw [h.1]; omega) | rfl | (simp [cube, rim, along]; done) | (simp [cube, rim, along]; omega) | (simp only [cube, rim, along]; simp; omega) | (simp only [cube, along]; simp only [List.getD_cons_zero, List.getD_cons_succ]; omega)
theorem wrap_40 (a : Nat) (ha : a < 2 ^ 30) : 0 < axis (fcN (wX 4 0 a) (wY 4 0 a) (wZ 4 0 a)) (wX 4 0 a) (wY 4 0 a) (wZ 4 0 a) ∧ Wrapped 4 0 a (fcN (wX 4 0 a) (wY 4 0 a) (wZ 4 0 a)) (stij (vU (fcN (wX 4 0 a) (wY 4 0 a) (wZ 4 0 a)) (wX 4 0 a) (wY 4 0 a) (wZ 4 0 a) + 9007199254740992)) (stij (vV (fcN (wX 4 0 a) (wY 4 0 a) (wZ 4 0 a)) (wX 4 0 a) (wY 4 0 a) (wZ 4 0 a) + 9007199254740992)) := by
  have hX : wX 4 0 a = -1073741825 := by simp only [wX, fX, uu, outI, outJ]; omega
  have hY : wY 4 0 a = -1073741824 := by simp only [wY, fY, uu, outI, outJ]; omega
  have hZ : wZ 4 0 a = -(2 * (a : Int) + 1 - 1073741824) := by simp only [wZ, fZ, uu, outI, outJ]; omega
  have hl : lac (-1073741825) (-1073741824) (-(2 * (a : Int) + 1 - 1073741824)) = 0 := by unfold lac; split <;> split <;> omega
  have hf : fcN (-1073741825) (-1073741824) (-(2 * (a : Int) + 1 - 1073741824)) = 3 := by unfold fcN; rw [hl]; exact if_pos (by show ((-1073741825 : Int) < 0); omega)
  rw [hX, hY, hZ, hf]
  refine ⟨by show (0 : Int) < -(-1073741825); omega, ?_⟩
  have hU : vU 3 (-1073741825) (-1073741824) (-(2 * (a : Int) + 1 - 1073741824)) = quo ((2 * (a : Int) + 1 - 1073741824)) 1073741825 := by
    show quo _ _ = _
    first | rfl | exact quo_neg _ _ | (rw [quo_neg]; first | rfl | (congr 1; omega)) | (congr 1; omega)
  have hV : vV 3 (-1073741825) (-1073741824) (-(2 * (a : Int) + 1 - 1073741824)) = quo (1073741824) 1073741825 := by
    show quo _ _ = _
    first | rfl | exact quo_neg _ _ | (rw [quo_neg]; first | rfl | (congr 1; omega)) | (congr 1; omega)
  rw [hU, hV]
  rw [quo_hi]
  rcases quo_in a ha with h | h
  · refine ⟨a, 1073741823, ?_, ?_, by omega, by omega, rfl, ?_, ?_, ?_⟩ <;> first | exact h | (rw [h]; omega) | rfl | (simp [cube, rim, along]; done) | (simp [cube, rim, along]; omega) | (simp only [cube, rim, along]; simp; omega) | (simp only [cube, along]; simp only [List.getD_cons_zero, List.getD_cons_succ]; omega)
  · refine ⟨a + 1, 1073741823, ?_, ?_, by omega, by omega, rfl, ?_, ?_, ?_⟩ <;> first | exact h | (rw [h.1]; omega) | rfl | (simp [cube, rim, along]; done) | (simp [cube, rim, along]; omega) | (simp only [cube, rim, along]; simp; omega) | (simp only [cube, along]; simp only [List.getD_cons_zero, List.getD_cons_succ]; omega)
theorem wrap_41 (a : Nat) (ha : a < 2 ^ 30) : 0 < axis (fcN (wX 4 1 a) (wY 4 1 a) (wZ 4 1 a)) (wX 4 1 a) (wY 4 1 a) (wZ 4 1 a) ∧ Wrapped 4 1 a (fcN (wX 4 1 a) (wY 4 1 a) (wZ 4 1 a)) (stij (vU (fcN (wX 4 1 a) (wY 4 1 a) (wZ 4 1 a)) (wX 4 1 a) (wY 4 1 a) (wZ 4 1 a) + 9007199254740992)) (stij (vV (fcN (wX 4 1 a) (wY 4 1 a) (wZ 4 1 a)) (wX 4 1 a) (wY 4 1 a) (wZ 4 1 a) + 9007199254740992)) := by
  have hX : wX 4 1 a = (2 * (a : Int) + 1 - 1073741824) := by simp only [wX, fX, uu, outI, outJ]; omega
  have hY : wY 4 1 a = -1073741824 := by simp only [wY, fY, uu, outI, outJ]; omega
  have hZ : wZ 4 1 a = -1073741825 := by simp only [wZ, fZ, uu, outI, outJ]; omega
  have hl : lac ((2 * (a : Int) + 1 - 1073741824)) (-1073741824) (-1073741825) = 2 := by unfold lac; split <;> split <;> omega
  have hf : fcN ((2 * (a : Int) + 1 - 1073741824)) (-1073741824) (-1073741825) = 5 := by unfold fcN; rw [hl]; exact if_pos (by show ((-1073741825 : Int) < 0); omega)
  rw [hX, hY, hZ, hf]
  refine ⟨by show (0 : Int) < -(-1073741825); omega, ?_⟩
  have hU : vU 5 ((2 * (a : Int) + 1 - 1073741824)) (-1073741824) (-1073741825) = quo (-1073741824) 1073741825 := by
    show quo _ _ = _
    first | rfl | exact quo_neg _ _ | (rw [quo_neg]; first | rfl | (congr 1; omega)) | (congr 1; omega)
  have hV : vV 5 ((2 * (a : Int) + 1 - 1073741824)) (-1073741824) (-1073741825) = quo ((2 * (a : Int) + 1 - 1073741824)) 1073741825 := by
    show quo _ _ = _
    first | rfl | exact quo_neg _ _ | (rw [quo_neg]; first | rfl | (congr 1; omega)) | (congr 1; omega)
  rw [hU, hV]
  rw [quo_lo]
  rcases quo_in a ha with h | h
  · refine ⟨0, a, ?_, ?_, by omega, by omega, rfl, ?_, ?_, ?_⟩ <;> first | exact h | (rw [h]; omega) | rfl | (simp [cube, rim, along]; done) | (simp [cube, rim, along]; omega) | (simp only [cube, rim, along]; simp; omega) | (simp only [cube, along]; simp only [List.getD_cons_zero, List.getD_cons_succ]; omega)
  · refine ⟨0, a + 1, ?_, ?_, by omega, by omega, rfl, ?_, ?_, ?_⟩ <;> first | exact h | (rw [h.1]; omega) | rfl | (simp [cube, rim, along]; done) | (simp [cube, rim, along]; omega) | (simp only [cube, rim, along]; simp; omega) | (simp only [cube, along]; simp only [List.getD_cons_zero, List.getD_cons_succ]; omega)
theorem wrap_42 (a : Nat) (ha : a < 2 ^ 30) : 0 < axis (fcN (wX 4 2 a) (wY 4 2 a) (wZ 4 2 a)) (wX 4 2 a) (wY 4 2 a) (wZ 4 2 a) ∧ Wrapped 4 2 a (fcN (wX 4 2 a) (wY 4 2 a) (wZ 4 2 a)) (stij (vU (fcN (wX 4 2 a) (wY 4 2 a) (wZ 4 2 a)) (wX 4 2 a) (wY 4 2 a) (wZ 4 2 a) + 9007199254740992)) (stij (vV (fcN (wX 4 2 a) (wY 4 2 a) (wZ 4 2 a)) (wX 4 2 a) (wY 4 2 a) (wZ 4 2 a) + 9007199254740992)) := by
  have hX : wX 4 2 a = 1073741825 := by simp only [wX, fX, uu, outI, outJ]; omega
  have hY : wY 4 2 a = -1073741824 := by simp only [wY, fY, uu, outI, outJ]; omega
  have hZ : wZ 4 2 a = (2 * (a : Int) + 1 - 1073741824) := by simp only [wZ, fZ, uu, outI, outJ]; omega
  have hl : lac (1073741825) (-1073741824) ((2 * (a : Int) + 1 - 1073741824)) = 0 := by unfold lac; split <;> split <;> omega
  have hf : fcN (1073741825) (-1073741824) ((2 * (a : Int) + 1 - 1073741824)) = 0 := by unfold fcN; rw [hl]; exact if_neg (by show ¬((1073741825 : Int) < 0); omega)
  rw [hX, hY, hZ, hf]
  refine ⟨by show (0 : Int) < 1073741825; omega, ?_⟩
  have hU : vU 0 (1073741825) (-1073741824) ((2 * (a : Int) + 1 - 1073741824)) = quo (-1073741824) 1073741825 := by
    show quo _ _ = _
    first | rfl | exact quo_neg _ _ | (rw [quo_neg]; first | rfl | (congr 1; omega)) | (congr 1; omega)
  have hV : vV 0 (1073741825) (-1073741824) ((2 * (a : Int) + 1 - 1073741824)) = quo ((2 * (a : Int) + 1 - 1073741824)) 1073741825 := by
    show quo _ _ = _
    first | rfl | exact quo_neg _ _ | (rw [quo_neg]; first | rfl | (congr 1; omega)) | (congr 1; omega)
  rw [hU, hV]
  rw [quo_lo]
  rcases quo_in a ha with h | h
  · refine ⟨0, a, ?_, ?_, by omega, by omega, rfl, ?_, ?_, ?_⟩ <;> first | exact h | (rw [h]; omega) | rfl | (simp [cube, rim, along]; done) | (simp [cube, rim, along]; omega) | (simp only [cube, rim, along]; simp; omega) | (simp only [cube, along]; simp only [List.getD_cons_zero, List.getD_cons_succ]; omega)
  · refine ⟨0, a + 1, ?_, ?_, by omega, by omega, rfl, ?_, ?_, ?_⟩ <;> first | exact h | (rw [h.1]; omega) | rfl | (simp [cube, rim, along]; done) | (simp [cube, rim, along]; omega) | (simp only [cube, rim, along]; simp; omega) | (simp only [cube, along]; simp only [List.getD_cons_zero, List.getD_cons_succ]; omega)
theorem wrap_43 (a : Nat) (ha : a < 2 ^ 30) : 0 < axis (fcN (wX 4 3 a) (wY 4 3 a) (wZ 4 3 a)) (wX 4 3 a) (wY 4 3 a) (wZ 4 3 a) ∧ Wrapped 4 3 a (fcN (wX 4 3 a) (wY 4 3 a) (wZ 4 3 a)) (stij (vU (fcN (wX 4 3 a) (wY 4 3 a) (wZ 4 3 a)) (wX 4 3 a) (wY 4 3 a) (wZ 4 3 a) + 9007199254740992)) (stij (vV (fcN (wX 4 3 a) (wY 4 3 a) (wZ 4 3 a)) (wX 4 3 a) (wY 4 3 a) (wZ 4 3 a) + 9007199254740992)) := by
  have hX : wX 4 3 a = -(2 * (a : Int) + 1 - 1073741824) := by simp only [wX, fX, uu, outI, outJ]; omega
  have hY : wY 4 3 a = -1073741824 := by simp only [wY, fY, uu, outI, outJ]; omega
  have hZ : wZ 4 3 a = 1073741825 := by simp only [wZ, fZ, uu, outI, outJ]; omega
  have hl : lac (-(2 * (a : Int) + 1 - 1073741824)) (-1073741824) (1073741825) = 2 := by unfold lac; split <;> split <;> omega
  have hf : fcN (-(2 * (a : Int) + 1 - 1073741824)) (-1073741824) (1073741825) = 2 := by unfold fcN; rw [hl]; exact if_neg (by show ¬((1073741825 : Int) < 0); omega)
  rw [hX, hY, hZ, hf]
  refine ⟨by show (0 : Int) < 1073741825; omega, ?_⟩
  have hU : vU 2 (-(2 * (a : Int) + 1 - 1073741824)) (-1073741824) (1073741825) = quo ((2 * (a : Int) + 1 - 1073741824)) 1073741825 := by
    show quo _ _ = _
    first | rfl | exact quo_neg _ _ | (rw [quo_neg]; first | rfl | (congr 1; omega)) | (congr 1; omega)
  have hV : vV 2 (-(2 * (a : Int) + 1 - 1073741824)) (-1073741824) (1073741825) = quo (1073741824) 1073741825 := by
    show quo _ _ = _
    first | rfl | exact quo_neg _ _ | (rw [quo_neg]; first | rfl | (congr 1; omega)) | (congr 1; omega)
  rw [hU, hV]
  rw [quo_hi]
  rcases quo_in a ha with h | h
  · refine ⟨a, 1073741823, ?_, ?_, by omega, by omega, rfl, ?_, ?_, ?_⟩ <;> first | exact h | (rw [h]; omega) | rfl | (simp [cube, rim, along]; done) | (simp [cube, rim, along]; omega) | (simp only [cube, rim, along]; simp; omega) | (simp only [cube, along]; simp only [List.getD_cons_zero, List.getD_cons_succ]; omega)
  · refine ⟨a + 1, 1073741823, ?_, ?_, by omega, by omega, rfl, ?_, ?_, ?_⟩ <;> first | exact h | (rw [h.1]; omega) | rfl | (simp [cube, rim, along]; done) | (simp [cube, rim, along]; omega) | (simp only [cube, rim, along]; simp; omega) | (simp only [cube, along]; simp only [List.getD_cons_zero, List.getD_cons_succ]; omega)
theorem wrap_50 (a : Nat) (ha : a < 2 ^ 30) : 0 < axis (fcN (wX 5 0 a) (wY 5 0 a) (wZ 5 0 a)) (wX 5 0 a) (wY 5 0 a) (wZ 5 0 a) ∧ Wrapped 5 0 a (fcN (wX 5 0 a) (wY 5 0 a) (wZ 5 0 a)) (stij (vU (fcN (wX 5 0 a) (wY 5 0 a) (wZ 5 0 a)) (wX 5 0 a) (wY 5 0 a) (wZ 5 0 a) + 9007199254740992)) (stij (vV (fcN (wX 5 0 a) (wY 5 0 a) (wZ 5 0 a)) (wX 5 0 a) (wY 5 0 a) (wZ 5 0 a) + 9007199254740992)) := by
  have hX : wX 5 0 a = -1073741825 := by simp only [wX, fX, uu, outI, outJ]; omega
  have hY : wY 5 0 a = (2 * (a : Int) + 1 - 1073741824) := by simp only [wY, fY, uu, outI, outJ]; omega
  have hZ : wZ 5 0 a = -1073741824 := by simp only [wZ, fZ, uu, outI, outJ]; omega
  have hl : lac (-1073741825) ((2 * (a : Int) + 1 - 1073741824)) (-1073741824) = 0 := by unfold lac; split <;> split <;> omega
  have hf : fcN (-1073741825) ((2 * (a : Int) + 1 - 1073741824)) (-1073741824) = 3 := by unfold fcN; rw [hl]; exact if_pos (by show ((-1073741825 : Int) < 0); omega)
  rw [hX, hY, hZ, hf]
  refine ⟨by show (0 : Int) < -(-1073741825); omega, ?_⟩
  have hU : vU 3 (-1073741825) ((2 * (a : Int) + 1 - 1073741824)) (-1073741824) = quo (1073741824) 1073741825 := by
    show quo _ _ = _
    first | rfl | exact quo_neg _ _ | (rw [quo_neg]; first | rfl | (congr 1; omega)) | (congr 1; omega)
  have hV : vV 3 (-1073741825) ((2 * (a : Int) + 1 - 1073741824)) (-1073741824) = quo (-(2 * (a : Int) + 1 - 1073741824)) 1073741825 := by
    show quo _ _ = _
    first | rfl | exact quo_neg _ _ | (rw [quo_neg]; first | rfl | (congr 1; omega)) | (congr 1; omega)
  rw [hU, hV]
  rw [quo_hi]
  rcases quo_in' a ha with h | h
  · refine ⟨1073741823, 1073741823 - a, ?_, ?_, by omega, by omega, rfl, ?_, ?_, ?_⟩ <;> first | exact h | (rw [h]; omega) | rfl | (simp [cube, rim, along]; done) | (simp [cube, rim, along]; omega) | (simp only [cube, rim, along]; simp; omega) | (simp only [cube, along]; simp only [List.getD_cons_zero, List.getD_cons_succ]; omega)
  · refine ⟨1073741823, 1073741824 - a, ?_, ?_, by omega, by omega, rfl, ?_, ?_, ?_⟩ <;> first | exact h | (rw [h.1]; omega) | rfl | (simp [cube, rim, along]; done) | (simp [cube, rim, along]; omega) | (simp only [cube, rim, along]; simp; omega) | (simp only [cube, along]; simp only [List.getD_cons_zero, List.getD_cons_succ]; omega)
theorem wrap_51 (a : Nat) (ha : a < 2 ^ 30) : 0 < axis (fcN (wX 5 1 a) (wY 5 1 a) (wZ 5 1 a)) (wX 5 1 a) (wY 5 1 a) (wZ 5 1 a) ∧ Wrapped 5 1 a (fcN (wX 5 1 a) (wY 5 1 a) (wZ 5 1 a)) (stij (vU (fcN (wX 5 1 a) (wY 5 1 a) (wZ 5 1 a)) (wX 5 1 a) (wY 5 1 a) (wZ 5 1 a) + 9007199254740992)) (stij (vV (fcN (wX 5 1 a) (wY 5 1 a) (wZ 5 1 a)) (wX 5 1 a) (wY 5 1 a) (wZ 5 1 a) + 9007199254740992)) := by
  have hX : wX 5 1 a = (2 * (a : Int) + 1 - 1073741824) := by simp only [wX, fX, uu, outI, outJ]; omega
  have hY : wY 5 1 a = 1073741825 := by simp only [wY, fY, uu, outI, outJ]; omega
  have hZ : wZ 5 1 a = -1073741824 := by simp only [wZ, fZ, uu, outI, outJ]; omega
  have hl : lac ((2 * (a : Int) + 1 - 1073741824)) (1073741825) (-1073741824) = 1 := by unfold lac; split <;> split <;> omega
  have hf : fcN ((2 * (a : Int) + 1 - 1073741824)) (1073741825) (-1073741824) = 1 := by unfold fcN; rw [hl]; exact if_neg (by show ¬((1073741825 : Int) < 0); omega)
  rw [hX, hY, hZ, hf]
  refine ⟨by show (0 : Int) < 1073741825; omega, ?_⟩
  have hU : vU 1 ((2 * (a : Int) + 1 - 1073741824)) (1073741825) (-1073741824) = quo (-(2 * (a : Int) + 1 - 1073741824)) 1073741825 := by
    show quo _ _ = _
    first | rfl | exact quo_neg _ _ | (rw [quo_neg]; first | rfl | (congr 1; omega)) | (congr 1; omega)
  have hV : vV 1 ((2 * (a : Int) + 1 - 1073741824)) (1073741825) (-1073741824) = quo (-1073741824) 1073741825 := by
    show quo _ _ = _
    first | rfl | exact quo_neg _ _ | (rw [quo_neg]; first | rfl | (congr 1; omega)) | (congr 1; omega)
  rw [hU, hV]
  rw [quo_lo]
  rcases quo_in' a ha with h | h
  · refine ⟨1073741823 - a, 0, ?_, ?_, by omega, by omega, rfl, ?_, ?_, ?_⟩ <;> first | exact h | (rw [h]; omega) | rfl | (simp [cube, rim, along]; done) | (simp [cube, rim, along]; omega) | (simp only [cube, rim, along]; simp; omega) | (simp only [cube, along]; simp only [List.getD_cons_zero, List.getD_cons_succ]; omega)
  · refine ⟨1073741824 - a, 0, ?_, ?_, by omega, by omega, rfl, ?_, ?_, ?_⟩ <;> first | exact h | (rw [h.1]; omega) | rfl | (simp [cube, rim, along]; done) | (simp [cube, rim, along]; omega) | (simp only [cube, rim, along]; simp; omega) | (simp only [cube, along]; simp only [List.getD_cons_zero, List.getD_cons_succ]; omega)
theorem wrap_52 (a : Nat) (ha : a < 2 ^ 30) : 0 < axis (fcN (wX 5 2 a) (wY 5 2 a) (wZ 5 2 a)) (wX 5 2 a) (wY 5 2 a) (wZ 5 2 a) ∧ Wrapped 5 2 a (fcN (wX 5 2 a) (wY 5 2 a) (wZ 5 2 a)) (stij (vU (fcN (wX 5 2 a) (wY 5 2 a) (wZ 5 2 a)) (wX 5 2 a) (wY 5 2 a) (wZ 5 2 a) + 9007199254740992)) (stij (vV (fcN (wX 5 2 a) (wY 5 2 a) (wZ 5 2 a)) (wX 5 2 a) (wY 5 2 a) (wZ 5 2 a) + 9007199254740992)) := by
  have hX : wX 5 2 a = 1073741825 := by simp only [wX, fX, uu, outI, outJ]; omega
  have hY : wY 5 2 a = -(2 * (a : Int) + 1 - 1073741824) := by simp only [wY, fY, uu, outI, outJ]; omega
  have hZ : wZ 5 2 a = -1073741824 := by simp only [wZ, fZ, uu, outI, outJ]; omega
  have hl : lac (1073741825) (-(2 * (a : Int) + 1 - 1073741824)) (-1073741824) = 0 := by unfold lac; split <;> split <;> omega
  have hf : fcN (1073741825) (-(2 * (a : Int) + 1 - 1073741824)) (-1073741824) = 0 := by unfold fcN; rw [hl]; exact if_neg (by show ¬((1073741825 : Int) < 0); omega)
  rw [hX, hY, hZ, hf]
  refine ⟨by show (0 : Int) < 1073741825; omega, ?_⟩
  have hU : vU 0 (1073741825) (-(2 * (a : Int) + 1 - 1073741824)) (-1073741824) = quo (-(2 * (a : Int) + 1 - 1073741824)) 1073741825 := by
    show quo _ _ = _
    first | rfl | exact quo_neg _ _ | (rw [quo_neg]; first | rfl | (congr 1; omega)) | (congr 1; omega)
  have hV : vV 0 (1073741825) (-(2 * (a : Int) + 1 - 1073741824)) (-1073741824) = quo (-1073741824) 1073741825 := by
    show quo _ _ = _
    first | rfl | exact quo_neg _ _ | (rw [quo_neg]; first | rfl | (congr 1; omega)) | (congr 1; omega)
  rw [hU, hV]
  rw [quo_lo]
  rcases quo_in' a ha with h | h
  · refine ⟨1073741823 - a, 0, ?_, ?_, by omega, by omega, rfl, ?_, ?_, ?_⟩ <;> first | exact h | (rw [h]; omega) | rfl | (simp [cube, rim, along]; done) | (simp [cube, rim, along]; omega) | (simp only [cube, rim, along]; simp; omega) | (simp only [cube, along]; simp only [List.getD_cons_zero, List.getD_cons_succ]; omega)
  · refine ⟨1073741824 - a, 0, ?_, ?_, by omega, by omega, rfl, ?_, ?_, ?_⟩ <;> first | exact h | (rw [h.1]; omega) | rfl | (simp [cube, rim, along]; done) | (simp [cube, rim, along]; omega) | (simp only [cube, rim, along]; simp; omega) | (simp only [cube, along]; simp only [List.getD_cons_zero, List.getD_cons_succ]; omega)
theorem wrap_53 (a : Nat) (ha : a < 2 ^ 30) : 0 < axis (fcN (wX 5 3 a) (wY 5 3 a) (wZ 5 3 a)) (wX 5 3 a) (wY 5 3 a) (wZ 5 3 a) ∧ Wrapped 5 3 a (fcN (wX 5 3 a) (wY 5 3 a) (wZ 5 3 a)) (stij (vU (fcN (wX 5 3 a) (wY 5 3 a) (wZ 5 3 a)) (wX 5 3 a) (wY 5 3 a) (wZ 5 3 a) + 9007199254740992)) (stij (vV (fcN (wX 5 3 a) (wY 5 3 a) (wZ 5 3 a)) (wX 5 3 a) (wY 5 3 a) (wZ 5 3 a) + 9007199254740992)) := by
  have hX : wX 5 3 a = -(2 * (a : Int) + 1 - 1073741824) := by simp only [wX, fX, uu, outI, outJ]; omega
  have hY : wY 5 3 a = -1073741825 := by simp only [wY, fY, uu, outI, outJ]; omega
  have hZ : wZ 5 3 a = -1073741824 := by simp only [wZ, fZ, uu, outI, outJ]; omega
  have hl : lac (-(2 * (a : Int) + 1 - 1073741824)) (-1073741825) (-1073741824) = 1 := by unfold lac; split <;> split <;> omega
  have hf : fcN (-(2 * (a : Int) + 1 - 1073741824)) (-1073741825) (-1073741824) = 4 := by unfold fcN; rw [hl]; exact if_pos (by show ((-1073741825 : Int) < 0); omega)
  rw [hX, hY, hZ, hf]
  refine ⟨by show (0 : Int) < -(-1073741825); omega, ?_⟩
  have hU : vU 4 (-(2 * (a : Int) + 1 - 1073741824)) (-1073741825) (-1073741824) = quo (1073741824) 1073741825 := by
    show quo _ _ = _
    first | rfl | exact quo_neg _ _ | (rw [quo_neg]; first | rfl | (congr 1; omega)) | (congr 1; omega)
  have hV : vV 4 (-(2 * (a : Int) + 1 - 1073741824)) (-1073741825) (-1073741824) = quo (-(2 * (a : Int) + 1 - 1073741824)) 1073741825 := by
    show quo _ _ = _
    first | rfl | exact quo_neg _ _ | (rw [quo_neg]; first | rfl | (congr 1; omega)) | (congr 1; omega)
  rw [hU, hV]
  rw [quo_hi]
  rcases quo_in' a ha with h | h
  · refine ⟨1073741823, 1073741823 - a, ?_, ?_, by omega, by omega, rfl, ?_, ?_, ?_⟩ <;> first | exact h | (rw [h]; omega) | rfl | (simp [cube, rim, along]; done) | (simp [cube, rim, along]; omega) | (simp only [cube, rim, along]; simp; omega) | (simp only [cube, along]; simp only [List.getD_cons_zero, List.getD_cons_succ]; omega)
  · refine ⟨1073741823, 1073741824 - a, ?_, ?_, by omega, by omega, rfl, ?_, ?_, ?_⟩ <;> first | exact h | (rw [h.1]; omega) | rfl | (simp [cube, rim, along]; done) | (simp [cube, rim, along]; omega) | (simp only [cube, rim, along]; simp; omega) | (simp only [cube, along]; simp only [List.getD_cons_zero, List.getD_cons_succ]; omega)
theorem wrap24 {f t a : Nat} (hf : f < 6) (ht : t < 4) (ha : a < 2 ^ 30) : 0 < axis (fcN (wX f t a) (wY f t a) (wZ f t a)) (wX f t a) (wY f t a) (wZ f t a) ∧ Wrapped f t a (fcN (wX f t a) (wY f t a) (wZ f t a)) (stij (vU (fcN (wX f t a) (wY f t a) (wZ f t a)) (wX f t a) (wY f t a) (wZ f t a) + 9007199254740992)) (stij (vV (fcN (wX f t a) (wY f t a) (wZ f t a)) (wX f t a) (wY f t a) (wZ f t a) + 9007199254740992)) := by
  match f, hf, t, ht with
  | 0, _, 0, _ => exact wrap_00 a ha
  | 0, _, 1, _ => exact wrap_01 a ha
  | 0, _, 2, _ => exact wrap_02 a ha
  | 0, _, 3, _ => exact wrap_03 a ha
  | 1, _, 0, _ => exact wrap_10 a ha
  | 1, _, 1, _ => exact wrap_11 a ha
  | 1, _, 2, _ => exact wrap_12 a ha
  | 1, _, 3, _ => exact wrap_13 a ha
  | 2, _, 0, _ => exact wrap_20 a ha
  | 2, _, 1, _ => exact wrap_21 a ha
  | 2, _, 2, _ => exact wrap_22 a ha
  | 2, _, 3, _ => exact wrap_23 a ha
  | 3, _, 0, _ => exact wrap_30 a ha
  | 3, _, 1, _ => exact wrap_31 a ha
  | 3, _, 2, _ => exact wrap_32 a ha
  | 3, _, 3, _ => exact wrap_33 a ha
  | 4, _, 0, _ => exact wrap_40 a ha
  | 4, _, 1, _ => exact wrap_41 a ha
  | 4, _, 2, _ => exact wrap_42 a ha
  | 4, _, 3, _ => exact wrap_43 a ha
  | 5, _, 0, _ => exact wrap_50 a ha
  | 5, _, 1, _ => exact wrap_51 a ha
  | 5, _, 2, _ => exact wrap_52 a ha
  | 5, _, 3, _ => exact wrap_53 a ha
  | f + 6, h, _, _ => omega
  | 0, _, t + 4, h => omega
  | 1, _, t + 4, h => omega
  | 2, _, t + 4, h => omega
  | 3, _, t + 4, h => omega
  | 4, _, t + 4, h => omega
  | 5, _, t + 4, h => omega
end Mine
end Part33
section Part34
set_option maxRecDepth 100000
set_option autoImplicit false
set_option linter.unusedVariables false
namespace Mine
theorem out_small {t a : Nat} (ht : t < 4) (ha : a < 2 ^ 30) : (-1 ≤ outI t a ∧ outI t a ≤ 1073741824) ∧ (-1 ≤ outJ t a ∧ outJ t a ≤ 1073741824) := by
  match t, ht with
  | 0, _ => simp only [outI, outJ]; omega
  | 1, _ => simp only [outI, outJ]; omega
  | 2, _ => simp only [outI, outJ]; omega
  | 3, _ => simp only [outI, outJ]; omega
  | t + 4, h => omega
theorem w_small {f t a : Nat} (hf : f < 6) (ht : t < 4) (ha : a < 2 ^ 30) : (wX f t a).natAbs < 2 ^ 32 ∧ (wY f t a).natAbs < 2 ^ 32 ∧ (wZ f t a).natAbs < 2 ^ 32 := by
  have o := out_small ht ha
  unfold wX wY wZ uu
  generalize outI t a = p at *
  generalize outJ t a = q at *
  match f, hf with
  | 0, _ => simp only [fX, fY, fZ]; omega
  | 1, _ => simp only [fX, fY, fZ]; omega
  | 2, _ => simp only [fX, fY, fZ]; omega
  | 3, _ => simp only [fX, fY, fZ]; omega
  | 4, _ => simp only [fX, fY, fZ]; omega
  | 5, _ => simp only [fX, fY, fZ]; omega
  | f + 6, h => omega
theorem uu_of (i : Int) : 1 * (i * 2 ^ Int.toNat 1 + 1 - 1073741824) = uu i := by
  show 1 * (i * 2 + 1 - 1073741824) = 2 * i + 1 - 1073741824
  omega
end Mine
end Part34
section Part35
set_option maxRecDepth 100000
set_option autoImplicit false
set_option linter.unusedVariables false
namespace Mine
/-! from leaves to squares -/
theorem p30 {L : Nat} (hL : L ≤ 30) : (2 : Nat) ^ 30 = 2 ^ L * 2 ^ (30 - L) := by rw [← Nat.pow_add]; congr 1; omega
theorem div_of {n z K r : Nat} (h : n = z * K + r) (hr : r < z) : n / z = K := by
  rw [h, Nat.mul_add_div (by omega), Nat.div_eq_of_lt hr]; rfl
theorem rim_down {L t I J : Nat} (hL : L ≤ 30) (ht : t < 4) (h : rim 30 t I J) : rim L t (I / 2 ^ (30 - L)) (J / 2 ^ (30 - L)) := by
  have e := p30 hL
  have z : 0 < 2 ^ (30 - L) := Nat.pow_pos (by decide)
  have up : ∀ x, x + 1 = 2 ^ 30 → x / 2 ^ (30 - L) + 1 = 2 ^ L := fun x hx => by
    have hx' : x = 2 ^ (30 - L) * (2 ^ L - 1) + (2 ^ (30 - L) - 1) := by
      have : 0 < 2 ^ L := Nat.pow_pos (by decide)
      rw [e, Nat.mul_comm] at hx
      rw [Nat.mul_sub, Nat.mul_one]
      have : 2 ^ (30 - L) ≤ 2 ^ (30 - L) * 2 ^ L := Nat.le_mul_of_pos_right _ this
      omega
    have : 0 < 2 ^ L := Nat.pow_pos (by decide)
    rw [hx', Nat.mul_add_div z, Nat.div_eq_of_lt (by omega)]; omega
  unfold rim at *
  split
  · rename_i q; rw [if_pos q] at h; rw [h, Nat.zero_div]
  · rename_i q; rw [if_neg q] at h
    split
    · rename_i q; rw [if_pos q] at h; exact up _ h
    · rename_i q; rw [if_neg q] at h
      split
      · rename_i q; rw [if_pos q] at h; exact up _ h
      · rename_i q; rw [if_neg q] at h; rw [h, Nat.zero_div]
theorem flip_down {L x : Nat} (hL : L ≤ 30) (hx : x < 2 ^ 30) : (2 ^ 30 - 1 - x) / 2 ^ (30 - L) = 2 ^ L - 1 - x / 2 ^ (30 - L) := by
  have e := p30 hL
  have z : 0 < 2 ^ (30 - L) := Nat.pow_pos (by decide)
  have q := Nat.div_add_mod x (2 ^ (30 - L))
  have r := Nat.mod_lt x z
  have hq : x / 2 ^ (30 - L) < 2 ^ L := by rw [Nat.div_lt_iff_lt_mul z, ← e]; exact hx
  have e2 : 2 ^ 30 - 1 - x = 2 ^ (30 - L) * (2 ^ L - 1 - x / 2 ^ (30 - L)) + (2 ^ (30 - L) - 1 - x % 2 ^ (30 - L)) := by
    rw [Nat.mul_sub, Nat.mul_sub, Nat.mul_one]
    rw [Nat.mul_comm] at e
    have h1 : 2 ^ (30 - L) * (x / 2 ^ (30 - L)) + 2 ^ (30 - L) ≤ 2 ^ (30 - L) * 2 ^ L := by
      rw [← Nat.mul_succ]; exact Nat.mul_le_mul_left _ hq
    omega
  exact div_of e2 (by omega)
theorem along_down {L t I J : Nat} (hL : L ≤ 30) (hI : I < 2 ^ 30) (hJ : J < 2 ^ 30) : along 30 t I J / 2 ^ (30 - L) = along L t (I / 2 ^ (30 - L)) (J / 2 ^ (30 - L)) := by
  unfold along
  split
  · rfl
  · split
    · rfl
    · split
      · exact flip_down hL hI
      · exact flip_down hL hJ
theorem square_eq {L t x y x2 y2 : Nat} (ht : t < 4) (h1 : rim L t x y) (h2 : rim L t x2 y2) (hx : x < 2 ^ L) (hy : y < 2 ^ L) (hx2 : x2 < 2 ^ L) (hy2 : y2 < 2 ^ L) (e : along L t x y = along L t x2 y2) : x = x2 ∧ y = y2 := by
  unfold rim along at *
  have : t = 0 ∨ t = 1 ∨ t = 2 ∨ t = 3 := by omega
  rcases this with rfl | rfl | rfl | rfl <;> simp at * <;> omega
theorem across_down {L a A : Nat} (hL : L ≤ 28) (h1 : 1 ≤ a % 2 ^ (30 - L)) (h2 : a % 2 ^ (30 - L) + 2 ≤ 2 ^ (30 - L)) (hA : A + a + 1 ≤ 2 ^ 30 + 1) (hA2 : 2 ^ 30 - 1 ≤ A + a + 1) (ha : a < 2 ^ 30) :
    A / 2 ^ (30 - L) + a / 2 ^ (30 - L) + 1 = 2 ^ L := by
  have e := p30 (L := L) (by omega)
  have z : 0 < 2 ^ (30 - L) := Nat.pow_pos (by decide)
  have q := Nat.div_add_mod a (2 ^ (30 - L))
  have hq : a / 2 ^ (30 - L) < 2 ^ L := by rw [Nat.div_lt_iff_lt_mul z, ← e]; exact ha
  have h3 : 2 ^ (30 - L) * (a / 2 ^ (30 - L)) + 2 ^ (30 - L) ≤ 2 ^ (30 - L) * 2 ^ L := by
    rw [← Nat.mul_succ]; exact Nat.mul_le_mul_left _ hq
  have e2 : 2 ^ (30 - L) * (2 ^ L - 1 - a / 2 ^ (30 - L)) = 2 ^ (30 - L) * 2 ^ L - 2 ^ (30 - L) - 2 ^ (30 - L) * (a / 2 ^ (30 - L)) := by rw [Nat.mul_sub, Nat.mul_sub, Nat.mul_one]
  rw [Nat.mul_comm] at e
  have : A / 2 ^ (30 - L) = 2 ^ L - 1 - a / 2 ^ (30 - L) := by
    have e3 : A = 2 ^ (30 - L) * (2 ^ L - 1 - a / 2 ^ (30 - L)) + (A - 2 ^ (30 - L) * (2 ^ L - 1 - a / 2 ^ (30 - L))) := by omega
    exact div_of e3 (by omega)
  omega
/-- the leaf that is asked for, for the square next to it -/
theorem pz_down {L f x y : Nat} (hL : L ≤ 30) : pz 30 f x y / 2 ^ (2 * (30 - L)) = pz L f (x / 2 ^ (30 - L)) (y / 2 ^ (30 - L)) := by
  have := pz_anc L f (30 - L) x y
  rw [show L + (30 - L) = 30 by omega] at this
  rw [pow4]; exact this
theorem sq_div {x m μ : Nat} (h : μ < 2 ^ m) : (x * 2 ^ m + μ) / 2 ^ m = x ∧ (x * 2 ^ m + μ) % 2 ^ m = μ := by
  have z : 0 < 2 ^ m := Nat.pow_pos (by decide)
  rw [Nat.mul_comm]
  exact ⟨by rw [Nat.mul_add_div z, Nat.div_eq_of_lt h]; rfl, by rw [Nat.mul_add_mod, Nat.mod_eq_of_lt h]⟩
theorem edge_in {L p t x2 y2 μ ν : Nat} (hL : L ≤ 30) (hp : p < 6 * 4 ^ L) (ht : t < 4) (hr : ¬rim L t (xz L p) (yz L p)) (hn : nextTo t (xz L p) (yz L p) x2 y2) (hμ : μ < 2 ^ (30 - L)) (hν : ν < 2 ^ (30 - L)) :
    pz 30 (p / 4 ^ L) (x2 * 2 ^ (30 - L) + μ) (y2 * 2 ^ (30 - L) + ν) / 2 ^ (2 * (30 - L)) = (nbr L p t).1 := by
  rw [pz_down hL, (sq_div hμ).1, (sq_div hν).1]
  rcases geo L p t hp ht with ⟨r, _⟩ | ⟨_, r2, r3, r4⟩
  · exact absurd r hr
  · have : x2 = xz L (nbr L p t).1 ∧ y2 = yz L (nbr L p t).1 := by
      unfold nextTo at *
      have : t = 0 ∨ t = 1 ∨ t = 2 ∨ t = 3 := by omega
      rcases this with rfl | rfl | rfl | rfl <;> simp at * <;> omega
    rw [this.1, this.2, ← r2, pz_at]
theorem edge_out {L p t i j I J : Nat} (hL : L ≤ 28) (hp : p < 6 * 4 ^ L) (ht : t < 4) (hr : rim L t (xz L p) (yz L p)) (hi : i < 2 ^ 30) (hj : j < 2 ^ 30) (ei : i / 2 ^ (30 - L) = xz L p) (ej : j / 2 ^ (30 - L) = yz L p)
    (h1 : 1 ≤ along 30 t i j % 2 ^ (30 - L)) (h2 : along 30 t i j % 2 ^ (30 - L) + 2 ≤ 2 ^ (30 - L)) (ha : along 30 t i j < 2 ^ 30)
    (hI : I < 2 ^ 30) (hJ : J < 2 ^ 30) (rm : rim 30 (cube (p / 4 ^ L) t).2 I J) (l1 : along 30 (cube (p / 4 ^ L) t).2 I J + along 30 t i j + 1 ≤ 2 ^ 30 + 1) (l2 : 2 ^ 30 - 1 ≤ along 30 (cube (p / 4 ^ L) t).2 I J + along 30 t i j + 1) :
    pz 30 (cube (p / 4 ^ L) t).1 I J / 2 ^ (2 * (30 - L)) = (nbr L p t).1 := by
  have hL' : L ≤ 30 := by omega
  rw [pz_down hL']
  rcases geo L p t hp ht with ⟨_, r2, r3, r4⟩ | ⟨r, _⟩
  · have hf : p / 4 ^ L < 6 := by rw [Nat.div_lt_iff_lt_mul (Nat.pow_pos (by decide))]; exact hp
    have t4 := (cube_back _ hf t ht).2.2
    have e1 : (nbr L p t).1 / 4 ^ L = (cube (p / 4 ^ L) t).1 := by rw [← r2]
    have e2 : (nbr L p t).2 = (cube (p / 4 ^ L) t).2 := by rw [← r2]
    rw [e2] at r3 r4
    have d := across_down hL h1 h2 l1 l2 ha
    rw [along_down hL' hI hJ, along_down hL' hi hj, ei, ej] at d
    have z : 0 < 2 ^ (30 - L) := Nat.pow_pos (by decide)
    have s := square_eq t4 (rim_down hL' t4 rm) r3 (by rw [Nat.div_lt_iff_lt_mul z, ← p30 hL']; exact hI) (by rw [Nat.div_lt_iff_lt_mul z, ← p30 hL']; exact hJ) (xz_lt _ _) (yz_lt _ _) (by omega)
    rw [s.1, s.2, ← e1, pz_at]
  · exact absurd hr r
end Mine
end Part35
section Part36
set_option maxRecDepth 100000
set_option autoImplicit false
set_option linter.unusedVariables false
namespace Mine
theorem mid_mid {o m : Nat} (hm : 2 ≤ m) : 1 ≤ mid o m ∧ mid o m + 2 ≤ 2 ^ m := by
  unfold mid
  rw [if_neg (by omega)]
  obtain ⟨k, rfl⟩ : ∃ k, m = k + 2 := ⟨m - 2, by omega⟩
  have : 0 < 2 ^ k := Nat.pow_pos (by decide)
  rw [show k + 2 - 1 = k + 1 from rfl, Nat.pow_succ, Nat.pow_succ]
  split <;> omega
theorem flip_mod {L x : Nat} (hL : L ≤ 30) (hx : x < 2 ^ 30) : (2 ^ 30 - 1 - x) % 2 ^ (30 - L) = 2 ^ (30 - L) - 1 - x % 2 ^ (30 - L) := by
  have e := p30 hL
  have z : 0 < 2 ^ (30 - L) := Nat.pow_pos (by decide)
  have q := Nat.div_add_mod x (2 ^ (30 - L))
  have q2 := Nat.div_add_mod (2 ^ 30 - 1 - x) (2 ^ (30 - L))
  have r := Nat.mod_lt x z
  rw [flip_down hL hx, Nat.mul_sub, Nat.mul_sub, Nat.mul_one] at q2
  have hq : x / 2 ^ (30 - L) < 2 ^ L := by rw [Nat.div_lt_iff_lt_mul z, ← e]; exact hx
  have h1 : 2 ^ (30 - L) * (x / 2 ^ (30 - L)) + 2 ^ (30 - L) ≤ 2 ^ (30 - L) * 2 ^ L := by
    rw [← Nat.mul_succ]; exact Nat.mul_le_mul_left _ hq
  rw [Nat.mul_comm] at e
  omega
/-- what is asked of from_face_ij_same for the side t -/
def EA (t : Nat) (I J S i j : Int) (b : Bool) : Prop := match t with
  | 0 => i = I ∧ j = J - S ∧ (b = true ↔ 0 ≤ J - S)
  | 1 => i = I + S ∧ j = J ∧ (b = true ↔ I + S < 1073741824)
  | 2 => i = I ∧ j = J + S ∧ (b = true ↔ J + S < 1073741824)
  | _ => i = I - S ∧ j = J ∧ (b = true ↔ 0 ≤ I - S)
theorem sq_small {L x μ : Nat} (hL : L ≤ 30) (hx : x < 2 ^ L) (hμ : μ < 2 ^ (30 - L)) : x * 2 ^ (30 - L) + μ < 2 ^ 30 := by
  rw [p30 hL]
  have : (x + 1) * 2 ^ (30 - L) ≤ 2 ^ L * 2 ^ (30 - L) := Nat.mul_le_mul_right _ hx
  rw [Nat.add_mul, Nat.one_mul] at this
  omega
theorem low_iff {L x μ : Nat} (hμ : μ < 2 ^ (30 - L)) : (0 ≤ ((x * 2 ^ (30 - L) + μ : Nat) : Int) - ((2 ^ (30 - L) : Nat) : Int)) ↔ x ≠ 0 := by
  constructor
  · rintro h rfl; rw [Nat.zero_mul] at h; omega
  · intro h
    have : 1 * 2 ^ (30 - L) ≤ x * 2 ^ (30 - L) := Nat.mul_le_mul_right _ (by omega)
    omega
theorem high_iff {L x μ : Nat} (hL : L ≤ 30) (hx : x < 2 ^ L) (hμ : μ < 2 ^ (30 - L)) : (((x * 2 ^ (30 - L) + μ : Nat) : Int) + ((2 ^ (30 - L) : Nat) : Int) < 1073741824) ↔ x + 1 ≠ 2 ^ L := by
  have e := p30 hL
  have e2 : (x + 1) * 2 ^ (30 - L) = x * 2 ^ (30 - L) + 2 ^ (30 - L) := by rw [Nat.add_mul, Nat.one_mul]
  constructor
  · intro h hx'
    rw [hx', ← e] at e2; omega
  · intro h
    have := sq_small (L := L) (x := x + 1) (μ := μ) hL (by omega) hμ
    omega
theorem less_sq {L x μ : Nat} (h : x ≠ 0) : ((x * 2 ^ (30 - L) + μ : Nat) : Int) - ((2 ^ (30 - L) : Nat) : Int) = (((x - 1) * 2 ^ (30 - L) + μ : Nat) : Int) := by
  have e : x * 2 ^ (30 - L) = (x - 1) * 2 ^ (30 - L) + 2 ^ (30 - L) := by
    obtain ⟨y, rfl⟩ : ∃ y, x = y + 1 := ⟨x - 1, by omega⟩
    rw [Nat.add_sub_cancel, Nat.add_mul, Nat.one_mul]
  omega
theorem more_sq {L x μ : Nat} : ((x * 2 ^ (30 - L) + μ : Nat) : Int) + ((2 ^ (30 - L) : Nat) : Int) = (((x + 1) * 2 ^ (30 - L) + μ : Nat) : Int) := by
  rw [Nat.add_mul, Nat.one_mul]; omega
/-- within the face -/
theorem EA_in {L p t μ ν : Nat} {i j : Int} {b : Bool} (hL : L ≤ 30) (hp : p < 6 * 4 ^ L) (ht : t < 4) (hμ : μ < 2 ^ (30 - L)) (hν : ν < 2 ^ (30 - L))
    (e : EA t ((xz L p * 2 ^ (30 - L) + μ : Nat) : Int) ((yz L p * 2 ^ (30 - L) + ν : Nat) : Int) ((2 ^ (30 - L) : Nat) : Int) i j b) (hr : ¬rim L t (xz L p) (yz L p)) :
    b = true ∧ ∃ I J : Nat, i = (I : Int) ∧ j = (J : Int) ∧ I < 2 ^ 30 ∧ J < 2 ^ 30 ∧ pz 30 (p / 4 ^ L) I J / 2 ^ (2 * (30 - L)) = (nbr L p t).1 := by
  have hx := xz_lt L p
  have hy := yz_lt L p
  match t, ht with
  | 0, _ =>
    obtain ⟨rfl, rfl, eb⟩ := e
    have h0 : yz L p ≠ 0 := by simpa [rim] using hr
    have hb := (low_iff (L := L) (x := yz L p) hν).mpr h0
    refine ⟨eb.mpr hb, _, _, rfl, less_sq h0, sq_small hL hx hμ, sq_small hL (by omega) hν, edge_in hL hp (by decide) hr ?_ hμ hν⟩
    show xz L p = xz L p ∧ yz L p - 1 + 1 = yz L p
    omega
  | 1, _ =>
    obtain ⟨rfl, rfl, eb⟩ := e
    have h0 : xz L p + 1 ≠ 2 ^ L := by simpa [rim] using hr
    have hb := (high_iff (L := L) (x := xz L p) hL hx hμ).mpr h0
    refine ⟨eb.mpr hb, _, _, more_sq, rfl, sq_small hL (by omega) hμ, sq_small hL hy hν, edge_in hL hp (by decide) hr ?_ hμ hν⟩
    exact ⟨rfl, rfl⟩
  | 2, _ =>
    obtain ⟨rfl, rfl, eb⟩ := e
    have h0 : yz L p + 1 ≠ 2 ^ L := by simpa [rim] using hr
    have hb := (high_iff (L := L) (x := yz L p) hL hy hν).mpr h0
    refine ⟨eb.mpr hb, _, _, rfl, more_sq, sq_small hL hx hμ, sq_small hL (by omega) hν, edge_in hL hp (by decide) hr ?_ hμ hν⟩
    exact ⟨rfl, rfl⟩
  | 3, _ =>
    obtain ⟨rfl, rfl, eb⟩ := e
    have h0 : xz L p ≠ 0 := by simpa [rim] using hr
    have hb := (low_iff (L := L) (x := xz L p) hμ).mpr h0
    refine ⟨eb.mpr hb, _, _, less_sq h0, rfl, sq_small hL (by omega) hμ, sq_small hL hy hν, edge_in hL hp (by decide) hr ?_ hμ hν⟩
    show xz L p - 1 + 1 = xz L p ∧ yz L p = yz L p
    omega
  | t + 4, h => omega
/-- over the rim -/
theorem EA_out {L p t μ ν : Nat} {i j : Int} {b : Bool} (hL : L ≤ 28) (hp : p < 6 * 4 ^ L) (ht : t < 4) (hμ : 1 ≤ μ ∧ μ + 2 ≤ 2 ^ (30 - L)) (hν : 1 ≤ ν ∧ ν + 2 ≤ 2 ^ (30 - L))
    (e : EA t ((xz L p * 2 ^ (30 - L) + μ : Nat) : Int) ((yz L p * 2 ^ (30 - L) + ν : Nat) : Int) ((2 ^ (30 - L) : Nat) : Int) i j b) (hr : rim L t (xz L p) (yz L p)) :
    b = false ∧ ∃ a : Nat, a < 2 ^ 30 ∧ max (-1) (min 1073741824 i) = outI t a ∧ max (-1) (min 1073741824 j) = outJ t a ∧ ∀ I J : Nat, I < 2 ^ 30 → J < 2 ^ 30 → rim 30 (cube (p / 4 ^ L) t).2 I J →
      along 30 (cube (p / 4 ^ L) t).2 I J + a + 1 ≤ 2 ^ 30 + 1 → 2 ^ 30 - 1 ≤ along 30 (cube (p / 4 ^ L) t).2 I J + a + 1 → pz 30 (cube (p / 4 ^ L) t).1 I J / 2 ^ (2 * (30 - L)) = (nbr L p t).1 := by
  have hx := xz_lt L p
  have hy := yz_lt L p
  have hL' : L ≤ 30 := by omega
  have sx := sq_small (μ := μ) hL' hx (by omega)
  have sy := sq_small (μ := ν) hL' hy (by omega)
  have dx := sq_div (x := xz L p) (m := 30 - L) (μ := μ) (by omega)
  have dy := sq_div (x := yz L p) (m := 30 - L) (μ := ν) (by omega)
  have main := fun I J (h1 : 1 ≤ along 30 t (xz L p * 2 ^ (30 - L) + μ) (yz L p * 2 ^ (30 - L) + ν) % 2 ^ (30 - L)) h2 h3 hI hJ rm l1 l2 => edge_out (I := I) (J := J) hL hp ht hr sx sy dx.1 dy.1 h1 h2 h3 hI hJ rm l1 l2
  have fx := flip_mod (L := L) hL' sx
  have fy := flip_mod (L := L) hL' sy
  rw [dx.2] at fx
  rw [dy.2] at fy
  match t, ht with
  | 0, _ =>
    obtain ⟨rfl, rfl, eb⟩ := e
    have h0 : yz L p = 0 := by simpa [rim] using hr
    have hb := fun h => (low_iff (L := L) (x := yz L p) (μ := ν) (by omega)).mp h (by omega)
    have hb' := Int.not_le.mp hb
    refine ⟨Bool.eq_false_iff.mpr (fun h => hb (eb.mp h)), xz L p * 2 ^ (30 - L) + μ, sx, ?_, ?_, ?_⟩
    · show _ = ((xz L p * 2 ^ (30 - L) + μ : Nat) : Int)
      omega
    · show _ = (-1 : Int)
      omega
    · intro I J hI hJ rm l1 l2
      exact main I J (by show 1 ≤ _ % _; rw [show along 30 0 (xz L p * 2 ^ (30 - L) + μ) (yz L p * 2 ^ (30 - L) + ν) = xz L p * 2 ^ (30 - L) + μ from rfl, dx.2]; exact hμ.1) (by rw [show along 30 0 (xz L p * 2 ^ (30 - L) + μ) (yz L p * 2 ^ (30 - L) + ν) = xz L p * 2 ^ (30 - L) + μ from rfl, dx.2]; exact hμ.2) sx hI hJ rm l1 l2
  | 1, _ =>
    obtain ⟨rfl, rfl, eb⟩ := e
    have h0 : xz L p + 1 = 2 ^ L := by simpa [rim] using hr
    have hb := fun h => (high_iff (L := L) (x := xz L p) (μ := μ) hL' hx (by omega)).mp h (by omega)
    have hb' := Int.not_lt.mp hb
    refine ⟨Bool.eq_false_iff.mpr (fun h => hb (eb.mp h)), yz L p * 2 ^ (30 - L) + ν, sy, ?_, ?_, ?_⟩
    · show _ = (1073741824 : Int)
      omega
    · show _ = ((yz L p * 2 ^ (30 - L) + ν : Nat) : Int)
      omega
    · intro I J hI hJ rm l1 l2
      exact main I J (by rw [show along 30 1 (xz L p * 2 ^ (30 - L) + μ) (yz L p * 2 ^ (30 - L) + ν) = yz L p * 2 ^ (30 - L) + ν from rfl, dy.2]; exact hν.1) (by rw [show along 30 1 (xz L p * 2 ^ (30 - L) + μ) (yz L p * 2 ^ (30 - L) + ν) = yz L p * 2 ^ (30 - L) + ν from rfl, dy.2]; exact hν.2) sy hI hJ rm l1 l2
  | 2, _ =>
    obtain ⟨rfl, rfl, eb⟩ := e
    have h0 : yz L p + 1 = 2 ^ L := by simpa [rim] using hr
    have hb := fun h => (high_iff (L := L) (x := yz L p) (μ := ν) hL' hy (by omega)).mp h (by omega)
    have hb' := Int.not_lt.mp hb
    have ea : along 30 2 (xz L p * 2 ^ (30 - L) + μ) (yz L p * 2 ^ (30 - L) + ν) = 2 ^ 30 - 1 - (xz L p * 2 ^ (30 - L) + μ) := rfl
    refine ⟨Bool.eq_false_iff.mpr (fun h => hb (eb.mp h)), 2 ^ 30 - 1 - (xz L p * 2 ^ (30 - L) + μ), by omega, ?_, ?_, ?_⟩
    · show _ = 1073741823 - ((2 ^ 30 - 1 - (xz L p * 2 ^ (30 - L) + μ) : Nat) : Int)
      omega
    · show _ = (1073741824 : Int)
      omega
    · intro I J hI hJ rm l1 l2
      exact main I J (by rw [ea, fx]; omega) (by rw [ea, fx]; omega) (by rw [ea]; omega) hI hJ rm l1 l2
  | 3, _ =>
    obtain ⟨rfl, rfl, eb⟩ := e
    have h0 : xz L p = 0 := by simpa [rim] using hr
    have hb := fun h => (low_iff (L := L) (x := xz L p) (μ := μ) (by omega)).mp h (by omega)
    have hb' := Int.not_le.mp hb
    have ea : along 30 3 (xz L p * 2 ^ (30 - L) + μ) (yz L p * 2 ^ (30 - L) + ν) = 2 ^ 30 - 1 - (yz L p * 2 ^ (30 - L) + ν) := rfl
    refine ⟨Bool.eq_false_iff.mpr (fun h => hb (eb.mp h)), 2 ^ 30 - 1 - (yz L p * 2 ^ (30 - L) + ν), by omega, ?_, ?_, ?_⟩
    · show _ = (-1 : Int)
      omega
    · show _ = 1073741823 - ((2 ^ 30 - 1 - (yz L p * 2 ^ (30 - L) + ν) : Nat) : Int)
      omega
    · intro I J hI hJ rm l1 l2
      exact main I J (by rw [ea, fy]; omega) (by rw [ea, fy]; omega) (by rw [ea]; omega) hI hJ rm l1 l2
  | t + 4, h => omega
end Mine
end Part36
section Part37
set_option maxRecDepth 100000
set_option autoImplicit false
set_option linter.unusedVariables false
namespace Mine
/-! the one before and the next one, by ids -/
theorem top_60 {L : Nat} (hL : L ≤ 30) : (2 : Nat) ^ 60 = 4 ^ L * 2 ^ (60 - 2 * L) := by
  rw [← pow4, ← Nat.pow_add]; congr 1; omega
theorem two_z {L : Nat} : 2 ^ (60 - 2 * L) ≤ 2 ^ 60 := Nat.pow_le_pow_right (by decide) (by omega)
theorem gid_top {L : Nat} (hL : L ≤ 30) : gidN L (6 * 4 ^ L - 1) + 2 ^ (60 - 2 * L) = 6 * 2 ^ 61 := by
  unfold gidN
  have := many_p L
  have e : (2 * (6 * 4 ^ L - 1) + 1) * 2 ^ (60 - 2 * L) + 2 ^ (60 - 2 * L) = (2 * (6 * 4 ^ L)) * 2 ^ (60 - 2 * L) := by
    rw [show 2 * (6 * 4 ^ L) = 2 * (6 * 4 ^ L - 1) + 1 + 1 by omega, Nat.add_mul (2 * (6 * 4 ^ L - 1) + 1) 1, Nat.one_mul]
  rw [e, show 2 * (6 * 4 ^ L) = 12 * 4 ^ L by omega, Nat.mul_assoc, ← top_60 hL]
theorem gid_lt4 {L p : Nat} (hL : L ≤ 30) (hp : p < 6 * 4 ^ L) : gidN L p < 6 * 2 ^ 61 := gid_lt hL (by rw [pow4]; exact hp)
theorem gid_less {L p : Nat} (h : 1 ≤ p) : (gid L p) - ((2 ^ (60 - 2 * L) : Nat) : Int) * 2 ^ Int.toNat 1 = gid L (p - 1) := by
  unfold gid gidN
  obtain ⟨q, rfl⟩ : ∃ q, p = q + 1 := ⟨p - 1, by omega⟩
  have e : (2 * (q + 1) + 1) * 2 ^ (60 - 2 * L) = (2 * q + 1) * 2 ^ (60 - 2 * L) + 2 ^ (60 - 2 * L) + 2 ^ (60 - 2 * L) := by
    rw [show 2 * (q + 1) + 1 = (2 * q + 1) + 1 + 1 by omega, Nat.add_mul _ 1, Nat.add_mul _ 1, Nat.one_mul]
  rw [e, Nat.add_sub_cancel]
  show _ - _ * 2 = _
  omega
theorem gid_more {L p : Nat} : (gid L p) + ((2 ^ (60 - 2 * L) : Nat) : Int) * 2 ^ Int.toNat 1 = gid L (p + 1) := by
  unfold gid gidN
  have e : (2 * (p + 1) + 1) * 2 ^ (60 - 2 * L) = (2 * p + 1) * 2 ^ (60 - 2 * L) + 2 ^ (60 - 2 * L) + 2 ^ (60 - 2 * L) := by
    rw [show 2 * (p + 1) + 1 = (2 * p + 1) + 1 + 1 by omega, Nat.add_mul _ 1, Nat.add_mul _ 1, Nat.one_mul]
  rw [e]
  show _ + _ * 2 = _
  omega
theorem gid_first {L : Nat} : gidN L 0 = 2 ^ (60 - 2 * L) := by unfold gidN; omega
/-- behind the first one -/
theorem gid_neg {L : Nat} (hL : L ≤ 30) : ((gid L 0) - ((2 ^ (60 - 2 * L) : Nat) : Int) * 2 ^ Int.toNat 1).fmod 18446744073709551615 = 18446744073709551615 - ((2 ^ (60 - 2 * L) : Nat) : Int) := by
  unfold gid
  rw [gid_first]
  have h0 : 0 < 2 ^ (60 - 2 * L) := Nat.pow_pos (by decide)
  have h1 := two_z (L := L)
  generalize 2 ^ (60 - 2 * L) = z at *
  show ((z : Int) - (z : Int) * 2).fmod 18446744073709551615 = _
  rw [Int.fmod_eq_emod_of_nonneg _ (by decide)]
  omega
theorem gid_wrap {L : Nat} (hL : L ≤ 30) : (18446744073709551615 - ((2 ^ (60 - 2 * L) : Nat) : Int) + 13835058055282163712).fmod 18446744073709551615 = gid L (6 * 4 ^ L - 1) := by
  have t := gid_top hL
  have h0 : 0 < 2 ^ (60 - 2 * L) := Nat.pow_pos (by decide)
  have h1 := two_z (L := L)
  unfold gid
  generalize gidN L (6 * 4 ^ L - 1) = y at *
  generalize 2 ^ (60 - 2 * L) = z at *
  rw [Int.fmod_eq_emod_of_nonneg _ (by decide)]
  omega
theorem gid_over {L : Nat} (hL : L ≤ 30) : (gid L (6 * 4 ^ L) - 13835058055282163712) = gid L 0 := by
  have t := gid_top hL
  have m := gid_more (L := L) (p := 6 * 4 ^ L - 1)
  have := many_p L
  rw [show 6 * 4 ^ L - 1 + 1 = 6 * 4 ^ L by omega] at m
  rw [← m]
  unfold gid at *
  rw [gid_first]
  generalize gidN L (6 * 4 ^ L - 1) = y at *
  generalize 2 ^ (60 - 2 * L) = z at *
  show (y : Int) + (z : Int) * 2 - _ = _
  omega
theorem gid_top_ge {L : Nat} (hL : L ≤ 30) : ¬(gid L (6 * 4 ^ L) < 13835058055282163712) ∧ (gid L (6 * 4 ^ L)).fmod 18446744073709551615 = gid L (6 * 4 ^ L) := by
  have o := gid_over hL
  have f := gid_first (L := L)
  have h1 := two_z (L := L)
  unfold gid at *
  rw [f] at o
  generalize gidN L (6 * 4 ^ L) = y at *
  generalize 2 ^ (60 - 2 * L) = z at *
  rw [Int.fmod_eq_emod_of_nonneg _ (by decide)]
  omega
theorem gid_int_lt {L p : Nat} (hL : L ≤ 30) (hp : p < 6 * 4 ^ L) : gid L p < 13835058055282163712 := by
  have := gid_lt4 hL hp
  unfold gid; omega
/-! steps ahead -/
theorem shr_ahead {L p : Nat} (hL : L ≤ 30) (hp : p < 6 * 4 ^ L) : (13835058055282163712 - gid L p).fdiv (2 ^ (2 * (30 - (L : Int)) + 1).toNat) = ((6 * 4 ^ L - 1 - p : Nat) : Int) := by
  have e : (13835058055282163712 - gid L p) = ((2 ^ ((60 - 2 * L) + 1) * (6 * 4 ^ L - 1 - p) + 2 ^ (60 - 2 * L) : Nat) : Int) := by
    have h := gid_lt4 hL hp
    have e60 := top_60 hL
    unfold gid gidN at *
    obtain ⟨r, hr⟩ : ∃ r, 6 * 4 ^ L = p + 1 + r := ⟨6 * 4 ^ L - 1 - p, by omega⟩
    rw [show 6 * 4 ^ L - 1 - p = r by omega]
    have e2 : 6 * 2 ^ 61 = 2 * (6 * 4 ^ L) * 2 ^ (60 - 2 * L) := by rw [show 2 * (6 * 4 ^ L) = 12 * 4 ^ L by omega, Nat.mul_assoc, ← e60]
    rw [hr] at e2
    have e3 : 2 * (p + 1 + r) * 2 ^ (60 - 2 * L) = (2 * p + 1) * 2 ^ (60 - 2 * L) + (2 ^ (60 - 2 * L + 1) * r + 2 ^ (60 - 2 * L)) := by
      rw [Nat.pow_succ]
      generalize 2 ^ (60 - 2 * L) = z
      grind
    rw [e3] at e2
    generalize (2 * p + 1) * 2 ^ (60 - 2 * L) = u at *
    generalize (2 ^ (60 - 2 * L + 1) * r + 2 ^ (60 - 2 * L)) = v at *
    omega
  rw [e, show (2 * (30 - (L : Int)) + 1).toNat = (60 - 2 * L) + 1 by omega]
  have hz : 0 < 2 ^ (60 - 2 * L) := Nat.pow_pos (by decide)
  have : ((2 ^ ((60 - 2 * L) + 1) * (6 * 4 ^ L - 1 - p) + 2 ^ (60 - 2 * L) : Nat) : Int).fdiv (2 ^ ((60 - 2 * L) + 1)) = (((2 ^ ((60 - 2 * L) + 1) * (6 * 4 ^ L - 1 - p) + 2 ^ (60 - 2 * L)) / 2 ^ ((60 - 2 * L) + 1) : Nat) : Int) := by
    rw [← fdiv_nat]; congr 1
  rw [this, div_of rfl (by rw [Nat.pow_succ]; omega)]
theorem shr_whole {L : Nat} (hL : L ≤ 30) : (13835058055282163712 : Int).fdiv (2 ^ (2 * (30 - (L : Int)) + 1).toNat) = ((6 * 4 ^ L : Nat) : Int) := by
  rw [show (2 * (30 - (L : Int)) + 1).toNat = (60 - 2 * L) + 1 by omega]
  have e : (13835058055282163712 : Int) = ((2 ^ ((60 - 2 * L) + 1) * (6 * 4 ^ L) : Nat) : Int) := by
    have e60 := top_60 hL
    rw [Nat.pow_succ]
    have : 2 ^ (60 - 2 * L) * 2 * (6 * 4 ^ L) = 12 * (4 ^ L * 2 ^ (60 - 2 * L)) := by
      generalize 2 ^ (60 - 2 * L) = z
      grind
    rw [this, ← e60]
    rfl
  rw [e]
  have : ((2 ^ ((60 - 2 * L) + 1) * (6 * 4 ^ L) : Nat) : Int).fdiv (2 ^ ((60 - 2 * L) + 1)) = (((2 ^ ((60 - 2 * L) + 1) * (6 * 4 ^ L)) / 2 ^ ((60 - 2 * L) + 1) : Nat) : Int) := by
    rw [← fdiv_nat]; congr 1
  rw [this, Nat.mul_div_cancel_left _ (Nat.pow_pos (by decide))]
theorem step_int4 {L p q : Nat} {n : Int} (hL : L ≤ 30) (e : (q : Int) = p + n) : gid L p + n * 2 ^ (2 * (30 - (L : Int)) + 1).toNat = gid L q := step_int hL e
theorem dec_tt {P : Prop} {i : Decidable P} (h : P) : @decide P i = true := @decide_eq_true P i h
theorem dec_ff {P : Prop} {i : Decidable P} (h : ¬P) : @decide P i = false := @decide_eq_false P i h
theorem z_small {L : Nat} : (((2 ^ (60 - 2 * L) : Nat) : Int)).natAbs < 2 ^ 100 := by
  rw [Int.natAbs_natCast]
  have := two_z (L := L)
  omega
end Mine
end Part37
section Part38
set_option maxRecDepth 100000
set_option autoImplicit false
set_option linter.unusedVariables false
namespace Mine
/-! for the law's helpers -/
theorem gid_inj {L p q : Nat} (h : gid L p = gid L q) : p = q := by
  unfold gid gidN at h
  have h1 := Int.ofNat.inj h
  have := Nat.eq_of_mul_eq_mul_right (Nat.pow_pos (by decide)) h1
  omega
theorem gid_beq {L p q : Nat} : (gid L p == gid L q) = decide (p = q) := by
  by_cases h : p = q
  · subst h; simp
  · rw [decide_eq_false h]
    exact beq_eq_false_iff_ne.mpr fun e => h (gid_inj e)
def lft (c g t : Nat) : Bool := decide ((t + 4 - g) % 4 < (c + 4 - g) % 4)
theorem fr_lft {b c g t : Nat} (h : fr b c g t = true) : t ≠ c ∧ t ≠ g ∧ lft c g t = (b == 0) := by
  unfold fr at h
  simp only [Bool.and_eq_true, bne_iff_ne, beq_iff_eq] at h
  exact ⟨h.1.1, h.1.2, h.2⟩
theorem lft_fr {c g t : Nat} (h1 : t ≠ c) (h2 : t ≠ g) : fr (if lft c g t = true then 0 else 1) c g t = true := by
  unfold fr
  simp only [Bool.and_eq_true, bne_iff_ne, beq_iff_eq]
  refine ⟨⟨h1, h2⟩, ?_⟩
  show lft c g t = _
  cases lft c g t <;> rfl
theorem mod4 {t g : Nat} (ht : t < 4) (hg : g < 4) : ((t : Int) - (g : Int)).fmod 4 = (((t + 4 - g) % 4 : Nat) : Int) := by
  rw [Int.fmod_eq_emod_of_nonneg _ (by decide)]; omega
theorem pick_one : ∀ k < 4, ((([0, 1, 2, 3] : List Nat).filter fun t => decide (t = k)) = [k]) := by decide
theorem free_two (c g : Nat) (hc : c < 4) (hg : g < 4) (h : c ≠ g) : ∃ t u, (([0, 1, 2, 3] : List Nat).filter fun t => decide (t ≠ c) && decide (t ≠ g)) = [t, u] ∧ t < 4 ∧ u < 4 ∧ t ≠ c ∧ t ≠ g ∧ u ≠ c ∧ u ≠ g := by
  have : c = 0 ∨ c = 1 ∨ c = 2 ∨ c = 3 := by omega
  have : g = 0 ∨ g = 1 ∨ g = 2 ∨ g = 3 := by omega
  rcases ‹c = 0 ∨ _› with rfl | rfl | rfl | rfl <;> rcases ‹g = 0 ∨ _› with rfl | rfl | rfl | rfl <;> first | (exact absurd rfl h) | (exact ⟨_, _, rfl, by decide, by decide, by decide, by decide, by decide, by decide⟩)
/-- the place of the square next to it -/
def eI (t : Nat) (I S : Int) : Int := match t with | 1 => I + S | 3 => I + -S | _ => I
def eJ (t : Nat) (J S : Int) : Int := match t with | 2 => J + S | 0 => J + -S | _ => J
theorem EA_eI {t : Nat} {I J S : Int} (ht : t < 4) : ∃ b : Bool, EA t I J S (eI t I S) (eJ t J S) b := by
  match t, ht with
  | 0, _ => exact ⟨decide (0 ≤ J - S), rfl, (by show J + -S = J - S; omega), decide_eq_true_iff⟩
  | 1, _ => exact ⟨decide (I + S < 1073741824), rfl, rfl, decide_eq_true_iff⟩
  | 2, _ => exact ⟨decide (J + S < 1073741824), rfl, rfl, decide_eq_true_iff⟩
  | 3, _ => exact ⟨decide (0 ≤ I - S), (by show I + -S = I - S; omega), rfl, decide_eq_true_iff⟩
  | t + 4, h => omega
theorem ahead_lt {L a x : Nat} : ahead L a x < 6 * 4 ^ L := Nat.mod_lt _ (by have := many_p L; omega)
theorem ahead_step {L a n : Nat} (ha : a < 6 * 4 ^ L) (hn : n < 6 * 4 ^ L) : ahead L a ((a + n) % (6 * 4 ^ L)) = n := by
  unfold ahead
  generalize 6 * 4 ^ L = N at *
  by_cases h : a + n < N
  · rw [Nat.mod_eq_of_lt h, show a + n + (N - a) = n + N by omega, Nat.add_mod_right, Nat.mod_eq_of_lt hn]
  · have e : (a + n) % N = a + n - N := by rw [Nat.mod_eq_sub_mod (by omega), Nat.mod_eq_of_lt (by omega)]
    rw [e, show a + n - N + (N - a) = n by omega, Nat.mod_eq_of_lt hn]
theorem many_int {L : Nat} : (6 : Int) * 2 ^ (2 * (L : Int)).toNat = ((6 * 4 ^ L : Nat) : Int) := by
  rw [show (2 * (L : Int)).toNat = 2 * L by omega, ← pow4, Int.natCast_mul, Int.natCast_pow]; rfl
theorem shr_down {L p : Nat} (hL : L ≤ 30) : (gid L p).fdiv (2 ^ (61 - 2 * (L : Int)).toNat) = (p : Int) := by
  have := shr_pos (p := p) hL
  rw [show (2 * (30 - (L : Int)) + 1) = 61 - 2 * (L : Int) by omega] at this
  exact this
theorem mod_ahead {L a x : Nat} (ha : a < 6 * 4 ^ L) : ((x : Int) - (a : Int)).fmod ((6 * 4 ^ L : Nat) : Int) = (ahead L a x : Int) := by
  have := many_p L
  unfold ahead
  rw [← fmod_nat, show ((x + (6 * 4 ^ L - a) : Nat) : Int) = ((x : Int) - (a : Int)) + ((6 * 4 ^ L : Nat) : Int) by omega]
  rw [Int.fmod_eq_emod_of_nonneg _ (by omega), Int.fmod_eq_emod_of_nonneg _ (by omega), Int.add_emod_right]
/-- the square next to it lies on the face just where the side is no rim -/
theorem rim_off {L t x y μ ν : Nat} {i j : Int} (hL : L ≤ 30) (ht : t < 4) (hx : x < 2 ^ L) (hy : y < 2 ^ L) (hμ : μ < 2 ^ (30 - L)) (hν : ν < 2 ^ (30 - L)) (h : rim L t x y) {b : Bool}
    (e : EA t ((x * 2 ^ (30 - L) + μ : Nat) : Int) ((y * 2 ^ (30 - L) + ν : Nat) : Int) ((2 ^ (30 - L) : Nat) : Int) i j b) : ¬(0 ≤ i ∧ i < 1073741824 ∧ 0 ≤ j ∧ j < 1073741824) := by
  match t, ht with
  | 0, _ =>
    obtain ⟨rfl, rfl, eb⟩ := e
    have h0 : y = 0 := by simpa [rim] using h
    have := fun k => (low_iff (L := L) (x := y) (μ := ν) hν).mp k h0
    intro k; exact this k.2.2.1
  | 1, _ =>
    obtain ⟨rfl, rfl, eb⟩ := e
    have h0 : x + 1 = 2 ^ L := by simpa [rim] using h
    have := fun k => (high_iff (L := L) (x := x) (μ := μ) hL hx hμ).mp k h0
    intro k; exact this k.2.1
  | 2, _ =>
    obtain ⟨rfl, rfl, eb⟩ := e
    have h0 : y + 1 = 2 ^ L := by simpa [rim] using h
    have := fun k => (high_iff (L := L) (x := y) (μ := ν) hL hy hν).mp k h0
    intro k; exact this k.2.2.2
  | 3, _ =>
    obtain ⟨rfl, rfl, eb⟩ := e
    have h0 : x = 0 := by simpa [rim] using h
    have := fun k => (low_iff (L := L) (x := x) (μ := μ) hμ).mp k h0
    intro k; exact this k.1
  | t + 4, h => omega
theorem part_sq {L I : Nat} : I / 2 ^ (30 - L) * 2 ^ (30 - L) + I % 2 ^ (30 - L) = I := by
  rw [Nat.mul_comm]; exact Nat.div_add_mod I _
theorem sq_lt {L I : Nat} (hL : L ≤ 30) (hI : I < 2 ^ 30) : I / 2 ^ (30 - L) < 2 ^ L := by
  rw [Nat.div_lt_iff_lt_mul (Nat.pow_pos (by decide)), ← p30 hL]; exact hI
end Mine
end Part38
section Part39
open PySem PySem.W PyProof.Rows
set_option Elab.async false
set_option maxRecDepth 100000
set_option maxHeartbeats 8000000
namespace Mine
open_top hd for PySem.Challenge.rw_eg5039_04
end Mine
end Part39
section Part40
open PySem PySem.W PySem.Calls
set_option maxRecDepth 100000
set_option autoImplicit false
set_option linter.unusedVariables false
set_option maxHeartbeats 4000000
namespace Mine
@[reducible] noncomputable def gl (w : World) (mean : ExcName → Option Value) (mg mb : Str → Option Value) : Gl :=
  { prog := PySem.Challenge.pw_eg5039_04, w := w, K := Mine.hd.heap_39 w.params, p := Mine.hd.view_39, loose := looseW Mine.hd.view_39 [Str.ofString "POS_TO_ORIENTATION", Str.ofString "LOOKUP_POS", Str.ofString "LOOKUP_IJ", Str.ofString "CellId"],
    mean := mean, mg := mg, mb := mb, C := 561, CP := 134 }
section
variable {w : World} {mean : ExcName → Option Value} {mg mb : Str → Option Value}
theorem own_id : OwnAttr (gl w mean mg mb) (gl w mean mg mb).C "_CellId__id" := ⟨by kernel_rfl, by kernel_rfl, by kernel_rfl⟩
theorem cls_attr : ClassAttr (gl w mean mg mb) (gl w mean mg mb).C := ⟨by kernel_rfl, by kernel_rfl, by kernel_rfl, by kernel_rfl, by kernel_rfl, by kernel_rfl, by kernel_rfl⟩
theorem keep_C : keepIn (gl w mean mg mb).K (.ref (gl w mean mg mb).C) = true := by kernel_rfl
theorem isin_C : isIn (gl w mean mg mb).K (.ref (gl w mean mg mb).C) (gl w mean mg mb).C = true := by kernel_rfl
theorem new_C : NewAt (gl w mean mg mb) (gl w mean mg mb).C 172 "_CellId__id" := ⟨by kernel_rfl, by kernel_rfl, by kernel_rfl, by kernel_rfl, by kernel_rfl, by kernel_rfl, by kernel_rfl, by kernel_rfl⟩
theorem cmp_Eq : CmpAt (gl w mean mg mb) (gl w mean mg mb).C .Eq 193 := ⟨by kernel_rfl, by kernel_rfl, by kernel_rfl⟩
theorem cmp_NotEq : CmpAt (gl w mean mg mb) (gl w mean mg mb).C .NotEq 200 := ⟨by kernel_rfl, by kernel_rfl, by kernel_rfl⟩
theorem cmp_Lt : CmpAt (gl w mean mg mb) (gl w mean mg mb).C .Lt 207 := ⟨by kernel_rfl, by kernel_rfl, by kernel_rfl⟩
@[reducible] def f_init : Addr := 172
@[reducible] def f_eq : Addr := 193
theorem m_eq : MethOf (gl w mean mg mb) (gl w mean mg mb).C "__eq__" 193 := ⟨by kernel_rfl, by kernel_rfl, by kernel_rfl, by kernel_rfl, by decide⟩
@[reducible] def f_ne : Addr := 200
@[reducible] def f_lt : Addr := 207
@[reducible] def f_from_face_ij : Addr := 245
theorem cm_from_face_ij : CmOf (gl w mean mg mb) (gl w mean mg mb).C "from_face_ij" 247 245 [Value.bool false] := ⟨by kernel_rfl, by kernel_rfl, by kernel_rfl, by kernel_rfl, by kernel_rfl, by kernel_rfl⟩
@[reducible] def f_from_face_ij_wrap : Addr := 255
theorem cm_from_face_ij_wrap : CmOf (gl w mean mg mb) (gl w mean mg mb).C "from_face_ij_wrap" 257 255 [Value.bool false] := ⟨by kernel_rfl, by kernel_rfl, by kernel_rfl, by kernel_rfl, by kernel_rfl, by kernel_rfl⟩
@[reducible] def f_from_face_ij_same : Addr := 265
theorem cm_from_face_ij_same : CmOf (gl w mean mg mb) (gl w mean mg mb).C "from_face_ij_same" 267 265 [Value.bool false] := ⟨by kernel_rfl, by kernel_rfl, by kernel_rfl, by kernel_rfl, by kernel_rfl, by kernel_rfl⟩
@[reducible] def f_st_to_ij : Addr := 275
theorem cm_st_to_ij : CmOf (gl w mean mg mb) (gl w mean mg mb).C "st_to_ij" 277 275 [Value.bool false] := ⟨by kernel_rfl, by kernel_rfl, by kernel_rfl, by kernel_rfl, by kernel_rfl, by kernel_rfl⟩
@[reducible] def f_lsb_for_level : Addr := 285
theorem cm_lsb_for_level : CmOf (gl w mean mg mb) (gl w mean mg mb).C "lsb_for_level" 287 285 [Value.bool false] := ⟨by kernel_rfl, by kernel_rfl, by kernel_rfl, by kernel_rfl, by kernel_rfl, by kernel_rfl⟩
@[reducible] def f_parent : Addr := 295
theorem m_parent : MethOf (gl w mean mg mb) (gl w mean mg mb).C "parent" 295 := ⟨by kernel_rfl, by kernel_rfl, by kernel_rfl, by kernel_rfl, by decide⟩
@[reducible] def f_is_face : Addr := 323
theorem m_is_face : MethOf (gl w mean mg mb) (gl w mean mg mb).C "is_face" 323 := ⟨by kernel_rfl, by kernel_rfl, by kernel_rfl, by kernel_rfl, by decide⟩
@[reducible] def f_id : Addr := 330
theorem m_id : MethOf (gl w mean mg mb) (gl w mean mg mb).C "id" 330 := ⟨by kernel_rfl, by kernel_rfl, by kernel_rfl, by kernel_rfl, by decide⟩
@[reducible] def f_is_valid : Addr := 337
theorem m_is_valid : MethOf (gl w mean mg mb) (gl w mean mg mb).C "is_valid" 337 := ⟨by kernel_rfl, by kernel_rfl, by kernel_rfl, by kernel_rfl, by decide⟩
@[reducible] def f_lsb : Addr := 344
theorem m_lsb : MethOf (gl w mean mg mb) (gl w mean mg mb).C "lsb" 344 := ⟨by kernel_rfl, by kernel_rfl, by kernel_rfl, by kernel_rfl, by decide⟩
@[reducible] def f_face : Addr := 351
theorem m_face : MethOf (gl w mean mg mb) (gl w mean mg mb).C "face" 351 := ⟨by kernel_rfl, by kernel_rfl, by kernel_rfl, by kernel_rfl, by decide⟩
@[reducible] def f_pos : Addr := 358
theorem m_pos : MethOf (gl w mean mg mb) (gl w mean mg mb).C "pos" 358 := ⟨by kernel_rfl, by kernel_rfl, by kernel_rfl, by kernel_rfl, by decide⟩
@[reducible] def f_is_leaf : Addr := 365
theorem m_is_leaf : MethOf (gl w mean mg mb) (gl w mean mg mb).C "is_leaf" 365 := ⟨by kernel_rfl, by kernel_rfl, by kernel_rfl, by kernel_rfl, by decide⟩
@[reducible] def f_level : Addr := 372
theorem m_level : MethOf (gl w mean mg mb) (gl w mean mg mb).C "level" 372 := ⟨by kernel_rfl, by kernel_rfl, by kernel_rfl, by kernel_rfl, by decide⟩
@[reducible] def f_prev : Addr := 393
theorem m_prev : MethOf (gl w mean mg mb) (gl w mean mg mb).C "prev" 393 := ⟨by kernel_rfl, by kernel_rfl, by kernel_rfl, by kernel_rfl, by decide⟩
@[reducible] def f_next : Addr := 400
theorem m_next : MethOf (gl w mean mg mb) (gl w mean mg mb).C "next" 400 := ⟨by kernel_rfl, by kernel_rfl, by kernel_rfl, by kernel_rfl, by decide⟩
@[reducible] def f_prev_wrap : Addr := 478
theorem m_prev_wrap : MethOf (gl w mean mg mb) (gl w mean mg mb).C "prev_wrap" 478 := ⟨by kernel_rfl, by kernel_rfl, by kernel_rfl, by kernel_rfl, by decide⟩
@[reducible] def f_next_wrap : Addr := 485
theorem m_next_wrap : MethOf (gl w mean mg mb) (gl w mean mg mb).C "next_wrap" 485 := ⟨by kernel_rfl, by kernel_rfl, by kernel_rfl, by kernel_rfl, by decide⟩
@[reducible] def f_advance_wrap : Addr := 492
theorem m_advance_wrap : MethOf (gl w mean mg mb) (gl w mean mg mb).C "advance_wrap" 492 := ⟨by kernel_rfl, by kernel_rfl, by kernel_rfl, by kernel_rfl, by decide⟩
@[reducible] def f_to_face_ij_orientation : Addr := 513
theorem m_to_face_ij_orientation : MethOf (gl w mean mg mb) (gl w mean mg mb).C "to_face_ij_orientation" 513 := ⟨by kernel_rfl, by kernel_rfl, by kernel_rfl, by kernel_rfl, by decide⟩
@[reducible] def f_get_edge_neighbors : Addr := 520
theorem m_get_edge_neighbors : MethOf (gl w mean mg mb) (gl w mean mg mb).C "get_edge_neighbors" 520 := ⟨by kernel_rfl, by kernel_rfl, by kernel_rfl, by kernel_rfl, by decide⟩
@[reducible] def f_get_size_ij : Addr := 541
theorem m_get_size_ij : MethOf (gl w mean mg mb) (gl w mean mg mb).C "get_size_ij" 541 := ⟨by kernel_rfl, by kernel_rfl, by kernel_rfl, by kernel_rfl, by decide⟩
theorem cv_MAX_LEVEL : ClsVal (gl w mean mg mb) (gl w mean mg mb).C "MAX_LEVEL" (.int 30 2423) := ⟨by kernel_rfl, by kernel_rfl, by kernel_rfl⟩
theorem cv_POS_BITS : ClsVal (gl w mean mg mb) (gl w mean mg mb).C "POS_BITS" (.int 61 2428) := ⟨by kernel_rfl, by kernel_rfl, by kernel_rfl⟩
theorem cv_MAX_SIZE : ClsVal (gl w mean mg mb) (gl w mean mg mb).C "MAX_SIZE" (.int 1073741824 2431) := ⟨by kernel_rfl, by kernel_rfl, by kernel_rfl⟩
theorem cv_WRAP_OFFSET : ClsVal (gl w mean mg mb) (gl w mean mg mb).C "WRAP_OFFSET" (.int 13835058055282163712 2433) := ⟨by kernel_rfl, by kernel_rfl, by kernel_rfl⟩
theorem cv_NUM_FACES : ClsVal (gl w mean mg mb) (gl w mean mg mb).C "NUM_FACES" (.int 6 2421) := ⟨by kernel_rfl, by kernel_rfl, by kernel_rfl⟩
theorem cv_FACE_BITS : ClsVal (gl w mean mg mb) (gl w mean mg mb).C "FACE_BITS" (.int 3 2419) := ⟨by kernel_rfl, by kernel_rfl, by kernel_rfl⟩
theorem g_Point : nsIn (gl w mean mg mb).K mainGlobals "Point" = some (some (.ref (gl w mean mg mb).CP)) := by kernel_rfl
theorem g_LOOKUP_BITS : nsIn (gl w mean mg mb).K mainGlobals "LOOKUP_BITS" = some (some (.int 4 339)) := by kernel_rfl
theorem g_SWAP_MASK : nsIn (gl w mean mg mb).K mainGlobals "SWAP_MASK" = some (some (.int 1 341)) := by kernel_rfl
theorem g_INVERT_MASK : nsIn (gl w mean mg mb).K mainGlobals "INVERT_MASK" = some (some (.int 2 343)) := by kernel_rfl
theorem g_POS_TO_ORIENTATION : nsIn (gl w mean mg mb).K mainGlobals "POS_TO_ORIENTATION" = some (some (.ref 139)) := by kernel_rfl
theorem g_LOOKUP_POS : nsIn (gl w mean mg mb).K mainGlobals "LOOKUP_POS" = some (some (.ref 148)) := by kernel_rfl
theorem g_LOOKUP_IJ : nsIn (gl w mean mg mb).K mainGlobals "LOOKUP_IJ" = some (some (.ref 157)) := by kernel_rfl
theorem g_CellId : nsIn (gl w mean mg mb).K mainGlobals "CellId" = some (some (.ref (gl w mean mg mb).C)) := by kernel_rfl
theorem g_quotient : nsIn (gl w mean mg mb).K mainGlobals "_quotient" = some (some (.ref 572)) := by kernel_rfl
@[reducible] def d_quotient : Addr := 572
theorem kp_quotient : keepIn (gl w mean mg mb).K (.ref 572) = true := by kernel_rfl
theorem g_valid_face_xyz_to_uv : nsIn (gl w mean mg mb).K mainGlobals "valid_face_xyz_to_uv" = some (some (.ref 579)) := by kernel_rfl
@[reducible] def d_valid_face_xyz_to_uv : Addr := 579
theorem kp_valid_face_xyz_to_uv : keepIn (gl w mean mg mb).K (.ref 579) = true := by kernel_rfl
theorem g_xyz_to_face_uv : nsIn (gl w mean mg mb).K mainGlobals "xyz_to_face_uv" = some (some (.ref 586)) := by kernel_rfl
@[reducible] def d_xyz_to_face_uv : Addr := 586
theorem kp_xyz_to_face_uv : keepIn (gl w mean mg mb).K (.ref 586) = true := by kernel_rfl
theorem g_face_uv_to_xyz : nsIn (gl w mean mg mb).K mainGlobals "face_uv_to_xyz" = some (some (.ref 593)) := by kernel_rfl
@[reducible] def d_face_uv_to_xyz : Addr := 593
theorem kp_face_uv_to_xyz : keepIn (gl w mean mg mb).K (.ref 593) = true := by kernel_rfl
theorem g_get_norm : nsIn (gl w mean mg mb).K mainGlobals "get_norm" = some (some (.ref 600)) := by kernel_rfl
@[reducible] def d_get_norm : Addr := 600
theorem kp_get_norm : keepIn (gl w mean mg mb).K (.ref 600) = true := by kernel_rfl
theorem g_law_place : nsIn (gl w mean mg mb).K mainGlobals "_law_place" = some (some (.ref 607)) := by kernel_rfl
@[reducible] def d_law_place : Addr := 607
theorem kp_law_place : keepIn (gl w mean mg mb).K (.ref 607) = true := by kernel_rfl
theorem g_law_ways : nsIn (gl w mean mg mb).K mainGlobals "_law_ways" = some (some (.ref 612)) := by kernel_rfl
@[reducible] def d_law_ways : Addr := 612
theorem kp_law_ways : keepIn (gl w mean mg mb).K (.ref 612) = true := by kernel_rfl
theorem g_law_left : nsIn (gl w mean mg mb).K mainGlobals "_law_left" = some (some (.ref 619)) := by kernel_rfl
@[reducible] def d_law_left : Addr := 619
theorem kp_law_left : keepIn (gl w mean mg mb).K (.ref 619) = true := by kernel_rfl
theorem g_law : nsIn (gl w mean mg mb).K mainGlobals "law" = some (some (.ref 624)) := by kernel_rfl
@[reducible] def d_law : Addr := 624
theorem kp_law : keepIn (gl w mean mg mb).K (.ref 624) = true := by kernel_rfl
theorem n_len : nsIn (gl w mean mg mb).K mainGlobals "len" = some none := by kernel_rfl
theorem bb_len : bootBuiltins "len" = some (.builtin "len") := by boot_fast
theorem n_range : nsIn (gl w mean mg mb).K mainGlobals "range" = some none := by kernel_rfl
theorem bb_range : bootBuiltins "range" = some (.type "range") := by boot_fast
theorem n_isinstance : nsIn (gl w mean mg mb).K mainGlobals "isinstance" = some none := by kernel_rfl
theorem bb_isinstance : bootBuiltins "isinstance" = some (.builtin "isinstance") := by boot_fast
theorem n_abs : nsIn (gl w mean mg mb).K mainGlobals "abs" = some none := by kernel_rfl
theorem bb_abs : bootBuiltins "abs" = some (.builtin "abs") := by boot_fast
theorem n_max : nsIn (gl w mean mg mb).K mainGlobals "max" = some none := by kernel_rfl
theorem bb_max : bootBuiltins "max" = some (.builtin "max") := by boot_fast
theorem n_min : nsIn (gl w mean mg mb).K mainGlobals "min" = some none := by kernel_rfl
theorem bb_min : bootBuiltins "min" = some (.builtin "min") := by boot_fast
theorem n_int : nsIn (gl w mean mg mb).K mainGlobals "int" = some none := by kernel_rfl
theorem bb_int : bootBuiltins "int" = some (.type "int") := by boot_fast
theorem n_bool : nsIn (gl w mean mg mb).K mainGlobals "bool" = some none := by kernel_rfl
theorem bb_bool : bootBuiltins "bool" = some (.type "bool") := by boot_fast
theorem n_list : nsIn (gl w mean mg mb).K mainGlobals "list" = some none := by kernel_rfl
theorem bb_list : bootBuiltins "list" = some (.type "list") := by boot_fast
theorem n_set : nsIn (gl w mean mg mb).K mainGlobals "set" = some none := by kernel_rfl
theorem bb_set : bootBuiltins "set" = some (.type "set") := by boot_fast
end
end Mine
end Part40
section Part41
open PySem PySem.W PySem.Calls
set_option maxRecDepth 100000
set_option autoImplicit false
set_option linter.unusedVariables false
set_option maxHeartbeats 4000000
namespace Mine
section
variable {w : World} {mean : ExcName → Option Value} {mg mb : Str → Option Value}
theorem pt_own : OwnAttr (gl w mean mg mb) (gl w mean mg mb).CP "_Point__point" := ⟨by kernel_rfl, by kernel_rfl, by kernel_rfl⟩
theorem pt_cls : ClassAttr (gl w mean mg mb) (gl w mean mg mb).CP := ⟨by kernel_rfl, by kernel_rfl, by kernel_rfl, by kernel_rfl, by kernel_rfl, by kernel_rfl, by kernel_rfl⟩
theorem keep_CP : keepIn (gl w mean mg mb).K (.ref (gl w mean mg mb).CP) = true := by kernel_rfl
theorem new_CP : NewAt (gl w mean mg mb) (gl w mean mg mb).CP 35 "_Point__point" := ⟨by kernel_rfl, by kernel_rfl, by kernel_rfl, by kernel_rfl, by kernel_rfl, by kernel_rfl, by kernel_rfl, by kernel_rfl⟩
@[reducible] def pf_init : Addr := 35
@[reducible] def pf_getitem : Addr := 42
@[reducible] def pf_add : Addr := 84
@[reducible] def pf_sub : Addr := 91
@[reducible] def pf_mul : Addr := 98
@[reducible] def pf_rmul : Addr := 105
@[reducible] def pf_neg : Addr := 49
@[reducible] def pf_eq : Addr := 56
@[reducible] def pf_largest_abs_component : Addr := 110
@[reducible] def pf_dot_prod : Addr := 124
theorem pt_item : ItemPt (gl w mean mg mb) 42 := ⟨by kernel_rfl, by kernel_rfl, by kernel_rfl⟩
theorem pt_add : AddPt (gl w mean mg mb) 84 := ⟨by kernel_rfl, by kernel_rfl, by kernel_rfl⟩
theorem pt_mul : MulPt (gl w mean mg mb) 98 (some (.builtin "int.__mul__")) (some (.builtin "int.__rmul__")) 105 := ⟨by kernel_rfl, by kernel_rfl, by kernel_rfl, by kernel_rfl, by kernel_rfl, by kernel_rfl, by kernel_rfl⟩
theorem pm_largest_abs_component : MethPt (gl w mean mg mb) "largest_abs_component" 110 := ⟨by kernel_rfl, by kernel_rfl, by kernel_rfl, by kernel_rfl, by decide⟩
theorem pm_dot_prod : MethPt (gl w mean mg mb) "dot_prod" 124 := ⟨by kernel_rfl, by kernel_rfl, by kernel_rfl, by kernel_rfl, by decide⟩
end
end Mine
end Part41
section Part42
open PySem PySem.W PySem.Calls
set_option maxRecDepth 100000
set_option autoImplicit false
set_option linter.unusedVariables false
namespace Mine


section
variable {w : World} {mean : ExcName → Option Value} {mg mb : Str → Option Value} {c : Cx} {σ : Sg}

theorem cl_id {n : Int} {Q : PV → Prop} (hr : c.Room 1) (h : Q (.int n)) : Cl (gl w mean mg mb) c σ (.ref f_id) [.cell n] Q := by
  refine cl_def (k := 0) (ns := ["self"]) (by rfl) (by kernel_rfl) hr (by (intro vs s hl; match vs, hl with | [_], _ => exact BindsTo.of_eq rfl)) (by decide) (by decide) (by decide) (fun A g0 fL hid hr' => ?_)
  with_reducible refine ex_cons ?_
  with_reducible refine' ex_return ?_
  (with_reducible refine' ev_Attr ?_ ?h_6); (case h_6 => with_unfolding_all rfl)
  (with_reducible refine' ev_name ?x_7 ?p_7 ?_ ?d_7); (case x_7 => rfl); (case p_7 => rfl); (case d_7 => decide)
  with_reducible refine' at_cell_id own_id ?_
  with_reducible refine seq_ret ?_
  with_reducible refine body_ret ?_
  exact h

theorem cl_lsb {L p : Nat} {Q : PV → Prop} (hr : c.Room 2) (h : Q (.int ((2 ^ (60 - 2 * L) : Nat) : Int))) : Cl (gl w mean mg mb) c σ (.ref f_lsb) [.cell (gid L p)] Q := by
  refine cl_def (k := 1) (ns := ["self"]) (by rfl) (by kernel_rfl) hr (by (intro vs s hl; match vs, hl with | [_], _ => exact BindsTo.of_eq rfl)) (by decide) (by decide) (by decide) (fun A g0 fL hid hr' => ?_)
  with_reducible refine ex_cons ?_
  with_reducible refine' ex_return ?_
  with_reducible refine' ev_BinOp ?_
  (with_reducible refine' ev_Method (pl := _) ?_ ?h_3); (case h_3 => with_unfolding_all rfl)
  (with_reducible refine' ev_name ?x_13 ?p_13 ?_ ?d_13); (case x_13 => rfl); (case p_13 => rfl); (case d_13 => decide)
  with_reducible refine' mth_cell0 m_id ?_
  (with_reducible refine' cl_id ?r_280 ?_); (case r_280 => (refine Cx.Room.le (by assumption) ?_; decide))
  with_reducible refine' ev_UnaryOp ?_
  (with_reducible refine' ev_Method (pl := _) ?_ ?h_290); (case h_290 => with_unfolding_all rfl)
  (with_reducible refine' ev_name ?x_310 ?p_310 ?_ ?d_310); (case x_310 => rfl); (case p_310 => rfl); (case d_310 => decide)
  with_reducible refine' mth_cell0 m_id ?_
  (with_reducible refine' cl_id ?r_668 ?_); (case r_668 => (refine Cx.Room.le (by assumption) ?_; decide))
  with_reducible refine' op_neg ?_
  with_reducible refine' op_and ?_
  with_reducible refine seq_ret ?_
  with_reducible refine body_ret ?_
  exact q_int (gid_lsb _ _) h

theorem cl_face {L p : Nat} {Q : PV → Prop} (hr : c.Room 2) (hL : L ≤ 30) (h : Q (.int ((p / 2 ^ (2 * L) : Nat) : Int))) : Cl (gl w mean mg mb) c σ (.ref f_face) [.cell (gid L p)] Q := by
  refine cl_def (k := 1) (ns := ["self"]) (by rfl) (by kernel_rfl) hr (by (intro vs s hl; match vs, hl with | [_], _ => exact BindsTo.of_eq rfl)) (by decide) (by decide) (by decide) (fun A g0 fL hid hr' => ?_)
  with_reducible refine ex_cons ?_
  with_reducible refine' ex_return ?_
  with_reducible refine' ev_BinOp ?_
  (with_reducible refine' ev_Method (pl := _) ?_ ?h_22); (case h_22 => with_unfolding_all rfl)
  (with_reducible refine' ev_name ?x_25 ?p_25 ?_ ?d_25); (case x_25 => rfl); (case p_25 => rfl); (case d_25 => decide)
  with_reducible refine' mth_cell0 m_id ?_
  (with_reducible refine' cl_id ?r_367 ?_); (case r_367 => (refine Cx.Room.le (by assumption) ?_; decide))
  (with_reducible refine' ev_Attr ?_ ?h_368); (case h_368 => with_unfolding_all rfl)
  (with_reducible refine' ev_Attr ?_ ?h_375); (case h_375 => with_unfolding_all rfl)
  (with_reducible refine' ev_name ?x_381 ?p_381 ?_ ?d_381); (case x_381 => rfl); (case p_381 => rfl); (case d_381 => decide)
  with_reducible refine' at_class cls_attr ?_
  with_reducible refine' at_cls_int cv_POS_BITS ?_
  (with_reducible refine' op_shr ?n_518 ?_); (case n_518 => decide)
  with_reducible refine seq_ret ?_
  with_reducible refine body_ret ?_
  exact q_int (face_int hL) h

theorem cl_is_leaf {L p : Nat} {Q : PV → Prop} (hr : c.Room 2) (hL : L ≤ 30) (h : Q (.bool (decide (L = 30)))) : Cl (gl w mean mg mb) c σ (.ref f_is_leaf) [.cell (gid L p)] Q := by
  refine cl_def (k := 1) (ns := ["self"]) (by rfl) (by kernel_rfl) hr (by (intro vs s hl; match vs, hl with | [_], _ => exact BindsTo.of_eq rfl)) (by decide) (by decide) (by decide) (fun A g0 fL hid hr' => ?_)
  with_reducible refine ex_cons ?_
  with_reducible refine' ex_return ?_
  (with_reducible refine' ev_Compare ?_ ?m_10); (case m_10 => with_unfolding_all rfl)
  with_reducible refine' ev_BinOp ?_
  (with_reducible refine' ev_Method (pl := _) ?_ ?h_12); (case h_12 => with_unfolding_all rfl)
  (with_reducible refine' ev_name ?x_24 ?p_24 ?_ ?d_24); (case x_24 => rfl); (case p_24 => rfl); (case d_24 => decide)
  with_reducible refine' mth_cell0 m_id ?_
  (with_reducible refine' cl_id ?r_326 ?_); (case r_326 => (refine Cx.Room.le (by assumption) ?_; decide))
  with_reducible refine' ev_int ?_
  with_reducible refine' op_and ?_
  with_reducible refine' ev_int ?_
  with_reducible refine' op_ne ?_
  with_reducible refine seq_ret ?_
  with_reducible refine body_ret ?_
  exact q_bool (leaf_bool hL) h

theorem cl_is_valid {L p : Nat} {Q : PV → Prop} (hr : c.Room 3) (hL : L ≤ 30) (hp : p < 6 * 2 ^ (2 * L)) (h : Q (.bool true)) : Cl (gl w mean mg mb) c σ (.ref f_is_valid) [.cell (gid L p)] Q := by
  refine cl_def (k := 2) (ns := ["self"]) (by rfl) (by kernel_rfl) hr (by (intro vs s hl; match vs, hl with | [_], _ => exact BindsTo.of_eq rfl)) (by decide) (by decide) (by decide) (fun A g0 fL hid hr' => ?_)
  with_reducible refine ex_cons ?_
  with_reducible refine' ex_return ?_
  with_reducible refine' ev_and ?_
  (with_reducible refine' ev_Compare ?_ ?m_21); (case m_21 => with_unfolding_all rfl)
  (with_reducible refine' ev_Method (pl := _) ?_ ?h_23); (case h_23 => with_unfolding_all rfl)
  (with_reducible refine' ev_name ?x_26 ?p_26 ?_ ?d_26); (case x_26 => rfl); (case p_26 => rfl); (case d_26 => decide)
  with_reducible refine' mth_cell0 m_face ?_
  (with_reducible refine' cl_face ?r_300 ?l_300 ?_); (case r_300 => (refine Cx.Room.le (by assumption) ?_; decide)); (case l_300 => (first | assumption | omega))
  (with_reducible refine' ev_Attr ?_ ?h_301); (case h_301 => with_unfolding_all rfl)
  (with_reducible refine' ev_Attr ?_ ?h_316); (case h_316 => with_unfolding_all rfl)
  (with_reducible refine' ev_name ?x_323 ?p_323 ?_ ?d_323); (case x_323 => rfl); (case p_323 => rfl); (case d_323 => decide)
  with_reducible refine' at_class cls_attr ?_
  with_reducible refine' at_cls_int cv_NUM_FACES ?_
  with_reducible refine' op_lt ?_
  with_reducible refine' opt_bool ?_
  refine ite_t (decide_eq_true (face_lt hp)) ?_
  with_reducible refine' ev_one ?_
  (with_reducible refine' ev_Compare ?_ ?m_449); (case m_449 => with_unfolding_all rfl)
  with_reducible refine' ev_BinOp ?_
  (with_reducible refine' ev_Method (pl := _) ?_ ?h_452); (case h_452 => with_unfolding_all rfl)
  (with_reducible refine' ev_name ?x_465 ?p_465 ?_ ?d_465); (case x_465 => rfl); (case p_465 => rfl); (case d_465 => decide)
  with_reducible refine' mth_cell0 m_lsb ?_
  (with_reducible refine' cl_lsb ?r_793 ?_); (case r_793 => (refine Cx.Room.le (by assumption) ?_; decide))
  with_reducible refine' ev_int ?_
  with_reducible refine' op_and ?_
  with_reducible refine' ev_int ?_
  with_reducible refine' op_ne ?_
  with_reducible refine seq_ret ?_
  with_reducible refine body_ret ?_
  exact q_bool (bne_iff_ne.mpr (valid_mask hL)) h

theorem cl_lsb_for_level {l : Nat} {C : Addr} {Q : PV → Prop} (hr : c.Room 1) (hC : C = (gl w mean mg mb).C) (hl : l ≤ 30) (h : Q (.int ((2 ^ (60 - 2 * l) : Nat) : Int))) : Cl (gl w mean mg mb) c σ (.ref f_lsb_for_level) [.raw (.ref C), .int (l : Int)] Q := by
  subst hC
  refine cl_def (k := 0) (ns := ["cls", "level"]) (by rfl) (by kernel_rfl) hr (by (intro vs s hl; match vs, hl with | [_, _], _ => exact BindsTo.of_eq rfl)) (by decide) (by decide) (by decide) (fun A g0 fL hid hr' => ?_)
  with_reducible refine ex_cons ?_
  with_reducible refine' ex_return ?_
  with_reducible refine' ev_BinOp ?_
  with_reducible refine' ev_int ?_
  with_reducible refine' ev_BinOp ?_
  with_reducible refine' ev_int ?_
  with_reducible refine' ev_BinOp ?_
  (with_reducible refine' ev_Attr ?_ ?h_53); (case h_53 => with_unfolding_all rfl)
  (with_reducible refine' ev_name ?x_55 ?p_55 ?_ ?d_55); (case x_55 => rfl); (case p_55 => rfl); (case d_55 => decide)
  with_reducible refine' at_cls_int cv_MAX_LEVEL ?_
  (with_reducible refine' ev_name ?x_165 ?p_165 ?_ ?d_165); (case x_165 => rfl); (case p_165 => rfl); (case d_165 => decide)
  with_reducible refine' op_sub ?_
  refine op_mul (mul_ok_l (by decide)) ?_
  refine op_shl (by omega) (shl_fits (by decide) (by omega) (by omega)) ?_
  with_reducible refine seq_ret ?_
  with_reducible refine body_ret ?_
  exact q_int (lsbl_int hl) h

theorem cl_new {n : Int} {C : Addr} {Q : PV → Prop} (hr : c.Room 2) (hC : C = (gl w mean mg mb).C) (h : Q (.cell (n.fmod 18446744073709551615))) : Cl (gl w mean mg mb) c σ (.ref C) [.int n] Q := by
  subst hC
  refine Mine.cl_new0 new_C (k := 0) (n0 := "self") (ns := ["id_"]) (R := fun x => x = .int (n.fmod 18446744073709551615)) (by rfl) (by kernel_rfl) hr ?_ (by decide) (by decide) (by decide) (by decide) (fun A g0 fL hid x hr' => ?_) ?_ (fun L => rfl)
  · intro v0 vs s X hl; match vs, hl with | [_], _ => exact binds_K X rfl (by rfl) rfl rfl rfl
  · with_reducible refine' ev_BinOp ?_
    (with_reducible refine' ev_name ?x_391 ?p_391 ?_ ?d_391); (case x_391 => rfl); (case p_391 => rfl); (case d_391 => decide)
    with_reducible refine' ev_int ?_
    (with_reducible refine' op_mod ?n_446 ?_); (case n_446 => decide)
    rfl
  · intro pv e H a d v hs sz tk h1 h2 rv
    subst e
    cases rv
    exact ⟨_, .cell h1 h2, h⟩

theorem cl_level {L p : Nat} {Q : PV → Prop} (hr : c.Room 3) (hL : L ≤ 30) (h : Q (.int (L : Int))) : Cl (gl w mean mg mb) c σ (.ref f_level) [.cell (gid L p)] Q := by
  refine cl_def (k := 2) (ns := ["self"]) (by rfl) (by kernel_rfl) hr (by (intro vs s hl; match vs, hl with | [_], _ => exact BindsTo.of_eq rfl)) (by decide) (by decide) (by decide) (fun A g0 fL hid hr' => ?_)
  with_reducible refine ex_cons ?_
  with_reducible refine' ex_if ?_
  (with_reducible refine' evt_of ?_ ?h_121); (case h_121 => with_unfolding_all rfl)
  (with_reducible refine' ev_Method (pl := _) ?_ ?h_125); (case h_125 => with_unfolding_all rfl)
  (with_reducible refine' ev_name ?x_137 ?p_137 ?_ ?d_137); (case x_137 => rfl); (case p_137 => rfl); (case d_137 => decide)
  with_reducible refine' mth_cell0 m_is_leaf ?_
  (with_reducible refine' cl_is_leaf ?r_491 ?l_491 ?_); (case r_491 => (refine Cx.Room.le (by assumption) ?_; decide)); (case l_491 => (first | assumption | omega))
  with_reducible refine' opt_bool ?_
  by_cases h30 : L = 30
  · refine ite_t (decide_eq_true h30) ?_
    with_reducible refine ex_cons ?_
    with_reducible refine' ex_return ?_
    (with_reducible refine' ev_Attr ?_ ?h_528); (case h_528 => with_unfolding_all rfl)
    (with_reducible refine' ev_Attr ?_ ?h_532); (case h_532 => with_unfolding_all rfl)
    (with_reducible refine' ev_name ?x_541 ?p_541 ?_ ?d_541); (case x_541 => rfl); (case p_541 => rfl); (case d_541 => decide)
    with_reducible refine' at_class cls_attr ?_
    with_reducible refine' at_cls_int cv_MAX_LEVEL ?_
    with_reducible refine seq_ret ?_
    with_reducible refine seq_ret ?_
    with_reducible refine body_ret ?_
    subst h30; exact h
  · refine ite_f (decide_eq_false h30) ?_
    with_reducible refine ex_nil ?_
    with_reducible refine seq_nxt ?_
    with_reducible refine ex_cons ?_
    (with_reducible refine' ex_assign ?_ ?k_730 ?l_730 ?s_730); (case k_730 => rfl); (case l_730 => rfl); (case s_730 => rfl)
    with_reducible refine' ev_BinOp ?_
    (with_reducible refine' ev_Method (pl := _) ?_ ?h_743); (case h_743 => with_unfolding_all rfl)
    (with_reducible refine' ev_name ?x_758 ?p_758 ?_ ?d_758); (case x_758 => rfl); (case p_758 => rfl); (case d_758 => decide)
    with_reducible refine' mth_cell0 m_id ?_
    (with_reducible refine' cl_id ?r_1191 ?_); (case r_1191 => (refine Cx.Room.le (by assumption) ?_; decide))
    with_reducible refine' ev_int ?_
    with_reducible refine' op_and ?_
    with_reducible refine seq_nxt ?_
    with_reducible refine ex_cons ?_
    (with_reducible refine' ex_assign ?_ ?k_1223 ?l_1223 ?s_1223); (case k_1223 => rfl); (case l_1223 => rfl); (case s_1223 => rfl)
    with_reducible refine' ev_UnaryOp ?_
    with_reducible refine' ev_int ?_
    with_reducible refine' op_neg ?_
    with_reducible refine seq_nxt ?_
    with_reducible refine ex_cons ?_
    with_reducible refine' ex_if ?_
    (with_reducible refine' evt_Compare ?_ ?m_1284); (case m_1284 => with_unfolding_all rfl)
    (with_reducible refine' ev_name ?x_1286 ?p_1286 ?_ ?d_1286); (case x_1286 => rfl); (case p_1286 => rfl); (case d_1286 => decide)
    with_reducible refine' ev_int ?_
    with_reducible refine' op_ne ?_
    with_reducible refine' opt_bool ?_
    by_cases h15 : 15 ≤ L
    · refine ite_t (bne_iff_ne.mpr (low_ne h15 hL).1) ?_
      with_reducible refine ex_cons ?_
      (with_reducible refine' ex_aug ?x_1398 ?p_1398 ?_ ?k_1398 ?l_1398); (case x_1398 => rfl); (case p_1398 => rfl); (case k_1398 => rfl); (case l_1398 => rfl)
      with_reducible refine' ev_int ?_
      with_reducible refine' iop_add ?_
      with_reducible refine seq_nxt ?_
      with_reducible refine ex_nil ?_
      with_reducible refine seq_nxt ?_
      with_reducible refine ex_cons ?_
      (with_reducible refine' ex_aug ?x_1494 ?p_1494 ?_ ?k_1494 ?l_1494); (case x_1494 => rfl); (case p_1494 => rfl); (case k_1494 => rfl); (case l_1494 => rfl)
      with_reducible refine' ev_UnaryOp ?_
      (with_reducible refine' ev_name ?x_1528 ?p_1528 ?_ ?d_1528); (case x_1528 => rfl); (case p_1528 => rfl); (case d_1528 => decide)
      with_reducible refine' op_neg ?_
      with_reducible refine' iop_and ?_
      with_reducible refine seq_nxt ?_
      with_reducible refine ex_cons ?_
      (with_reducible refine' ex_if_add ?x_1604 ?k_1604 ?l_1604 ?_); (case x_1604 => rfl); (case k_1604 => rfl); (case l_1604 => rfl)
      (with_reducible refine' evt_of ?_ ?h_1659); (case h_1659 => with_unfolding_all rfl)
      with_reducible refine' ev_BinOp ?_
      (with_reducible refine' ev_name ?x_1661 ?p_1661 ?_ ?d_1661); (case x_1661 => rfl); (case p_1661 => rfl); (case d_1661 => decide)
      with_reducible refine' ev_int ?_
      with_reducible refine' op_and ?_
      with_reducible refine' opt_int ?_
      with_reducible refine seq_nxt ?_
      with_reducible refine ex_cons ?_
      (with_reducible refine' ex_if_add ?x_1708 ?k_1708 ?l_1708 ?_); (case x_1708 => rfl); (case k_1708 => rfl); (case l_1708 => rfl)
      (with_reducible refine' evt_of ?_ ?h_1811); (case h_1811 => with_unfolding_all rfl)
      with_reducible refine' ev_BinOp ?_
      (with_reducible refine' ev_name ?x_1814 ?p_1814 ?_ ?d_1814); (case x_1814 => rfl); (case p_1814 => rfl); (case d_1814 => decide)
      with_reducible refine' ev_int ?_
      with_reducible refine' op_and ?_
      with_reducible refine' opt_int ?_
      with_reducible refine seq_nxt ?_
      with_reducible refine ex_cons ?_
      (with_reducible refine' ex_if_add ?x_1884 ?k_1884 ?l_1884 ?_); (case x_1884 => rfl); (case k_1884 => rfl); (case l_1884 => rfl)
      (with_reducible refine' evt_of ?_ ?h_1938); (case h_1938 => with_unfolding_all rfl)
      with_reducible refine' ev_BinOp ?_
      (with_reducible refine' ev_name ?x_1941 ?p_1941 ?_ ?d_1941); (case x_1941 => rfl); (case p_1941 => rfl); (case d_1941 => decide)
      with_reducible refine' ev_int ?_
      with_reducible refine' op_and ?_
      with_reducible refine' opt_int ?_
      with_reducible refine seq_nxt ?_
      with_reducible refine ex_cons ?_
      (with_reducible refine' ex_if_add ?x_2065 ?k_2065 ?l_2065 ?_); (case x_2065 => rfl); (case k_2065 => rfl); (case l_2065 => rfl)
      (with_reducible refine' evt_of ?_ ?h_2221); (case h_2221 => with_unfolding_all rfl)
      with_reducible refine' ev_BinOp ?_
      (with_reducible refine' ev_name ?x_2227 ?p_2227 ?_ ?d_2227); (case x_2227 => rfl); (case p_2227 => rfl); (case d_2227 => decide)
      with_reducible refine' ev_int ?_
      with_reducible refine' op_and ?_
      with_reducible refine' opt_int ?_
      with_reducible refine seq_nxt ?_
      with_reducible refine ex_cons ?_
      with_reducible refine' ex_assert ?_
      (with_reducible refine' evt_Compare ?_ ?m_2371); (case m_2371 => with_unfolding_all rfl)
      (with_reducible refine' ev_name ?x_2373 ?p_2373 ?_ ?d_2373); (case x_2373 => rfl); (case p_2373 => rfl); (case d_2373 => decide)
      with_reducible refine' ev_int ?_
      with_reducible refine' op_ge ?_
      with_reducible refine' opt_bool ?_
      have e : levSum (Builtin.bitAnd (Builtin.bitAnd (gid L p) 4294967295) (-(Builtin.bitAnd (gid L p) 4294967295))) (-1 + 16) = (L : Int) := by
        rw [(low_ne (p := p) h15 hL).2]; exact lev_low h15 (by omega)
      unfold levSum at e
      rw [e]
      refine ⟨decide_eq_true (by omega), ?_⟩
      with_reducible refine seq_nxt ?_
      with_reducible refine ex_cons ?_
      with_reducible refine' ex_assert ?_
      (with_reducible refine' evt_Compare ?_ ?m_2570); (case m_2570 => with_unfolding_all rfl)
      (with_reducible refine' ev_name ?x_2572 ?p_2572 ?_ ?d_2572); (case x_2572 => rfl); (case p_2572 => rfl); (case d_2572 => decide)
      (with_reducible refine' ev_Attr ?_ ?h_2704); (case h_2704 => with_unfolding_all rfl)
      (with_reducible refine' ev_Attr ?_ ?h_2707); (case h_2707 => with_unfolding_all rfl)
      (with_reducible refine' ev_name ?x_2708 ?p_2708 ?_ ?d_2708); (case x_2708 => rfl); (case p_2708 => rfl); (case d_2708 => decide)
      with_reducible refine' at_class cls_attr ?_
      with_reducible refine' at_cls_int cv_MAX_LEVEL ?_
      with_reducible refine' op_le ?_
      with_reducible refine' opt_bool ?_
      refine ⟨decide_eq_true (by omega), ?_⟩
      with_reducible refine seq_nxt ?_
      with_reducible refine ex_cons ?_
      with_reducible refine' ex_return ?_
      (with_reducible refine' ev_name ?x_3038 ?p_3038 ?_ ?d_3038); (case x_3038 => rfl); (case p_3038 => rfl); (case d_3038 => decide)
      with_reducible refine seq_ret ?_
      with_reducible refine body_ret ?_
      exact h
    · refine ite_f (by rw [low_zero (by omega)]; rfl) ?_
      with_reducible refine ex_cons ?_
      (with_reducible refine' ex_assign ?_ ?k_3116 ?l_3116 ?s_3116); (case k_3116 => rfl); (case l_3116 => rfl); (case s_3116 => rfl)
      with_reducible refine' ev_BinOp ?_
      with_reducible refine' ev_BinOp ?_
      (with_reducible refine' ev_Method (pl := _) ?_ ?h_3124); (case h_3124 => with_unfolding_all rfl)
      (with_reducible refine' ev_name ?x_3132 ?p_3132 ?_ ?d_3132); (case x_3132 => rfl); (case p_3132 => rfl); (case d_3132 => decide)
      with_reducible refine' mth_cell0 m_id ?_
      (with_reducible refine' cl_id ?r_3371 ?_); (case r_3371 => (refine Cx.Room.le (by assumption) ?_; decide))
      with_reducible refine' ev_int ?_
      (with_reducible refine' op_shr ?n_3413 ?_); (case n_3413 => decide)
      with_reducible refine' ev_int ?_
      with_reducible refine' op_and ?_
      with_reducible refine seq_nxt ?_
      with_reducible refine ex_nil ?_
      with_reducible refine seq_nxt ?_
      with_reducible refine ex_cons ?_
      (with_reducible refine' ex_aug ?x_3458 ?p_3458 ?_ ?k_3458 ?l_3458); (case x_3458 => rfl); (case p_3458 => rfl); (case k_3458 => rfl); (case l_3458 => rfl)
      with_reducible refine' ev_UnaryOp ?_
      (with_reducible refine' ev_name ?x_3496 ?p_3496 ?_ ?d_3496); (case x_3496 => rfl); (case p_3496 => rfl); (case d_3496 => decide)
      with_reducible refine' op_neg ?_
      with_reducible refine' iop_and ?_
      with_reducible refine seq_nxt ?_
      with_reducible refine ex_cons ?_
      (with_reducible refine' ex_if_add ?x_3576 ?k_3576 ?l_3576 ?_); (case x_3576 => rfl); (case k_3576 => rfl); (case l_3576 => rfl)
      (with_reducible refine' evt_of ?_ ?h_3607); (case h_3607 => with_unfolding_all rfl)
      with_reducible refine' ev_BinOp ?_
      (with_reducible refine' ev_name ?x_3610 ?p_3610 ?_ ?d_3610); (case x_3610 => rfl); (case p_3610 => rfl); (case d_3610 => decide)
      with_reducible refine' ev_int ?_
      with_reducible refine' op_and ?_
      with_reducible refine' opt_int ?_
      with_reducible refine seq_nxt ?_
      with_reducible refine ex_cons ?_
      (with_reducible refine' ex_if_add ?x_3631 ?k_3631 ?l_3631 ?_); (case x_3631 => rfl); (case k_3631 => rfl); (case l_3631 => rfl)
      (with_reducible refine' evt_of ?_ ?h_3641); (case h_3641 => with_unfolding_all rfl)
      with_reducible refine' ev_BinOp ?_
      (with_reducible refine' ev_name ?x_3643 ?p_3643 ?_ ?d_3643); (case x_3643 => rfl); (case p_3643 => rfl); (case d_3643 => decide)
      with_reducible refine' ev_int ?_
      with_reducible refine' op_and ?_
      with_reducible refine' opt_int ?_
      with_reducible refine seq_nxt ?_
      with_reducible refine ex_cons ?_
      (with_reducible refine' ex_if_add ?x_3656 ?k_3656 ?l_3656 ?_); (case x_3656 => rfl); (case k_3656 => rfl); (case l_3656 => rfl)
      (with_reducible refine' evt_of ?_ ?h_3671); (case h_3671 => with_unfolding_all rfl)
      with_reducible refine' ev_BinOp ?_
      (with_reducible refine' ev_name ?x_3673 ?p_3673 ?_ ?d_3673); (case x_3673 => rfl); (case p_3673 => rfl); (case d_3673 => decide)
      with_reducible refine' ev_int ?_
      with_reducible refine' op_and ?_
      with_reducible refine' opt_int ?_
      with_reducible refine seq_nxt ?_
      with_reducible refine ex_cons ?_
      (with_reducible refine' ex_if_add ?x_3691 ?k_3691 ?l_3691 ?_); (case x_3691 => rfl); (case k_3691 => rfl); (case l_3691 => rfl)
      (with_reducible refine' evt_of ?_ ?h_3714); (case h_3714 => with_unfolding_all rfl)
      with_reducible refine' ev_BinOp ?_
      (with_reducible refine' ev_name ?x_3716 ?p_3716 ?_ ?d_3716); (case x_3716 => rfl); (case p_3716 => rfl); (case d_3716 => decide)
      with_reducible refine' ev_int ?_
      with_reducible refine' op_and ?_
      with_reducible refine' opt_int ?_
      with_reducible refine seq_nxt ?_
      with_reducible refine ex_cons ?_
      with_reducible refine' ex_assert ?_
      (with_reducible refine' evt_Compare ?_ ?m_3760); (case m_3760 => with_unfolding_all rfl)
      (with_reducible refine' ev_name ?x_3761 ?p_3761 ?_ ?d_3761); (case x_3761 => rfl); (case p_3761 => rfl); (case d_3761 => decide)
      with_reducible refine' ev_int ?_
      with_reducible refine' op_ge ?_
      with_reducible refine' opt_bool ?_
      have e : levSum (Builtin.bitAnd (Builtin.bitAnd ((gid L p).fdiv (2 ^ Int.toNat 32)) 4294967295) (-(Builtin.bitAnd ((gid L p).fdiv (2 ^ Int.toNat 32)) 4294967295))) (-1) = (L : Int) := by
        rw [high_lsb (p := p) (by omega)]; exact lev_high (by omega)
      unfold levSum at e
      rw [e]
      refine ⟨decide_eq_true (by omega), ?_⟩
      with_reducible refine seq_nxt ?_
      with_reducible refine ex_cons ?_
      with_reducible refine' ex_assert ?_
      (with_reducible refine' evt_Compare ?_ ?m_3813); (case m_3813 => with_unfolding_all rfl)
      (with_reducible refine' ev_name ?x_3814 ?p_3814 ?_ ?d_3814); (case x_3814 => rfl); (case p_3814 => rfl); (case d_3814 => decide)
      (with_reducible refine' ev_Attr ?_ ?h_3845); (case h_3845 => with_unfolding_all rfl)
      (with_reducible refine' ev_Attr ?_ ?h_3851); (case h_3851 => with_unfolding_all rfl)
      (with_reducible refine' ev_name ?x_3852 ?p_3852 ?_ ?d_3852); (case x_3852 => rfl); (case p_3852 => rfl); (case d_3852 => decide)
      with_reducible refine' at_class cls_attr ?_
      with_reducible refine' at_cls_int cv_MAX_LEVEL ?_
      with_reducible refine' op_le ?_
      with_reducible refine' opt_bool ?_
      refine ⟨decide_eq_true (by omega), ?_⟩
      with_reducible refine seq_nxt ?_
      with_reducible refine ex_cons ?_
      with_reducible refine' ex_return ?_
      (with_reducible refine' ev_name ?x_3942 ?p_3942 ?_ ?d_3942); (case x_3942 => rfl); (case p_3942 => rfl); (case d_3942 => decide)
      with_reducible refine seq_ret ?_
      with_reducible refine body_ret ?_
      exact h

theorem cl_parent {L l p : Nat} {Q : PV → Prop} (hr : c.Room 4) (hL : L ≤ 30) (hl : l ≤ L) (hp : p < 6 * 2 ^ (2 * L)) (h : Q (.cell (gid l (p / 2 ^ (2 * (L - l)))))) : Cl (gl w mean mg mb) c σ (.ref f_parent) [.cell (gid L p), .int (l : Int)] Q := by
  refine cl_rest (k := 3) (n0 := "self") (n1 := "args") (xs := [.int (l : Int)]) (by rfl) (by kernel_rfl) hr (by simp) (by (intro v0 vs hl; match vs, hl with | [_], _ => exact ⟨_, rfl, fun _ => rfl⟩)) (by decide) (by decide) (by decide) (fun A g0 fL hid hr' => ?_)
  with_reducible refine ex_cons ?_
  with_reducible refine' ex_assert ?_
  (with_reducible refine' evt_of ?_ ?h_177); (case h_177 => with_unfolding_all rfl)
  (with_reducible refine' ev_Method (pl := _) ?_ ?h_178); (case h_178 => with_unfolding_all rfl)
  (with_reducible refine' ev_name ?x_189 ?p_189 ?_ ?d_189); (case x_189 => rfl); (case p_189 => rfl); (case d_189 => decide)
  with_reducible refine' mth_cell0 m_is_valid ?_
  (with_reducible refine' cl_is_valid ?r_619 ?l_619 ?p_619 ?_); (case r_619 => (refine Cx.Room.le (by assumption) ?_; decide)); (case l_619 => (first | assumption | omega)); (case p_619 => (first | assumption | omega))
  with_reducible refine' opt_bool ?_
  with_reducible refine' and_tt ?_
  with_reducible refine seq_nxt ?_
  with_reducible refine ex_cons ?_
  with_reducible refine' ex_if ?_
  (with_reducible refine' evt_Compare ?_ ?m_640); (case m_640 => with_unfolding_all rfl)
  (with_reducible refine' ev_Call ?_ ?h_647); (case h_647 => with_unfolding_all rfl)
  (with_reducible refine' ev_builtin n_len bb_len ?k_736 ?_ ?n_736 ?d_736); (case k_736 => rfl); (case n_736 => decide); (case d_736 => decide)
  (with_reducible refine' cw_builtin ?_ ?h_785 ?p_785); (case h_785 => with_unfolding_all rfl); (case p_785 => with_unfolding_all rfl)
  (with_reducible refine' evl_cons ?_ ?h_797); (case h_797 => with_unfolding_all rfl)
  (with_reducible refine' ev_name ?x_801 ?p_801 ?_ ?d_801); (case x_801 => rfl); (case p_801 => rfl); (case d_801 => decide)
  with_reducible refine' evl_nil ?_
  (with_reducible refine' b_len_tup ?l_839 ?_); (case l_839 => first | decide | (simp; done))
  with_reducible refine' ev_int ?_
  with_reducible refine' op_eq ?_
  with_reducible refine' opt_bool ?_
  (refine' ite_f ?h ?_; (case h => first | rfl | decide | (simp; done)))
  with_reducible refine ex_cons ?_
  with_reducible refine' ex_if ?_
  (with_reducible refine' evt_Compare ?_ ?m_870); (case m_870 => with_unfolding_all rfl)
  (with_reducible refine' ev_Call ?_ ?h_876); (case h_876 => with_unfolding_all rfl)
  (with_reducible refine' ev_builtin n_len bb_len ?k_939 ?_ ?n_939 ?d_939); (case k_939 => rfl); (case n_939 => decide); (case d_939 => decide)
  (with_reducible refine' cw_builtin ?_ ?h_1017 ?p_1017); (case h_1017 => with_unfolding_all rfl); (case p_1017 => with_unfolding_all rfl)
  (with_reducible refine' evl_cons ?_ ?h_1025); (case h_1025 => with_unfolding_all rfl)
  (with_reducible refine' ev_name ?x_1027 ?p_1027 ?_ ?d_1027); (case x_1027 => rfl); (case p_1027 => rfl); (case d_1027 => decide)
  with_reducible refine' evl_nil ?_
  (with_reducible refine' b_len_tup ?l_1060 ?_); (case l_1060 => first | decide | (simp; done))
  with_reducible refine' ev_int ?_
  with_reducible refine' op_eq ?_
  with_reducible refine' opt_bool ?_
  (refine' ite_t ?h ?_; (case h => first | rfl | decide | (simp; done) | (simp; omega)))
  with_reducible refine ex_cons ?_
  (with_reducible refine' ex_assign ?_ ?k_1096 ?l_1096 ?s_1096); (case k_1096 => rfl); (case l_1096 => rfl); (case s_1096 => rfl)
  with_reducible refine' ev_Subscript ?_
  (with_reducible refine' ev_name ?x_1131 ?p_1131 ?_ ?d_1131); (case x_1131 => rfl); (case p_1131 => rfl); (case d_1131 => decide)
  with_reducible refine' ev_int ?_
  (with_reducible refine' op_item_tup ?a_1212 ?b_1212 ?j_1212 ?x_1212 ?_ ?s_1212); (case a_1212 => decide); (case b_1212 => decide); (case j_1212 => rfl); (case x_1212 => rfl); (case s_1212 => intros; with_unfolding_all rfl)
  with_reducible refine seq_nxt ?_
  with_reducible refine ex_cons ?_
  with_reducible refine' ex_assert ?_
  (with_reducible refine' evt_Compare ?_ ?m_1254); (case m_1254 => with_unfolding_all rfl)
  (with_reducible refine' ev_name ?x_1256 ?p_1256 ?_ ?d_1256); (case x_1256 => rfl); (case p_1256 => rfl); (case d_1256 => decide)
  with_reducible refine' ev_int ?_
  with_reducible refine' op_ge ?_
  with_reducible refine' opt_bool ?_
  refine ⟨decide_eq_true (by omega), ?_⟩
  with_reducible refine seq_nxt ?_
  with_reducible refine ex_cons ?_
  with_reducible refine' ex_assert ?_
  (with_reducible refine' evt_Compare ?_ ?m_1385); (case m_1385 => with_unfolding_all rfl)
  (with_reducible refine' ev_name ?x_1387 ?p_1387 ?_ ?d_1387); (case x_1387 => rfl); (case p_1387 => rfl); (case d_1387 => decide)
  (with_reducible refine' ev_Method (pl := _) ?_ ?h_1449); (case h_1449 => with_unfolding_all rfl)
  (with_reducible refine' ev_name ?x_1504 ?p_1504 ?_ ?d_1504); (case x_1504 => rfl); (case p_1504 => rfl); (case d_1504 => decide)
  with_reducible refine' mth_cell0 m_level ?_
  (with_reducible refine' cl_level ?r_1854 ?l_1854 ?_); (case r_1854 => (refine Cx.Room.le (by assumption) ?_; decide)); (case l_1854 => (first | assumption | omega))
  with_reducible refine' op_le ?_
  with_reducible refine' opt_bool ?_
  refine ⟨decide_eq_true (by omega), ?_⟩
  with_reducible refine seq_nxt ?_
  with_reducible refine ex_cons ?_
  (with_reducible refine' ex_assign ?_ ?k_1903 ?l_1903 ?s_1903); (case k_1903 => rfl); (case l_1903 => rfl); (case s_1903 => rfl)
  (with_reducible refine' ev_Method (pl := _) ?_ ?h_1920); (case h_1920 => with_unfolding_all rfl)
  (with_reducible refine' ev_Attr ?_ ?h_1940); (case h_1940 => with_unfolding_all rfl)
  (with_reducible refine' ev_name ?x_1944 ?p_1944 ?_ ?d_1944); (case x_1944 => rfl); (case p_1944 => rfl); (case d_1944 => decide)
  with_reducible refine' at_class cls_attr ?_
  (with_reducible refine' mth_cls cm_lsb_for_level ?_ ?h_2173 ?p_2173); (case h_2173 => with_unfolding_all rfl); (case p_2173 => with_unfolding_all rfl)
  (with_reducible refine' evl_cons ?_ ?h_2178); (case h_2178 => with_unfolding_all rfl)
  (with_reducible refine' ev_name ?x_2181 ?p_2181 ?_ ?d_2181); (case x_2181 => rfl); (case p_2181 => rfl); (case d_2181 => decide)
  with_reducible refine' evl_nil ?_
  (with_reducible refine' cl_lsb_for_level ?r_2240 ?c_2240 ?l_2240 ?_); (case r_2240 => (refine Cx.Room.le (by assumption) ?_; decide)); (case c_2240 => rfl); (case l_2240 => (first | assumption | omega))
  with_reducible refine seq_nxt ?_
  with_reducible refine ex_cons ?_
  with_reducible refine' ex_return ?_
  (with_reducible refine' ev_Method (pl := _) ?_ ?h_2254); (case h_2254 => with_unfolding_all rfl)
  (with_reducible refine' ev_name ?x_2287 ?p_2287 ?_ ?d_2287); (case x_2287 => rfl); (case p_2287 => rfl); (case d_2287 => decide)
  with_reducible refine' mth_class cls_attr ?_
  (with_reducible refine' cw_def keep_C ?_ ?h_2327 ?p_2327); (case h_2327 => with_unfolding_all rfl); (case p_2327 => with_unfolding_all rfl)
  (with_reducible refine' evl_cons ?_ ?h_2342); (case h_2342 => with_unfolding_all rfl)
  with_reducible refine' ev_BinOp ?_
  with_reducible refine' ev_BinOp ?_
  (with_reducible refine' ev_Method (pl := _) ?_ ?h_2357); (case h_2357 => with_unfolding_all rfl)
  (with_reducible refine' ev_name ?x_2376 ?p_2376 ?_ ?d_2376); (case x_2376 => rfl); (case p_2376 => rfl); (case d_2376 => decide)
  with_reducible refine' mth_cell0 m_id ?_
  (with_reducible refine' cl_id ?r_2732 ?_); (case r_2732 => (refine Cx.Room.le (by assumption) ?_; decide))
  with_reducible refine' ev_UnaryOp ?_
  (with_reducible refine' ev_name ?x_2743 ?p_2743 ?_ ?d_2743); (case x_2743 => rfl); (case p_2743 => rfl); (case d_2743 => decide)
  with_reducible refine' op_neg ?_
  with_reducible refine' op_and ?_
  (with_reducible refine' ev_name ?x_2831 ?p_2831 ?_ ?d_2831); (case x_2831 => rfl); (case p_2831 => rfl); (case d_2831 => decide)
  with_reducible refine' op_or ?_
  with_reducible refine' evl_nil ?_
  (with_reducible refine' cl_new ?r_2923 ?c_2923 ?_); (case r_2923 => (refine Cx.Room.le (by assumption) ?_; decide)); (case c_2923 => rfl)
  with_reducible refine seq_ret ?_
  with_reducible refine seq_ret ?_
  with_reducible refine seq_ret ?_
  with_reducible refine body_ret ?_
  rw [parent_int hl hL, gid_mod (by omega) (parent_lt hl hp)]
  exact h

theorem cl_eq {a b : Int} {Q : PV → Prop} (hr : c.Room 2) (h : Q (.bool (a == b))) : Cl (gl w mean mg mb) c σ (.ref f_eq) [.cell a, .cell b] Q := by
  refine cl_def (k := 1) (ns := ["self", "other"]) (by rfl) (by kernel_rfl) hr (by (intro vs s hl; match vs, hl with | [_, _], _ => exact BindsTo.of_eq rfl)) (by decide) (by decide) (by decide) (fun A g0 fL hid hr' => ?_)
  with_reducible refine ex_cons ?_
  with_reducible refine' ex_return ?_
  with_reducible refine' ev_and ?_
  (with_reducible refine' ev_Call ?_ ?h_749); (case h_749 => with_unfolding_all rfl)
  (with_reducible refine' ev_builtin n_isinstance bb_isinstance ?k_843 ?_ ?n_843 ?d_843); (case k_843 => rfl); (case n_843 => decide); (case d_843 => decide)
  (with_reducible refine' cw_builtin ?_ ?h_895 ?p_895); (case h_895 => with_unfolding_all rfl); (case p_895 => with_unfolding_all rfl)
  (with_reducible refine' evl_cons ?_ ?h_908); (case h_908 => with_unfolding_all rfl)
  (with_reducible refine' ev_name ?x_910 ?p_910 ?_ ?d_910); (case x_910 => rfl); (case p_910 => rfl); (case d_910 => decide)
  (with_reducible refine' evl_cons ?_ ?h_945); (case h_945 => with_unfolding_all rfl)
  (with_reducible refine' ev_Attr ?_ ?h_948); (case h_948 => with_unfolding_all rfl)
  (with_reducible refine' ev_name ?x_955 ?p_955 ?_ ?d_955); (case x_955 => rfl); (case p_955 => rfl); (case d_955 => decide)
  with_reducible refine' at_class cls_attr ?_
  with_reducible refine' evl_nil ?_
  with_reducible refine' b_isi_cell isin_C ?_
  with_reducible refine' opt_bool ?_
  (refine' ite_t ?h ?_; (case h => first | rfl | decide | (simp; done) | (simp; omega)))
  with_reducible refine' ev_one ?_
  (with_reducible refine' ev_Compare ?_ ?m_1019); (case m_1019 => with_unfolding_all rfl)
  (with_reducible refine' ev_Method (pl := _) ?_ ?h_1023); (case h_1023 => with_unfolding_all rfl)
  (with_reducible refine' ev_name ?x_1051 ?p_1051 ?_ ?d_1051); (case x_1051 => rfl); (case p_1051 => rfl); (case d_1051 => decide)
  with_reducible refine' mth_cell0 m_id ?_
  (with_reducible refine' cl_id ?r_1569 ?_); (case r_1569 => (refine Cx.Room.le (by assumption) ?_; decide))
  (with_reducible refine' ev_Method (pl := _) ?_ ?h_1572); (case h_1572 => with_unfolding_all rfl)
  (with_reducible refine' ev_name ?x_1607 ?p_1607 ?_ ?d_1607); (case x_1607 => rfl); (case p_1607 => rfl); (case d_1607 => decide)
  with_reducible refine' mth_cell0 m_id ?_
  (with_reducible refine' cl_id ?r_2059 ?_); (case r_2059 => (refine Cx.Room.le (by assumption) ?_; decide))
  with_reducible refine' op_eq ?_
  with_reducible refine seq_ret ?_
  with_reducible refine body_ret ?_
  exact h

theorem cl_ne {a b : Int} {Q : PV → Prop} (hr : c.Room 3) (h : Q (.bool (!(a == b)))) : Cl (gl w mean mg mb) c σ (.ref f_ne) [.cell a, .cell b] Q := by
  refine cl_def (k := 2) (ns := ["self", "other"]) (by rfl) (by kernel_rfl) hr (by (intro vs s hl; match vs, hl with | [_, _], _ => exact BindsTo.of_eq rfl)) (by decide) (by decide) (by decide) (fun A g0 fL hid hr' => ?_)
  with_reducible refine ex_cons ?_
  with_reducible refine' ex_return ?_
  with_reducible refine' ev_UnaryOp ?_
  (with_reducible refine' ev_Method (pl := _) ?_ ?h_906); (case h_906 => with_unfolding_all rfl)
  (with_reducible refine' ev_name ?x_922 ?p_922 ?_ ?d_922); (case x_922 => rfl); (case p_922 => rfl); (case d_922 => decide)
  (with_reducible refine' mth_cell m_eq ?_ ?h_1568 ?p_1568); (case h_1568 => with_unfolding_all rfl); (case p_1568 => with_unfolding_all rfl)
  (with_reducible refine' evl_cons ?_ ?h_1600); (case h_1600 => with_unfolding_all rfl)
  (with_reducible refine' ev_name ?x_1605 ?p_1605 ?_ ?d_1605); (case x_1605 => rfl); (case p_1605 => rfl); (case d_1605 => decide)
  with_reducible refine' evl_nil ?_
  (with_reducible refine' cl_eq ?r_1631 ?_); (case r_1631 => (refine Cx.Room.le (by assumption) ?_; decide))
  with_reducible refine' op_not ?_
  with_reducible refine' opt_bool ?_
  with_reducible refine seq_ret ?_
  with_reducible refine body_ret ?_
  exact h

end
end Mine
end Part42
section Part43
open PySem PySem.W PySem.Calls
set_option maxRecDepth 100000
set_option autoImplicit false
set_option linter.unusedVariables false
set_option maxHeartbeats 4000000
namespace Mine



section
variable {w : World} {mean : ExcName → Option Value} {mg mb : Str → Option Value} {c : Cx} {σ : Sg}
theorem rep_LOOKUP_IJ : ∀ H, (gl w mean mg mb).K.In H → Rep (gl w mean mg mb) H (.ref 157) (pvRows htab) := fun H X => rep_rows X (by kernel_rfl)
theorem rep_POS_TO_ORIENTATION : ∀ H, (gl w mean mg mb).K.In H → Rep (gl w mean mg mb) H (.ref 139) (pvInts [1, 0, 0, 3]) := fun H X => rep_ints X (by kernel_rfl)

theorem cl_to_face_ij_orientation {L p : Nat} {Q : PV → Prop} (hr : c.Room 4) (hL : L ≤ 30) (hp : p < 6 * 2 ^ (2 * L)) (h : Q (.tup [.int ((p / 2 ^ (2 * L) : Nat) : Int), .int ((hx L (p / 2 ^ (2 * L) % 2) p * 2 ^ (30 - L) + mid (ho L (p / 2 ^ (2 * L) % 2) p) (30 - L) : Nat) : Int), .int ((hy L (p / 2 ^ (2 * L) % 2) p * 2 ^ (30 - L) + mid (ho L (p / 2 ^ (2 * L) % 2) p) (30 - L) : Nat) : Int), .int ((ho L (p / 2 ^ (2 * L) % 2) p : Nat) : Int)])) : Cl (gl w mean mg mb) c σ (.ref f_to_face_ij_orientation) [.cell (gid L p)] Q := by
  refine cl_def (k := 3) (ns := ["self"]) (by rfl) (by kernel_rfl) hr (by (intro vs s hl; match vs, hl with | [_], _ => exact BindsTo.of_eq rfl)) (by decide) (by decide) (by decide) (fun A g0 fL hid hr' => ?_)
  with_reducible refine ex_cons ?_
  (with_reducible refine' ex_assign_tuple ?_ ?s_10 ?w_10); (case s_10 => rfl); (case w_10 => rfl)
  with_reducible refine' ev_Tuple ?_
  (with_reducible refine' evl_cons ?_ ?h_13); (case h_13 => with_unfolding_all rfl)
  with_reducible refine' ev_int ?_
  (with_reducible refine' evl_cons ?_ ?h_16); (case h_16 => with_unfolding_all rfl)
  with_reducible refine' ev_int ?_
  with_reducible refine' evl_nil ?_
  (with_reducible refine' And.intro ?a_20 ?_); (case a_20 => exact Nat.le_of_ble_eq_true rfl)
  (with_reducible refine' as_tuple ?_ ?n_22 ?s_22); (case n_22 => rfl); (case s_22 => rfl)
  (with_reducible refine' asE_cons ?k_23 ?l_23 ?_); (case k_23 => rfl); (case l_23 => rfl)
  (with_reducible refine' asE_cons ?k_24 ?l_24 ?_); (case k_24 => rfl); (case l_24 => rfl)
  with_reducible refine' asE_nil ?_
  with_reducible refine seq_nxt ?_
  with_reducible refine ex_cons ?_
  (with_reducible refine' ex_assign ?_ ?k_35 ?l_35 ?s_35); (case k_35 => rfl); (case l_35 => rfl); (case s_35 => rfl)
  (with_reducible refine' ev_Method (pl := _) ?_ ?h_36); (case h_36 => with_unfolding_all rfl)
  (with_reducible refine' ev_name ?x_37 ?p_37 ?_ ?d_37); (case x_37 => rfl); (case p_37 => rfl); (case d_37 => decide)
  with_reducible refine' mth_cell0 m_face ?_
  (with_reducible refine' cl_face ?r_51 ?l_51 ?_); (case r_51 => (refine Cx.Room.le (by assumption) ?_; decide)); (case l_51 => (first | assumption | omega))
  with_reducible refine seq_nxt ?_
  with_reducible refine ex_cons ?_
  (with_reducible refine' ex_assign ?_ ?k_60 ?l_60 ?s_60); (case k_60 => rfl); (case l_60 => rfl); (case s_60 => rfl)
  with_reducible refine' ev_BinOp ?_
  (with_reducible refine' ev_name ?x_62 ?p_62 ?_ ?d_62); (case x_62 => rfl); (case p_62 => rfl); (case d_62 => decide)
  (with_reducible refine' ev_global_int g_SWAP_MASK ?k_63 ?_ ?d_63); (case k_63 => rfl); (case d_63 => decide)
  with_reducible refine' op_and ?_
  with_reducible refine seq_nxt ?_
  with_reducible refine ex_cons ?_
  (with_reducible refine' ex_for ?_ ?t_75 ?s_75); (case t_75 => intro _ _; rfl); (case s_75 => intro _; rfl)
  (with_reducible refine' ev_Call ?_ ?h_77); (case h_77 => with_unfolding_all rfl)
  (with_reducible refine' ev_builtin n_range bb_range ?k_78 ?_ ?n_78 ?d_78); (case k_78 => rfl); (case n_78 => decide); (case d_78 => decide)
  (with_reducible refine' cw_type ?_ ?h_81 ?p_81); (case h_81 => with_unfolding_all rfl); (case p_81 => with_unfolding_all rfl)
  (with_reducible refine' evl_cons ?_ ?h_83); (case h_83 => with_unfolding_all rfl)
  with_reducible refine' ev_int ?_
  (with_reducible refine' evl_cons ?_ ?h_86); (case h_86 => with_unfolding_all rfl)
  with_reducible refine' ev_UnaryOp ?_
  with_reducible refine' ev_int ?_
  with_reducible refine' op_neg ?_
  (with_reducible refine' evl_cons ?_ ?h_91); (case h_91 => with_unfolding_all rfl)
  with_reducible refine' ev_UnaryOp ?_
  with_reducible refine' ev_int ?_
  with_reducible refine' op_neg ?_
  with_reducible refine' evl_nil ?_
  (with_reducible refine' b_range3 ?l_100 ?m_100 ?_); (case l_100 => decide); (case m_100 => decide)
  refine ⟨.int 7 :: (List.range 7).map fun i => .int ((6 - i : Nat) : Int), .rng (n := 8) (by decide) (by decide) (by rfl), ?_⟩
  have ho1 : p / 2 ^ (2 * L) % 2 < 2 := Nat.mod_lt _ (by decide)
  refine forL_cons rfl rfl ?_
  rw [and_1]
  with_reducible refine ex_cons ?_
  with_reducible refine' ex_if ?_
  (with_reducible refine' evt_Compare ?_ ?m_111); (case m_111 => with_unfolding_all rfl)
  (with_reducible refine' ev_name ?x_112 ?p_112 ?_ ?d_112); (case x_112 => rfl); (case p_112 => rfl); (case d_112 => decide)
  with_reducible refine' ev_int ?_
  with_reducible refine' op_eq ?_
  with_reducible refine' opt_bool ?_
  (with_reducible refine' ite_t ?h_117 ?_); (case h_117 => decide)
  with_reducible refine ex_cons ?_
  (with_reducible refine' ex_assign ?_ ?k_125 ?l_125 ?s_125); (case k_125 => rfl); (case l_125 => rfl); (case s_125 => rfl)
  with_reducible refine' ev_BinOp ?_
  (with_reducible refine' ev_Attr ?_ ?h_127); (case h_127 => with_unfolding_all rfl)
  (with_reducible refine' ev_Attr ?_ ?h_128); (case h_128 => with_unfolding_all rfl)
  (with_reducible refine' ev_name ?x_129 ?p_129 ?_ ?d_129); (case x_129 => rfl); (case p_129 => rfl); (case d_129 => decide)
  with_reducible refine' at_class cls_attr ?_
  with_reducible refine' at_cls_int cv_MAX_LEVEL ?_
  with_reducible refine' ev_BinOp ?_
  with_reducible refine' ev_int ?_
  (with_reducible refine' ev_global_int g_LOOKUP_BITS ?k_141 ?_ ?d_141); (case k_141 => rfl); (case d_141 => decide)
  (with_reducible refine' op_mul ?m_142 ?_); (case m_142 => first | exact mul_ok_l (by decide) | exact mul_ok_r (by decide))
  with_reducible refine' op_sub ?_
  with_reducible refine seq_nxt ?_
  with_reducible refine ex_nil ?_
  with_reducible refine seq_nxt ?_
  with_reducible refine ex_cons ?_
  (with_reducible refine' ex_aug ?x_156 ?p_156 ?_ ?k_156 ?l_156); (case x_156 => rfl); (case p_156 => rfl); (case k_156 => rfl); (case l_156 => rfl)
  with_reducible refine' ev_BinOp ?_
  with_reducible refine' ev_BinOp ?_
  with_reducible refine' ev_BinOp ?_
  (with_reducible refine' ev_Method (pl := _) ?_ ?h_160); (case h_160 => with_unfolding_all rfl)
  (with_reducible refine' ev_name ?x_161 ?p_161 ?_ ?d_161); (case x_161 => rfl); (case p_161 => rfl); (case d_161 => decide)
  with_reducible refine' mth_cell0 m_id ?_
  (with_reducible refine' cl_id ?r_177 ?_); (case r_177 => (refine Cx.Room.le (by assumption) ?_; decide))
  with_reducible refine' ev_BinOp ?_
  with_reducible refine' ev_BinOp ?_
  with_reducible refine' ev_BinOp ?_
  (with_reducible refine' ev_name ?x_181 ?p_181 ?_ ?d_181); (case x_181 => rfl); (case p_181 => rfl); (case d_181 => decide)
  with_reducible refine' ev_int ?_
  (with_reducible refine' op_mul ?m_183 ?_); (case m_183 => first | exact mul_ok_l (by decide) | exact mul_ok_r (by decide))
  (with_reducible refine' ev_global_int g_LOOKUP_BITS ?k_184 ?_ ?d_184); (case k_184 => rfl); (case d_184 => decide)
  (with_reducible refine' op_mul ?m_185 ?_); (case m_185 => first | exact mul_ok_l (by decide) | exact mul_ok_r (by decide))
  with_reducible refine' ev_int ?_
  with_reducible refine' op_add ?_
  (with_reducible refine' op_shr ?n_188 ?_); (case n_188 => first | decide | omega)
  with_reducible refine' ev_BinOp ?_
  with_reducible refine' ev_BinOp ?_
  with_reducible refine' ev_int ?_
  with_reducible refine' ev_BinOp ?_
  with_reducible refine' ev_int ?_
  (with_reducible refine' ev_name ?x_194 ?p_194 ?_ ?d_194); (case x_194 => rfl); (case p_194 => rfl); (case d_194 => decide)
  (with_reducible refine' op_mul ?m_195 ?_); (case m_195 => first | exact mul_ok_l (by decide) | exact mul_ok_r (by decide))
  (with_reducible refine' op_shl ?n_196 ?s_196 ?_); (case n_196 => decide); (case s_196 => decide)
  with_reducible refine' ev_int ?_
  with_reducible refine' op_sub ?_
  with_reducible refine' op_and ?_
  with_reducible refine' ev_int ?_
  rw [chunk7]
  refine op_shl (by decide) (shl_fits (by omega) (by decide) (by decide)) ?_
  with_reducible refine' iop_add ?_
  with_reducible refine seq_nxt ?_
  with_reducible refine ex_cons ?_
  (with_reducible refine' ex_assign ?_ ?k_224 ?l_224 ?s_224); (case k_224 => rfl); (case l_224 => rfl); (case s_224 => rfl)
  with_reducible refine' ev_Subscript ?_
  with_reducible refine' ev_Subscript ?_
  (with_reducible refine' ev_global_rep g_LOOKUP_IJ rep_LOOKUP_IJ ?k_227 ?_ ?d_227); (case k_227 => rfl); (case d_227 => decide)
  with_reducible refine' ev_BinOp ?_
  (with_reducible refine' ev_name ?x_229 ?p_229 ?_ ?d_229); (case x_229 => rfl); (case p_229 => rfl); (case d_229 => decide)
  with_reducible refine' ev_int ?_
  (with_reducible refine' op_shr ?n_231 ?_); (case n_231 => first | decide | omega)
  rw [put_bits, idx_hi]
  refine op_htab (by omega) ?_
  with_reducible refine' ev_BinOp ?_
  (with_reducible refine' ev_name ?x_235 ?p_235 ?_ ?d_235); (case x_235 => rfl); (case p_235 => rfl); (case d_235 => decide)
  with_reducible refine' ev_int ?_
  with_reducible refine' op_and ?_
  rw [and_127]
  refine op_hrow (by omega) ?_
  rw [idx_split]
  have tl := @tab_lt (4 * (leafPos L p / 4 ^ 28 % 16) + p / 2 ^ (2 * L) % 2)
  with_reducible refine seq_nxt ?_
  with_reducible refine ex_cons ?_
  (with_reducible refine' ex_aug ?x_249 ?p_249 ?_ ?k_249 ?l_249); (case x_249 => rfl); (case p_249 => rfl); (case k_249 => rfl); (case l_249 => rfl)
  with_reducible refine' ev_BinOp ?_
  with_reducible refine' ev_BinOp ?_
  (with_reducible refine' ev_name ?x_252 ?p_252 ?_ ?d_252); (case x_252 => rfl); (case p_252 => rfl); (case d_252 => decide)
  with_reducible refine' ev_BinOp ?_
  (with_reducible refine' ev_global_int g_LOOKUP_BITS ?k_254 ?_ ?d_254); (case k_254 => rfl); (case d_254 => decide)
  with_reducible refine' ev_int ?_
  with_reducible refine' op_add ?_
  (with_reducible refine' op_shr ?n_257 ?_); (case n_257 => first | decide | omega)
  with_reducible refine' ev_BinOp ?_
  (with_reducible refine' ev_name ?x_259 ?p_259 ?_ ?d_259); (case x_259 => rfl); (case p_259 => rfl); (case d_259 => decide)
  (with_reducible refine' ev_global_int g_LOOKUP_BITS ?k_260 ?_ ?d_260); (case k_260 => rfl); (case d_260 => decide)
  (with_reducible refine' op_mul ?m_261 ?_); (case m_261 => first | exact mul_ok_l (by decide) | exact mul_ok_r (by decide))
  rw [t_hi, (first_tab ho1).1]
  have x2 := hx_lt (o := p / 2 ^ (2 * L) % 2) (by omega) 2 (leafPos L p / 4 ^ 28)
  have y2 := hy_lt (o := p / 2 ^ (2 * L) % 2) (by omega) 2 (leafPos L p / 4 ^ 28)
  refine op_shl (by decide) (shl_fits (by omega) (by decide) (by decide)) ?_
  with_reducible refine' iop_add ?_
  with_reducible refine seq_nxt ?_
  with_reducible refine ex_cons ?_
  (with_reducible refine' ex_aug ?x_286 ?p_286 ?_ ?k_286 ?l_286); (case x_286 => rfl); (case p_286 => rfl); (case k_286 => rfl); (case l_286 => rfl)
  with_reducible refine' ev_BinOp ?_
  with_reducible refine' ev_BinOp ?_
  with_reducible refine' ev_BinOp ?_
  (with_reducible refine' ev_name ?x_290 ?p_290 ?_ ?d_290); (case x_290 => rfl); (case p_290 => rfl); (case d_290 => decide)
  with_reducible refine' ev_int ?_
  (with_reducible refine' op_shr ?n_292 ?_); (case n_292 => first | decide | omega)
  with_reducible refine' ev_BinOp ?_
  with_reducible refine' ev_BinOp ?_
  with_reducible refine' ev_int ?_
  (with_reducible refine' ev_global_int g_LOOKUP_BITS ?k_296 ?_ ?d_296); (case k_296 => rfl); (case d_296 => decide)
  (with_reducible refine' op_shl ?n_297 ?s_297 ?_); (case n_297 => decide); (case s_297 => decide)
  with_reducible refine' ev_int ?_
  with_reducible refine' op_sub ?_
  with_reducible refine' op_and ?_
  with_reducible refine' ev_BinOp ?_
  (with_reducible refine' ev_name ?x_302 ?p_302 ?_ ?d_302); (case x_302 => rfl); (case p_302 => rfl); (case d_302 => decide)
  (with_reducible refine' ev_global_int g_LOOKUP_BITS ?k_303 ?_ ?d_303); (case k_303 => rfl); (case d_303 => decide)
  (with_reducible refine' op_mul ?m_304 ?_); (case m_304 => first | exact mul_ok_l (by decide) | exact mul_ok_r (by decide))
  rw [shl_7, t_mid, (first_tab ho1).2.1]
  refine op_shl (by decide) (shl_fits (by omega) (by decide) (by decide)) ?_
  with_reducible refine' iop_add ?_
  with_reducible refine seq_nxt ?_
  with_reducible refine ex_cons ?_
  (with_reducible refine' ex_aug ?x_329 ?p_329 ?_ ?k_329 ?l_329); (case x_329 => rfl); (case p_329 => rfl); (case k_329 => rfl); (case l_329 => rfl)
  with_reducible refine' ev_BinOp ?_
  (with_reducible refine' ev_global_int g_SWAP_MASK ?k_331 ?_ ?d_331); (case k_331 => rfl); (case d_331 => decide)
  (with_reducible refine' ev_global_int g_INVERT_MASK ?k_332 ?_ ?d_332); (case k_332 => rfl); (case d_332 => decide)
  with_reducible refine' op_or ?_
  with_reducible refine' iop_and ?_
  with_reducible refine seq_nxt ?_
  with_reducible refine ex_nil ?_
  with_reducible refine for_nxt ?_
  rw [shl_7, and_2m, (first_tab ho1).2.2]
  refine forL_list (fun i σ => SubL ([("self", .cell (gid L p)), ("i", .int (sI (p / 2 ^ (2 * L) % 2) (leafPos L p) i : Nat)), ("j", .int (sJ (p / 2 ^ (2 * L) % 2) (leafPos L p) i : Nat)), ("face", .int (p / 2 ^ (2 * L) : Nat)), ("bits", .int (sO (p / 2 ^ (2 * L) % 2) (leafPos L p) i : Nat))] : Sg) σ) rfl rfl 7 ?_ _ 0 _ rfl ?_ ⟨rfl, rfl, rfl, rfl, rfl, trivial⟩
  · intro σ hS
    refine seq_nxt (ex_sub hS.get ?_)
    with_reducible refine ex_cons ?_
    with_reducible refine' ex_assert ?_
    (with_reducible refine' evt_Compare ?_ ?m_367); (case m_367 => with_unfolding_all rfl)
    with_reducible refine' ev_int ?_
    with_reducible refine' ev_Subscript ?_
    (with_reducible refine' ev_global_rep g_POS_TO_ORIENTATION rep_POS_TO_ORIENTATION ?k_370 ?_ ?d_370); (case k_370 => rfl); (case d_370 => decide)
    with_reducible refine' ev_int ?_
    (with_reducible refine' op_item_lst ?a_373 ?b_373 ?x_373 ?_ ?s_373); (case a_373 => decide); (case b_373 => decide); (case x_373 => rfl); (case s_373 => intros; with_unfolding_all rfl)
    with_reducible refine' op_eq ?_
    with_reducible refine' opt_bool ?_
    (with_reducible refine' And.intro ?a_378 ?_); (case a_378 => decide)
    with_reducible refine seq_nxt ?_
    with_reducible refine ex_cons ?_
    with_reducible refine' ex_assert ?_
    (with_reducible refine' evt_Compare ?_ ?m_391); (case m_391 => with_unfolding_all rfl)
    (with_reducible refine' ev_global_int g_SWAP_MASK ?k_392 ?_ ?d_392); (case k_392 => rfl); (case d_392 => decide)
    with_reducible refine' ev_Subscript ?_
    (with_reducible refine' ev_global_rep g_POS_TO_ORIENTATION rep_POS_TO_ORIENTATION ?k_394 ?_ ?d_394); (case k_394 => rfl); (case d_394 => decide)
    with_reducible refine' ev_int ?_
    (with_reducible refine' op_item_lst ?a_397 ?b_397 ?x_397 ?_ ?s_397); (case a_397 => decide); (case b_397 => decide); (case x_397 => rfl); (case s_397 => intros; with_unfolding_all rfl)
    with_reducible refine' op_eq ?_
    with_reducible refine' opt_bool ?_
    (with_reducible refine' And.intro ?a_402 ?_); (case a_402 => decide)
    with_reducible refine seq_nxt ?_
    with_reducible refine ex_cons ?_
    with_reducible refine' ex_if ?_
    (with_reducible refine' evt_Compare ?_ ?m_414); (case m_414 => with_unfolding_all rfl)
    with_reducible refine' ev_BinOp ?_
    (with_reducible refine' ev_Method (pl := _) ?_ ?h_416); (case h_416 => with_unfolding_all rfl)
    (with_reducible refine' ev_name ?x_417 ?p_417 ?_ ?d_417); (case x_417 => rfl); (case p_417 => rfl); (case d_417 => decide)
    with_reducible refine' mth_cell0 m_lsb ?_
    (with_reducible refine' cl_lsb ?r_432 ?_); (case r_432 => (refine Cx.Room.le (by assumption) ?_; decide))
    with_reducible refine' ev_int ?_
    with_reducible refine' op_and ?_
    with_reducible refine' ev_int ?_
    with_reducible refine' op_ne ?_
    with_reducible refine' opt_bool ?_
    rw [lsb_mask L hL]
    by_cases g : (30 - L) % 2 = 0 ∧ L ≠ 30
    · refine ite_t (decide_eq_true g) ?_
      with_reducible refine ex_cons ?_
      (with_reducible refine' ex_aug ?x_449 ?p_449 ?_ ?k_449 ?l_449); (case x_449 => rfl); (case p_449 => rfl); (case k_449 => rfl); (case l_449 => rfl)
      (with_reducible refine' ev_global_int g_SWAP_MASK ?k_450 ?_ ?d_450); (case k_450 => rfl); (case d_450 => decide)
      with_reducible refine' iop_xor ?_
      with_reducible refine seq_nxt ?_
      with_reducible refine ex_nil ?_
      with_reducible refine seq_nxt ?_
      with_reducible refine ex_cons ?_
      (with_reducible refine' ex_assign ?_ ?k_480 ?l_480 ?s_480); (case k_480 => rfl); (case l_480 => rfl); (case s_480 => rfl)
      (with_reducible refine' ev_name ?x_481 ?p_481 ?_ ?d_481); (case x_481 => rfl); (case p_481 => rfl); (case d_481 => decide)
      with_reducible refine seq_nxt ?_
      with_reducible refine ex_cons ?_
      with_reducible refine' ex_return ?_
      with_reducible refine' ev_Tuple ?_
      (with_reducible refine' evl_cons ?_ ?h_487); (case h_487 => with_unfolding_all rfl)
      (with_reducible refine' ev_name ?x_488 ?p_488 ?_ ?d_488); (case x_488 => rfl); (case p_488 => rfl); (case d_488 => decide)
      (with_reducible refine' evl_cons ?_ ?h_490); (case h_490 => with_unfolding_all rfl)
      (with_reducible refine' ev_name ?x_491 ?p_491 ?_ ?d_491); (case x_491 => rfl); (case p_491 => rfl); (case d_491 => decide)
      (with_reducible refine' evl_cons ?_ ?h_493); (case h_493 => with_unfolding_all rfl)
      (with_reducible refine' ev_name ?x_494 ?p_494 ?_ ?d_494); (case x_494 => rfl); (case p_494 => rfl); (case d_494 => decide)
      (with_reducible refine' evl_cons ?_ ?h_496); (case h_496 => with_unfolding_all rfl)
      (with_reducible refine' ev_name ?x_497 ?p_497 ?_ ?d_497); (case x_497 => rfl); (case p_497 => rfl); (case d_497 => decide)
      with_reducible refine' evl_nil ?_
      (with_reducible refine' And.intro ?a_500 ?_); (case a_500 => exact Nat.le_of_ble_eq_true rfl)
      with_reducible refine seq_ret ?_
      with_reducible refine body_ret ?_
      rw [xor_1, sI_fin hL (by omega), sJ_fin hL (by omega), sO_fin1 hL g]
      exact h
    · refine ite_f (decide_eq_false g) ?_
      with_reducible refine ex_nil ?_
      with_reducible refine seq_nxt ?_
      with_reducible refine ex_cons ?_
      (with_reducible refine' ex_assign ?_ ?k_514 ?l_514 ?s_514); (case k_514 => rfl); (case l_514 => rfl); (case s_514 => rfl)
      (with_reducible refine' ev_name ?x_515 ?p_515 ?_ ?d_515); (case x_515 => rfl); (case p_515 => rfl); (case d_515 => decide)
      with_reducible refine seq_nxt ?_
      with_reducible refine ex_cons ?_
      with_reducible refine' ex_return ?_
      with_reducible refine' ev_Tuple ?_
      (with_reducible refine' evl_cons ?_ ?h_521); (case h_521 => with_unfolding_all rfl)
      (with_reducible refine' ev_name ?x_522 ?p_522 ?_ ?d_522); (case x_522 => rfl); (case p_522 => rfl); (case d_522 => decide)
      (with_reducible refine' evl_cons ?_ ?h_524); (case h_524 => with_unfolding_all rfl)
      (with_reducible refine' ev_name ?x_525 ?p_525 ?_ ?d_525); (case x_525 => rfl); (case p_525 => rfl); (case d_525 => decide)
      (with_reducible refine' evl_cons ?_ ?h_527); (case h_527 => with_unfolding_all rfl)
      (with_reducible refine' ev_name ?x_528 ?p_528 ?_ ?d_528); (case x_528 => rfl); (case p_528 => rfl); (case d_528 => decide)
      (with_reducible refine' evl_cons ?_ ?h_530); (case h_530 => with_unfolding_all rfl)
      (with_reducible refine' ev_name ?x_531 ?p_531 ?_ ?d_531); (case x_531 => rfl); (case p_531 => rfl); (case d_531 => decide)
      with_reducible refine' evl_nil ?_
      (with_reducible refine' And.intro ?a_534 ?_); (case a_534 => exact Nat.le_of_ble_eq_true rfl)
      with_reducible refine seq_ret ?_
      with_reducible refine body_ret ?_
      rw [sI_fin hL (by omega), sJ_fin hL (by omega), sO_fin2 hL g]
      exact h
  · intro i x σ hx hS
    have hi : i < 7 := by
      have := (List.getElem?_eq_some_iff.mp hx).1
      simpa using this
    rw [List.getElem?_map, List.getElem?_range hi] at hx
    cases hx
    simp only [Nat.zero_add] at hS ⊢
    have o4 : sO (p / 2 ^ (2 * L) % 2) (leafPos L p) i < 4 := ho_lt (o := p / 2 ^ (2 * L) % 2) (by omega) (2 + 4 * i) (leafPos L p / 4 ^ (28 - 4 * i))
    refine ex_sub (sub_upd hS.get) ?_
    with_reducible refine ex_cons ?_
    with_reducible refine' ex_if ?_
    (with_reducible refine' evt_Compare ?_ ?m_548); (case m_548 => with_unfolding_all rfl)
    (with_reducible refine' ev_name ?x_549 ?p_549 ?_ ?d_549); (case x_549 => rfl); (case p_549 => rfl); (case d_549 => decide)
    with_reducible refine' ev_int ?_
    with_reducible refine' op_eq ?_
    with_reducible refine' opt_bool ?_
    refine ite_f (beq_eq_false_iff_ne.mpr (by omega)) ?_
    with_reducible refine ex_cons ?_
    (with_reducible refine' ex_assign ?_ ?k_563 ?l_563 ?s_563); (case k_563 => rfl); (case l_563 => rfl); (case s_563 => rfl)
    (with_reducible refine' ev_global_int g_LOOKUP_BITS ?k_564 ?_ ?d_564); (case k_564 => rfl); (case d_564 => decide)
    with_reducible refine seq_nxt ?_
    with_reducible refine ex_nil ?_
    with_reducible refine seq_nxt ?_
    with_reducible refine ex_cons ?_
    (with_reducible refine' ex_aug ?x_577 ?p_577 ?_ ?k_577 ?l_577); (case x_577 => rfl); (case p_577 => rfl); (case k_577 => rfl); (case l_577 => rfl)
    with_reducible refine' ev_BinOp ?_
    with_reducible refine' ev_BinOp ?_
    with_reducible refine' ev_BinOp ?_
    (with_reducible refine' ev_Method (pl := _) ?_ ?h_581); (case h_581 => with_unfolding_all rfl)
    (with_reducible refine' ev_name ?x_582 ?p_582 ?_ ?d_582); (case x_582 => rfl); (case p_582 => rfl); (case d_582 => decide)
    with_reducible refine' mth_cell0 m_id ?_
    (with_reducible refine' cl_id ?r_598 ?_); (case r_598 => (refine Cx.Room.le (by assumption) ?_; decide))
    with_reducible refine' ev_BinOp ?_
    with_reducible refine' ev_BinOp ?_
    with_reducible refine' ev_BinOp ?_
    (with_reducible refine' ev_name ?x_602 ?p_602 ?_ ?d_602); (case x_602 => rfl); (case p_602 => rfl); (case d_602 => decide)
    with_reducible refine' ev_int ?_
    (with_reducible refine' op_mul ?m_604 ?_); (case m_604 => first | exact mul_ok_l (by decide) | exact mul_ok_r (by decide))
    (with_reducible refine' ev_global_int g_LOOKUP_BITS ?k_605 ?_ ?d_605); (case k_605 => rfl); (case d_605 => decide)
    (with_reducible refine' op_mul ?m_606 ?_); (case m_606 => first | exact mul_ok_l (by decide) | exact mul_ok_r (by decide))
    with_reducible refine' ev_int ?_
    with_reducible refine' op_add ?_
    (with_reducible refine' op_shr ?n_609 ?_); (case n_609 => first | decide | omega)
    with_reducible refine' ev_BinOp ?_
    with_reducible refine' ev_BinOp ?_
    with_reducible refine' ev_int ?_
    with_reducible refine' ev_BinOp ?_
    with_reducible refine' ev_int ?_
    (with_reducible refine' ev_name ?x_615 ?p_615 ?_ ?d_615); (case x_615 => rfl); (case p_615 => rfl); (case d_615 => decide)
    (with_reducible refine' op_mul ?m_616 ?_); (case m_616 => first | exact mul_ok_l (by decide) | exact mul_ok_r (by decide))
    (with_reducible refine' op_shl ?n_617 ?s_617 ?_); (case n_617 => decide); (case s_617 => decide)
    with_reducible refine' ev_int ?_
    with_reducible refine' op_sub ?_
    with_reducible refine' op_and ?_
    with_reducible refine' ev_int ?_
    rw [chunk4]
    refine op_shl (by decide) (shl_fits (by omega) (by decide) (by decide)) ?_
    with_reducible refine' iop_add ?_
    with_reducible refine seq_nxt ?_
    with_reducible refine ex_cons ?_
    (with_reducible refine' ex_assign ?_ ?k_645 ?l_645 ?s_645); (case k_645 => rfl); (case l_645 => rfl); (case s_645 => rfl)
    with_reducible refine' ev_Subscript ?_
    with_reducible refine' ev_Subscript ?_
    (with_reducible refine' ev_global_rep g_LOOKUP_IJ rep_LOOKUP_IJ ?k_648 ?_ ?d_648); (case k_648 => rfl); (case d_648 => decide)
    with_reducible refine' ev_BinOp ?_
    (with_reducible refine' ev_name ?x_650 ?p_650 ?_ ?d_650); (case x_650 => rfl); (case p_650 => rfl); (case d_650 => decide)
    with_reducible refine' ev_int ?_
    (with_reducible refine' op_shr ?n_652 ?_); (case n_652 => first | decide | omega)
    rw [put_bits, idx_hi]
    refine op_htab (by omega) ?_
    with_reducible refine' ev_BinOp ?_
    (with_reducible refine' ev_name ?x_656 ?p_656 ?_ ?d_656); (case x_656 => rfl); (case p_656 => rfl); (case d_656 => decide)
    with_reducible refine' ev_int ?_
    with_reducible refine' op_and ?_
    rw [and_127]
    refine op_hrow (by omega) ?_
    rw [idx_split]
    have tl := @tab_lt (4 * (leafPos L p / 4 ^ (4 * (6 - i)) % 256) + sO (p / 2 ^ (2 * L) % 2) (leafPos L p) i)
    have tp := tab_parts (o := sO (p / 2 ^ (2 * L) % 2) (leafPos L p) i) (q := leafPos L p / 4 ^ (4 * (6 - i))) o4
    have x4 := hx_lt o4 4 (leafPos L p / 4 ^ (4 * (6 - i)))
    have y4 := hy_lt o4 4 (leafPos L p / 4 ^ (4 * (6 - i)))
    with_reducible refine seq_nxt ?_
    with_reducible refine ex_cons ?_
    (with_reducible refine' ex_aug ?x_670 ?p_670 ?_ ?k_670 ?l_670); (case x_670 => rfl); (case p_670 => rfl); (case k_670 => rfl); (case l_670 => rfl)
    with_reducible refine' ev_BinOp ?_
    with_reducible refine' ev_BinOp ?_
    (with_reducible refine' ev_name ?x_673 ?p_673 ?_ ?d_673); (case x_673 => rfl); (case p_673 => rfl); (case d_673 => decide)
    with_reducible refine' ev_BinOp ?_
    (with_reducible refine' ev_global_int g_LOOKUP_BITS ?k_675 ?_ ?d_675); (case k_675 => rfl); (case d_675 => decide)
    with_reducible refine' ev_int ?_
    with_reducible refine' op_add ?_
    (with_reducible refine' op_shr ?n_678 ?_); (case n_678 => first | decide | omega)
    with_reducible refine' ev_BinOp ?_
    (with_reducible refine' ev_name ?x_680 ?p_680 ?_ ?d_680); (case x_680 => rfl); (case p_680 => rfl); (case d_680 => decide)
    (with_reducible refine' ev_global_int g_LOOKUP_BITS ?k_681 ?_ ?d_681); (case k_681 => rfl); (case d_681 => decide)
    (with_reducible refine' op_mul ?m_682 ?_); (case m_682 => first | exact mul_ok_l (by decide) | exact mul_ok_r (by decide))
    rw [t_hi, tp.1]
    refine op_shl (by omega) (shl_fits (by omega) (by omega) (by omega)) ?_
    with_reducible refine' iop_add ?_
    with_reducible refine seq_nxt ?_
    with_reducible refine ex_cons ?_
    (with_reducible refine' ex_aug ?x_707 ?p_707 ?_ ?k_707 ?l_707); (case x_707 => rfl); (case p_707 => rfl); (case k_707 => rfl); (case l_707 => rfl)
    with_reducible refine' ev_BinOp ?_
    with_reducible refine' ev_BinOp ?_
    with_reducible refine' ev_BinOp ?_
    (with_reducible refine' ev_name ?x_711 ?p_711 ?_ ?d_711); (case x_711 => rfl); (case p_711 => rfl); (case d_711 => decide)
    with_reducible refine' ev_int ?_
    (with_reducible refine' op_shr ?n_713 ?_); (case n_713 => first | decide | omega)
    with_reducible refine' ev_BinOp ?_
    with_reducible refine' ev_BinOp ?_
    with_reducible refine' ev_int ?_
    (with_reducible refine' ev_global_int g_LOOKUP_BITS ?k_717 ?_ ?d_717); (case k_717 => rfl); (case d_717 => decide)
    (with_reducible refine' op_shl ?n_718 ?s_718 ?_); (case n_718 => decide); (case s_718 => decide)
    with_reducible refine' ev_int ?_
    with_reducible refine' op_sub ?_
    with_reducible refine' op_and ?_
    with_reducible refine' ev_BinOp ?_
    (with_reducible refine' ev_name ?x_723 ?p_723 ?_ ?d_723); (case x_723 => rfl); (case p_723 => rfl); (case d_723 => decide)
    (with_reducible refine' ev_global_int g_LOOKUP_BITS ?k_724 ?_ ?d_724); (case k_724 => rfl); (case d_724 => decide)
    (with_reducible refine' op_mul ?m_725 ?_); (case m_725 => first | exact mul_ok_l (by decide) | exact mul_ok_r (by decide))
    rw [shl_k, addN, sI_next hi, t_mid, tp.2.1]
    refine op_shl (by omega) (shl_fits (by omega) (by omega) (by omega)) ?_
    with_reducible refine' iop_add ?_
    with_reducible refine seq_nxt ?_
    with_reducible refine ex_cons ?_
    (with_reducible refine' ex_aug ?x_750 ?p_750 ?_ ?k_750 ?l_750); (case x_750 => rfl); (case p_750 => rfl); (case k_750 => rfl); (case l_750 => rfl)
    with_reducible refine' ev_BinOp ?_
    (with_reducible refine' ev_global_int g_SWAP_MASK ?k_752 ?_ ?d_752); (case k_752 => rfl); (case d_752 => decide)
    (with_reducible refine' ev_global_int g_INVERT_MASK ?k_753 ?_ ?d_753); (case k_753 => rfl); (case d_753 => decide)
    with_reducible refine' op_or ?_
    with_reducible refine' iop_and ?_
    with_reducible refine seq_nxt ?_
    with_reducible refine ex_nil ?_
    with_reducible refine for_nxt ?_
    rw [shl_k, addN, sJ_next hi, and_2m, tp.2.2, sO_next hi]
    exact ⟨rfl, rfl, rfl, rfl, rfl, trivial⟩
end

end Mine
end Part43
section Part44
open PySem PySem.W PySem.Calls
set_option maxRecDepth 100000
set_option autoImplicit false
set_option linter.unusedVariables false
set_option maxHeartbeats 4000000
namespace Mine




section
variable {w : World} {mean : ExcName → Option Value} {mg mb : Str → Option Value} {c : Cx} {σ : Sg}
theorem rep_LOOKUP_POS : ∀ H, (gl w mean mg mb).K.In H → Rep (gl w mean mg mb) H (.ref 148) (pvRows ptab) := fun H X => rep_rows X (by kernel_rfl)

theorem cl_from_face_ij {f i j : Nat} {C : Addr} {Q : PV → Prop} (hr : c.Room 4) (hC : C = (gl w mean mg mb).C) (hf : f < 6) (hi : i < 2 ^ 30) (hj : j < 2 ^ 30) (h : Q (.cell (gid 30 (pz 30 f i j)))) :
    Cl (gl w mean mg mb) c σ (.ref f_from_face_ij) [.raw (.ref C), .int (f : Int), .int (i : Int), .int (j : Int)] Q := by
  subst hC
  refine cl_def (k := 3) (ns := ["cls", "face", "i", "j"]) (by rfl) (by kernel_rfl) hr (by (intro vs s hl; match vs, hl with | [_, _, _, _], _ => exact BindsTo.of_eq rfl)) (by decide) (by decide) (by decide) (fun A g0 fL hid hr' => ?_)
  with_reducible refine ex_cons ?_
  (with_reducible refine' ex_assign ?_ ?k_7 ?l_7 ?s_7); (case k_7 => rfl); (case l_7 => rfl); (case s_7 => rfl)
  with_reducible refine' ev_BinOp ?_
  (with_reducible refine' ev_name ?x_9 ?p_9 ?_ ?d_9); (case x_9 => rfl); (case p_9 => rfl); (case d_9 => decide)
  with_reducible refine' ev_BinOp ?_
  (with_reducible refine' ev_Attr ?_ ?h_11); (case h_11 => with_unfolding_all rfl)
  (with_reducible refine' ev_name ?x_12 ?p_12 ?_ ?d_12); (case x_12 => rfl); (case p_12 => rfl); (case d_12 => decide)
  with_reducible refine' at_cls_int cv_POS_BITS ?_
  with_reducible refine' ev_int ?_
  with_reducible refine' op_sub ?_
  refine op_shl (by decide) (shl_fits (by omega) (by decide) (by decide)) ?_
  with_reducible refine seq_nxt ?_
  with_reducible refine ex_cons ?_
  (with_reducible refine' ex_assign ?_ ?k_30 ?l_30 ?s_30); (case k_30 => rfl); (case l_30 => rfl); (case s_30 => rfl)
  with_reducible refine' ev_BinOp ?_
  (with_reducible refine' ev_name ?x_32 ?p_32 ?_ ?d_32); (case x_32 => rfl); (case p_32 => rfl); (case d_32 => decide)
  (with_reducible refine' ev_global_int g_SWAP_MASK ?k_33 ?_ ?d_33); (case k_33 => rfl); (case d_33 => decide)
  with_reducible refine' op_and ?_
  with_reducible refine seq_nxt ?_
  with_reducible refine ex_cons ?_
  (with_reducible refine' ex_for ?_ ?t_45 ?s_45); (case t_45 => intro _ _; rfl); (case s_45 => intro _; rfl)
  (with_reducible refine' ev_Call ?_ ?h_47); (case h_47 => with_unfolding_all rfl)
  (with_reducible refine' ev_builtin n_range bb_range ?k_48 ?_ ?n_48 ?d_48); (case k_48 => rfl); (case n_48 => decide); (case d_48 => decide)
  (with_reducible refine' cw_type ?_ ?h_52 ?p_52); (case h_52 => with_unfolding_all rfl); (case p_52 => with_unfolding_all rfl)
  (with_reducible refine' evl_cons ?_ ?h_54); (case h_54 => with_unfolding_all rfl)
  with_reducible refine' ev_int ?_
  (with_reducible refine' evl_cons ?_ ?h_57); (case h_57 => with_unfolding_all rfl)
  with_reducible refine' ev_UnaryOp ?_
  with_reducible refine' ev_int ?_
  with_reducible refine' op_neg ?_
  (with_reducible refine' evl_cons ?_ ?h_63); (case h_63 => with_unfolding_all rfl)
  with_reducible refine' ev_UnaryOp ?_
  with_reducible refine' ev_int ?_
  with_reducible refine' op_neg ?_
  with_reducible refine' evl_nil ?_
  (with_reducible refine' b_range3 ?l_73 ?m_73 ?_); (case l_73 => decide); (case m_73 => decide)
  rw [face_put, and_1]
  refine ⟨.int 7 :: (List.range 7).map fun i => .int ((6 - i : Nat) : Int), .rng (n := 8) (by decide) (by decide) (by rfl), ?_⟩
  refine forL_cons rfl rfl ?_
  with_reducible refine ex_cons ?_
  (with_reducible refine' ex_assign ?_ ?k_81 ?l_81 ?s_81); (case k_81 => rfl); (case l_81 => rfl); (case s_81 => rfl)
  with_reducible refine' ev_BinOp ?_
  with_reducible refine' ev_BinOp ?_
  with_reducible refine' ev_int ?_
  (with_reducible refine' ev_global_int g_LOOKUP_BITS ?k_85 ?_ ?d_85); (case k_85 => rfl); (case d_85 => decide)
  (with_reducible refine' op_shl ?n_86 ?s_86 ?_); (case n_86 => decide); (case s_86 => decide)
  with_reducible refine' ev_int ?_
  with_reducible refine' op_sub ?_
  with_reducible refine seq_nxt ?_
  with_reducible refine ex_cons ?_
  (with_reducible refine' ex_aug ?x_98 ?p_98 ?_ ?k_98 ?l_98); (case x_98 => rfl); (case p_98 => rfl); (case k_98 => rfl); (case l_98 => rfl)
  with_reducible refine' ev_BinOp ?_
  with_reducible refine' ev_BinOp ?_
  with_reducible refine' ev_BinOp ?_
  (with_reducible refine' ev_name ?x_102 ?p_102 ?_ ?d_102); (case x_102 => rfl); (case p_102 => rfl); (case d_102 => decide)
  with_reducible refine' ev_BinOp ?_
  (with_reducible refine' ev_name ?x_104 ?p_104 ?_ ?d_104); (case x_104 => rfl); (case p_104 => rfl); (case d_104 => decide)
  (with_reducible refine' ev_global_int g_LOOKUP_BITS ?k_105 ?_ ?d_105); (case k_105 => rfl); (case d_105 => decide)
  (with_reducible refine' op_mul ?m_107 ?_); (case m_107 => first | exact mul_ok_l (by decide) | exact mul_ok_r (by decide))
  (with_reducible refine' op_shr ?n_108 ?_); (case n_108 => first | decide | omega)
  (with_reducible refine' ev_name ?x_109 ?p_109 ?_ ?d_109); (case x_109 => rfl); (case p_109 => rfl); (case d_109 => decide)
  with_reducible refine' op_and ?_
  with_reducible refine' ev_BinOp ?_
  (with_reducible refine' ev_global_int g_LOOKUP_BITS ?k_112 ?_ ?d_112); (case k_112 => rfl); (case d_112 => decide)
  with_reducible refine' ev_int ?_
  with_reducible refine' op_add ?_
  rw [nib7]
  refine op_shl (by decide) (shl_fits (by omega) (by decide) (by decide)) ?_
  with_reducible refine' iop_add ?_
  with_reducible refine seq_nxt ?_
  with_reducible refine ex_cons ?_
  (with_reducible refine' ex_aug ?x_141 ?p_141 ?_ ?k_141 ?l_141); (case x_141 => rfl); (case p_141 => rfl); (case k_141 => rfl); (case l_141 => rfl)
  with_reducible refine' ev_BinOp ?_
  with_reducible refine' ev_BinOp ?_
  with_reducible refine' ev_BinOp ?_
  (with_reducible refine' ev_name ?x_145 ?p_145 ?_ ?d_145); (case x_145 => rfl); (case p_145 => rfl); (case d_145 => decide)
  with_reducible refine' ev_BinOp ?_
  (with_reducible refine' ev_name ?x_147 ?p_147 ?_ ?d_147); (case x_147 => rfl); (case p_147 => rfl); (case d_147 => decide)
  (with_reducible refine' ev_global_int g_LOOKUP_BITS ?k_148 ?_ ?d_148); (case k_148 => rfl); (case d_148 => decide)
  (with_reducible refine' op_mul ?m_150 ?_); (case m_150 => first | exact mul_ok_l (by decide) | exact mul_ok_r (by decide))
  (with_reducible refine' op_shr ?n_151 ?_); (case n_151 => first | decide | omega)
  (with_reducible refine' ev_name ?x_152 ?p_152 ?_ ?d_152); (case x_152 => rfl); (case p_152 => rfl); (case d_152 => decide)
  with_reducible refine' op_and ?_
  with_reducible refine' ev_int ?_
  rw [nib7]
  refine op_shl (by decide) (shl_fits (by omega) (by decide) (by decide)) ?_
  with_reducible refine' iop_add ?_
  with_reducible refine seq_nxt ?_
  with_reducible refine ex_cons ?_
  (with_reducible refine' ex_assign ?_ ?k_179 ?l_179 ?s_179); (case k_179 => rfl); (case l_179 => rfl); (case s_179 => rfl)
  with_reducible refine' ev_Subscript ?_
  with_reducible refine' ev_Subscript ?_
  (with_reducible refine' ev_global_rep g_LOOKUP_POS rep_LOOKUP_POS ?k_182 ?_ ?d_182); (case k_182 => rfl); (case d_182 => decide)
  with_reducible refine' ev_BinOp ?_
  (with_reducible refine' ev_name ?x_184 ?p_184 ?_ ?d_184); (case x_184 => rfl); (case p_184 => rfl); (case d_184 => decide)
  with_reducible refine' ev_int ?_
  (with_reducible refine' op_shr ?n_186 ?_); (case n_186 => first | decide | omega)
  rw [put_xy, idx_hi]
  refine op_ptab (by omega) ?_
  with_reducible refine' ev_BinOp ?_
  (with_reducible refine' ev_name ?x_191 ?p_191 ?_ ?d_191); (case x_191 => rfl); (case p_191 => rfl); (case d_191 => decide)
  with_reducible refine' ev_int ?_
  with_reducible refine' op_and ?_
  rw [and_127]
  refine op_prow (by omega) ?_
  rw [idx_split]
  have f2 : f % 2 < 4 := by omega
  have tp := ptab_parts (x := i / 2 ^ 28) (y := j / 2 ^ 28) f2
  have pf := pfirst (o := f % 2) (x := i / 2 ^ 28) (y := j / 2 ^ 28) (by omega) (by omega) (by omega)
  have pl := ph_lt f2 2 (i / 2 ^ 28) (j / 2 ^ 28)
  with_reducible refine seq_nxt ?_
  with_reducible refine ex_cons ?_
  (with_reducible refine' ex_aug ?x_206 ?p_206 ?_ ?k_206 ?l_206); (case x_206 => rfl); (case p_206 => rfl); (case k_206 => rfl); (case l_206 => rfl)
  with_reducible refine' ev_BinOp ?_
  with_reducible refine' ev_BinOp ?_
  (with_reducible refine' ev_name ?x_209 ?p_209 ?_ ?d_209); (case x_209 => rfl); (case p_209 => rfl); (case d_209 => decide)
  with_reducible refine' ev_int ?_
  (with_reducible refine' op_shr ?n_211 ?_); (case n_211 => first | decide | omega)
  with_reducible refine' ev_BinOp ?_
  with_reducible refine' ev_BinOp ?_
  (with_reducible refine' ev_name ?x_214 ?p_214 ?_ ?d_214); (case x_214 => rfl); (case p_214 => rfl); (case d_214 => decide)
  with_reducible refine' ev_int ?_
  (with_reducible refine' op_mul ?m_217 ?_); (case m_217 => first | exact mul_ok_l (by decide) | exact mul_ok_r (by decide))
  (with_reducible refine' ev_global_int g_LOOKUP_BITS ?k_218 ?_ ?d_218); (case k_218 => rfl); (case d_218 => decide)
  (with_reducible refine' op_mul ?m_220 ?_); (case m_220 => first | exact mul_ok_l (by decide) | exact mul_ok_r (by decide))
  rw [shr2, tp.1, pf]
  refine op_shl (by decide) (shl_fits (by omega) (by decide) (by decide)) ?_
  with_reducible refine' iop_or ?_
  with_reducible refine seq_nxt ?_
  with_reducible refine ex_cons ?_
  (with_reducible refine' ex_aug ?x_249 ?p_249 ?_ ?k_249 ?l_249); (case x_249 => rfl); (case p_249 => rfl); (case k_249 => rfl); (case l_249 => rfl)
  with_reducible refine' ev_BinOp ?_
  (with_reducible refine' ev_global_int g_SWAP_MASK ?k_251 ?_ ?d_251); (case k_251 => rfl); (case d_251 => decide)
  (with_reducible refine' ev_global_int g_INVERT_MASK ?k_252 ?_ ?d_252); (case k_252 => rfl); (case d_252 => decide)
  with_reducible refine' op_or ?_
  with_reducible refine' iop_and ?_
  with_reducible refine seq_nxt ?_
  with_reducible refine ex_nil ?_
  with_reducible refine for_nxt ?_
  rw [or_60 pl, and_2m, tp.2.1, pf, ← pS_zero]
  have hO : ho 4 (f % 2) (ph 2 (f % 2) (i / 2 ^ 28) (j / 2 ^ 28)) = oz 2 (pS f i j 0) := by
    rw [oS_zero]
    have e : ho 4 (f % 2) (ph 2 (f % 2) (i / 2 ^ 28) (j / 2 ^ 28)) = _ := ho_add (f % 2) 2 2 (ph 2 (f % 2) (i / 2 ^ 28) (j / 2 ^ 28))
    rw [e, Nat.div_eq_of_lt pl, (start_zero (f % 2) (by omega)).2]
  rw [hO]
  refine forL_list (fun n σ => SubL ([("cls", .raw (.ref (gl w mean mg mb).C)), ("i", .int (i : Int)), ("j", .int (j : Int)), ("n", .int ((pS f i j n * 2 ^ (56 - 8 * n) : Nat) : Int)), ("bits", .int ((oz (2 + 4 * n) (pS f i j n) : Nat) : Int))] : Sg) σ) rfl rfl 7 ?_ _ 0 _ rfl ?_ ⟨rfl, rfl, rfl, rfl, rfl, trivial⟩
  · intro σ hS
    refine seq_nxt (ex_sub hS.get ?_)
    with_reducible refine ex_cons ?_
    with_reducible refine' ex_return ?_
    (with_reducible refine' ev_Call ?_ ?h_280); (case h_280 => with_unfolding_all rfl)
    (with_reducible refine' ev_name ?x_281 ?p_281 ?_ ?d_281); (case x_281 => rfl); (case p_281 => rfl); (case d_281 => decide)
    (with_reducible refine' cw_def keep_CP ?_ ?h_282 ?p_282); (case h_282 => with_unfolding_all rfl); (case p_282 => with_unfolding_all rfl)
    (with_reducible refine' evl_cons ?_ ?h_284); (case h_284 => with_unfolding_all rfl)
    with_reducible refine' ev_BinOp ?_
    with_reducible refine' ev_BinOp ?_
    (with_reducible refine' ev_name ?x_287 ?p_287 ?_ ?d_287); (case x_287 => rfl); (case p_287 => rfl); (case d_287 => decide)
    with_reducible refine' ev_int ?_
    (with_reducible refine' op_mul ?m_290 ?_); (case m_290 => first | exact mul_ok_l (by decide) | exact mul_ok_r (by decide))
    with_reducible refine' ev_int ?_
    with_reducible refine' op_add ?_
    with_reducible refine' evl_nil ?_
    (with_reducible refine' cl_new ?r_303 ?c_303 ?_); (case r_303 => (refine Cx.Room.le (by assumption) ?_; decide)); (case c_303 => rfl)
    with_reducible refine seq_ret ?_
    with_reducible refine body_ret ?_
    rw [leaf_gid, pS_fin, gid_mod (by decide) (by have := pz_lt (L := 30) hf hi hj; rw [pow4]; exact this)]
    exact h
  · intro n x σ hx hS
    have hn : n < 7 := by
      have := (List.getElem?_eq_some_iff.mp hx).1
      simpa using this
    rw [List.getElem?_map, List.getElem?_range hn] at hx
    cases hx
    simp only [Nat.zero_add] at hS ⊢
    refine ex_sub (sub_upd hS.get) ?_
    have o4 := oz_lt (2 + 4 * n) (pS f i j n)
    with_reducible refine ex_cons ?_
    (with_reducible refine' ex_assign ?_ ?k_314 ?l_314 ?s_314); (case k_314 => rfl); (case l_314 => rfl); (case s_314 => rfl)
    with_reducible refine' ev_BinOp ?_
    with_reducible refine' ev_BinOp ?_
    with_reducible refine' ev_int ?_
    (with_reducible refine' ev_global_int g_LOOKUP_BITS ?k_318 ?_ ?d_318); (case k_318 => rfl); (case d_318 => decide)
    (with_reducible refine' op_shl ?n_319 ?s_319 ?_); (case n_319 => decide); (case s_319 => decide)
    with_reducible refine' ev_int ?_
    with_reducible refine' op_sub ?_
    with_reducible refine seq_nxt ?_
    with_reducible refine ex_cons ?_
    (with_reducible refine' ex_aug ?x_331 ?p_331 ?_ ?k_331 ?l_331); (case x_331 => rfl); (case p_331 => rfl); (case k_331 => rfl); (case l_331 => rfl)
    with_reducible refine' ev_BinOp ?_
    with_reducible refine' ev_BinOp ?_
    with_reducible refine' ev_BinOp ?_
    (with_reducible refine' ev_name ?x_335 ?p_335 ?_ ?d_335); (case x_335 => rfl); (case p_335 => rfl); (case d_335 => decide)
    with_reducible refine' ev_BinOp ?_
    (with_reducible refine' ev_name ?x_337 ?p_337 ?_ ?d_337); (case x_337 => rfl); (case p_337 => rfl); (case d_337 => decide)
    (with_reducible refine' ev_global_int g_LOOKUP_BITS ?k_338 ?_ ?d_338); (case k_338 => rfl); (case d_338 => decide)
    (with_reducible refine' op_mul ?m_340 ?_); (case m_340 => first | exact mul_ok_l (by decide) | exact mul_ok_r (by decide))
    (with_reducible refine' op_shr ?n_341 ?_); (case n_341 => first | decide | omega)
    (with_reducible refine' ev_name ?x_342 ?p_342 ?_ ?d_342); (case x_342 => rfl); (case p_342 => rfl); (case d_342 => decide)
    with_reducible refine' op_and ?_
    with_reducible refine' ev_BinOp ?_
    (with_reducible refine' ev_global_int g_LOOKUP_BITS ?k_345 ?_ ?d_345); (case k_345 => rfl); (case d_345 => decide)
    with_reducible refine' ev_int ?_
    with_reducible refine' op_add ?_
    rw [nib]
    refine op_shl (by decide) (shl_fits (by omega) (by decide) (by decide)) ?_
    with_reducible refine' iop_add ?_
    with_reducible refine seq_nxt ?_
    with_reducible refine ex_cons ?_
    (with_reducible refine' ex_aug ?x_374 ?p_374 ?_ ?k_374 ?l_374); (case x_374 => rfl); (case p_374 => rfl); (case k_374 => rfl); (case l_374 => rfl)
    with_reducible refine' ev_BinOp ?_
    with_reducible refine' ev_BinOp ?_
    with_reducible refine' ev_BinOp ?_
    (with_reducible refine' ev_name ?x_378 ?p_378 ?_ ?d_378); (case x_378 => rfl); (case p_378 => rfl); (case d_378 => decide)
    with_reducible refine' ev_BinOp ?_
    (with_reducible refine' ev_name ?x_380 ?p_380 ?_ ?d_380); (case x_380 => rfl); (case p_380 => rfl); (case d_380 => decide)
    (with_reducible refine' ev_global_int g_LOOKUP_BITS ?k_381 ?_ ?d_381); (case k_381 => rfl); (case d_381 => decide)
    (with_reducible refine' op_mul ?m_383 ?_); (case m_383 => first | exact mul_ok_l (by decide) | exact mul_ok_r (by decide))
    (with_reducible refine' op_shr ?n_384 ?_); (case n_384 => first | decide | omega)
    (with_reducible refine' ev_name ?x_385 ?p_385 ?_ ?d_385); (case x_385 => rfl); (case p_385 => rfl); (case d_385 => decide)
    with_reducible refine' op_and ?_
    with_reducible refine' ev_int ?_
    rw [nib]
    refine op_shl (by decide) (shl_fits (by omega) (by decide) (by decide)) ?_
    with_reducible refine' iop_add ?_
    with_reducible refine seq_nxt ?_
    with_reducible refine ex_cons ?_
    (with_reducible refine' ex_assign ?_ ?k_412 ?l_412 ?s_412); (case k_412 => rfl); (case l_412 => rfl); (case s_412 => rfl)
    with_reducible refine' ev_Subscript ?_
    with_reducible refine' ev_Subscript ?_
    (with_reducible refine' ev_global_rep g_LOOKUP_POS rep_LOOKUP_POS ?k_415 ?_ ?d_415); (case k_415 => rfl); (case d_415 => decide)
    with_reducible refine' ev_BinOp ?_
    (with_reducible refine' ev_name ?x_417 ?p_417 ?_ ?d_417); (case x_417 => rfl); (case p_417 => rfl); (case d_417 => decide)
    with_reducible refine' ev_int ?_
    (with_reducible refine' op_shr ?n_419 ?_); (case n_419 => first | decide | omega)
    rw [put_xy, idx_hi]
    refine op_ptab (by omega) ?_
    with_reducible refine' ev_BinOp ?_
    (with_reducible refine' ev_name ?x_424 ?p_424 ?_ ?d_424); (case x_424 => rfl); (case p_424 => rfl); (case d_424 => decide)
    with_reducible refine' ev_int ?_
    with_reducible refine' op_and ?_
    rw [and_127]
    refine op_prow (by omega) ?_
    rw [idx_split]
    have tq := ptab_parts (x := i / 2 ^ (4 * (6 - n))) (y := j / 2 ^ (4 * (6 - n))) o4
    have pq := ph_lt o4 4 (i / 2 ^ (4 * (6 - n))) (j / 2 ^ (4 * (6 - n)))
    with_reducible refine seq_nxt ?_
    with_reducible refine ex_cons ?_
    (with_reducible refine' ex_aug ?x_439 ?p_439 ?_ ?k_439 ?l_439); (case x_439 => rfl); (case p_439 => rfl); (case k_439 => rfl); (case l_439 => rfl)
    with_reducible refine' ev_BinOp ?_
    with_reducible refine' ev_BinOp ?_
    (with_reducible refine' ev_name ?x_442 ?p_442 ?_ ?d_442); (case x_442 => rfl); (case p_442 => rfl); (case d_442 => decide)
    with_reducible refine' ev_int ?_
    (with_reducible refine' op_shr ?n_444 ?_); (case n_444 => first | decide | omega)
    with_reducible refine' ev_BinOp ?_
    with_reducible refine' ev_BinOp ?_
    (with_reducible refine' ev_name ?x_447 ?p_447 ?_ ?d_447); (case x_447 => rfl); (case p_447 => rfl); (case d_447 => decide)
    with_reducible refine' ev_int ?_
    (with_reducible refine' op_mul ?m_450 ?_); (case m_450 => first | exact mul_ok_l (by decide) | exact mul_ok_r (by decide))
    (with_reducible refine' ev_global_int g_LOOKUP_BITS ?k_451 ?_ ?d_451); (case k_451 => rfl); (case d_451 => decide)
    (with_reducible refine' op_mul ?m_453 ?_); (case m_453 => first | exact mul_ok_l (by decide) | exact mul_ok_r (by decide))
    rw [shr2, tq.1]
    refine op_shl (by omega) (shl_fits (by omega) (by omega) (by omega)) ?_
    with_reducible refine' iop_or ?_
    with_reducible refine seq_nxt ?_
    with_reducible refine ex_cons ?_
    (with_reducible refine' ex_aug ?x_482 ?p_482 ?_ ?k_482 ?l_482); (case x_482 => rfl); (case p_482 => rfl); (case k_482 => rfl); (case l_482 => rfl)
    with_reducible refine' ev_BinOp ?_
    (with_reducible refine' ev_global_int g_SWAP_MASK ?k_484 ?_ ?d_484); (case k_484 => rfl); (case d_484 => decide)
    (with_reducible refine' ev_global_int g_INVERT_MASK ?k_485 ?_ ?d_485); (case k_485 => rfl); (case d_485 => decide)
    with_reducible refine' op_or ?_
    with_reducible refine' iop_and ?_
    with_reducible refine seq_nxt ?_
    with_reducible refine ex_nil ?_
    with_reducible refine for_nxt ?_
    rw [or_next hn pq, and_2m, tq.2.1, ← pS_next hn, ← oS_next hn]
    exact ⟨rfl, rfl, rfl, rfl, rfl, trivial⟩
end

end Mine
end Part44
section Part45
open PySem PySem.W PySem.Calls
set_option maxRecDepth 100000
set_option autoImplicit false
set_option linter.unusedVariables false
set_option maxHeartbeats 4000000
namespace Mine




section
variable {w : World} {mean : ExcName → Option Value} {mg mb : Str → Option Value} {c : Cx} {σ : Sg}
theorem cl_new_pt {x y z : Int} {C : Addr} {Q : PV → Prop} (hr : c.Room 2) (hC : C = (gl w mean mg mb).CP) (h : Q (.point x y z)) : Cl (gl w mean mg mb) c σ (.ref C) [.int x, .int y, .int z] Q := by
  subst hC
  refine Mine.cl_new0 new_CP (k := 0) (n0 := "self") (ns := ["x", "y", "z"]) (R := fun v => v = .tup [.int x, .int y, .int z]) (by rfl) (by kernel_rfl) hr ?_ (by decide) (by decide) (by decide) (by decide) (fun A g0 fL hid x hr' => ?_) ?_ (fun L => rfl)
  · intro v0 vs s X hl; match vs, hl with | [_, _, _], _ => exact BindsTo.of_eq rfl
  · with_reducible refine' ev_Tuple ?_
    (with_reducible refine' evl_cons ?_ ?h_16); (case h_16 => with_unfolding_all rfl)
    (with_reducible refine' ev_name ?x_17 ?p_17 ?_ ?d_17); (case x_17 => rfl); (case p_17 => rfl); (case d_17 => decide)
    (with_reducible refine' evl_cons ?_ ?h_41); (case h_41 => with_unfolding_all rfl)
    (with_reducible refine' ev_name ?x_42 ?p_42 ?_ ?d_42); (case x_42 => rfl); (case p_42 => rfl); (case d_42 => decide)
    (with_reducible refine' evl_cons ?_ ?h_65); (case h_65 => with_unfolding_all rfl)
    (with_reducible refine' ev_name ?x_68 ?p_68 ?_ ?d_68); (case x_68 => rfl); (case p_68 => rfl); (case d_68 => decide)
    with_reducible refine' evl_nil ?_
    (with_reducible refine' And.intro ?a_97 ?_); (case a_97 => exact Nat.le_of_ble_eq_true rfl)
    rfl
  · rintro _ rfl H a d v hs sz tk h1 h2 rv
    cases rv with
    | tup ht r =>
      cases r with
      | cons r1 r =>
        cases r with
        | cons r2 r =>
          cases r with
          | cons r3 r =>
            cases r
            cases r1; cases r2; cases r3
            exact ⟨_, .point h1 h2 ht, h⟩
theorem cl_pt_getitem {x y z : Int} {k : Nat} {Q : PV → Prop} (hr : c.Room 1) (hk : k < 3) (h : Q (.int (nth k x y z))) : Cl (gl w mean mg mb) c σ (.ref pf_getitem) [.point x y z, .int (k : Int)] Q := by
  refine cl_def (k := 0) (ns := ["self", "index"]) (by rfl) (by kernel_rfl) hr (by (intro vs s hl; match vs, hl with | [_, _], _ => exact BindsTo.of_eq rfl)) (by decide) (by decide) (by decide) (fun A g0 fL hid hr' => ?_)
  with_reducible refine ex_cons ?_
  with_reducible refine' ex_return ?_
  with_reducible refine' ev_Subscript ?_
  (with_reducible refine' ev_Attr ?_ ?h_4); (case h_4 => with_unfolding_all rfl)
  (with_reducible refine' ev_name ?x_7 ?p_7 ?_ ?d_7); (case x_7 => rfl); (case p_7 => rfl); (case d_7 => decide)
  with_reducible refine' at_point pt_own ?_
  (with_reducible refine' ev_name ?x_12 ?p_12 ?_ ?d_12); (case x_12 => rfl); (case p_12 => rfl); (case d_12 => decide)
  have : k = 0 ∨ k = 1 ∨ k = 2 := by omega
  rcases this with rfl | rfl | rfl
  · refine op_item_tup (by decide) (by decide) rfl rfl ?_
    with_reducible refine seq_ret ?_
    with_reducible refine body_ret ?_
    exact h
  · refine op_item_tup (by decide) (by decide) rfl rfl ?_
    with_reducible refine seq_ret ?_
    with_reducible refine body_ret ?_
    exact h
  · refine op_item_tup (by decide) (by decide) rfl rfl ?_
    with_reducible refine seq_ret ?_
    with_reducible refine body_ret ?_
    exact h
theorem cl_pt_item0 {x y z : Int} {Q : PV → Prop} (hr : c.Room 1) (h : Q (.int x)) : Cl (gl w mean mg mb) c σ (.ref pf_getitem) [.point x y z, .int 0] Q := cl_pt_getitem (k := 0) hr (by decide) h
theorem cl_pt_item1 {x y z : Int} {Q : PV → Prop} (hr : c.Room 1) (h : Q (.int y)) : Cl (gl w mean mg mb) c σ (.ref pf_getitem) [.point x y z, .int 1] Q := cl_pt_getitem (k := 1) hr (by decide) h
theorem cl_pt_item2 {x y z : Int} {Q : PV → Prop} (hr : c.Room 1) (h : Q (.int z)) : Cl (gl w mean mg mb) c σ (.ref pf_getitem) [.point x y z, .int 2] Q := cl_pt_getitem (k := 2) hr (by decide) h
theorem cl_pt_add {x y z x2 y2 z2 : Int} {Q : PV → Prop} (hr : c.Room 3) (h : Q (.point (x + x2) (y + y2) (z + z2))) : Cl (gl w mean mg mb) c σ (.ref pf_add) [.point x y z, .point x2 y2 z2] Q := by
  refine cl_def (k := 2) (ns := ["self", "other"]) (by rfl) (by kernel_rfl) hr (by (intro vs s hl; match vs, hl with | [_, _], _ => exact BindsTo.of_eq rfl)) (by decide) (by decide) (by decide) (fun A g0 fL hid hr' => ?_)
  with_reducible refine ex_cons ?_
  with_reducible refine' ex_return ?_
  (with_reducible refine' ev_Method (pl := _) ?_ ?h_6); (case h_6 => with_unfolding_all rfl)
  (with_reducible refine' ev_name ?x_13 ?p_13 ?_ ?d_13); (case x_13 => rfl); (case p_13 => rfl); (case d_13 => decide)
  with_reducible refine' mth_class_pt pt_cls ?_
  (with_reducible refine' cw_def keep_CP ?_ ?h_20 ?p_20); (case h_20 => with_unfolding_all rfl); (case p_20 => with_unfolding_all rfl)
  (with_reducible refine' evl_cons ?_ ?h_28); (case h_28 => with_unfolding_all rfl)
  with_reducible refine' ev_BinOp ?_
  with_reducible refine' ev_Subscript ?_
  (with_reducible refine' ev_name ?x_36 ?p_36 ?_ ?d_36); (case x_36 => rfl); (case p_36 => rfl); (case d_36 => decide)
  with_reducible refine' ev_int ?_
  (with_reducible refine' op_item_pt pt_item ?_ ?s_54); (case s_54 => intros; with_unfolding_all rfl)
  (with_reducible refine' cl_pt_item0 ?r_64 ?_); (case r_64 => (refine Cx.Room.in1 (Cx.Room.le (by assumption) ?_); decide))
  with_reducible refine' ev_Subscript ?_
  (with_reducible refine' ev_name ?x_70 ?p_70 ?_ ?d_70); (case x_70 => rfl); (case p_70 => rfl); (case d_70 => decide)
  with_reducible refine' ev_int ?_
  (with_reducible refine' op_item_pt pt_item ?_ ?s_105); (case s_105 => intros; with_unfolding_all rfl)
  (with_reducible refine' cl_pt_item0 ?r_116 ?_); (case r_116 => (refine Cx.Room.in1 (Cx.Room.le (by assumption) ?_); decide))
  with_reducible refine' op_add ?_
  (with_reducible refine' evl_cons ?_ ?h_131); (case h_131 => with_unfolding_all rfl)
  with_reducible refine' ev_BinOp ?_
  with_reducible refine' ev_Subscript ?_
  (with_reducible refine' ev_name ?x_139 ?p_139 ?_ ?d_139); (case x_139 => rfl); (case p_139 => rfl); (case d_139 => decide)
  with_reducible refine' ev_int ?_
  (with_reducible refine' op_item_pt pt_item ?_ ?s_171); (case s_171 => intros; with_unfolding_all rfl)
  (with_reducible refine' cl_pt_item1 ?r_185 ?_); (case r_185 => (refine Cx.Room.in1 (Cx.Room.le (by assumption) ?_); decide))
  with_reducible refine' ev_Subscript ?_
  (with_reducible refine' ev_name ?x_190 ?p_190 ?_ ?d_190); (case x_190 => rfl); (case p_190 => rfl); (case d_190 => decide)
  with_reducible refine' ev_int ?_
  (with_reducible refine' op_item_pt pt_item ?_ ?s_213); (case s_213 => intros; with_unfolding_all rfl)
  (with_reducible refine' cl_pt_item1 ?r_225 ?_); (case r_225 => (refine Cx.Room.in1 (Cx.Room.le (by assumption) ?_); decide))
  with_reducible refine' op_add ?_
  (with_reducible refine' evl_cons ?_ ?h_231); (case h_231 => with_unfolding_all rfl)
  with_reducible refine' ev_BinOp ?_
  with_reducible refine' ev_Subscript ?_
  (with_reducible refine' ev_name ?x_234 ?p_234 ?_ ?d_234); (case x_234 => rfl); (case p_234 => rfl); (case d_234 => decide)
  with_reducible refine' ev_int ?_
  (with_reducible refine' op_item_pt pt_item ?_ ?s_244); (case s_244 => intros; with_unfolding_all rfl)
  (with_reducible refine' cl_pt_item2 ?r_253 ?_); (case r_253 => (refine Cx.Room.in1 (Cx.Room.le (by assumption) ?_); decide))
  with_reducible refine' ev_Subscript ?_
  (with_reducible refine' ev_name ?x_255 ?p_255 ?_ ?d_255); (case x_255 => rfl); (case p_255 => rfl); (case d_255 => decide)
  with_reducible refine' ev_int ?_
  (with_reducible refine' op_item_pt pt_item ?_ ?s_318); (case s_318 => intros; with_unfolding_all rfl)
  (with_reducible refine' cl_pt_item2 ?r_324 ?_); (case r_324 => (refine Cx.Room.in1 (Cx.Room.le (by assumption) ?_); decide))
  with_reducible refine' op_add ?_
  with_reducible refine' evl_nil ?_
  (with_reducible refine' cl_new_pt ?r_341 ?c_341 ?_); (case r_341 => (refine Cx.Room.le (by assumption) ?_; decide)); (case c_341 => rfl)
  with_reducible refine seq_ret ?_
  with_reducible refine body_ret ?_
  exact h
theorem cl_pt_mul {x y z n : Int} {Q : PV → Prop} (hr : c.Room 3) (hn : n.natAbs < 2 ^ 64) (h : Q (.point (x * n) (y * n) (z * n))) : Cl (gl w mean mg mb) c σ (.ref pf_mul) [.point x y z, .int n] Q := by
  refine cl_def (k := 2) (ns := ["self", "other"]) (by rfl) (by kernel_rfl) hr (by (intro vs s hl; match vs, hl with | [_, _], _ => exact BindsTo.of_eq rfl)) (by decide) (by decide) (by decide) (fun A g0 fL hid hr' => ?_)
  with_reducible refine ex_cons ?_
  with_reducible refine' ex_return ?_
  (with_reducible refine' ev_Method (pl := _) ?_ ?h_10); (case h_10 => with_unfolding_all rfl)
  (with_reducible refine' ev_name ?x_18 ?p_18 ?_ ?d_18); (case x_18 => rfl); (case p_18 => rfl); (case d_18 => decide)
  with_reducible refine' mth_class_pt pt_cls ?_
  (with_reducible refine' cw_def keep_CP ?_ ?h_44 ?p_44); (case h_44 => with_unfolding_all rfl); (case p_44 => with_unfolding_all rfl)
  (with_reducible refine' evl_cons ?_ ?h_48); (case h_48 => with_unfolding_all rfl)
  with_reducible refine' ev_BinOp ?_
  with_reducible refine' ev_Subscript ?_
  (with_reducible refine' ev_name ?x_51 ?p_51 ?_ ?d_51); (case x_51 => rfl); (case p_51 => rfl); (case d_51 => decide)
  with_reducible refine' ev_int ?_
  (with_reducible refine' op_item_pt pt_item ?_ ?s_77); (case s_77 => intros; with_unfolding_all rfl)
  (with_reducible refine' cl_pt_item0 ?r_86 ?_); (case r_86 => (refine Cx.Room.in1 (Cx.Room.le (by assumption) ?_); decide))
  (with_reducible refine' ev_name ?x_87 ?p_87 ?_ ?d_87); (case x_87 => rfl); (case p_87 => rfl); (case d_87 => decide)
  refine op_mul (mul_ok_r hn) ?_
  (with_reducible refine' evl_cons ?_ ?h_188); (case h_188 => with_unfolding_all rfl)
  with_reducible refine' ev_BinOp ?_
  with_reducible refine' ev_Subscript ?_
  (with_reducible refine' ev_name ?x_196 ?p_196 ?_ ?d_196); (case x_196 => rfl); (case p_196 => rfl); (case d_196 => decide)
  with_reducible refine' ev_int ?_
  (with_reducible refine' op_item_pt pt_item ?_ ?s_207); (case s_207 => intros; with_unfolding_all rfl)
  (with_reducible refine' cl_pt_item1 ?r_215 ?_); (case r_215 => (refine Cx.Room.in1 (Cx.Room.le (by assumption) ?_); decide))
  (with_reducible refine' ev_name ?x_221 ?p_221 ?_ ?d_221); (case x_221 => rfl); (case p_221 => rfl); (case d_221 => decide)
  refine op_mul (mul_ok_r hn) ?_
  (with_reducible refine' evl_cons ?_ ?h_281); (case h_281 => with_unfolding_all rfl)
  with_reducible refine' ev_BinOp ?_
  with_reducible refine' ev_Subscript ?_
  (with_reducible refine' ev_name ?x_289 ?p_289 ?_ ?d_289); (case x_289 => rfl); (case p_289 => rfl); (case d_289 => decide)
  with_reducible refine' ev_int ?_
  (with_reducible refine' op_item_pt pt_item ?_ ?s_363); (case s_363 => intros; with_unfolding_all rfl)
  (with_reducible refine' cl_pt_item2 ?r_373 ?_); (case r_373 => (refine Cx.Room.in1 (Cx.Room.le (by assumption) ?_); decide))
  (with_reducible refine' ev_name ?x_377 ?p_377 ?_ ?d_377); (case x_377 => rfl); (case p_377 => rfl); (case d_377 => decide)
  refine op_mul (mul_ok_r hn) ?_
  with_reducible refine' evl_nil ?_
  (with_reducible refine' cl_new_pt ?r_456 ?c_456 ?_); (case r_456 => (refine Cx.Room.le (by assumption) ?_; decide)); (case c_456 => rfl)
  with_reducible refine seq_ret ?_
  with_reducible refine body_ret ?_
  exact h
theorem cl_quotient {a b : Int} {Q : PV → Prop} (hr : c.Room 1) (ha : a.natAbs < 2 ^ 32) (hb : b.natAbs < 2 ^ 32) (h0 : b ≠ 0) (h : Q (.int (quo a b))) : Cl (gl w mean mg mb) c σ (.ref d_quotient) [.int a, .int b] Q := by
  refine cl_def (k := 0) (ns := ["a", "b"]) (by rfl) (by kernel_rfl) hr (by (intro vs s hl; match vs, hl with | [_, _], _ => exact BindsTo.of_eq rfl)) (by decide) (by decide) (by decide) (fun A g0 fL hid hr' => ?_)
  with_reducible refine ex_cons ?_
  with_reducible refine' ex_return ?_
  with_reducible refine' ev_BinOp ?_
  with_reducible refine' ev_BinOp ?_
  with_reducible refine' ev_BinOp ?_
  (with_reducible refine' ev_name ?x_39 ?p_39 ?_ ?d_39); (case x_39 => rfl); (case p_39 => rfl); (case d_39 => decide)
  with_reducible refine' ev_int ?_
  refine op_shl (by decide) (shl_fits (by omega) (by decide) (by decide)) ?_
  (with_reducible refine' ev_name ?x_89 ?p_89 ?_ ?d_89); (case x_89 => rfl); (case p_89 => rfl); (case d_89 => decide)
  with_reducible refine' op_add ?_
  with_reducible refine' ev_BinOp ?_
  with_reducible refine' ev_int ?_
  (with_reducible refine' ev_name ?x_124 ?p_124 ?_ ?d_124); (case x_124 => rfl); (case p_124 => rfl); (case d_124 => decide)
  (with_reducible refine' op_mul ?m_135 ?_); (case m_135 => first | exact mul_ok_l (by decide) | exact mul_ok_r (by decide))
  refine op_fdiv (by omega) (log2_small (by omega)) ?_
  with_reducible refine seq_ret ?_
  with_reducible refine body_ret ?_
  exact h
theorem cl_st_to_ij {s : Int} {C : Addr} {Q : PV → Prop} (hr : c.Room 1) (hC : C = (gl w mean mg mb).C) (h : Q (.int (stij s))) : Cl (gl w mean mg mb) c σ (.ref f_st_to_ij) [.raw (.ref C), .int s] Q := by
  subst hC
  refine cl_def (k := 0) (ns := ["cls", "s"]) (by rfl) (by kernel_rfl) hr (by (intro vs s hl; match vs, hl with | [_, _], _ => exact BindsTo.of_eq rfl)) (by decide) (by decide) (by decide) (fun A g0 fL hid hr' => ?_)
  with_reducible refine ex_cons ?_
  with_reducible refine' ex_return ?_
  (with_reducible refine' ev_Call ?_ ?h_24); (case h_24 => with_unfolding_all rfl)
  (with_reducible refine' ev_builtin n_max bb_max ?k_25 ?_ ?n_25 ?d_25); (case k_25 => rfl); (case n_25 => decide); (case d_25 => decide)
  (with_reducible refine' cw_builtin ?_ ?h_56 ?p_56); (case h_56 => with_unfolding_all rfl); (case p_56 => with_unfolding_all rfl)
  (with_reducible refine' evl_cons ?_ ?h_66); (case h_66 => with_unfolding_all rfl)
  with_reducible refine' ev_int ?_
  (with_reducible refine' evl_cons ?_ ?h_72); (case h_72 => with_unfolding_all rfl)
  (with_reducible refine' ev_Call ?_ ?h_74); (case h_74 => with_unfolding_all rfl)
  (with_reducible refine' ev_builtin n_min bb_min ?k_75 ?_ ?n_75 ?d_75); (case k_75 => rfl); (case n_75 => decide); (case d_75 => decide)
  (with_reducible refine' cw_builtin ?_ ?h_91 ?p_91); (case h_91 => with_unfolding_all rfl); (case p_91 => with_unfolding_all rfl)
  (with_reducible refine' evl_cons ?_ ?h_96); (case h_96 => with_unfolding_all rfl)
  with_reducible refine' ev_BinOp ?_
  (with_reducible refine' ev_Attr ?_ ?h_99); (case h_99 => with_unfolding_all rfl)
  (with_reducible refine' ev_name ?x_104 ?p_104 ?_ ?d_104); (case x_104 => rfl); (case p_104 => rfl); (case d_104 => decide)
  with_reducible refine' at_cls_int cv_MAX_SIZE ?_
  with_reducible refine' ev_int ?_
  with_reducible refine' op_sub ?_
  (with_reducible refine' evl_cons ?_ ?h_136); (case h_136 => with_unfolding_all rfl)
  with_reducible refine' ev_BinOp ?_
  (with_reducible refine' ev_name ?x_142 ?p_142 ?_ ?d_142); (case x_142 => rfl); (case p_142 => rfl); (case d_142 => decide)
  with_reducible refine' ev_int ?_
  (with_reducible refine' op_shr ?n_148 ?_); (case n_148 => first | decide | omega)
  with_reducible refine' evl_nil ?_
  with_reducible refine' b_min ?_
  with_reducible refine' evl_nil ?_
  with_reducible refine' b_max ?_
  with_reducible refine seq_ret ?_
  with_reducible refine body_ret ?_
  exact h
theorem cl_face_uv {f : Nat} {u v : Int} {Q : PV → Prop} (hr : c.Room 3) (hf : f < 6) (h : Q (.point (fX f u v) (fY f u v) (fZ f u v))) : Cl (gl w mean mg mb) c σ (.ref d_face_uv_to_xyz) [.int (f : Int), .int u, .int v] Q := by
  refine cl_def (k := 2) (ns := ["face", "u", "v"]) (by rfl) (by kernel_rfl) hr (by (intro vs s hl; match vs, hl with | [_, _, _], _ => exact BindsTo.of_eq rfl)) (by decide) (by decide) (by decide) (fun A g0 fL hid hr' => ?_)
  have : f = 0 ∨ f = 1 ∨ f = 2 ∨ f = 3 ∨ f = 4 ∨ f = 5 := by omega
  rcases this with rfl | rfl | rfl | rfl | rfl | rfl
  · with_reducible refine ex_cons ?_
    with_reducible refine' ex_if ?_
    (with_reducible refine' evt_Compare ?_ ?m_184); (case m_184 => with_unfolding_all rfl)
    (with_reducible refine' ev_name ?x_186 ?p_186 ?_ ?d_186); (case x_186 => rfl); (case p_186 => rfl); (case d_186 => decide)
    with_reducible refine' ev_int ?_
    with_reducible refine' op_eq ?_
    with_reducible refine' opt_bool ?_
    (with_reducible refine' ite_t ?h_216 ?_); (case h_216 => decide)
    with_reducible refine ex_cons ?_
    with_reducible refine' ex_return ?_
    (with_reducible refine' ev_Call ?_ ?h_226); (case h_226 => with_unfolding_all rfl)
    (with_reducible refine' ev_global g_Point ?k_228 ?_ ?d_228); (case k_228 => rfl); (case d_228 => decide)
    (with_reducible refine' cw_def keep_CP ?_ ?h_235 ?p_235); (case h_235 => with_unfolding_all rfl); (case p_235 => with_unfolding_all rfl)
    (with_reducible refine' evl_cons ?_ ?h_238); (case h_238 => with_unfolding_all rfl)
    with_reducible refine' ev_int ?_
    (with_reducible refine' evl_cons ?_ ?h_245); (case h_245 => with_unfolding_all rfl)
    (with_reducible refine' ev_name ?x_248 ?p_248 ?_ ?d_248); (case x_248 => rfl); (case p_248 => rfl); (case d_248 => decide)
    (with_reducible refine' evl_cons ?_ ?h_257); (case h_257 => with_unfolding_all rfl)
    (with_reducible refine' ev_name ?x_259 ?p_259 ?_ ?d_259); (case x_259 => rfl); (case p_259 => rfl); (case d_259 => decide)
    with_reducible refine' evl_nil ?_
    (with_reducible refine' cl_new_pt ?r_283 ?c_283 ?_); (case r_283 => (refine Cx.Room.le (by assumption) ?_; decide)); (case c_283 => rfl)
    with_reducible refine seq_ret ?_
    with_reducible refine seq_ret ?_
    with_reducible refine body_ret ?_
    exact h
  · with_reducible refine ex_cons ?_
    with_reducible refine' ex_if ?_
    (with_reducible refine' evt_Compare ?_ ?m_317); (case m_317 => with_unfolding_all rfl)
    (with_reducible refine' ev_name ?x_319 ?p_319 ?_ ?d_319); (case x_319 => rfl); (case p_319 => rfl); (case d_319 => decide)
    with_reducible refine' ev_int ?_
    with_reducible refine' op_eq ?_
    with_reducible refine' opt_bool ?_
    (with_reducible refine' ite_f ?h_343 ?_); (case h_343 => decide)
    with_reducible refine ex_cons ?_
    with_reducible refine' ex_if ?_
    (with_reducible refine' evt_Compare ?_ ?m_364); (case m_364 => with_unfolding_all rfl)
    (with_reducible refine' ev_name ?x_367 ?p_367 ?_ ?d_367); (case x_367 => rfl); (case p_367 => rfl); (case d_367 => decide)
    with_reducible refine' ev_int ?_
    with_reducible refine' op_eq ?_
    with_reducible refine' opt_bool ?_
    (with_reducible refine' ite_t ?h_379 ?_); (case h_379 => decide)
    with_reducible refine ex_cons ?_
    with_reducible refine' ex_return ?_
    (with_reducible refine' ev_Call ?_ ?h_383); (case h_383 => with_unfolding_all rfl)
    (with_reducible refine' ev_global g_Point ?k_384 ?_ ?d_384); (case k_384 => rfl); (case d_384 => decide)
    (with_reducible refine' cw_def keep_CP ?_ ?h_385 ?p_385); (case h_385 => with_unfolding_all rfl); (case p_385 => with_unfolding_all rfl)
    (with_reducible refine' evl_cons ?_ ?h_387); (case h_387 => with_unfolding_all rfl)
    with_reducible refine' ev_UnaryOp ?_
    (with_reducible refine' ev_name ?x_389 ?p_389 ?_ ?d_389); (case x_389 => rfl); (case p_389 => rfl); (case d_389 => decide)
    with_reducible refine' op_neg ?_
    (with_reducible refine' evl_cons ?_ ?h_393); (case h_393 => with_unfolding_all rfl)
    with_reducible refine' ev_int ?_
    (with_reducible refine' evl_cons ?_ ?h_396); (case h_396 => with_unfolding_all rfl)
    (with_reducible refine' ev_name ?x_397 ?p_397 ?_ ?d_397); (case x_397 => rfl); (case p_397 => rfl); (case d_397 => decide)
    with_reducible refine' evl_nil ?_
    (with_reducible refine' cl_new_pt ?r_407 ?c_407 ?_); (case r_407 => (refine Cx.Room.le (by assumption) ?_; decide)); (case c_407 => rfl)
    with_reducible refine seq_ret ?_
    with_reducible refine seq_ret ?_
    with_reducible refine seq_ret ?_
    with_reducible refine body_ret ?_
    exact h
  · with_reducible refine ex_cons ?_
    with_reducible refine' ex_if ?_
    (with_reducible refine' evt_Compare ?_ ?m_441); (case m_441 => with_unfolding_all rfl)
    (with_reducible refine' ev_name ?x_443 ?p_443 ?_ ?d_443); (case x_443 => rfl); (case p_443 => rfl); (case d_443 => decide)
    with_reducible refine' ev_int ?_
    with_reducible refine' op_eq ?_
    with_reducible refine' opt_bool ?_
    (with_reducible refine' ite_f ?h_465 ?_); (case h_465 => decide)
    with_reducible refine ex_cons ?_
    with_reducible refine' ex_if ?_
    (with_reducible refine' evt_Compare ?_ ?m_482); (case m_482 => with_unfolding_all rfl)
    (with_reducible refine' ev_name ?x_486 ?p_486 ?_ ?d_486); (case x_486 => rfl); (case p_486 => rfl); (case d_486 => decide)
    with_reducible refine' ev_int ?_
    with_reducible refine' op_eq ?_
    with_reducible refine' opt_bool ?_
    (with_reducible refine' ite_f ?h_495 ?_); (case h_495 => decide)
    with_reducible refine ex_cons ?_
    with_reducible refine' ex_if ?_
    (with_reducible refine' evt_Compare ?_ ?m_508); (case m_508 => with_unfolding_all rfl)
    (with_reducible refine' ev_name ?x_509 ?p_509 ?_ ?d_509); (case x_509 => rfl); (case p_509 => rfl); (case d_509 => decide)
    with_reducible refine' ev_int ?_
    with_reducible refine' op_eq ?_
    with_reducible refine' opt_bool ?_
    (with_reducible refine' ite_t ?h_524 ?_); (case h_524 => decide)
    with_reducible refine ex_cons ?_
    with_reducible refine' ex_return ?_
    (with_reducible refine' ev_Call ?_ ?h_537); (case h_537 => with_unfolding_all rfl)
    (with_reducible refine' ev_global g_Point ?k_543 ?_ ?d_543); (case k_543 => rfl); (case d_543 => decide)
    (with_reducible refine' cw_def keep_CP ?_ ?h_547 ?p_547); (case h_547 => with_unfolding_all rfl); (case p_547 => with_unfolding_all rfl)
    (with_reducible refine' evl_cons ?_ ?h_558); (case h_558 => with_unfolding_all rfl)
    with_reducible refine' ev_UnaryOp ?_
    (with_reducible refine' ev_name ?x_562 ?p_562 ?_ ?d_562); (case x_562 => rfl); (case p_562 => rfl); (case d_562 => decide)
    with_reducible refine' op_neg ?_
    (with_reducible refine' evl_cons ?_ ?h_574); (case h_574 => with_unfolding_all rfl)
    with_reducible refine' ev_UnaryOp ?_
    (with_reducible refine' ev_name ?x_583 ?p_583 ?_ ?d_583); (case x_583 => rfl); (case p_583 => rfl); (case d_583 => decide)
    with_reducible refine' op_neg ?_
    (with_reducible refine' evl_cons ?_ ?h_591); (case h_591 => with_unfolding_all rfl)
    with_reducible refine' ev_int ?_
    with_reducible refine' evl_nil ?_
    (with_reducible refine' cl_new_pt ?r_601 ?c_601 ?_); (case r_601 => (refine Cx.Room.le (by assumption) ?_; decide)); (case c_601 => rfl)
    with_reducible refine seq_ret ?_
    with_reducible refine seq_ret ?_
    with_reducible refine seq_ret ?_
    with_reducible refine seq_ret ?_
    with_reducible refine body_ret ?_
    exact h
  · with_reducible refine ex_cons ?_
    with_reducible refine' ex_if ?_
    (with_reducible refine' evt_Compare ?_ ?m_637); (case m_637 => with_unfolding_all rfl)
    (with_reducible refine' ev_name ?x_638 ?p_638 ?_ ?d_638); (case x_638 => rfl); (case p_638 => rfl); (case d_638 => decide)
    with_reducible refine' ev_int ?_
    with_reducible refine' op_eq ?_
    with_reducible refine' opt_bool ?_
    (with_reducible refine' ite_f ?h_672 ?_); (case h_672 => decide)
    with_reducible refine ex_cons ?_
    with_reducible refine' ex_if ?_
    (with_reducible refine' evt_Compare ?_ ?m_694); (case m_694 => with_unfolding_all rfl)
    (with_reducible refine' ev_name ?x_696 ?p_696 ?_ ?d_696); (case x_696 => rfl); (case p_696 => rfl); (case d_696 => decide)
    with_reducible refine' ev_int ?_
    with_reducible refine' op_eq ?_
    with_reducible refine' opt_bool ?_
    (with_reducible refine' ite_f ?h_706 ?_); (case h_706 => decide)
    with_reducible refine ex_cons ?_
    with_reducible refine' ex_if ?_
    (with_reducible refine' evt_Compare ?_ ?m_717); (case m_717 => with_unfolding_all rfl)
    (with_reducible refine' ev_name ?x_718 ?p_718 ?_ ?d_718); (case x_718 => rfl); (case p_718 => rfl); (case d_718 => decide)
    with_reducible refine' ev_int ?_
    with_reducible refine' op_eq ?_
    with_reducible refine' opt_bool ?_
    (with_reducible refine' ite_f ?h_725 ?_); (case h_725 => decide)
    with_reducible refine ex_cons ?_
    with_reducible refine' ex_if ?_
    (with_reducible refine' evt_Compare ?_ ?m_745); (case m_745 => with_unfolding_all rfl)
    (with_reducible refine' ev_name ?x_749 ?p_749 ?_ ?d_749); (case x_749 => rfl); (case p_749 => rfl); (case d_749 => decide)
    with_reducible refine' ev_int ?_
    with_reducible refine' op_eq ?_
    with_reducible refine' opt_bool ?_
    (with_reducible refine' ite_t ?h_763 ?_); (case h_763 => decide)
    with_reducible refine ex_cons ?_
    with_reducible refine' ex_return ?_
    (with_reducible refine' ev_Call ?_ ?h_771); (case h_771 => with_unfolding_all rfl)
    (with_reducible refine' ev_global g_Point ?k_772 ?_ ?d_772); (case k_772 => rfl); (case d_772 => decide)
    (with_reducible refine' cw_def keep_CP ?_ ?h_773 ?p_773); (case h_773 => with_unfolding_all rfl); (case p_773 => with_unfolding_all rfl)
    (with_reducible refine' evl_cons ?_ ?h_789); (case h_789 => with_unfolding_all rfl)
    with_reducible refine' ev_UnaryOp ?_
    with_reducible refine' ev_int ?_
    with_reducible refine' op_neg ?_
    (with_reducible refine' evl_cons ?_ ?h_798); (case h_798 => with_unfolding_all rfl)
    with_reducible refine' ev_UnaryOp ?_
    (with_reducible refine' ev_name ?x_802 ?p_802 ?_ ?d_802); (case x_802 => rfl); (case p_802 => rfl); (case d_802 => decide)
    with_reducible refine' op_neg ?_
    (with_reducible refine' evl_cons ?_ ?h_812); (case h_812 => with_unfolding_all rfl)
    with_reducible refine' ev_UnaryOp ?_
    (with_reducible refine' ev_name ?x_816 ?p_816 ?_ ?d_816); (case x_816 => rfl); (case p_816 => rfl); (case d_816 => decide)
    with_reducible refine' op_neg ?_
    with_reducible refine' evl_nil ?_
    (with_reducible refine' cl_new_pt ?r_839 ?c_839 ?_); (case r_839 => (refine Cx.Room.le (by assumption) ?_; decide)); (case c_839 => rfl)
    with_reducible refine seq_ret ?_
    with_reducible refine seq_ret ?_
    with_reducible refine seq_ret ?_
    with_reducible refine seq_ret ?_
    with_reducible refine seq_ret ?_
    with_reducible refine body_ret ?_
    exact h
  · with_reducible refine ex_cons ?_
    with_reducible refine' ex_if ?_
    (with_reducible refine' evt_Compare ?_ ?m_869); (case m_869 => with_unfolding_all rfl)
    (with_reducible refine' ev_name ?x_871 ?p_871 ?_ ?d_871); (case x_871 => rfl); (case p_871 => rfl); (case d_871 => decide)
    with_reducible refine' ev_int ?_
    with_reducible refine' op_eq ?_
    with_reducible refine' opt_bool ?_
    (with_reducible refine' ite_f ?h_882 ?_); (case h_882 => decide)
    with_reducible refine ex_cons ?_
    with_reducible refine' ex_if ?_
    (with_reducible refine' evt_Compare ?_ ?m_893); (case m_893 => with_unfolding_all rfl)
    (with_reducible refine' ev_name ?x_894 ?p_894 ?_ ?d_894); (case x_894 => rfl); (case p_894 => rfl); (case d_894 => decide)
    with_reducible refine' ev_int ?_
    with_reducible refine' op_eq ?_
    with_reducible refine' opt_bool ?_
    (with_reducible refine' ite_f ?h_911 ?_); (case h_911 => decide)
    with_reducible refine ex_cons ?_
    with_reducible refine' ex_if ?_
    (with_reducible refine' evt_Compare ?_ ?m_932); (case m_932 => with_unfolding_all rfl)
    (with_reducible refine' ev_name ?x_935 ?p_935 ?_ ?d_935); (case x_935 => rfl); (case p_935 => rfl); (case d_935 => decide)
    with_reducible refine' ev_int ?_
    with_reducible refine' op_eq ?_
    with_reducible refine' opt_bool ?_
    (with_reducible refine' ite_f ?h_969 ?_); (case h_969 => decide)
    with_reducible refine ex_cons ?_
    with_reducible refine' ex_if ?_
    (with_reducible refine' evt_Compare ?_ ?m_983); (case m_983 => with_unfolding_all rfl)
    (with_reducible refine' ev_name ?x_986 ?p_986 ?_ ?d_986); (case x_986 => rfl); (case p_986 => rfl); (case d_986 => decide)
    with_reducible refine' ev_int ?_
    with_reducible refine' op_eq ?_
    with_reducible refine' opt_bool ?_
    (with_reducible refine' ite_f ?h_995 ?_); (case h_995 => decide)
    with_reducible refine ex_cons ?_
    with_reducible refine' ex_if ?_
    (with_reducible refine' evt_Compare ?_ ?m_1007); (case m_1007 => with_unfolding_all rfl)
    (with_reducible refine' ev_name ?x_1011 ?p_1011 ?_ ?d_1011); (case x_1011 => rfl); (case p_1011 => rfl); (case d_1011 => decide)
    with_reducible refine' ev_int ?_
    with_reducible refine' op_eq ?_
    with_reducible refine' opt_bool ?_
    (with_reducible refine' ite_t ?h_1042 ?_); (case h_1042 => decide)
    with_reducible refine ex_cons ?_
    with_reducible refine' ex_return ?_
    (with_reducible refine' ev_Call ?_ ?h_1055); (case h_1055 => with_unfolding_all rfl)
    (with_reducible refine' ev_global g_Point ?k_1063 ?_ ?d_1063); (case k_1063 => rfl); (case d_1063 => decide)
    (with_reducible refine' cw_def keep_CP ?_ ?h_1073 ?p_1073); (case h_1073 => with_unfolding_all rfl); (case p_1073 => with_unfolding_all rfl)
    (with_reducible refine' evl_cons ?_ ?h_1080); (case h_1080 => with_unfolding_all rfl)
    (with_reducible refine' ev_name ?x_1081 ?p_1081 ?_ ?d_1081); (case x_1081 => rfl); (case p_1081 => rfl); (case d_1081 => decide)
    (with_reducible refine' evl_cons ?_ ?h_1085); (case h_1085 => with_unfolding_all rfl)
    with_reducible refine' ev_UnaryOp ?_
    with_reducible refine' ev_int ?_
    with_reducible refine' op_neg ?_
    (with_reducible refine' evl_cons ?_ ?h_1095); (case h_1095 => with_unfolding_all rfl)
    with_reducible refine' ev_UnaryOp ?_
    (with_reducible refine' ev_name ?x_1100 ?p_1100 ?_ ?d_1100); (case x_1100 => rfl); (case p_1100 => rfl); (case d_1100 => decide)
    with_reducible refine' op_neg ?_
    with_reducible refine' evl_nil ?_
    (with_reducible refine' cl_new_pt ?r_1123 ?c_1123 ?_); (case r_1123 => (refine Cx.Room.le (by assumption) ?_; decide)); (case c_1123 => rfl)
    with_reducible refine seq_ret ?_
    with_reducible refine seq_ret ?_
    with_reducible refine seq_ret ?_
    with_reducible refine seq_ret ?_
    with_reducible refine seq_ret ?_
    with_reducible refine seq_ret ?_
    with_reducible refine body_ret ?_
    exact h
  · with_reducible refine ex_cons ?_
    with_reducible refine' ex_if ?_
    (with_reducible refine' evt_Compare ?_ ?m_1183); (case m_1183 => with_unfolding_all rfl)
    (with_reducible refine' ev_name ?x_1188 ?p_1188 ?_ ?d_1188); (case x_1188 => rfl); (case p_1188 => rfl); (case d_1188 => decide)
    with_reducible refine' ev_int ?_
    with_reducible refine' op_eq ?_
    with_reducible refine' opt_bool ?_
    (with_reducible refine' ite_f ?h_1211 ?_); (case h_1211 => decide)
    with_reducible refine ex_cons ?_
    with_reducible refine' ex_if ?_
    (with_reducible refine' evt_Compare ?_ ?m_1241); (case m_1241 => with_unfolding_all rfl)
    (with_reducible refine' ev_name ?x_1248 ?p_1248 ?_ ?d_1248); (case x_1248 => rfl); (case p_1248 => rfl); (case d_1248 => decide)
    with_reducible refine' ev_int ?_
    with_reducible refine' op_eq ?_
    with_reducible refine' opt_bool ?_
    (with_reducible refine' ite_f ?h_1273 ?_); (case h_1273 => decide)
    with_reducible refine ex_cons ?_
    with_reducible refine' ex_if ?_
    (with_reducible refine' evt_Compare ?_ ?m_1293); (case m_1293 => with_unfolding_all rfl)
    (with_reducible refine' ev_name ?x_1294 ?p_1294 ?_ ?d_1294); (case x_1294 => rfl); (case p_1294 => rfl); (case d_1294 => decide)
    with_reducible refine' ev_int ?_
    with_reducible refine' op_eq ?_
    with_reducible refine' opt_bool ?_
    (with_reducible refine' ite_f ?h_1317 ?_); (case h_1317 => decide)
    with_reducible refine ex_cons ?_
    with_reducible refine' ex_if ?_
    (with_reducible refine' evt_Compare ?_ ?m_1332); (case m_1332 => with_unfolding_all rfl)
    (with_reducible refine' ev_name ?x_1334 ?p_1334 ?_ ?d_1334); (case x_1334 => rfl); (case p_1334 => rfl); (case d_1334 => decide)
    with_reducible refine' ev_int ?_
    with_reducible refine' op_eq ?_
    with_reducible refine' opt_bool ?_
    (with_reducible refine' ite_f ?h_1346 ?_); (case h_1346 => decide)
    with_reducible refine ex_cons ?_
    with_reducible refine' ex_if ?_
    (with_reducible refine' evt_Compare ?_ ?m_1362); (case m_1362 => with_unfolding_all rfl)
    (with_reducible refine' ev_name ?x_1363 ?p_1363 ?_ ?d_1363); (case x_1363 => rfl); (case p_1363 => rfl); (case d_1363 => decide)
    with_reducible refine' ev_int ?_
    with_reducible refine' op_eq ?_
    with_reducible refine' opt_bool ?_
    (with_reducible refine' ite_f ?h_1370 ?_); (case h_1370 => decide)
    with_reducible refine ex_cons ?_
    with_reducible refine' ex_return ?_
    (with_reducible refine' ev_Call ?_ ?h_1374); (case h_1374 => with_unfolding_all rfl)
    (with_reducible refine' ev_global g_Point ?k_1375 ?_ ?d_1375); (case k_1375 => rfl); (case d_1375 => decide)
    (with_reducible refine' cw_def keep_CP ?_ ?h_1376 ?p_1376); (case h_1376 => with_unfolding_all rfl); (case p_1376 => with_unfolding_all rfl)
    (with_reducible refine' evl_cons ?_ ?h_1378); (case h_1378 => with_unfolding_all rfl)
    (with_reducible refine' ev_name ?x_1379 ?p_1379 ?_ ?d_1379); (case x_1379 => rfl); (case p_1379 => rfl); (case d_1379 => decide)
    (with_reducible refine' evl_cons ?_ ?h_1381); (case h_1381 => with_unfolding_all rfl)
    (with_reducible refine' ev_name ?x_1382 ?p_1382 ?_ ?d_1382); (case x_1382 => rfl); (case p_1382 => rfl); (case d_1382 => decide)
    (with_reducible refine' evl_cons ?_ ?h_1384); (case h_1384 => with_unfolding_all rfl)
    with_reducible refine' ev_UnaryOp ?_
    with_reducible refine' ev_int ?_
    with_reducible refine' op_neg ?_
    with_reducible refine' evl_nil ?_
    (with_reducible refine' cl_new_pt ?r_1396 ?c_1396 ?_); (case r_1396 => (refine Cx.Room.le (by assumption) ?_; decide)); (case c_1396 => rfl)
    with_reducible refine seq_ret ?_
    with_reducible refine seq_ret ?_
    with_reducible refine seq_ret ?_
    with_reducible refine seq_ret ?_
    with_reducible refine seq_ret ?_
    with_reducible refine seq_ret ?_
    with_reducible refine body_ret ?_
    exact h
theorem cl_get_norm {f : Nat} {Q : PV → Prop} (hr : c.Room 4) (hf : f < 6) (h : Q (.point (fX f 0 0) (fY f 0 0) (fZ f 0 0))) : Cl (gl w mean mg mb) c σ (.ref d_get_norm) [.int (f : Int)] Q := by
  refine cl_def (k := 3) (ns := ["face"]) (by rfl) (by kernel_rfl) hr (by (intro vs s hl; match vs, hl with | [_], _ => exact BindsTo.of_eq rfl)) (by decide) (by decide) (by decide) (fun A g0 fL hid hr' => ?_)
  with_reducible refine ex_cons ?_
  with_reducible refine' ex_return ?_
  (with_reducible refine' ev_Call ?_ ?h_197); (case h_197 => with_unfolding_all rfl)
  (with_reducible refine' ev_global g_face_uv_to_xyz ?k_201 ?_ ?d_201); (case k_201 => rfl); (case d_201 => decide)
  (with_reducible refine' cw_def kp_face_uv_to_xyz ?_ ?h_236 ?p_236); (case h_236 => with_unfolding_all rfl); (case p_236 => with_unfolding_all rfl)
  (with_reducible refine' evl_cons ?_ ?h_247); (case h_247 => with_unfolding_all rfl)
  (with_reducible refine' ev_name ?x_250 ?p_250 ?_ ?d_250); (case x_250 => rfl); (case p_250 => rfl); (case d_250 => decide)
  (with_reducible refine' evl_cons ?_ ?h_260); (case h_260 => with_unfolding_all rfl)
  with_reducible refine' ev_int ?_
  (with_reducible refine' evl_cons ?_ ?h_263); (case h_263 => with_unfolding_all rfl)
  with_reducible refine' ev_int ?_
  with_reducible refine' evl_nil ?_
  refine cl_face_uv (hr'.le (by decide)) hf ?_
  with_reducible refine seq_ret ?_
  with_reducible refine body_ret ?_
  exact h
theorem cl_lac {x y z : Int} {Q : PV → Prop} (hr : c.Room 3) (h : Q (.int (lac x y z : Nat))) : Cl (gl w mean mg mb) c σ (.ref pf_largest_abs_component) [.point x y z] Q := by
  refine cl_def (k := 2) (ns := ["self"]) (by rfl) (by kernel_rfl) hr (by (intro vs s hl; match vs, hl with | [_], _ => exact BindsTo.of_eq rfl)) (by decide) (by decide) (by decide) (fun A g0 fL hid hr' => ?_)
  with_reducible refine ex_cons ?_
  refine ex_assign_comp [] (fun _ => true) (fun v => match v with | .int n => .int (max n (-n)) | _ => .int 0) ⟨rfl, rfl, rfl, rfl, rfl, fun n hn => by cases hn⟩ rfl rfl rfl ?_ (fun _ => rfl)
  (with_reducible refine' ev_Attr ?_ ?h_851); (case h_851 => with_unfolding_all rfl)
  (with_reducible refine' ev_name ?x_858 ?p_858 ?_ ?d_858); (case x_858 => rfl); (case p_858 => rfl); (case d_858 => decide)
  with_reducible refine' at_point pt_own ?_
  refine ⟨[.int x, .int y, .int z], .tup, by simp, ?_, ?_, fun _ _ _ => rfl, ?_, ?_⟩
  · intro v hv; simp only [List.mem_cons, List.not_mem_nil, or_false] at hv; rcases hv with rfl | rfl | rfl <;> rfl
  · intro v hv; simp only [List.mem_cons, List.not_mem_nil, or_false] at hv; rcases hv with rfl | rfl | rfl <;> rfl
  · intro C v hv _
    obtain ⟨n, rfl⟩ : ∃ n, v = .int n := by
      simp only [List.mem_cons, List.not_mem_nil, or_false] at hv
      rcases hv with rfl | rfl | rfl
      · exact ⟨x, rfl⟩
      · exact ⟨y, rfl⟩
      · exact ⟨z, rfl⟩
    (with_reducible refine' ev_Call ?_ ?h_1021); (case h_1021 => with_unfolding_all rfl)
    (with_reducible refine' ev_builtin n_max bb_max ?k_1028 ?_ ?n_1028 ?d_1028); (case k_1028 => rfl); (case n_1028 => decide); (case d_1028 => decide)
    (with_reducible refine' cw_builtin ?_ ?h_1104 ?p_1104); (case h_1104 => with_unfolding_all rfl); (case p_1104 => with_unfolding_all rfl)
    (with_reducible refine' evl_cons ?_ ?h_1122); (case h_1122 => with_unfolding_all rfl)
    (with_reducible refine' ev_name ?x_1126 ?p_1126 ?_ ?d_1126); (case x_1126 => rfl); (case p_1126 => rfl); (case d_1126 => decide)
    (with_reducible refine' evl_cons ?_ ?h_1146); (case h_1146 => with_unfolding_all rfl)
    with_reducible refine' ev_UnaryOp ?_
    (with_reducible refine' ev_name ?x_1158 ?p_1158 ?_ ?d_1158); (case x_1158 => rfl); (case p_1158 => rfl); (case d_1158 => decide)
    with_reducible refine' op_neg ?_
    with_reducible refine' evl_nil ?_
    with_reducible refine' b_max ?_
    rfl
  · with_reducible refine seq_nxt ?_
    with_reducible refine ex_cons ?_
    with_reducible refine' ex_if ?_
    (with_reducible refine' evt_Compare ?_ ?m_1256); (case m_1256 => with_unfolding_all rfl)
    with_reducible refine' ev_Subscript ?_
    (with_reducible refine' ev_name ?x_1267 ?p_1267 ?_ ?d_1267); (case x_1267 => rfl); (case p_1267 => rfl); (case d_1267 => decide)
    with_reducible refine' ev_int ?_
    (with_reducible refine' op_item_lst ?a_1311 ?b_1311 ?x_1311 ?_ ?s_1311); (case a_1311 => decide); (case b_1311 => decide); (case x_1311 => rfl); (case s_1311 => intros; with_unfolding_all rfl)
    with_reducible refine' ev_Subscript ?_
    (with_reducible refine' ev_name ?x_1327 ?p_1327 ?_ ?d_1327); (case x_1327 => rfl); (case p_1327 => rfl); (case d_1327 => decide)
    with_reducible refine' ev_int ?_
    (with_reducible refine' op_item_lst ?a_1342 ?b_1342 ?x_1342 ?_ ?s_1342); (case a_1342 => decide); (case b_1342 => decide); (case x_1342 => rfl); (case s_1342 => intros; with_unfolding_all rfl)
    with_reducible refine' op_gt ?_
    with_reducible refine' opt_bool ?_
    unfold lac at h
    by_cases h1 : max x (-x) > max y (-y)
    · rw [if_pos h1] at h
      refine ite_t (decide_eq_true h1) ?_
      with_reducible refine ex_cons ?_
      with_reducible refine' ex_if ?_
      (with_reducible refine' evt_Compare ?_ ?m_1420); (case m_1420 => with_unfolding_all rfl)
      with_reducible refine' ev_Subscript ?_
      (with_reducible refine' ev_name ?x_1422 ?p_1422 ?_ ?d_1422); (case x_1422 => rfl); (case p_1422 => rfl); (case d_1422 => decide)
      with_reducible refine' ev_int ?_
      (with_reducible refine' op_item_lst ?a_1426 ?b_1426 ?x_1426 ?_ ?s_1426); (case a_1426 => decide); (case b_1426 => decide); (case x_1426 => rfl); (case s_1426 => intros; with_unfolding_all rfl)
      with_reducible refine' ev_Subscript ?_
      (with_reducible refine' ev_name ?x_1428 ?p_1428 ?_ ?d_1428); (case x_1428 => rfl); (case p_1428 => rfl); (case d_1428 => decide)
      with_reducible refine' ev_int ?_
      (with_reducible refine' op_item_lst ?a_1432 ?b_1432 ?x_1432 ?_ ?s_1432); (case a_1432 => decide); (case b_1432 => decide); (case x_1432 => rfl); (case s_1432 => intros; with_unfolding_all rfl)
      with_reducible refine' op_gt ?_
      with_reducible refine' opt_bool ?_
      by_cases h2 : max x (-x) > max z (-z)
      · rw [if_pos h2] at h
        refine ite_t (decide_eq_true h2) ?_
        with_reducible refine ex_cons ?_
        with_reducible refine' ex_return ?_
        with_reducible refine' ev_int ?_
        with_reducible refine seq_ret ?_
        with_reducible refine seq_ret ?_
        with_reducible refine seq_ret ?_
        with_reducible refine body_ret ?_
        exact h
      · rw [if_neg h2] at h
        refine ite_f (decide_eq_false h2) ?_
        with_reducible refine ex_cons ?_
        with_reducible refine' ex_return ?_
        with_reducible refine' ev_int ?_
        with_reducible refine seq_ret ?_
        with_reducible refine seq_ret ?_
        with_reducible refine seq_ret ?_
        with_reducible refine body_ret ?_
        exact h
    · rw [if_neg h1] at h
      refine ite_f (decide_eq_false h1) ?_
      with_reducible refine ex_cons ?_
      with_reducible refine' ex_if ?_
      (with_reducible refine' evt_Compare ?_ ?m_1500); (case m_1500 => with_unfolding_all rfl)
      with_reducible refine' ev_Subscript ?_
      (with_reducible refine' ev_name ?x_1502 ?p_1502 ?_ ?d_1502); (case x_1502 => rfl); (case p_1502 => rfl); (case d_1502 => decide)
      with_reducible refine' ev_int ?_
      (with_reducible refine' op_item_lst ?a_1519 ?b_1519 ?x_1519 ?_ ?s_1519); (case a_1519 => decide); (case b_1519 => decide); (case x_1519 => rfl); (case s_1519 => intros; with_unfolding_all rfl)
      with_reducible refine' ev_Subscript ?_
      (with_reducible refine' ev_name ?x_1525 ?p_1525 ?_ ?d_1525); (case x_1525 => rfl); (case p_1525 => rfl); (case d_1525 => decide)
      with_reducible refine' ev_int ?_
      (with_reducible refine' op_item_lst ?a_1530 ?b_1530 ?x_1530 ?_ ?s_1530); (case a_1530 => decide); (case b_1530 => decide); (case x_1530 => rfl); (case s_1530 => intros; with_unfolding_all rfl)
      with_reducible refine' op_gt ?_
      with_reducible refine' opt_bool ?_
      by_cases h2 : max y (-y) > max z (-z)
      · rw [if_pos h2] at h
        refine ite_t (decide_eq_true h2) ?_
        with_reducible refine ex_cons ?_
        with_reducible refine' ex_return ?_
        with_reducible refine' ev_int ?_
        with_reducible refine seq_ret ?_
        with_reducible refine seq_ret ?_
        with_reducible refine seq_ret ?_
        with_reducible refine body_ret ?_
        exact h
      · rw [if_neg h2] at h
        refine ite_f (decide_eq_false h2) ?_
        with_reducible refine ex_cons ?_
        with_reducible refine' ex_return ?_
        with_reducible refine' ev_int ?_
        with_reducible refine seq_ret ?_
        with_reducible refine seq_ret ?_
        with_reducible refine seq_ret ?_
        with_reducible refine body_ret ?_
        exact h
theorem cl_dot {x y z x2 y2 z2 : Int} {Q : PV → Prop} (hr : c.Room 2) (h1 : x.natAbs < 2 ^ 64) (h2 : y.natAbs < 2 ^ 64) (h3 : z.natAbs < 2 ^ 64) (h : Q (.int (x * x2 + y * y2 + z * z2))) : Cl (gl w mean mg mb) c σ (.ref pf_dot_prod) [.point x y z, .point x2 y2 z2] Q := by
  refine cl_def (k := 1) (ns := ["self", "other"]) (by rfl) (by kernel_rfl) hr (by (intro vs s hl; match vs, hl with | [_, _], _ => exact BindsTo.of_eq rfl)) (by decide) (by decide) (by decide) (fun A g0 fL hid hr' => ?_)
  with_reducible refine ex_cons ?_
  (with_reducible refine' ex_assign_tuple ?_ ?s_442 ?w_442); (case s_442 => rfl); (case w_442 => rfl)
  (with_reducible refine' ev_Attr ?_ ?h_448); (case h_448 => with_unfolding_all rfl)
  (with_reducible refine' ev_name ?x_457 ?p_457 ?_ ?d_457); (case x_457 => rfl); (case p_457 => rfl); (case d_457 => decide)
  with_reducible refine' at_point pt_own ?_
  (with_reducible refine' as_tuple ?_ ?n_485 ?s_485); (case n_485 => rfl); (case s_485 => rfl)
  (with_reducible refine' asE_cons ?k_492 ?l_492 ?_); (case k_492 => rfl); (case l_492 => rfl)
  (with_reducible refine' asE_cons ?k_499 ?l_499 ?_); (case k_499 => rfl); (case l_499 => rfl)
  (with_reducible refine' asE_cons ?k_510 ?l_510 ?_); (case k_510 => rfl); (case l_510 => rfl)
  with_reducible refine' asE_nil ?_
  with_reducible refine seq_nxt ?_
  with_reducible refine ex_cons ?_
  (with_reducible refine' ex_assign_tuple ?_ ?s_542 ?w_542); (case s_542 => rfl); (case w_542 => rfl)
  (with_reducible refine' ev_Attr ?_ ?h_548); (case h_548 => with_unfolding_all rfl)
  (with_reducible refine' ev_name ?x_553 ?p_553 ?_ ?d_553); (case x_553 => rfl); (case p_553 => rfl); (case d_553 => decide)
  with_reducible refine' at_point pt_own ?_
  (with_reducible refine' as_tuple ?_ ?n_582 ?s_582); (case n_582 => rfl); (case s_582 => rfl)
  (with_reducible refine' asE_cons ?k_592 ?l_592 ?_); (case k_592 => rfl); (case l_592 => rfl)
  (with_reducible refine' asE_cons ?k_602 ?l_602 ?_); (case k_602 => rfl); (case l_602 => rfl)
  (with_reducible refine' asE_cons ?k_618 ?l_618 ?_); (case k_618 => rfl); (case l_618 => rfl)
  with_reducible refine' asE_nil ?_
  with_reducible refine seq_nxt ?_
  with_reducible refine ex_cons ?_
  with_reducible refine' ex_return ?_
  with_reducible refine' ev_BinOp ?_
  with_reducible refine' ev_BinOp ?_
  with_reducible refine' ev_BinOp ?_
  (with_reducible refine' ev_name ?x_659 ?p_659 ?_ ?d_659); (case x_659 => rfl); (case p_659 => rfl); (case d_659 => decide)
  (with_reducible refine' ev_name ?x_679 ?p_679 ?_ ?d_679); (case x_679 => rfl); (case p_679 => rfl); (case d_679 => decide)
  refine op_mul (mul_ok_l h1) ?_
  with_reducible refine' ev_BinOp ?_
  (with_reducible refine' ev_name ?x_769 ?p_769 ?_ ?d_769); (case x_769 => rfl); (case p_769 => rfl); (case d_769 => decide)
  (with_reducible refine' ev_name ?x_774 ?p_774 ?_ ?d_774); (case x_774 => rfl); (case p_774 => rfl); (case d_774 => decide)
  refine op_mul (mul_ok_l h2) ?_
  with_reducible refine' op_add ?_
  with_reducible refine' ev_BinOp ?_
  (with_reducible refine' ev_name ?x_870 ?p_870 ?_ ?d_870); (case x_870 => rfl); (case p_870 => rfl); (case d_870 => decide)
  (with_reducible refine' ev_name ?x_876 ?p_876 ?_ ?d_876); (case x_876 => rfl); (case p_876 => rfl); (case d_876 => decide)
  refine op_mul (mul_ok_l h3) ?_
  with_reducible refine' op_add ?_
  with_reducible refine seq_ret ?_
  with_reducible refine body_ret ?_
  exact h
theorem cl_valid {f : Nat} {x y z : Int} {Q : PV → Prop} (hr : c.Room 5) (hf : f < 6) (h1 : x.natAbs < 2 ^ 32) (h2 : y.natAbs < 2 ^ 32) (h3 : z.natAbs < 2 ^ 32) (ha : 0 < axis f x y z) (h : Q (.tup [.int (vU f x y z), .int (vV f x y z)])) :
    Cl (gl w mean mg mb) c σ (.ref d_valid_face_xyz_to_uv) [.int (f : Int), .point x y z] Q := by
  refine cl_def (k := 4) (ns := ["face", "p"]) (by rfl) (by kernel_rfl) hr (by (intro vs s hl; match vs, hl with | [_, _], _ => exact BindsTo.of_eq rfl)) (by decide) (by decide) (by decide) (fun A g0 fL hid hr' => ?_)
  have e6 : f = 0 ∨ f = 1 ∨ f = 2 ∨ f = 3 ∨ f = 4 ∨ f = 5 := by omega
  with_reducible refine ex_cons ?_
  with_reducible refine' ex_assert ?_
  (with_reducible refine' evt_Compare ?_ ?m_586); (case m_586 => with_unfolding_all rfl)
  (with_reducible refine' ev_Method (pl := _) ?_ ?h_587); (case h_587 => with_unfolding_all rfl)
  (with_reducible refine' ev_name ?x_626 ?p_626 ?_ ?d_626); (case x_626 => rfl); (case p_626 => rfl); (case d_626 => decide)
  (with_reducible refine' mth_pt pm_dot_prod ?_ ?h_661 ?p_661); (case h_661 => with_unfolding_all rfl); (case p_661 => with_unfolding_all rfl)
  (with_reducible refine' evl_cons ?_ ?h_670); (case h_670 => with_unfolding_all rfl)
  (with_reducible refine' ev_Call ?_ ?h_681); (case h_681 => with_unfolding_all rfl)
  (with_reducible refine' ev_global g_face_uv_to_xyz ?k_688 ?_ ?d_688); (case k_688 => rfl); (case d_688 => decide)
  (with_reducible refine' cw_def kp_face_uv_to_xyz ?_ ?h_758 ?p_758); (case h_758 => with_unfolding_all rfl); (case p_758 => with_unfolding_all rfl)
  (with_reducible refine' evl_cons ?_ ?h_764); (case h_764 => with_unfolding_all rfl)
  (with_reducible refine' ev_name ?x_768 ?p_768 ?_ ?d_768); (case x_768 => rfl); (case p_768 => rfl); (case d_768 => decide)
  (with_reducible refine' evl_cons ?_ ?h_776); (case h_776 => with_unfolding_all rfl)
  with_reducible refine' ev_int ?_
  (with_reducible refine' evl_cons ?_ ?h_779); (case h_779 => with_unfolding_all rfl)
  with_reducible refine' ev_int ?_
  with_reducible refine' evl_nil ?_
  refine cl_face_uv (hr'.le (by decide)) hf ?_
  with_reducible refine' evl_nil ?_
  refine cl_dot (hr'.le (by decide)) (by omega) (by omega) (by omega) ?_
  with_reducible refine' ev_int ?_
  with_reducible refine' op_gt ?_
  with_reducible refine' opt_bool ?_
  have hd : x * fX f 0 0 + y * fY f 0 0 + z * fZ f 0 0 = axis f x y z := by
    rcases e6 with rfl | rfl | rfl | rfl | rfl | rfl <;> simp [fX, fY, fZ, axis]
  rw [hd]
  refine ⟨decide_eq_true ha, ?_⟩
  rcases e6 with rfl | rfl | rfl | rfl | rfl | rfl
  · have hne : x ≠ 0 := by have : 0 < x := ha; omega
    with_reducible refine seq_nxt ?_
    with_reducible refine ex_cons ?_
    with_reducible refine' ex_if ?_
    (with_reducible refine' evt_Compare ?_ ?m_1514); (case m_1514 => with_unfolding_all rfl)
    (with_reducible refine' ev_name ?x_1515 ?p_1515 ?_ ?d_1515); (case x_1515 => rfl); (case p_1515 => rfl); (case d_1515 => decide)
    with_reducible refine' ev_int ?_
    with_reducible refine' op_eq ?_
    with_reducible refine' opt_bool ?_
    (with_reducible refine' ite_t ?h_1531 ?_); (case h_1531 => decide)
    with_reducible refine ex_cons ?_
    with_reducible refine' ex_return ?_
    with_reducible refine' ev_Tuple ?_
    (with_reducible refine' evl_cons ?_ ?h_1536); (case h_1536 => with_unfolding_all rfl)
    (with_reducible refine' ev_Call ?_ ?h_1540); (case h_1540 => with_unfolding_all rfl)
    (with_reducible refine' ev_global g_quotient ?k_1542 ?_ ?d_1542); (case k_1542 => rfl); (case d_1542 => decide)
    (with_reducible refine' cw_def kp_quotient ?_ ?h_1546 ?p_1546); (case h_1546 => with_unfolding_all rfl); (case p_1546 => with_unfolding_all rfl)
    (with_reducible refine' evl_cons ?_ ?h_1548); (case h_1548 => with_unfolding_all rfl)
    with_reducible refine' ev_Subscript ?_
    (with_reducible refine' ev_name ?x_1550 ?p_1550 ?_ ?d_1550); (case x_1550 => rfl); (case p_1550 => rfl); (case d_1550 => decide)
    with_reducible refine' ev_int ?_
    (with_reducible refine' op_item_pt pt_item ?_ ?s_1557); (case s_1557 => intros; with_unfolding_all rfl)
    (with_reducible refine' cl_pt_item1 ?r_1572 ?_); (case r_1572 => (refine Cx.Room.in1 (Cx.Room.le (by assumption) ?_); decide))
    (with_reducible refine' evl_cons ?_ ?h_1574); (case h_1574 => with_unfolding_all rfl)
    with_reducible refine' ev_Subscript ?_
    (with_reducible refine' ev_name ?x_1577 ?p_1577 ?_ ?d_1577); (case x_1577 => rfl); (case p_1577 => rfl); (case d_1577 => decide)
    with_reducible refine' ev_int ?_
    (with_reducible refine' op_item_pt pt_item ?_ ?s_1586); (case s_1586 => intros; with_unfolding_all rfl)
    (with_reducible refine' cl_pt_item0 ?r_1594 ?_); (case r_1594 => (refine Cx.Room.in1 (Cx.Room.le (by assumption) ?_); decide))
    with_reducible refine' evl_nil ?_
    (with_reducible refine' cl_quotient ?r_1597 ?a_1597 ?b_1597 ?d_1597 ?_); (case r_1597 => (refine Cx.Room.le (by assumption) ?_; decide)); (case a_1597 => (first | assumption | omega)); (case b_1597 => (first | assumption | omega)); (case d_1597 => (first | assumption | omega))
    (with_reducible refine' evl_cons ?_ ?h_1601); (case h_1601 => with_unfolding_all rfl)
    (with_reducible refine' ev_Call ?_ ?h_1606); (case h_1606 => with_unfolding_all rfl)
    (with_reducible refine' ev_global g_quotient ?k_1610 ?_ ?d_1610); (case k_1610 => rfl); (case d_1610 => decide)
    (with_reducible refine' cw_def kp_quotient ?_ ?h_1613 ?p_1613); (case h_1613 => with_unfolding_all rfl); (case p_1613 => with_unfolding_all rfl)
    (with_reducible refine' evl_cons ?_ ?h_1624); (case h_1624 => with_unfolding_all rfl)
    with_reducible refine' ev_Subscript ?_
    (with_reducible refine' ev_name ?x_1628 ?p_1628 ?_ ?d_1628); (case x_1628 => rfl); (case p_1628 => rfl); (case d_1628 => decide)
    with_reducible refine' ev_int ?_
    (with_reducible refine' op_item_pt pt_item ?_ ?s_1631); (case s_1631 => intros; with_unfolding_all rfl)
    (with_reducible refine' cl_pt_item2 ?r_1637 ?_); (case r_1637 => (refine Cx.Room.in1 (Cx.Room.le (by assumption) ?_); decide))
    (with_reducible refine' evl_cons ?_ ?h_1639); (case h_1639 => with_unfolding_all rfl)
    with_reducible refine' ev_Subscript ?_
    (with_reducible refine' ev_name ?x_1641 ?p_1641 ?_ ?d_1641); (case x_1641 => rfl); (case p_1641 => rfl); (case d_1641 => decide)
    with_reducible refine' ev_int ?_
    (with_reducible refine' op_item_pt pt_item ?_ ?s_1643); (case s_1643 => intros; with_unfolding_all rfl)
    (with_reducible refine' cl_pt_item0 ?r_1649 ?_); (case r_1649 => (refine Cx.Room.in1 (Cx.Room.le (by assumption) ?_); decide))
    with_reducible refine' evl_nil ?_
    (with_reducible refine' cl_quotient ?r_1652 ?a_1652 ?b_1652 ?d_1652 ?_); (case r_1652 => (refine Cx.Room.le (by assumption) ?_; decide)); (case a_1652 => (first | assumption | omega)); (case b_1652 => (first | assumption | omega)); (case d_1652 => (first | assumption | omega))
    with_reducible refine' evl_nil ?_
    (with_reducible refine' And.intro ?a_1656 ?_); (case a_1656 => exact Nat.le_of_ble_eq_true rfl)
    with_reducible refine seq_ret ?_
    with_reducible refine seq_ret ?_
    with_reducible refine body_ret ?_
    exact h
  · have hne : y ≠ 0 := by have : 0 < y := ha; omega
    with_reducible refine seq_nxt ?_
    with_reducible refine ex_cons ?_
    with_reducible refine' ex_if ?_
    (with_reducible refine' evt_Compare ?_ ?m_1673); (case m_1673 => with_unfolding_all rfl)
    (with_reducible refine' ev_name ?x_1674 ?p_1674 ?_ ?d_1674); (case x_1674 => rfl); (case p_1674 => rfl); (case d_1674 => decide)
    with_reducible refine' ev_int ?_
    with_reducible refine' op_eq ?_
    with_reducible refine' opt_bool ?_
    (with_reducible refine' ite_f ?h_1688 ?_); (case h_1688 => decide)
    with_reducible refine ex_cons ?_
    with_reducible refine' ex_if ?_
    (with_reducible refine' evt_Compare ?_ ?m_1699); (case m_1699 => with_unfolding_all rfl)
    (with_reducible refine' ev_name ?x_1700 ?p_1700 ?_ ?d_1700); (case x_1700 => rfl); (case p_1700 => rfl); (case d_1700 => decide)
    with_reducible refine' ev_int ?_
    with_reducible refine' op_eq ?_
    with_reducible refine' opt_bool ?_
    (with_reducible refine' ite_t ?h_1706 ?_); (case h_1706 => decide)
    with_reducible refine ex_cons ?_
    with_reducible refine' ex_return ?_
    with_reducible refine' ev_Tuple ?_
    (with_reducible refine' evl_cons ?_ ?h_1711); (case h_1711 => with_unfolding_all rfl)
    (with_reducible refine' ev_Call ?_ ?h_1713); (case h_1713 => with_unfolding_all rfl)
    (with_reducible refine' ev_global g_quotient ?k_1714 ?_ ?d_1714); (case k_1714 => rfl); (case d_1714 => decide)
    (with_reducible refine' cw_def kp_quotient ?_ ?h_1725 ?p_1725); (case h_1725 => with_unfolding_all rfl); (case p_1725 => with_unfolding_all rfl)
    (with_reducible refine' evl_cons ?_ ?h_1735); (case h_1735 => with_unfolding_all rfl)
    with_reducible refine' ev_UnaryOp ?_
    with_reducible refine' ev_Subscript ?_
    (with_reducible refine' ev_name ?x_1738 ?p_1738 ?_ ?d_1738); (case x_1738 => rfl); (case p_1738 => rfl); (case d_1738 => decide)
    with_reducible refine' ev_int ?_
    (with_reducible refine' op_item_pt pt_item ?_ ?s_1749); (case s_1749 => intros; with_unfolding_all rfl)
    (with_reducible refine' cl_pt_item0 ?r_1761 ?_); (case r_1761 => (refine Cx.Room.in1 (Cx.Room.le (by assumption) ?_); decide))
    with_reducible refine' op_neg ?_
    (with_reducible refine' evl_cons ?_ ?h_1765); (case h_1765 => with_unfolding_all rfl)
    with_reducible refine' ev_Subscript ?_
    (with_reducible refine' ev_name ?x_1767 ?p_1767 ?_ ?d_1767); (case x_1767 => rfl); (case p_1767 => rfl); (case d_1767 => decide)
    with_reducible refine' ev_int ?_
    (with_reducible refine' op_item_pt pt_item ?_ ?s_1769); (case s_1769 => intros; with_unfolding_all rfl)
    (with_reducible refine' cl_pt_item1 ?r_1774 ?_); (case r_1774 => (refine Cx.Room.in1 (Cx.Room.le (by assumption) ?_); decide))
    with_reducible refine' evl_nil ?_
    (with_reducible refine' cl_quotient ?r_1777 ?a_1777 ?b_1777 ?d_1777 ?_); (case r_1777 => (refine Cx.Room.le (by assumption) ?_; decide)); (case a_1777 => (first | assumption | omega)); (case b_1777 => (first | assumption | omega)); (case d_1777 => (first | assumption | omega))
    (with_reducible refine' evl_cons ?_ ?h_1779); (case h_1779 => with_unfolding_all rfl)
    (with_reducible refine' ev_Call ?_ ?h_1781); (case h_1781 => with_unfolding_all rfl)
    (with_reducible refine' ev_global g_quotient ?k_1782 ?_ ?d_1782); (case k_1782 => rfl); (case d_1782 => decide)
    (with_reducible refine' cw_def kp_quotient ?_ ?h_1791 ?p_1791); (case h_1791 => with_unfolding_all rfl); (case p_1791 => with_unfolding_all rfl)
    (with_reducible refine' evl_cons ?_ ?h_1797); (case h_1797 => with_unfolding_all rfl)
    with_reducible refine' ev_Subscript ?_
    (with_reducible refine' ev_name ?x_1802 ?p_1802 ?_ ?d_1802); (case x_1802 => rfl); (case p_1802 => rfl); (case d_1802 => decide)
    with_reducible refine' ev_int ?_
    (with_reducible refine' op_item_pt pt_item ?_ ?s_1814); (case s_1814 => intros; with_unfolding_all rfl)
    (with_reducible refine' cl_pt_item2 ?r_1818 ?_); (case r_1818 => (refine Cx.Room.in1 (Cx.Room.le (by assumption) ?_); decide))
    (with_reducible refine' evl_cons ?_ ?h_1825); (case h_1825 => with_unfolding_all rfl)
    with_reducible refine' ev_Subscript ?_
    (with_reducible refine' ev_name ?x_1828 ?p_1828 ?_ ?d_1828); (case x_1828 => rfl); (case p_1828 => rfl); (case d_1828 => decide)
    with_reducible refine' ev_int ?_
    (with_reducible refine' op_item_pt pt_item ?_ ?s_1830); (case s_1830 => intros; with_unfolding_all rfl)
    (with_reducible refine' cl_pt_item1 ?r_1835 ?_); (case r_1835 => (refine Cx.Room.in1 (Cx.Room.le (by assumption) ?_); decide))
    with_reducible refine' evl_nil ?_
    (with_reducible refine' cl_quotient ?r_1838 ?a_1838 ?b_1838 ?d_1838 ?_); (case r_1838 => (refine Cx.Room.le (by assumption) ?_; decide)); (case a_1838 => (first | assumption | omega)); (case b_1838 => (first | assumption | omega)); (case d_1838 => (first | assumption | omega))
    with_reducible refine' evl_nil ?_
    (with_reducible refine' And.intro ?a_1842 ?_); (case a_1842 => exact Nat.le_of_ble_eq_true rfl)
    with_reducible refine seq_ret ?_
    with_reducible refine seq_ret ?_
    with_reducible refine seq_ret ?_
    with_reducible refine body_ret ?_
    exact h
  · have hne : z ≠ 0 := by have : 0 < z := ha; omega
    with_reducible refine seq_nxt ?_
    with_reducible refine ex_cons ?_
    with_reducible refine' ex_if ?_
    (with_reducible refine' evt_Compare ?_ ?m_1861); (case m_1861 => with_unfolding_all rfl)
    (with_reducible refine' ev_name ?x_1862 ?p_1862 ?_ ?d_1862); (case x_1862 => rfl); (case p_1862 => rfl); (case d_1862 => decide)
    with_reducible refine' ev_int ?_
    with_reducible refine' op_eq ?_
    with_reducible refine' opt_bool ?_
    (with_reducible refine' ite_f ?h_1869 ?_); (case h_1869 => decide)
    with_reducible refine ex_cons ?_
    with_reducible refine' ex_if ?_
    (with_reducible refine' evt_Compare ?_ ?m_1880); (case m_1880 => with_unfolding_all rfl)
    (with_reducible refine' ev_name ?x_1881 ?p_1881 ?_ ?d_1881); (case x_1881 => rfl); (case p_1881 => rfl); (case d_1881 => decide)
    with_reducible refine' ev_int ?_
    with_reducible refine' op_eq ?_
    with_reducible refine' opt_bool ?_
    (with_reducible refine' ite_f ?h_1888 ?_); (case h_1888 => decide)
    with_reducible refine ex_cons ?_
    with_reducible refine' ex_if ?_
    (with_reducible refine' evt_Compare ?_ ?m_1899); (case m_1899 => with_unfolding_all rfl)
    (with_reducible refine' ev_name ?x_1900 ?p_1900 ?_ ?d_1900); (case x_1900 => rfl); (case p_1900 => rfl); (case d_1900 => decide)
    with_reducible refine' ev_int ?_
    with_reducible refine' op_eq ?_
    with_reducible refine' opt_bool ?_
    (with_reducible refine' ite_t ?h_1915 ?_); (case h_1915 => decide)
    with_reducible refine ex_cons ?_
    with_reducible refine' ex_return ?_
    with_reducible refine' ev_Tuple ?_
    (with_reducible refine' evl_cons ?_ ?h_1925); (case h_1925 => with_unfolding_all rfl)
    (with_reducible refine' ev_Call ?_ ?h_1930); (case h_1930 => with_unfolding_all rfl)
    (with_reducible refine' ev_global g_quotient ?k_1934 ?_ ?d_1934); (case k_1934 => rfl); (case d_1934 => decide)
    (with_reducible refine' cw_def kp_quotient ?_ ?h_1949 ?p_1949); (case h_1949 => with_unfolding_all rfl); (case p_1949 => with_unfolding_all rfl)
    (with_reducible refine' evl_cons ?_ ?h_1951); (case h_1951 => with_unfolding_all rfl)
    with_reducible refine' ev_UnaryOp ?_
    with_reducible refine' ev_Subscript ?_
    (with_reducible refine' ev_name ?x_1954 ?p_1954 ?_ ?d_1954); (case x_1954 => rfl); (case p_1954 => rfl); (case d_1954 => decide)
    with_reducible refine' ev_int ?_
    (with_reducible refine' op_item_pt pt_item ?_ ?s_1956); (case s_1956 => intros; with_unfolding_all rfl)
    (with_reducible refine' cl_pt_item0 ?r_1962 ?_); (case r_1962 => (refine Cx.Room.in1 (Cx.Room.le (by assumption) ?_); decide))
    with_reducible refine' op_neg ?_
    (with_reducible refine' evl_cons ?_ ?h_1966); (case h_1966 => with_unfolding_all rfl)
    with_reducible refine' ev_Subscript ?_
    (with_reducible refine' ev_name ?x_1968 ?p_1968 ?_ ?d_1968); (case x_1968 => rfl); (case p_1968 => rfl); (case d_1968 => decide)
    with_reducible refine' ev_int ?_
    (with_reducible refine' op_item_pt pt_item ?_ ?s_1970); (case s_1970 => intros; with_unfolding_all rfl)
    (with_reducible refine' cl_pt_item2 ?r_1976 ?_); (case r_1976 => (refine Cx.Room.in1 (Cx.Room.le (by assumption) ?_); decide))
    with_reducible refine' evl_nil ?_
    (with_reducible refine' cl_quotient ?r_1980 ?a_1980 ?b_1980 ?d_1980 ?_); (case r_1980 => (refine Cx.Room.le (by assumption) ?_; decide)); (case a_1980 => (first | assumption | omega)); (case b_1980 => (first | assumption | omega)); (case d_1980 => (first | assumption | omega))
    (with_reducible refine' evl_cons ?_ ?h_1983); (case h_1983 => with_unfolding_all rfl)
    (with_reducible refine' ev_Call ?_ ?h_1985); (case h_1985 => with_unfolding_all rfl)
    (with_reducible refine' ev_global g_quotient ?k_1986 ?_ ?d_1986); (case k_1986 => rfl); (case d_1986 => decide)
    (with_reducible refine' cw_def kp_quotient ?_ ?h_2010 ?p_2010); (case h_2010 => with_unfolding_all rfl); (case p_2010 => with_unfolding_all rfl)
    (with_reducible refine' evl_cons ?_ ?h_2012); (case h_2012 => with_unfolding_all rfl)
    with_reducible refine' ev_UnaryOp ?_
    with_reducible refine' ev_Subscript ?_
    (with_reducible refine' ev_name ?x_2015 ?p_2015 ?_ ?d_2015); (case x_2015 => rfl); (case p_2015 => rfl); (case d_2015 => decide)
    with_reducible refine' ev_int ?_
    (with_reducible refine' op_item_pt pt_item ?_ ?s_2017); (case s_2017 => intros; with_unfolding_all rfl)
    (with_reducible refine' cl_pt_item1 ?r_2022 ?_); (case r_2022 => (refine Cx.Room.in1 (Cx.Room.le (by assumption) ?_); decide))
    with_reducible refine' op_neg ?_
    (with_reducible refine' evl_cons ?_ ?h_2026); (case h_2026 => with_unfolding_all rfl)
    with_reducible refine' ev_Subscript ?_
    (with_reducible refine' ev_name ?x_2028 ?p_2028 ?_ ?d_2028); (case x_2028 => rfl); (case p_2028 => rfl); (case d_2028 => decide)
    with_reducible refine' ev_int ?_
    (with_reducible refine' op_item_pt pt_item ?_ ?s_2030); (case s_2030 => intros; with_unfolding_all rfl)
    (with_reducible refine' cl_pt_item2 ?r_2034 ?_); (case r_2034 => (refine Cx.Room.in1 (Cx.Room.le (by assumption) ?_); decide))
    with_reducible refine' evl_nil ?_
    (with_reducible refine' cl_quotient ?r_2037 ?a_2037 ?b_2037 ?d_2037 ?_); (case r_2037 => (refine Cx.Room.le (by assumption) ?_; decide)); (case a_2037 => (first | assumption | omega)); (case b_2037 => (first | assumption | omega)); (case d_2037 => (first | assumption | omega))
    with_reducible refine' evl_nil ?_
    (with_reducible refine' And.intro ?a_2052 ?_); (case a_2052 => exact Nat.le_of_ble_eq_true rfl)
    with_reducible refine seq_ret ?_
    with_reducible refine seq_ret ?_
    with_reducible refine seq_ret ?_
    with_reducible refine seq_ret ?_
    with_reducible refine body_ret ?_
    exact h
  · have hne : x ≠ 0 := by have : 0 < -x := ha; omega
    with_reducible refine seq_nxt ?_
    with_reducible refine ex_cons ?_
    with_reducible refine' ex_if ?_
    (with_reducible refine' evt_Compare ?_ ?m_2080); (case m_2080 => with_unfolding_all rfl)
    (with_reducible refine' ev_name ?x_2082 ?p_2082 ?_ ?d_2082); (case x_2082 => rfl); (case p_2082 => rfl); (case d_2082 => decide)
    with_reducible refine' ev_int ?_
    with_reducible refine' op_eq ?_
    with_reducible refine' opt_bool ?_
    (with_reducible refine' ite_f ?h_2103 ?_); (case h_2103 => decide)
    with_reducible refine ex_cons ?_
    with_reducible refine' ex_if ?_
    (with_reducible refine' evt_Compare ?_ ?m_2114); (case m_2114 => with_unfolding_all rfl)
    (with_reducible refine' ev_name ?x_2115 ?p_2115 ?_ ?d_2115); (case x_2115 => rfl); (case p_2115 => rfl); (case d_2115 => decide)
    with_reducible refine' ev_int ?_
    with_reducible refine' op_eq ?_
    with_reducible refine' opt_bool ?_
    (with_reducible refine' ite_f ?h_2125 ?_); (case h_2125 => decide)
    with_reducible refine ex_cons ?_
    with_reducible refine' ex_if ?_
    (with_reducible refine' evt_Compare ?_ ?m_2136); (case m_2136 => with_unfolding_all rfl)
    (with_reducible refine' ev_name ?x_2138 ?p_2138 ?_ ?d_2138); (case x_2138 => rfl); (case p_2138 => rfl); (case d_2138 => decide)
    with_reducible refine' ev_int ?_
    with_reducible refine' op_eq ?_
    with_reducible refine' opt_bool ?_
    (with_reducible refine' ite_f ?h_2156 ?_); (case h_2156 => decide)
    with_reducible refine ex_cons ?_
    with_reducible refine' ex_if ?_
    (with_reducible refine' evt_Compare ?_ ?m_2169); (case m_2169 => with_unfolding_all rfl)
    (with_reducible refine' ev_name ?x_2170 ?p_2170 ?_ ?d_2170); (case x_2170 => rfl); (case p_2170 => rfl); (case d_2170 => decide)
    with_reducible refine' ev_int ?_
    with_reducible refine' op_eq ?_
    with_reducible refine' opt_bool ?_
    (with_reducible refine' ite_t ?h_2179 ?_); (case h_2179 => decide)
    with_reducible refine ex_cons ?_
    with_reducible refine' ex_return ?_
    with_reducible refine' ev_Tuple ?_
    (with_reducible refine' evl_cons ?_ ?h_2188); (case h_2188 => with_unfolding_all rfl)
    (with_reducible refine' ev_Call ?_ ?h_2193); (case h_2193 => with_unfolding_all rfl)
    (with_reducible refine' ev_global g_quotient ?k_2199 ?_ ?d_2199); (case k_2199 => rfl); (case d_2199 => decide)
    (with_reducible refine' cw_def kp_quotient ?_ ?h_2214 ?p_2214); (case h_2214 => with_unfolding_all rfl); (case p_2214 => with_unfolding_all rfl)
    (with_reducible refine' evl_cons ?_ ?h_2224); (case h_2224 => with_unfolding_all rfl)
    with_reducible refine' ev_Subscript ?_
    (with_reducible refine' ev_name ?x_2229 ?p_2229 ?_ ?d_2229); (case x_2229 => rfl); (case p_2229 => rfl); (case d_2229 => decide)
    with_reducible refine' ev_int ?_
    (with_reducible refine' op_item_pt pt_item ?_ ?s_2236); (case s_2236 => intros; with_unfolding_all rfl)
    (with_reducible refine' cl_pt_item2 ?r_2240 ?_); (case r_2240 => (refine Cx.Room.in1 (Cx.Room.le (by assumption) ?_); decide))
    (with_reducible refine' evl_cons ?_ ?h_2242); (case h_2242 => with_unfolding_all rfl)
    with_reducible refine' ev_Subscript ?_
    (with_reducible refine' ev_name ?x_2244 ?p_2244 ?_ ?d_2244); (case x_2244 => rfl); (case p_2244 => rfl); (case d_2244 => decide)
    with_reducible refine' ev_int ?_
    (with_reducible refine' op_item_pt pt_item ?_ ?s_2246); (case s_2246 => intros; with_unfolding_all rfl)
    (with_reducible refine' cl_pt_item0 ?r_2252 ?_); (case r_2252 => (refine Cx.Room.in1 (Cx.Room.le (by assumption) ?_); decide))
    with_reducible refine' evl_nil ?_
    (with_reducible refine' cl_quotient ?r_2258 ?a_2258 ?b_2258 ?d_2258 ?_); (case r_2258 => (refine Cx.Room.le (by assumption) ?_; decide)); (case a_2258 => (first | assumption | omega)); (case b_2258 => (first | assumption | omega)); (case d_2258 => (first | assumption | omega))
    (with_reducible refine' evl_cons ?_ ?h_2260); (case h_2260 => with_unfolding_all rfl)
    (with_reducible refine' ev_Call ?_ ?h_2262); (case h_2262 => with_unfolding_all rfl)
    (with_reducible refine' ev_global g_quotient ?k_2263 ?_ ?d_2263); (case k_2263 => rfl); (case d_2263 => decide)
    (with_reducible refine' cw_def kp_quotient ?_ ?h_2264 ?p_2264); (case h_2264 => with_unfolding_all rfl); (case p_2264 => with_unfolding_all rfl)
    (with_reducible refine' evl_cons ?_ ?h_2266); (case h_2266 => with_unfolding_all rfl)
    with_reducible refine' ev_Subscript ?_
    (with_reducible refine' ev_name ?x_2268 ?p_2268 ?_ ?d_2268); (case x_2268 => rfl); (case p_2268 => rfl); (case d_2268 => decide)
    with_reducible refine' ev_int ?_
    (with_reducible refine' op_item_pt pt_item ?_ ?s_2270); (case s_2270 => intros; with_unfolding_all rfl)
    (with_reducible refine' cl_pt_item1 ?r_2275 ?_); (case r_2275 => (refine Cx.Room.in1 (Cx.Room.le (by assumption) ?_); decide))
    (with_reducible refine' evl_cons ?_ ?h_2277); (case h_2277 => with_unfolding_all rfl)
    with_reducible refine' ev_Subscript ?_
    (with_reducible refine' ev_name ?x_2279 ?p_2279 ?_ ?d_2279); (case x_2279 => rfl); (case p_2279 => rfl); (case d_2279 => decide)
    with_reducible refine' ev_int ?_
    (with_reducible refine' op_item_pt pt_item ?_ ?s_2281); (case s_2281 => intros; with_unfolding_all rfl)
    (with_reducible refine' cl_pt_item0 ?r_2287 ?_); (case r_2287 => (refine Cx.Room.in1 (Cx.Room.le (by assumption) ?_); decide))
    with_reducible refine' evl_nil ?_
    (with_reducible refine' cl_quotient ?r_2290 ?a_2290 ?b_2290 ?d_2290 ?_); (case r_2290 => (refine Cx.Room.le (by assumption) ?_; decide)); (case a_2290 => (first | assumption | omega)); (case b_2290 => (first | assumption | omega)); (case d_2290 => (first | assumption | omega))
    with_reducible refine' evl_nil ?_
    (with_reducible refine' And.intro ?a_2294 ?_); (case a_2294 => exact Nat.le_of_ble_eq_true rfl)
    with_reducible refine seq_ret ?_
    with_reducible refine seq_ret ?_
    with_reducible refine seq_ret ?_
    with_reducible refine seq_ret ?_
    with_reducible refine seq_ret ?_
    with_reducible refine body_ret ?_
    exact h
  · have hne : y ≠ 0 := by have : 0 < -y := ha; omega
    with_reducible refine seq_nxt ?_
    with_reducible refine ex_cons ?_
    with_reducible refine' ex_if ?_
    (with_reducible refine' evt_Compare ?_ ?m_2317); (case m_2317 => with_unfolding_all rfl)
    (with_reducible refine' ev_name ?x_2318 ?p_2318 ?_ ?d_2318); (case x_2318 => rfl); (case p_2318 => rfl); (case d_2318 => decide)
    with_reducible refine' ev_int ?_
    with_reducible refine' op_eq ?_
    with_reducible refine' opt_bool ?_
    (with_reducible refine' ite_f ?h_2325 ?_); (case h_2325 => decide)
    with_reducible refine ex_cons ?_
    with_reducible refine' ex_if ?_
    (with_reducible refine' evt_Compare ?_ ?m_2336); (case m_2336 => with_unfolding_all rfl)
    (with_reducible refine' ev_name ?x_2337 ?p_2337 ?_ ?d_2337); (case x_2337 => rfl); (case p_2337 => rfl); (case d_2337 => decide)
    with_reducible refine' ev_int ?_
    with_reducible refine' op_eq ?_
    with_reducible refine' opt_bool ?_
    (with_reducible refine' ite_f ?h_2344 ?_); (case h_2344 => decide)
    with_reducible refine ex_cons ?_
    with_reducible refine' ex_if ?_
    (with_reducible refine' evt_Compare ?_ ?m_2355); (case m_2355 => with_unfolding_all rfl)
    (with_reducible refine' ev_name ?x_2356 ?p_2356 ?_ ?d_2356); (case x_2356 => rfl); (case p_2356 => rfl); (case d_2356 => decide)
    with_reducible refine' ev_int ?_
    with_reducible refine' op_eq ?_
    with_reducible refine' opt_bool ?_
    (with_reducible refine' ite_f ?h_2363 ?_); (case h_2363 => decide)
    with_reducible refine ex_cons ?_
    with_reducible refine' ex_if ?_
    (with_reducible refine' evt_Compare ?_ ?m_2374); (case m_2374 => with_unfolding_all rfl)
    (with_reducible refine' ev_name ?x_2375 ?p_2375 ?_ ?d_2375); (case x_2375 => rfl); (case p_2375 => rfl); (case d_2375 => decide)
    with_reducible refine' ev_int ?_
    with_reducible refine' op_eq ?_
    with_reducible refine' opt_bool ?_
    (with_reducible refine' ite_f ?h_2382 ?_); (case h_2382 => decide)
    with_reducible refine ex_cons ?_
    with_reducible refine' ex_if ?_
    (with_reducible refine' evt_Compare ?_ ?m_2393); (case m_2393 => with_unfolding_all rfl)
    (with_reducible refine' ev_name ?x_2394 ?p_2394 ?_ ?d_2394); (case x_2394 => rfl); (case p_2394 => rfl); (case d_2394 => decide)
    with_reducible refine' ev_int ?_
    with_reducible refine' op_eq ?_
    with_reducible refine' opt_bool ?_
    (with_reducible refine' ite_t ?h_2400 ?_); (case h_2400 => decide)
    with_reducible refine ex_cons ?_
    with_reducible refine' ex_return ?_
    with_reducible refine' ev_Tuple ?_
    (with_reducible refine' evl_cons ?_ ?h_2405); (case h_2405 => with_unfolding_all rfl)
    (with_reducible refine' ev_Call ?_ ?h_2407); (case h_2407 => with_unfolding_all rfl)
    (with_reducible refine' ev_global g_quotient ?k_2408 ?_ ?d_2408); (case k_2408 => rfl); (case d_2408 => decide)
    (with_reducible refine' cw_def kp_quotient ?_ ?h_2409 ?p_2409); (case h_2409 => with_unfolding_all rfl); (case p_2409 => with_unfolding_all rfl)
    (with_reducible refine' evl_cons ?_ ?h_2411); (case h_2411 => with_unfolding_all rfl)
    with_reducible refine' ev_Subscript ?_
    (with_reducible refine' ev_name ?x_2413 ?p_2413 ?_ ?d_2413); (case x_2413 => rfl); (case p_2413 => rfl); (case d_2413 => decide)
    with_reducible refine' ev_int ?_
    (with_reducible refine' op_item_pt pt_item ?_ ?s_2415); (case s_2415 => intros; with_unfolding_all rfl)
    (with_reducible refine' cl_pt_item2 ?r_2419 ?_); (case r_2419 => (refine Cx.Room.in1 (Cx.Room.le (by assumption) ?_); decide))
    (with_reducible refine' evl_cons ?_ ?h_2421); (case h_2421 => with_unfolding_all rfl)
    with_reducible refine' ev_Subscript ?_
    (with_reducible refine' ev_name ?x_2423 ?p_2423 ?_ ?d_2423); (case x_2423 => rfl); (case p_2423 => rfl); (case d_2423 => decide)
    with_reducible refine' ev_int ?_
    (with_reducible refine' op_item_pt pt_item ?_ ?s_2425); (case s_2425 => intros; with_unfolding_all rfl)
    (with_reducible refine' cl_pt_item1 ?r_2430 ?_); (case r_2430 => (refine Cx.Room.in1 (Cx.Room.le (by assumption) ?_); decide))
    with_reducible refine' evl_nil ?_
    (with_reducible refine' cl_quotient ?r_2433 ?a_2433 ?b_2433 ?d_2433 ?_); (case r_2433 => (refine Cx.Room.le (by assumption) ?_; decide)); (case a_2433 => (first | assumption | omega)); (case b_2433 => (first | assumption | omega)); (case d_2433 => (first | assumption | omega))
    (with_reducible refine' evl_cons ?_ ?h_2435); (case h_2435 => with_unfolding_all rfl)
    (with_reducible refine' ev_Call ?_ ?h_2437); (case h_2437 => with_unfolding_all rfl)
    (with_reducible refine' ev_global g_quotient ?k_2438 ?_ ?d_2438); (case k_2438 => rfl); (case d_2438 => decide)
    (with_reducible refine' cw_def kp_quotient ?_ ?h_2439 ?p_2439); (case h_2439 => with_unfolding_all rfl); (case p_2439 => with_unfolding_all rfl)
    (with_reducible refine' evl_cons ?_ ?h_2441); (case h_2441 => with_unfolding_all rfl)
    with_reducible refine' ev_UnaryOp ?_
    with_reducible refine' ev_Subscript ?_
    (with_reducible refine' ev_name ?x_2444 ?p_2444 ?_ ?d_2444); (case x_2444 => rfl); (case p_2444 => rfl); (case d_2444 => decide)
    with_reducible refine' ev_int ?_
    (with_reducible refine' op_item_pt pt_item ?_ ?s_2446); (case s_2446 => intros; with_unfolding_all rfl)
    (with_reducible refine' cl_pt_item0 ?r_2452 ?_); (case r_2452 => (refine Cx.Room.in1 (Cx.Room.le (by assumption) ?_); decide))
    with_reducible refine' op_neg ?_
    (with_reducible refine' evl_cons ?_ ?h_2456); (case h_2456 => with_unfolding_all rfl)
    with_reducible refine' ev_Subscript ?_
    (with_reducible refine' ev_name ?x_2458 ?p_2458 ?_ ?d_2458); (case x_2458 => rfl); (case p_2458 => rfl); (case d_2458 => decide)
    with_reducible refine' ev_int ?_
    (with_reducible refine' op_item_pt pt_item ?_ ?s_2460); (case s_2460 => intros; with_unfolding_all rfl)
    (with_reducible refine' cl_pt_item1 ?r_2465 ?_); (case r_2465 => (refine Cx.Room.in1 (Cx.Room.le (by assumption) ?_); decide))
    with_reducible refine' evl_nil ?_
    (with_reducible refine' cl_quotient ?r_2468 ?a_2468 ?b_2468 ?d_2468 ?_); (case r_2468 => (refine Cx.Room.le (by assumption) ?_; decide)); (case a_2468 => (first | assumption | omega)); (case b_2468 => (first | assumption | omega)); (case d_2468 => (first | assumption | omega))
    with_reducible refine' evl_nil ?_
    (with_reducible refine' And.intro ?a_2472 ?_); (case a_2472 => exact Nat.le_of_ble_eq_true rfl)
    with_reducible refine seq_ret ?_
    with_reducible refine seq_ret ?_
    with_reducible refine seq_ret ?_
    with_reducible refine seq_ret ?_
    with_reducible refine seq_ret ?_
    with_reducible refine seq_ret ?_
    with_reducible refine body_ret ?_
    exact h
  · have hne : z ≠ 0 := by have : 0 < -z := ha; omega
    with_reducible refine seq_nxt ?_
    with_reducible refine ex_cons ?_
    with_reducible refine' ex_if ?_
    (with_reducible refine' evt_Compare ?_ ?m_2497); (case m_2497 => with_unfolding_all rfl)
    (with_reducible refine' ev_name ?x_2498 ?p_2498 ?_ ?d_2498); (case x_2498 => rfl); (case p_2498 => rfl); (case d_2498 => decide)
    with_reducible refine' ev_int ?_
    with_reducible refine' op_eq ?_
    with_reducible refine' opt_bool ?_
    (with_reducible refine' ite_f ?h_2505 ?_); (case h_2505 => decide)
    with_reducible refine ex_cons ?_
    with_reducible refine' ex_if ?_
    (with_reducible refine' evt_Compare ?_ ?m_2516); (case m_2516 => with_unfolding_all rfl)
    (with_reducible refine' ev_name ?x_2517 ?p_2517 ?_ ?d_2517); (case x_2517 => rfl); (case p_2517 => rfl); (case d_2517 => decide)
    with_reducible refine' ev_int ?_
    with_reducible refine' op_eq ?_
    with_reducible refine' opt_bool ?_
    (with_reducible refine' ite_f ?h_2524 ?_); (case h_2524 => decide)
    with_reducible refine ex_cons ?_
    with_reducible refine' ex_if ?_
    (with_reducible refine' evt_Compare ?_ ?m_2535); (case m_2535 => with_unfolding_all rfl)
    (with_reducible refine' ev_name ?x_2536 ?p_2536 ?_ ?d_2536); (case x_2536 => rfl); (case p_2536 => rfl); (case d_2536 => decide)
    with_reducible refine' ev_int ?_
    with_reducible refine' op_eq ?_
    with_reducible refine' opt_bool ?_
    (with_reducible refine' ite_f ?h_2543 ?_); (case h_2543 => decide)
    with_reducible refine ex_cons ?_
    with_reducible refine' ex_if ?_
    (with_reducible refine' evt_Compare ?_ ?m_2554); (case m_2554 => with_unfolding_all rfl)
    (with_reducible refine' ev_name ?x_2555 ?p_2555 ?_ ?d_2555); (case x_2555 => rfl); (case p_2555 => rfl); (case d_2555 => decide)
    with_reducible refine' ev_int ?_
    with_reducible refine' op_eq ?_
    with_reducible refine' opt_bool ?_
    (with_reducible refine' ite_f ?h_2562 ?_); (case h_2562 => decide)
    with_reducible refine ex_cons ?_
    with_reducible refine' ex_if ?_
    (with_reducible refine' evt_Compare ?_ ?m_2573); (case m_2573 => with_unfolding_all rfl)
    (with_reducible refine' ev_name ?x_2574 ?p_2574 ?_ ?d_2574); (case x_2574 => rfl); (case p_2574 => rfl); (case d_2574 => decide)
    with_reducible refine' ev_int ?_
    with_reducible refine' op_eq ?_
    with_reducible refine' opt_bool ?_
    (with_reducible refine' ite_f ?h_2581 ?_); (case h_2581 => decide)
    with_reducible refine ex_cons ?_
    with_reducible refine' ex_return ?_
    with_reducible refine' ev_Tuple ?_
    (with_reducible refine' evl_cons ?_ ?h_2586); (case h_2586 => with_unfolding_all rfl)
    (with_reducible refine' ev_Call ?_ ?h_2588); (case h_2588 => with_unfolding_all rfl)
    (with_reducible refine' ev_global g_quotient ?k_2589 ?_ ?d_2589); (case k_2589 => rfl); (case d_2589 => decide)
    (with_reducible refine' cw_def kp_quotient ?_ ?h_2590 ?p_2590); (case h_2590 => with_unfolding_all rfl); (case p_2590 => with_unfolding_all rfl)
    (with_reducible refine' evl_cons ?_ ?h_2592); (case h_2592 => with_unfolding_all rfl)
    with_reducible refine' ev_UnaryOp ?_
    with_reducible refine' ev_Subscript ?_
    (with_reducible refine' ev_name ?x_2595 ?p_2595 ?_ ?d_2595); (case x_2595 => rfl); (case p_2595 => rfl); (case d_2595 => decide)
    with_reducible refine' ev_int ?_
    (with_reducible refine' op_item_pt pt_item ?_ ?s_2597); (case s_2597 => intros; with_unfolding_all rfl)
    (with_reducible refine' cl_pt_item1 ?r_2602 ?_); (case r_2602 => (refine Cx.Room.in1 (Cx.Room.le (by assumption) ?_); decide))
    with_reducible refine' op_neg ?_
    (with_reducible refine' evl_cons ?_ ?h_2606); (case h_2606 => with_unfolding_all rfl)
    with_reducible refine' ev_Subscript ?_
    (with_reducible refine' ev_name ?x_2608 ?p_2608 ?_ ?d_2608); (case x_2608 => rfl); (case p_2608 => rfl); (case d_2608 => decide)
    with_reducible refine' ev_int ?_
    (with_reducible refine' op_item_pt pt_item ?_ ?s_2610); (case s_2610 => intros; with_unfolding_all rfl)
    (with_reducible refine' cl_pt_item2 ?r_2614 ?_); (case r_2614 => (refine Cx.Room.in1 (Cx.Room.le (by assumption) ?_); decide))
    with_reducible refine' evl_nil ?_
    (with_reducible refine' cl_quotient ?r_2617 ?a_2617 ?b_2617 ?d_2617 ?_); (case r_2617 => (refine Cx.Room.le (by assumption) ?_; decide)); (case a_2617 => (first | assumption | omega)); (case b_2617 => (first | assumption | omega)); (case d_2617 => (first | assumption | omega))
    (with_reducible refine' evl_cons ?_ ?h_2619); (case h_2619 => with_unfolding_all rfl)
    (with_reducible refine' ev_Call ?_ ?h_2621); (case h_2621 => with_unfolding_all rfl)
    (with_reducible refine' ev_global g_quotient ?k_2622 ?_ ?d_2622); (case k_2622 => rfl); (case d_2622 => decide)
    (with_reducible refine' cw_def kp_quotient ?_ ?h_2623 ?p_2623); (case h_2623 => with_unfolding_all rfl); (case p_2623 => with_unfolding_all rfl)
    (with_reducible refine' evl_cons ?_ ?h_2625); (case h_2625 => with_unfolding_all rfl)
    with_reducible refine' ev_UnaryOp ?_
    with_reducible refine' ev_Subscript ?_
    (with_reducible refine' ev_name ?x_2628 ?p_2628 ?_ ?d_2628); (case x_2628 => rfl); (case p_2628 => rfl); (case d_2628 => decide)
    with_reducible refine' ev_int ?_
    (with_reducible refine' op_item_pt pt_item ?_ ?s_2630); (case s_2630 => intros; with_unfolding_all rfl)
    (with_reducible refine' cl_pt_item0 ?r_2636 ?_); (case r_2636 => (refine Cx.Room.in1 (Cx.Room.le (by assumption) ?_); decide))
    with_reducible refine' op_neg ?_
    (with_reducible refine' evl_cons ?_ ?h_2640); (case h_2640 => with_unfolding_all rfl)
    with_reducible refine' ev_Subscript ?_
    (with_reducible refine' ev_name ?x_2642 ?p_2642 ?_ ?d_2642); (case x_2642 => rfl); (case p_2642 => rfl); (case d_2642 => decide)
    with_reducible refine' ev_int ?_
    (with_reducible refine' op_item_pt pt_item ?_ ?s_2644); (case s_2644 => intros; with_unfolding_all rfl)
    (with_reducible refine' cl_pt_item2 ?r_2648 ?_); (case r_2648 => (refine Cx.Room.in1 (Cx.Room.le (by assumption) ?_); decide))
    with_reducible refine' evl_nil ?_
    (with_reducible refine' cl_quotient ?r_2651 ?a_2651 ?b_2651 ?d_2651 ?_); (case r_2651 => (refine Cx.Room.le (by assumption) ?_; decide)); (case a_2651 => (first | assumption | omega)); (case b_2651 => (first | assumption | omega)); (case d_2651 => (first | assumption | omega))
    with_reducible refine' evl_nil ?_
    (with_reducible refine' And.intro ?a_2655 ?_); (case a_2655 => exact Nat.le_of_ble_eq_true rfl)
    with_reducible refine seq_ret ?_
    with_reducible refine seq_ret ?_
    with_reducible refine seq_ret ?_
    with_reducible refine seq_ret ?_
    with_reducible refine seq_ret ?_
    with_reducible refine seq_ret ?_
    with_reducible refine body_ret ?_
    exact h
theorem cl_xyz {x y z : Int} {Q : PV → Prop} (hr : c.Room 6) (h1 : x.natAbs < 2 ^ 32) (h2 : y.natAbs < 2 ^ 32) (h3 : z.natAbs < 2 ^ 32) (ha : 0 < axis (fcN x y z) x y z)
    (h : Q (.tup [.int (fcN x y z : Nat), .int (vU (fcN x y z) x y z), .int (vV (fcN x y z) x y z)])) :
    Cl (gl w mean mg mb) c σ (.ref d_xyz_to_face_uv) [.point x y z] Q := by
  refine cl_def (k := 5) (ns := ["p"]) (by rfl) (by kernel_rfl) hr (by (intro vs s hl; match vs, hl with | [_], _ => exact BindsTo.of_eq rfl)) (by decide) (by decide) (by decide) (fun A g0 fL hid hr' => ?_)
  have hl := lac_lt x y z
  have hf := fcN_lt x y z
  with_reducible refine ex_cons ?_
  (with_reducible refine' ex_assign ?_ ?k_475 ?l_475 ?s_475); (case k_475 => rfl); (case l_475 => rfl); (case s_475 => rfl)
  (with_reducible refine' ev_Method (pl := _) ?_ ?h_487); (case h_487 => with_unfolding_all rfl)
  (with_reducible refine' ev_name ?x_501 ?p_501 ?_ ?d_501); (case x_501 => rfl); (case p_501 => rfl); (case d_501 => decide)
  with_reducible refine' mth_pt0 pm_largest_abs_component ?_
  refine cl_lac (hr'.le (by decide)) ?_
  with_reducible refine seq_nxt ?_
  with_reducible refine ex_cons ?_
  (with_reducible refine' ex_if_add ?x_616 ?k_616 ?l_616 ?_); (case x_616 => rfl); (case k_616 => rfl); (case l_616 => rfl)
  (with_reducible refine' evt_Compare ?_ ?m_628); (case m_628 => with_unfolding_all rfl)
  with_reducible refine' ev_Subscript ?_
  (with_reducible refine' ev_name ?x_636 ?p_636 ?_ ?d_636); (case x_636 => rfl); (case p_636 => rfl); (case d_636 => decide)
  (with_reducible refine' ev_name ?x_639 ?p_639 ?_ ?d_639); (case x_639 => rfl); (case p_639 => rfl); (case d_639 => decide)
  (with_reducible refine' op_item_pt pt_item ?_ ?s_645); (case s_645 => intros; with_unfolding_all rfl)
  refine cl_pt_getitem (Cx.Room.in1 (hr'.le (by decide))) hl ?_
  with_reducible refine' ev_int ?_
  with_reducible refine' op_lt ?_
  with_reducible refine' opt_bool ?_
  with_reducible refine seq_nxt ?_
  with_reducible refine ex_cons ?_
  (with_reducible refine' ex_assign_tuple ?_ ?s_752 ?w_752); (case s_752 => rfl); (case w_752 => rfl)
  (with_reducible refine' ev_Call ?_ ?h_759); (case h_759 => with_unfolding_all rfl)
  (with_reducible refine' ev_global g_valid_face_xyz_to_uv ?k_761 ?_ ?d_761); (case k_761 => rfl); (case d_761 => decide)
  (with_reducible refine' cw_def kp_valid_face_xyz_to_uv ?_ ?h_895 ?p_895); (case h_895 => with_unfolding_all rfl); (case p_895 => with_unfolding_all rfl)
  (with_reducible refine' evl_cons ?_ ?h_901); (case h_901 => with_unfolding_all rfl)
  (with_reducible refine' ev_name ?x_903 ?p_903 ?_ ?d_903); (case x_903 => rfl); (case p_903 => rfl); (case d_903 => decide)
  (with_reducible refine' evl_cons ?_ ?h_906); (case h_906 => with_unfolding_all rfl)
  (with_reducible refine' ev_name ?x_910 ?p_910 ?_ ?d_910); (case x_910 => rfl); (case p_910 => rfl); (case d_910 => decide)
  with_reducible refine' evl_nil ?_
  have e : ((lac x y z : Nat) : Int) + (if decide (nth (lac x y z) x y z < 0) = true then 3 else 0) = ((fcN x y z : Nat) : Int) := by
    unfold fcN
    by_cases hn : nth (lac x y z) x y z < 0
    · rw [if_pos (decide_eq_true hn), if_pos hn]; rfl
    · rw [if_neg (by simpa using hn), if_neg hn]; rfl
  rw [e]
  refine cl_valid (hr'.le (by decide)) hf h1 h2 h3 ha ?_
  (with_reducible refine' as_tuple ?_ ?n_1094 ?s_1094); (case n_1094 => rfl); (case s_1094 => rfl)
  (with_reducible refine' asE_cons ?k_1102 ?l_1102 ?_); (case k_1102 => rfl); (case l_1102 => rfl)
  (with_reducible refine' asE_cons ?k_1133 ?l_1133 ?_); (case k_1133 => rfl); (case l_1133 => rfl)
  with_reducible refine' asE_nil ?_
  with_reducible refine seq_nxt ?_
  with_reducible refine ex_cons ?_
  with_reducible refine' ex_return ?_
  with_reducible refine' ev_Tuple ?_
  (with_reducible refine' evl_cons ?_ ?h_1159); (case h_1159 => with_unfolding_all rfl)
  (with_reducible refine' ev_name ?x_1160 ?p_1160 ?_ ?d_1160); (case x_1160 => rfl); (case p_1160 => rfl); (case d_1160 => decide)
  (with_reducible refine' evl_cons ?_ ?h_1207); (case h_1207 => with_unfolding_all rfl)
  (with_reducible refine' ev_name ?x_1208 ?p_1208 ?_ ?d_1208); (case x_1208 => rfl); (case p_1208 => rfl); (case d_1208 => decide)
  (with_reducible refine' evl_cons ?_ ?h_1226); (case h_1226 => with_unfolding_all rfl)
  (with_reducible refine' ev_name ?x_1235 ?p_1235 ?_ ?d_1235); (case x_1235 => rfl); (case p_1235 => rfl); (case d_1235 => decide)
  with_reducible refine' evl_nil ?_
  (with_reducible refine' And.intro ?a_1263 ?_); (case a_1263 => exact Nat.le_of_ble_eq_true rfl)
  with_reducible refine seq_ret ?_
  with_reducible refine body_ret ?_
  exact h
theorem cl_wrap {f t a : Nat} {i j : Int} {C : Addr} {Q : PV → Prop} (hr : c.Room 8) (hC : C = (gl w mean mg mb).C) (hf : f < 6) (ht : t < 4) (ha : a < 2 ^ 30) (hi : max (-1) (min 1073741824 i) = outI t a) (hj : max (-1) (min 1073741824 j) = outJ t a)
    (h : ∀ I J : Nat, I < 2 ^ 30 → J < 2 ^ 30 → rim 30 (cube f t).2 I J → along 30 (cube f t).2 I J + a + 1 ≤ 2 ^ 30 + 1 → 2 ^ 30 - 1 ≤ along 30 (cube f t).2 I J + a + 1 → Q (.cell (gid 30 (pz 30 (cube f t).1 I J)))) :
    Cl (gl w mean mg mb) c σ (.ref f_from_face_ij_wrap) [.raw (.ref C), .int (f : Int), .int i, .int j] Q := by
  subst hC
  refine cl_def (k := 7) (ns := ["cls", "face", "i", "j"]) (by rfl) (by kernel_rfl) hr (by (intro vs s hl; match vs, hl with | [_, _, _, _], _ => exact BindsTo.of_eq rfl)) (by decide) (by decide) (by decide) (fun A g0 fL hid hr' => ?_)
  have o := out_small ht ha
  have sm := w_small hf ht ha
  have w24 := wrap24 hf ht ha
  with_reducible refine ex_cons ?_
  (with_reducible refine' ex_assign ?_ ?k_833 ?l_833 ?s_833); (case k_833 => rfl); (case l_833 => rfl); (case s_833 => rfl)
  (with_reducible refine' ev_Call ?_ ?h_856); (case h_856 => with_unfolding_all rfl)
  (with_reducible refine' ev_builtin n_max bb_max ?k_866 ?_ ?n_866 ?d_866); (case k_866 => rfl); (case n_866 => decide); (case d_866 => decide)
  (with_reducible refine' cw_builtin ?_ ?h_908 ?p_908); (case h_908 => with_unfolding_all rfl); (case p_908 => with_unfolding_all rfl)
  (with_reducible refine' evl_cons ?_ ?h_924); (case h_924 => with_unfolding_all rfl)
  with_reducible refine' ev_UnaryOp ?_
  with_reducible refine' ev_int ?_
  with_reducible refine' op_neg ?_
  (with_reducible refine' evl_cons ?_ ?h_938); (case h_938 => with_unfolding_all rfl)
  (with_reducible refine' ev_Call ?_ ?h_943); (case h_943 => with_unfolding_all rfl)
  (with_reducible refine' ev_builtin n_min bb_min ?k_947 ?_ ?n_947 ?d_947); (case k_947 => rfl); (case n_947 => decide); (case d_947 => decide)
  (with_reducible refine' cw_builtin ?_ ?h_976 ?p_976); (case h_976 => with_unfolding_all rfl); (case p_976 => with_unfolding_all rfl)
  (with_reducible refine' evl_cons ?_ ?h_985); (case h_985 => with_unfolding_all rfl)
  (with_reducible refine' ev_Attr ?_ ?h_987); (case h_987 => with_unfolding_all rfl)
  (with_reducible refine' ev_name ?x_993 ?p_993 ?_ ?d_993); (case x_993 => rfl); (case p_993 => rfl); (case d_993 => decide)
  with_reducible refine' at_cls_int cv_MAX_SIZE ?_
  (with_reducible refine' evl_cons ?_ ?h_1019); (case h_1019 => with_unfolding_all rfl)
  (with_reducible refine' ev_name ?x_1025 ?p_1025 ?_ ?d_1025); (case x_1025 => rfl); (case p_1025 => rfl); (case d_1025 => decide)
  with_reducible refine' evl_nil ?_
  with_reducible refine' b_min ?_
  with_reducible refine' evl_nil ?_
  with_reducible refine' b_max ?_
  with_reducible refine seq_nxt ?_
  with_reducible refine ex_cons ?_
  (with_reducible refine' ex_assign ?_ ?k_1078 ?l_1078 ?s_1078); (case k_1078 => rfl); (case l_1078 => rfl); (case s_1078 => rfl)
  (with_reducible refine' ev_Call ?_ ?h_1083); (case h_1083 => with_unfolding_all rfl)
  (with_reducible refine' ev_builtin n_max bb_max ?k_1086 ?_ ?n_1086 ?d_1086); (case k_1086 => rfl); (case n_1086 => decide); (case d_1086 => decide)
  (with_reducible refine' cw_builtin ?_ ?h_1099 ?p_1099); (case h_1099 => with_unfolding_all rfl); (case p_1099 => with_unfolding_all rfl)
  (with_reducible refine' evl_cons ?_ ?h_1107); (case h_1107 => with_unfolding_all rfl)
  with_reducible refine' ev_UnaryOp ?_
  with_reducible refine' ev_int ?_
  with_reducible refine' op_neg ?_
  (with_reducible refine' evl_cons ?_ ?h_1119); (case h_1119 => with_unfolding_all rfl)
  (with_reducible refine' ev_Call ?_ ?h_1125); (case h_1125 => with_unfolding_all rfl)
  (with_reducible refine' ev_builtin n_min bb_min ?k_1129 ?_ ?n_1129 ?d_1129); (case k_1129 => rfl); (case n_1129 => decide); (case d_1129 => decide)
  (with_reducible refine' cw_builtin ?_ ?h_1144 ?p_1144); (case h_1144 => with_unfolding_all rfl); (case p_1144 => with_unfolding_all rfl)
  (with_reducible refine' evl_cons ?_ ?h_1150); (case h_1150 => with_unfolding_all rfl)
  (with_reducible refine' ev_Attr ?_ ?h_1156); (case h_1156 => with_unfolding_all rfl)
  (with_reducible refine' ev_name ?x_1161 ?p_1161 ?_ ?d_1161); (case x_1161 => rfl); (case p_1161 => rfl); (case d_1161 => decide)
  with_reducible refine' at_cls_int cv_MAX_SIZE ?_
  (with_reducible refine' evl_cons ?_ ?h_1187); (case h_1187 => with_unfolding_all rfl)
  (with_reducible refine' ev_name ?x_1190 ?p_1190 ?_ ?d_1190); (case x_1190 => rfl); (case p_1190 => rfl); (case d_1190 => decide)
  with_reducible refine' evl_nil ?_
  with_reducible refine' b_min ?_
  with_reducible refine' evl_nil ?_
  with_reducible refine' b_max ?_
  with_reducible refine seq_nxt ?_
  with_reducible refine ex_cons ?_
  (with_reducible refine' ex_assign ?_ ?k_1257 ?l_1257 ?s_1257); (case k_1257 => rfl); (case l_1257 => rfl); (case s_1257 => rfl)
  with_reducible refine' ev_int ?_
  with_reducible refine seq_nxt ?_
  with_reducible refine ex_cons ?_
  (with_reducible refine' ex_assign ?_ ?k_1288 ?l_1288 ?s_1288); (case k_1288 => rfl); (case l_1288 => rfl); (case s_1288 => rfl)
  with_reducible refine' ev_BinOp ?_
  (with_reducible refine' ev_name ?x_1301 ?p_1301 ?_ ?d_1301); (case x_1301 => rfl); (case p_1301 => rfl); (case d_1301 => decide)
  with_reducible refine' ev_BinOp ?_
  with_reducible refine' ev_BinOp ?_
  with_reducible refine' ev_BinOp ?_
  (with_reducible refine' ev_name ?x_1318 ?p_1318 ?_ ?d_1318); (case x_1318 => rfl); (case p_1318 => rfl); (case d_1318 => decide)
  with_reducible refine' ev_int ?_
  rw [hi, hj]
  refine op_shl (by decide) (shl_fits (by omega) (by decide) (by decide)) ?_
  with_reducible refine' ev_int ?_
  with_reducible refine' op_add ?_
  (with_reducible refine' ev_Attr ?_ ?h_1440); (case h_1440 => with_unfolding_all rfl)
  (with_reducible refine' ev_name ?x_1442 ?p_1442 ?_ ?d_1442); (case x_1442 => rfl); (case p_1442 => rfl); (case d_1442 => decide)
  with_reducible refine' at_cls_int cv_MAX_SIZE ?_
  with_reducible refine' op_sub ?_
  (with_reducible refine' op_mul ?m_1452 ?_); (case m_1452 => first | exact mul_ok_l (by decide) | exact mul_ok_r (by decide))
  with_reducible refine seq_nxt ?_
  with_reducible refine ex_cons ?_
  (with_reducible refine' ex_assign ?_ ?k_1461 ?l_1461 ?s_1461); (case k_1461 => rfl); (case l_1461 => rfl); (case s_1461 => rfl)
  with_reducible refine' ev_BinOp ?_
  (with_reducible refine' ev_name ?x_1463 ?p_1463 ?_ ?d_1463); (case x_1463 => rfl); (case p_1463 => rfl); (case d_1463 => decide)
  with_reducible refine' ev_BinOp ?_
  with_reducible refine' ev_BinOp ?_
  with_reducible refine' ev_BinOp ?_
  (with_reducible refine' ev_name ?x_1479 ?p_1479 ?_ ?d_1479); (case x_1479 => rfl); (case p_1479 => rfl); (case d_1479 => decide)
  with_reducible refine' ev_int ?_
  rw [uu_of]
  refine op_shl (by decide) (shl_fits (by omega) (by decide) (by decide)) ?_
  with_reducible refine' ev_int ?_
  with_reducible refine' op_add ?_
  (with_reducible refine' ev_Attr ?_ ?h_1555); (case h_1555 => with_unfolding_all rfl)
  (with_reducible refine' ev_name ?x_1558 ?p_1558 ?_ ?d_1558); (case x_1558 => rfl); (case p_1558 => rfl); (case d_1558 => decide)
  with_reducible refine' at_cls_int cv_MAX_SIZE ?_
  with_reducible refine' op_sub ?_
  (with_reducible refine' op_mul ?m_1611 ?_); (case m_1611 => first | exact mul_ok_l (by decide) | exact mul_ok_r (by decide))
  with_reducible refine seq_nxt ?_
  with_reducible refine ex_cons ?_
  (with_reducible refine' ex_assign_tuple ?_ ?s_1626 ?w_1626); (case s_1626 => rfl); (case w_1626 => rfl)
  (with_reducible refine' ev_Call ?_ ?h_1632); (case h_1632 => with_unfolding_all rfl)
  (with_reducible refine' ev_global g_xyz_to_face_uv ?k_1634 ?_ ?d_1634); (case k_1634 => rfl); (case d_1634 => decide)
  (with_reducible refine' cw_def kp_xyz_to_face_uv ?_ ?h_1675 ?p_1675); (case h_1675 => with_unfolding_all rfl); (case p_1675 => with_unfolding_all rfl)
  (with_reducible refine' evl_cons ?_ ?h_1677); (case h_1677 => with_unfolding_all rfl)
  with_reducible refine' ev_BinOp ?_
  (with_reducible refine' ev_Call ?_ ?h_1680); (case h_1680 => with_unfolding_all rfl)
  (with_reducible refine' ev_global g_face_uv_to_xyz ?k_1681 ?_ ?d_1681); (case k_1681 => rfl); (case d_1681 => decide)
  (with_reducible refine' cw_def kp_face_uv_to_xyz ?_ ?h_1715 ?p_1715); (case h_1715 => with_unfolding_all rfl); (case p_1715 => with_unfolding_all rfl)
  (with_reducible refine' evl_cons ?_ ?h_1717); (case h_1717 => with_unfolding_all rfl)
  (with_reducible refine' ev_name ?x_1718 ?p_1718 ?_ ?d_1718); (case x_1718 => rfl); (case p_1718 => rfl); (case d_1718 => decide)
  (with_reducible refine' evl_cons ?_ ?h_1720); (case h_1720 => with_unfolding_all rfl)
  (with_reducible refine' ev_name ?x_1721 ?p_1721 ?_ ?d_1721); (case x_1721 => rfl); (case p_1721 => rfl); (case d_1721 => decide)
  (with_reducible refine' evl_cons ?_ ?h_1723); (case h_1723 => with_unfolding_all rfl)
  (with_reducible refine' ev_name ?x_1724 ?p_1724 ?_ ?d_1724); (case x_1724 => rfl); (case p_1724 => rfl); (case d_1724 => decide)
  with_reducible refine' evl_nil ?_
  rw [uu_of]
  refine cl_face_uv (hr'.le (by decide)) hf ?_
  with_reducible refine' ev_BinOp ?_
  (with_reducible refine' ev_Call ?_ ?h_1785); (case h_1785 => with_unfolding_all rfl)
  (with_reducible refine' ev_global g_get_norm ?k_1786 ?_ ?d_1786); (case k_1786 => rfl); (case d_1786 => decide)
  (with_reducible refine' cw_def kp_get_norm ?_ ?h_1787 ?p_1787); (case h_1787 => with_unfolding_all rfl); (case p_1787 => with_unfolding_all rfl)
  (with_reducible refine' evl_cons ?_ ?h_1789); (case h_1789 => with_unfolding_all rfl)
  (with_reducible refine' ev_name ?x_1790 ?p_1790 ?_ ?d_1790); (case x_1790 => rfl); (case p_1790 => rfl); (case d_1790 => decide)
  with_reducible refine' evl_nil ?_
  refine cl_get_norm (hr'.le (by decide)) hf ?_
  with_reducible refine' ev_BinOp ?_
  (with_reducible refine' ev_Attr ?_ ?h_1902); (case h_1902 => with_unfolding_all rfl)
  (with_reducible refine' ev_name ?x_1907 ?p_1907 ?_ ?d_1907); (case x_1907 => rfl); (case p_1907 => rfl); (case d_1907 => decide)
  with_reducible refine' at_cls_int cv_MAX_SIZE ?_
  with_reducible refine' ev_int ?_
  with_reducible refine' op_sub ?_
  with_reducible refine' op_mul_pt pt_mul ?_
  refine cl_pt_mul (hr'.le (by decide)) (by decide) ?_
  refine ⟨⟨_, _, _, rfl⟩, ?_⟩
  refine op_add_pt pt_add ?_
  refine cl_pt_add (hr'.le (by decide)) ?_
  refine ⟨⟨_, _, _, rfl⟩, ?_⟩
  with_reducible refine' evl_nil ?_
  show Cl _ _ _ _ [.point (wX f t a) (wY f t a) (wZ f t a)] _
  refine cl_xyz (hr'.le (by decide)) sm.1 sm.2.1 sm.2.2 w24.1 ?_
  obtain ⟨I, J, e1, e2, hI, hJ, e3, rm, l1, l2⟩ := w24.2
  rw [e3] at e1 e2 ⊢
  (with_reducible refine' as_tuple ?_ ?n_2039 ?s_2039); (case n_2039 => rfl); (case s_2039 => rfl)
  (with_reducible refine' asE_cons ?k_2040 ?l_2040 ?_); (case k_2040 => rfl); (case l_2040 => rfl)
  (with_reducible refine' asE_cons ?k_2041 ?l_2041 ?_); (case k_2041 => rfl); (case l_2041 => rfl)
  (with_reducible refine' asE_cons ?k_2042 ?l_2042 ?_); (case k_2042 => rfl); (case l_2042 => rfl)
  with_reducible refine' asE_nil ?_
  with_reducible refine seq_nxt ?_
  with_reducible refine ex_cons ?_
  with_reducible refine' ex_return ?_
  (with_reducible refine' ev_Method (pl := _) ?_ ?h_2048); (case h_2048 => with_unfolding_all rfl)
  (with_reducible refine' ev_name ?x_2062 ?p_2062 ?_ ?d_2062); (case x_2062 => rfl); (case p_2062 => rfl); (case d_2062 => decide)
  (with_reducible refine' mth_cls cm_from_face_ij ?_ ?h_2063 ?p_2063); (case h_2063 => with_unfolding_all rfl); (case p_2063 => with_unfolding_all rfl)
  (with_reducible refine' evl_cons ?_ ?h_2067); (case h_2067 => with_unfolding_all rfl)
  (with_reducible refine' ev_name ?x_2070 ?p_2070 ?_ ?d_2070); (case x_2070 => rfl); (case p_2070 => rfl); (case d_2070 => decide)
  (with_reducible refine' evl_cons ?_ ?h_2078); (case h_2078 => with_unfolding_all rfl)
  (with_reducible refine' ev_Method (pl := _) ?_ ?h_2081); (case h_2081 => with_unfolding_all rfl)
  (with_reducible refine' ev_name ?x_2083 ?p_2083 ?_ ?d_2083); (case x_2083 => rfl); (case p_2083 => rfl); (case d_2083 => decide)
  (with_reducible refine' mth_cls cm_st_to_ij ?_ ?h_2084 ?p_2084); (case h_2084 => with_unfolding_all rfl); (case p_2084 => with_unfolding_all rfl)
  (with_reducible refine' evl_cons ?_ ?h_2087); (case h_2087 => with_unfolding_all rfl)
  with_reducible refine' ev_BinOp ?_
  (with_reducible refine' ev_name ?x_2092 ?p_2092 ?_ ?d_2092); (case x_2092 => rfl); (case p_2092 => rfl); (case d_2092 => decide)
  with_reducible refine' ev_BinOp ?_
  with_reducible refine' ev_int ?_
  with_reducible refine' ev_int ?_
  (with_reducible refine' op_shl ?n_2097 ?s_2097 ?_); (case n_2097 => decide); (case s_2097 => decide)
  with_reducible refine' op_add ?_
  with_reducible refine' evl_nil ?_
  (with_reducible refine' cl_st_to_ij ?r_2102 ?c_2102 ?_); (case r_2102 => (refine Cx.Room.le (by assumption) ?_; decide)); (case c_2102 => rfl)
  (with_reducible refine' evl_cons ?_ ?h_2117); (case h_2117 => with_unfolding_all rfl)
  (with_reducible refine' ev_Method (pl := _) ?_ ?h_2119); (case h_2119 => with_unfolding_all rfl)
  (with_reducible refine' ev_name ?x_2137 ?p_2137 ?_ ?d_2137); (case x_2137 => rfl); (case p_2137 => rfl); (case d_2137 => decide)
  (with_reducible refine' mth_cls cm_st_to_ij ?_ ?h_2139 ?p_2139); (case h_2139 => with_unfolding_all rfl); (case p_2139 => with_unfolding_all rfl)
  (with_reducible refine' evl_cons ?_ ?h_2145); (case h_2145 => with_unfolding_all rfl)
  with_reducible refine' ev_BinOp ?_
  (with_reducible refine' ev_name ?x_2147 ?p_2147 ?_ ?d_2147); (case x_2147 => rfl); (case p_2147 => rfl); (case d_2147 => decide)
  with_reducible refine' ev_BinOp ?_
  with_reducible refine' ev_int ?_
  with_reducible refine' ev_int ?_
  (with_reducible refine' op_shl ?n_2152 ?s_2152 ?_); (case n_2152 => decide); (case s_2152 => decide)
  with_reducible refine' op_add ?_
  with_reducible refine' evl_nil ?_
  (with_reducible refine' cl_st_to_ij ?r_2158 ?c_2158 ?_); (case r_2158 => (refine Cx.Room.le (by assumption) ?_; decide)); (case c_2158 => rfl)
  with_reducible refine' evl_nil ?_
  have e53 : (1 : Int) * 2 ^ Int.toNat 53 = 9007199254740992 := by decide
  rw [e53, e1]
  rw [e2]
  refine cl_from_face_ij (hr'.le (by decide)) rfl (cube_back f hf t ht).2.1 hI hJ ?_
  with_reducible refine seq_ret ?_
  with_reducible refine body_ret ?_
  exact h I J hI hJ rm l1 l2
end

end Mine
end Part45
section Part46
open PySem PySem.W PySem.Calls
set_option maxRecDepth 100000
set_option autoImplicit false
set_option linter.unusedVariables false
set_option maxHeartbeats 4000000
namespace Mine





section
variable {w : World} {mean : ExcName → Option Value} {mg mb : Str → Option Value} {c : Cx} {σ : Sg}
theorem ci_same : CmInst (gl w mean mg mb) "from_face_ij_same" 267 265 [Value.bool false] := ⟨by kernel_rfl, by kernel_rfl, by kernel_rfl, by kernel_rfl, by kernel_rfl, by kernel_rfl, by kernel_rfl, by kernel_rfl, by kernel_rfl, by kernel_rfl⟩
theorem cl_same_in {f I J : Nat} {i j : Int} {b : Bool} {C : Addr} {Q : PV → Prop} (hr : c.Room 9) (hC : C = (gl w mean mg mb).C) (hb : b = true) (hi : i = (I : Int)) (hj : j = (J : Int)) (hf : f < 6) (hI : I < 2 ^ 30) (hJ : J < 2 ^ 30) (h : Q (.cell (gid 30 (pz 30 f I J)))) :
    Cl (gl w mean mg mb) c σ (.ref f_from_face_ij_same) [.raw (.ref C), .int (f : Int), .int i, .int j, .bool b] Q := by
  subst hC hb hi hj
  refine cl_def (k := 8) (ns := ["cls", "face", "i", "j", "same_face"]) (by rfl) (by kernel_rfl) hr (by intro vs s hl; match vs, hl with | [_, _, _, _, _], _ => exact BindsTo.of_eq rfl) (by decide) (by decide) (by decide) (fun A g0 fL hid hr' => ?_)
  with_reducible refine ex_cons ?_
  with_reducible refine' ex_if ?_
  (with_reducible refine' evt_of ?_ ?h_84); (case h_84 => with_unfolding_all rfl)
  (with_reducible refine' ev_name ?x_85 ?p_85 ?_ ?d_85); (case x_85 => rfl); (case p_85 => rfl); (case d_85 => decide)
  with_reducible refine' opt_bool ?_
  (with_reducible refine' ite_t ?h_128 ?_); (case h_128 => decide)
  with_reducible refine ex_cons ?_
  with_reducible refine' ex_return ?_
  (with_reducible refine' ev_Method (pl := _) ?_ ?h_131); (case h_131 => with_unfolding_all rfl)
  (with_reducible refine' ev_name ?x_163 ?p_163 ?_ ?d_163); (case x_163 => rfl); (case p_163 => rfl); (case d_163 => decide)
  (with_reducible refine' mth_cls cm_from_face_ij ?_ ?h_193 ?p_193); (case h_193 => with_unfolding_all rfl); (case p_193 => with_unfolding_all rfl)
  (with_reducible refine' evl_cons ?_ ?h_203); (case h_203 => with_unfolding_all rfl)
  (with_reducible refine' ev_name ?x_207 ?p_207 ?_ ?d_207); (case x_207 => rfl); (case p_207 => rfl); (case d_207 => decide)
  (with_reducible refine' evl_cons ?_ ?h_232); (case h_232 => with_unfolding_all rfl)
  (with_reducible refine' ev_name ?x_236 ?p_236 ?_ ?d_236); (case x_236 => rfl); (case p_236 => rfl); (case d_236 => decide)
  (with_reducible refine' evl_cons ?_ ?h_269); (case h_269 => with_unfolding_all rfl)
  (with_reducible refine' ev_name ?x_273 ?p_273 ?_ ?d_273); (case x_273 => rfl); (case p_273 => rfl); (case d_273 => decide)
  with_reducible refine' evl_nil ?_
  refine cl_from_face_ij (hr'.le (by decide)) rfl hf hI hJ ?_
  with_reducible refine seq_ret ?_
  with_reducible refine seq_ret ?_
  with_reducible refine body_ret ?_
  exact h
theorem cl_same_out {f t a : Nat} {i j : Int} {b : Bool} {C : Addr} {Q : PV → Prop} (hr : c.Room 9) (hC : C = (gl w mean mg mb).C) (hb : b = false) (hf : f < 6) (ht : t < 4) (ha : a < 2 ^ 30) (hi : max (-1) (min 1073741824 i) = outI t a) (hj : max (-1) (min 1073741824 j) = outJ t a)
    (h : ∀ I J : Nat, I < 2 ^ 30 → J < 2 ^ 30 → rim 30 (cube f t).2 I J → along 30 (cube f t).2 I J + a + 1 ≤ 2 ^ 30 + 1 → 2 ^ 30 - 1 ≤ along 30 (cube f t).2 I J + a + 1 → Q (.cell (gid 30 (pz 30 (cube f t).1 I J)))) :
    Cl (gl w mean mg mb) c σ (.ref f_from_face_ij_same) [.raw (.ref C), .int (f : Int), .int i, .int j, .bool b] Q := by
  subst hC hb
  refine cl_def (k := 8) (ns := ["cls", "face", "i", "j", "same_face"]) (by rfl) (by kernel_rfl) hr (by intro vs s hl; match vs, hl with | [_, _, _, _, _], _ => exact BindsTo.of_eq rfl) (by decide) (by decide) (by decide) (fun A g0 fL hid hr' => ?_)
  with_reducible refine ex_cons ?_
  with_reducible refine' ex_if ?_
  (with_reducible refine' evt_of ?_ ?h_106); (case h_106 => with_unfolding_all rfl)
  (with_reducible refine' ev_name ?x_107 ?p_107 ?_ ?d_107); (case x_107 => rfl); (case p_107 => rfl); (case d_107 => decide)
  with_reducible refine' opt_bool ?_
  (with_reducible refine' ite_f ?h_136 ?_); (case h_136 => decide)
  with_reducible refine ex_cons ?_
  with_reducible refine' ex_return ?_
  (with_reducible refine' ev_Method (pl := _) ?_ ?h_140); (case h_140 => with_unfolding_all rfl)
  (with_reducible refine' ev_name ?x_178 ?p_178 ?_ ?d_178); (case x_178 => rfl); (case p_178 => rfl); (case d_178 => decide)
  (with_reducible refine' mth_cls cm_from_face_ij_wrap ?_ ?h_215 ?p_215); (case h_215 => with_unfolding_all rfl); (case p_215 => with_unfolding_all rfl)
  (with_reducible refine' evl_cons ?_ ?h_226); (case h_226 => with_unfolding_all rfl)
  (with_reducible refine' ev_name ?x_229 ?p_229 ?_ ?d_229); (case x_229 => rfl); (case p_229 => rfl); (case d_229 => decide)
  (with_reducible refine' evl_cons ?_ ?h_247); (case h_247 => with_unfolding_all rfl)
  (with_reducible refine' ev_name ?x_250 ?p_250 ?_ ?d_250); (case x_250 => rfl); (case p_250 => rfl); (case d_250 => decide)
  (with_reducible refine' evl_cons ?_ ?h_295); (case h_295 => with_unfolding_all rfl)
  (with_reducible refine' ev_name ?x_303 ?p_303 ?_ ?d_303); (case x_303 => rfl); (case p_303 => rfl); (case d_303 => decide)
  with_reducible refine' evl_nil ?_
  refine cl_wrap (hr'.le (by decide)) rfl hf ht ha hi hj ?_
  intro I J hI hJ rm l1 l2
  with_reducible refine seq_ret ?_
  with_reducible refine seq_ret ?_
  with_reducible refine body_ret ?_
  exact h I J hI hJ rm l1 l2
/-- the leaf that is asked for over a side -/
theorem cl_edge {L p t μ ν : Nat} {i j : Int} {b : Bool} {C : Addr} {Q : PV → Prop} (hr : c.Room 9) (hC : C = (gl w mean mg mb).C) (hL : L ≤ 28) (hp : p < 6 * 4 ^ L) (ht : t < 4) (hμ : 1 ≤ μ ∧ μ + 2 ≤ 2 ^ (30 - L)) (hν : 1 ≤ ν ∧ ν + 2 ≤ 2 ^ (30 - L))
    (e : EA t ((xz L p * 2 ^ (30 - L) + μ : Nat) : Int) ((yz L p * 2 ^ (30 - L) + ν : Nat) : Int) ((2 ^ (30 - L) : Nat) : Int) i j b) (h : ∀ P, P < 6 * 2 ^ (2 * 30) → P / 2 ^ (2 * (30 - L)) = (nbr L p t).1 → Q (.cell (gid 30 P))) :
    Cl (gl w mean mg mb) c σ (.ref f_from_face_ij_same) [.raw (.ref C), .int ((p / 4 ^ L : Nat) : Int), .int i, .int j, .bool b] Q := by
  have hf : p / 4 ^ L < 6 := by rw [Nat.div_lt_iff_lt_mul (Nat.pow_pos (by decide))]; exact hp
  by_cases hr' : rim L t (xz L p) (yz L p)
  · obtain ⟨hb, a, ha, ei, ej, k⟩ := EA_out hL hp ht hμ hν e hr'
    refine cl_same_out hr hC hb hf ht ha ei ej ?_
    intro I J hI hJ rm l1 l2
    refine h _ ?_ (k I J hI hJ rm l1 l2)
    rw [pow4]
    exact pz_lt (cube_back _ hf t ht).2.1 hI hJ
  · obtain ⟨hb, I, J, ei, ej, hI, hJ, k⟩ := EA_in (by omega) hp ht (by omega) (by omega) e hr'
    refine cl_same_in hr hC hb ei ej hf hI hJ (h _ ?_ k)
    rw [pow4]
    exact pz_lt hf hI hJ
theorem cl_size1 {l : Nat} {n : Int} {Q : PV → Prop} (hr : c.Room 2) (hl : l ≤ 30) (h : Q (.int ((2 ^ (30 - l) : Nat) : Int))) : Cl (gl w mean mg mb) c σ (.ref f_get_size_ij) [.cell n, .int (l : Int)] Q := by
  refine cl_rest (k := 1) (n0 := "self") (n1 := "args") (xs := [.int (l : Int)]) (by rfl) (by kernel_rfl) hr (by simp) (by (intro v0 vs hl; match vs, hl with | [_], _ => exact ⟨_, rfl, fun _ => rfl⟩)) (by decide) (by decide) (by decide) (fun A g0 fL hid hr' => ?_)
  with_reducible refine ex_cons ?_
  with_reducible refine' ex_if ?_
  (with_reducible refine' evt_Compare ?_ ?m_10); (case m_10 => with_unfolding_all rfl)
  (with_reducible refine' ev_Call ?_ ?h_12); (case h_12 => with_unfolding_all rfl)
  (with_reducible refine' ev_builtin n_len bb_len ?k_13 ?_ ?n_13 ?d_13); (case k_13 => rfl); (case n_13 => decide); (case d_13 => decide)
  (with_reducible refine' cw_builtin ?_ ?h_30 ?p_30); (case h_30 => with_unfolding_all rfl); (case p_30 => with_unfolding_all rfl)
  (with_reducible refine' evl_cons ?_ ?h_34); (case h_34 => with_unfolding_all rfl)
  (with_reducible refine' ev_name ?x_35 ?p_35 ?_ ?d_35); (case x_35 => rfl); (case p_35 => rfl); (case d_35 => decide)
  with_reducible refine' evl_nil ?_
  (with_reducible refine' b_len_tup ?l_45 ?_); (case l_45 => first | decide | (simp; done))
  with_reducible refine' ev_int ?_
  with_reducible refine' op_eq ?_
  with_reducible refine' opt_bool ?_
  refine ite_f rfl ?_
  with_reducible refine ex_cons ?_
  (with_reducible refine' ex_assign ?_ ?k_151 ?l_151 ?s_151); (case k_151 => rfl); (case l_151 => rfl); (case s_151 => rfl)
  with_reducible refine' ev_Subscript ?_
  (with_reducible refine' ev_name ?x_182 ?p_182 ?_ ?d_182); (case x_182 => rfl); (case p_182 => rfl); (case d_182 => decide)
  with_reducible refine' ev_int ?_
  (with_reducible refine' op_item_tup ?a_228 ?b_228 ?j_228 ?x_228 ?_ ?s_228); (case a_228 => decide); (case b_228 => decide); (case j_228 => rfl); (case x_228 => rfl); (case s_228 => intros; with_unfolding_all rfl)
  with_reducible refine seq_nxt ?_
  with_reducible refine ex_nil ?_
  with_reducible refine seq_nxt ?_
  with_reducible refine ex_cons ?_
  with_reducible refine' ex_return ?_
  with_reducible refine' ev_BinOp ?_
  with_reducible refine' ev_int ?_
  with_reducible refine' ev_BinOp ?_
  (with_reducible refine' ev_Attr ?_ ?h_243); (case h_243 => with_unfolding_all rfl)
  (with_reducible refine' ev_Attr ?_ ?h_244); (case h_244 => with_unfolding_all rfl)
  (with_reducible refine' ev_name ?x_245 ?p_245 ?_ ?d_245); (case x_245 => rfl); (case p_245 => rfl); (case d_245 => decide)
  with_reducible refine' at_class cls_attr ?_
  with_reducible refine' at_cls_int cv_MAX_LEVEL ?_
  (with_reducible refine' ev_name ?x_307 ?p_307 ?_ ?d_307); (case x_307 => rfl); (case p_307 => rfl); (case d_307 => decide)
  with_reducible refine' op_sub ?_
  refine op_shl (by omega) (shl_fits (by decide) (by omega) (by omega)) ?_
  rw [show (30 - (l : Int)) = ((30 - l : Nat) : Int) by omega, pow_int]
  with_reducible refine seq_ret ?_
  with_reducible refine body_ret ?_
  exact h
theorem cl_tfo {L p : Nat} {Q : PV → Prop} (hr : c.Room 4) (hL : L ≤ 30) (hp : p < 6 * 4 ^ L) (h : Q (.tup [.int ((p / 4 ^ L : Nat) : Int), .int ((xz L p * 2 ^ (30 - L) + mid (oz L p) (30 - L) : Nat) : Int), .int ((yz L p * 2 ^ (30 - L) + mid (oz L p) (30 - L) : Nat) : Int), .int ((oz L p : Nat) : Int)])) :
    Cl (gl w mean mg mb) c σ (.ref f_to_face_ij_orientation) [.cell (gid L p)] Q := by
  refine cl_to_face_ij_orientation hr hL (by rw [pow4]; exact hp) ?_
  rw [pow4, ← xz_hx, ← yz_hy, ← oz_ho]
  exact h
theorem cl_edges {L p : Nat} {Q : PV → Prop} (hr : c.Room 10) (hL : L ≤ 28) (hp : p < 6 * 4 ^ L) (h : Q (.tup [.cell (gid L (nbr L p 0).1), .cell (gid L (nbr L p 1).1), .cell (gid L (nbr L p 2).1), .cell (gid L (nbr L p 3).1)])) :
    Cl (gl w mean mg mb) c σ (.ref f_get_edge_neighbors) [.cell (gid L p)] Q := by
  refine cl_def (k := 9) (ns := ["self"]) (by rfl) (by kernel_rfl) hr (by (intro vs s hl; match vs, hl with | [_], _ => exact BindsTo.of_eq rfl)) (by decide) (by decide) (by decide) (fun A g0 fL hid hr' => ?_)
  have hm := mid_mid (o := oz L p) (m := 30 - L) (by omega)
  with_reducible refine ex_cons ?_
  (with_reducible refine' ex_assign ?_ ?k_27 ?l_27 ?s_27); (case k_27 => rfl); (case l_27 => rfl); (case s_27 => rfl)
  (with_reducible refine' ev_Method (pl := _) ?_ ?h_36); (case h_36 => with_unfolding_all rfl)
  (with_reducible refine' ev_name ?x_37 ?p_37 ?_ ?d_37); (case x_37 => rfl); (case p_37 => rfl); (case d_37 => decide)
  with_reducible refine' mth_cell0 m_level ?_
  (with_reducible refine' cl_level ?r_82 ?l_82 ?_); (case r_82 => (refine Cx.Room.le (by assumption) ?_; decide)); (case l_82 => (first | assumption | omega))
  with_reducible refine seq_nxt ?_
  with_reducible refine ex_cons ?_
  (with_reducible refine' ex_assign ?_ ?k_97 ?l_97 ?s_97); (case k_97 => rfl); (case l_97 => rfl); (case s_97 => rfl)
  (with_reducible refine' ev_Method (pl := _) ?_ ?h_111); (case h_111 => with_unfolding_all rfl)
  (with_reducible refine' ev_name ?x_125 ?p_125 ?_ ?d_125); (case x_125 => rfl); (case p_125 => rfl); (case d_125 => decide)
  (with_reducible refine' mth_cell m_get_size_ij ?_ ?h_146 ?p_146); (case h_146 => with_unfolding_all rfl); (case p_146 => with_unfolding_all rfl)
  (with_reducible refine' evl_cons ?_ ?h_157); (case h_157 => with_unfolding_all rfl)
  (with_reducible refine' ev_name ?x_160 ?p_160 ?_ ?d_160); (case x_160 => rfl); (case p_160 => rfl); (case d_160 => decide)
  with_reducible refine' evl_nil ?_
  refine cl_size1 (hr'.le (by decide)) (by omega) ?_
  with_reducible refine seq_nxt ?_
  with_reducible refine ex_cons ?_
  (with_reducible refine' ex_assign_tuple ?_ ?s_296 ?w_296); (case s_296 => rfl); (case w_296 => rfl)
  (with_reducible refine' ev_Method (pl := _) ?_ ?h_306); (case h_306 => with_unfolding_all rfl)
  (with_reducible refine' ev_name ?x_310 ?p_310 ?_ ?d_310); (case x_310 => rfl); (case p_310 => rfl); (case d_310 => decide)
  with_reducible refine' mth_cell0 m_to_face_ij_orientation ?_
  refine cl_tfo (hr'.le (by decide)) (by omega) hp ?_
  (with_reducible refine' as_tuple ?_ ?n_484 ?s_484); (case n_484 => rfl); (case s_484 => rfl)
  (with_reducible refine' asE_cons ?k_504 ?l_504 ?_); (case k_504 => rfl); (case l_504 => rfl)
  (with_reducible refine' asE_cons ?k_538 ?l_538 ?_); (case k_538 => rfl); (case l_538 => rfl)
  (with_reducible refine' asE_cons ?k_540 ?l_540 ?_); (case k_540 => rfl); (case l_540 => rfl)
  (with_reducible refine' asE_cons ?k_587 ?l_587 ?_); (case k_587 => rfl); (case l_587 => rfl)
  with_reducible refine' asE_nil ?_
  with_reducible refine seq_nxt ?_
  with_reducible refine ex_cons ?_
  with_reducible refine' ex_return ?_
  with_reducible refine' ev_Tuple ?_
  (with_reducible refine' evl_cons ?_ ?h_673); (case h_673 => with_unfolding_all rfl)
  (with_reducible refine' ev_Method (pl := _) ?_ ?h_681); (case h_681 => with_unfolding_all rfl)
  (with_reducible refine' ev_Method (pl := _) ?_ ?h_708); (case h_708 => with_unfolding_all rfl)
  (with_reducible refine' ev_name ?x_746 ?p_746 ?_ ?d_746); (case x_746 => rfl); (case p_746 => rfl); (case d_746 => decide)
  (with_reducible refine' mth_cm ci_same ?_ ?h_824 ?p_824); (case h_824 => with_unfolding_all rfl); (case p_824 => with_unfolding_all rfl)
  (with_reducible refine' evl_cons ?_ ?h_833); (case h_833 => with_unfolding_all rfl)
  (with_reducible refine' ev_name ?x_836 ?p_836 ?_ ?d_836); (case x_836 => rfl); (case p_836 => rfl); (case d_836 => decide)
  (with_reducible refine' evl_cons ?_ ?h_896); (case h_896 => with_unfolding_all rfl)
  (with_reducible refine' ev_name ?x_900 ?p_900 ?_ ?d_900); (case x_900 => rfl); (case p_900 => rfl); (case d_900 => decide)
  (with_reducible refine' evl_cons ?_ ?h_916); (case h_916 => with_unfolding_all rfl)
  with_reducible refine' ev_BinOp ?_
  (with_reducible refine' ev_name ?x_919 ?p_919 ?_ ?d_919); (case x_919 => rfl); (case p_919 => rfl); (case d_919 => decide)
  (with_reducible refine' ev_name ?x_951 ?p_951 ?_ ?d_951); (case x_951 => rfl); (case p_951 => rfl); (case d_951 => decide)
  with_reducible refine' op_sub ?_
  (with_reducible refine' evl_cons ?_ ?h_963); (case h_963 => with_unfolding_all rfl)
  (with_reducible refine' ev_Compare ?_ ?m_964); (case m_964 => with_unfolding_all rfl)
  with_reducible refine' ev_BinOp ?_
  (with_reducible refine' ev_name ?x_966 ?p_966 ?_ ?d_966); (case x_966 => rfl); (case p_966 => rfl); (case d_966 => decide)
  (with_reducible refine' ev_name ?x_973 ?p_973 ?_ ?d_973); (case x_973 => rfl); (case p_973 => rfl); (case d_973 => decide)
  with_reducible refine' op_sub ?_
  with_reducible refine' ev_int ?_
  with_reducible refine' op_ge ?_
  with_reducible refine' evl_nil ?_
  refine cl_edge (t := 0) (hr'.le (by decide)) rfl hL hp (by decide) hm hm ⟨rfl, rfl, decide_eq_true_iff⟩ (fun P0 h0 e0 => ?_)
  (with_reducible refine' mth_cell m_parent ?_ ?h_1196 ?p_1196); (case h_1196 => with_unfolding_all rfl); (case p_1196 => with_unfolding_all rfl)
  (with_reducible refine' evl_cons ?_ ?h_1199); (case h_1199 => with_unfolding_all rfl)
  (with_reducible refine' ev_name ?x_1202 ?p_1202 ?_ ?d_1202); (case x_1202 => rfl); (case p_1202 => rfl); (case d_1202 => decide)
  with_reducible refine' evl_nil ?_
  (with_reducible refine' cl_parent ?r_1263 ?l_1263 ?m_1263 ?p_1263 ?_); (case r_1263 => (refine Cx.Room.le (by assumption) ?_; decide)); (case l_1263 => (first | assumption | omega)); (case m_1263 => (first | assumption | omega)); (case p_1263 => (first | assumption | omega))
  (with_reducible refine' evl_cons ?_ ?h_1267); (case h_1267 => with_unfolding_all rfl)
  (with_reducible refine' ev_Method (pl := _) ?_ ?h_1268); (case h_1268 => with_unfolding_all rfl)
  (with_reducible refine' ev_Method (pl := _) ?_ ?h_1269); (case h_1269 => with_unfolding_all rfl)
  (with_reducible refine' ev_name ?x_1283 ?p_1283 ?_ ?d_1283); (case x_1283 => rfl); (case p_1283 => rfl); (case d_1283 => decide)
  (with_reducible refine' mth_cm ci_same ?_ ?h_1323 ?p_1323); (case h_1323 => with_unfolding_all rfl); (case p_1323 => with_unfolding_all rfl)
  (with_reducible refine' evl_cons ?_ ?h_1326); (case h_1326 => with_unfolding_all rfl)
  (with_reducible refine' ev_name ?x_1327 ?p_1327 ?_ ?d_1327); (case x_1327 => rfl); (case p_1327 => rfl); (case d_1327 => decide)
  (with_reducible refine' evl_cons ?_ ?h_1368); (case h_1368 => with_unfolding_all rfl)
  with_reducible refine' ev_BinOp ?_
  (with_reducible refine' ev_name ?x_1375 ?p_1375 ?_ ?d_1375); (case x_1375 => rfl); (case p_1375 => rfl); (case d_1375 => decide)
  (with_reducible refine' ev_name ?x_1402 ?p_1402 ?_ ?d_1402); (case x_1402 => rfl); (case p_1402 => rfl); (case d_1402 => decide)
  with_reducible refine' op_add ?_
  (with_reducible refine' evl_cons ?_ ?h_1413); (case h_1413 => with_unfolding_all rfl)
  (with_reducible refine' ev_name ?x_1417 ?p_1417 ?_ ?d_1417); (case x_1417 => rfl); (case p_1417 => rfl); (case d_1417 => decide)
  (with_reducible refine' evl_cons ?_ ?h_1438); (case h_1438 => with_unfolding_all rfl)
  (with_reducible refine' ev_Compare ?_ ?m_1442); (case m_1442 => with_unfolding_all rfl)
  with_reducible refine' ev_BinOp ?_
  (with_reducible refine' ev_name ?x_1444 ?p_1444 ?_ ?d_1444); (case x_1444 => rfl); (case p_1444 => rfl); (case d_1444 => decide)
  (with_reducible refine' ev_name ?x_1446 ?p_1446 ?_ ?d_1446); (case x_1446 => rfl); (case p_1446 => rfl); (case d_1446 => decide)
  with_reducible refine' op_add ?_
  (with_reducible refine' ev_Attr ?_ ?h_1480); (case h_1480 => with_unfolding_all rfl)
  (with_reducible refine' ev_Attr ?_ ?h_1481); (case h_1481 => with_unfolding_all rfl)
  (with_reducible refine' ev_name ?x_1486 ?p_1486 ?_ ?d_1486); (case x_1486 => rfl); (case p_1486 => rfl); (case d_1486 => decide)
  with_reducible refine' at_class cls_attr ?_
  with_reducible refine' at_cls_int cv_MAX_SIZE ?_
  with_reducible refine' op_lt ?_
  with_reducible refine' evl_nil ?_
  refine cl_edge (t := 1) (hr'.le (by decide)) rfl hL hp (by decide) hm hm ⟨rfl, rfl, decide_eq_true_iff⟩ (fun P1 h1 e1 => ?_)
  (with_reducible refine' mth_cell m_parent ?_ ?h_1627 ?p_1627); (case h_1627 => with_unfolding_all rfl); (case p_1627 => with_unfolding_all rfl)
  (with_reducible refine' evl_cons ?_ ?h_1630); (case h_1630 => with_unfolding_all rfl)
  (with_reducible refine' ev_name ?x_1631 ?p_1631 ?_ ?d_1631); (case x_1631 => rfl); (case p_1631 => rfl); (case d_1631 => decide)
  with_reducible refine' evl_nil ?_
  (with_reducible refine' cl_parent ?r_1684 ?l_1684 ?m_1684 ?p_1684 ?_); (case r_1684 => (refine Cx.Room.le (by assumption) ?_; decide)); (case l_1684 => (first | assumption | omega)); (case m_1684 => (first | assumption | omega)); (case p_1684 => (first | assumption | omega))
  (with_reducible refine' evl_cons ?_ ?h_1699); (case h_1699 => with_unfolding_all rfl)
  (with_reducible refine' ev_Method (pl := _) ?_ ?h_1701); (case h_1701 => with_unfolding_all rfl)
  (with_reducible refine' ev_Method (pl := _) ?_ ?h_1705); (case h_1705 => with_unfolding_all rfl)
  (with_reducible refine' ev_name ?x_1709 ?p_1709 ?_ ?d_1709); (case x_1709 => rfl); (case p_1709 => rfl); (case d_1709 => decide)
  (with_reducible refine' mth_cm ci_same ?_ ?h_1715 ?p_1715); (case h_1715 => with_unfolding_all rfl); (case p_1715 => with_unfolding_all rfl)
  (with_reducible refine' evl_cons ?_ ?h_1717); (case h_1717 => with_unfolding_all rfl)
  (with_reducible refine' ev_name ?x_1718 ?p_1718 ?_ ?d_1718); (case x_1718 => rfl); (case p_1718 => rfl); (case d_1718 => decide)
  (with_reducible refine' evl_cons ?_ ?h_1720); (case h_1720 => with_unfolding_all rfl)
  (with_reducible refine' ev_name ?x_1721 ?p_1721 ?_ ?d_1721); (case x_1721 => rfl); (case p_1721 => rfl); (case d_1721 => decide)
  (with_reducible refine' evl_cons ?_ ?h_1723); (case h_1723 => with_unfolding_all rfl)
  with_reducible refine' ev_BinOp ?_
  (with_reducible refine' ev_name ?x_1725 ?p_1725 ?_ ?d_1725); (case x_1725 => rfl); (case p_1725 => rfl); (case d_1725 => decide)
  (with_reducible refine' ev_name ?x_1726 ?p_1726 ?_ ?d_1726); (case x_1726 => rfl); (case p_1726 => rfl); (case d_1726 => decide)
  with_reducible refine' op_add ?_
  (with_reducible refine' evl_cons ?_ ?h_1730); (case h_1730 => with_unfolding_all rfl)
  (with_reducible refine' ev_Compare ?_ ?m_1731); (case m_1731 => with_unfolding_all rfl)
  with_reducible refine' ev_BinOp ?_
  (with_reducible refine' ev_name ?x_1733 ?p_1733 ?_ ?d_1733); (case x_1733 => rfl); (case p_1733 => rfl); (case d_1733 => decide)
  (with_reducible refine' ev_name ?x_1734 ?p_1734 ?_ ?d_1734); (case x_1734 => rfl); (case p_1734 => rfl); (case d_1734 => decide)
  with_reducible refine' op_add ?_
  (with_reducible refine' ev_Attr ?_ ?h_1741); (case h_1741 => with_unfolding_all rfl)
  (with_reducible refine' ev_Attr ?_ ?h_1742); (case h_1742 => with_unfolding_all rfl)
  (with_reducible refine' ev_name ?x_1744 ?p_1744 ?_ ?d_1744); (case x_1744 => rfl); (case p_1744 => rfl); (case d_1744 => decide)
  with_reducible refine' at_class cls_attr ?_
  with_reducible refine' at_cls_int cv_MAX_SIZE ?_
  with_reducible refine' op_lt ?_
  with_reducible refine' evl_nil ?_
  refine cl_edge (t := 2) (hr'.le (by decide)) rfl hL hp (by decide) hm hm ⟨rfl, rfl, decide_eq_true_iff⟩ (fun P2 h2 e2 => ?_)
  (with_reducible refine' mth_cell m_parent ?_ ?h_1829 ?p_1829); (case h_1829 => with_unfolding_all rfl); (case p_1829 => with_unfolding_all rfl)
  (with_reducible refine' evl_cons ?_ ?h_1831); (case h_1831 => with_unfolding_all rfl)
  (with_reducible refine' ev_name ?x_1833 ?p_1833 ?_ ?d_1833); (case x_1833 => rfl); (case p_1833 => rfl); (case d_1833 => decide)
  with_reducible refine' evl_nil ?_
  (with_reducible refine' cl_parent ?r_1860 ?l_1860 ?m_1860 ?p_1860 ?_); (case r_1860 => (refine Cx.Room.le (by assumption) ?_; decide)); (case l_1860 => (first | assumption | omega)); (case m_1860 => (first | assumption | omega)); (case p_1860 => (first | assumption | omega))
  (with_reducible refine' evl_cons ?_ ?h_1867); (case h_1867 => with_unfolding_all rfl)
  (with_reducible refine' ev_Method (pl := _) ?_ ?h_1871); (case h_1871 => with_unfolding_all rfl)
  (with_reducible refine' ev_Method (pl := _) ?_ ?h_1893); (case h_1893 => with_unfolding_all rfl)
  (with_reducible refine' ev_name ?x_1903 ?p_1903 ?_ ?d_1903); (case x_1903 => rfl); (case p_1903 => rfl); (case d_1903 => decide)
  (with_reducible refine' mth_cm ci_same ?_ ?h_1907 ?p_1907); (case h_1907 => with_unfolding_all rfl); (case p_1907 => with_unfolding_all rfl)
  (with_reducible refine' evl_cons ?_ ?h_1910); (case h_1910 => with_unfolding_all rfl)
  (with_reducible refine' ev_name ?x_1911 ?p_1911 ?_ ?d_1911); (case x_1911 => rfl); (case p_1911 => rfl); (case d_1911 => decide)
  (with_reducible refine' evl_cons ?_ ?h_1924); (case h_1924 => with_unfolding_all rfl)
  with_reducible refine' ev_BinOp ?_
  (with_reducible refine' ev_name ?x_1927 ?p_1927 ?_ ?d_1927); (case x_1927 => rfl); (case p_1927 => rfl); (case d_1927 => decide)
  (with_reducible refine' ev_name ?x_1928 ?p_1928 ?_ ?d_1928); (case x_1928 => rfl); (case p_1928 => rfl); (case d_1928 => decide)
  with_reducible refine' op_sub ?_
  (with_reducible refine' evl_cons ?_ ?h_1941); (case h_1941 => with_unfolding_all rfl)
  (with_reducible refine' ev_name ?x_1942 ?p_1942 ?_ ?d_1942); (case x_1942 => rfl); (case p_1942 => rfl); (case d_1942 => decide)
  (with_reducible refine' evl_cons ?_ ?h_1946); (case h_1946 => with_unfolding_all rfl)
  (with_reducible refine' ev_Compare ?_ ?m_1947); (case m_1947 => with_unfolding_all rfl)
  with_reducible refine' ev_BinOp ?_
  (with_reducible refine' ev_name ?x_1949 ?p_1949 ?_ ?d_1949); (case x_1949 => rfl); (case p_1949 => rfl); (case d_1949 => decide)
  (with_reducible refine' ev_name ?x_1951 ?p_1951 ?_ ?d_1951); (case x_1951 => rfl); (case p_1951 => rfl); (case d_1951 => decide)
  with_reducible refine' op_sub ?_
  with_reducible refine' ev_int ?_
  with_reducible refine' op_ge ?_
  with_reducible refine' evl_nil ?_
  refine cl_edge (t := 3) (hr'.le (by decide)) rfl hL hp (by decide) hm hm ⟨rfl, rfl, decide_eq_true_iff⟩ (fun P3 h3 e3 => ?_)
  (with_reducible refine' mth_cell m_parent ?_ ?h_1997 ?p_1997); (case h_1997 => with_unfolding_all rfl); (case p_1997 => with_unfolding_all rfl)
  (with_reducible refine' evl_cons ?_ ?h_2000); (case h_2000 => with_unfolding_all rfl)
  (with_reducible refine' ev_name ?x_2001 ?p_2001 ?_ ?d_2001); (case x_2001 => rfl); (case p_2001 => rfl); (case d_2001 => decide)
  with_reducible refine' evl_nil ?_
  (with_reducible refine' cl_parent ?r_2026 ?l_2026 ?m_2026 ?p_2026 ?_); (case r_2026 => (refine Cx.Room.le (by assumption) ?_; decide)); (case l_2026 => (first | assumption | omega)); (case m_2026 => (first | assumption | omega)); (case p_2026 => (first | assumption | omega))
  with_reducible refine' evl_nil ?_
  (with_reducible refine' And.intro ?a_2030 ?_); (case a_2030 => exact Nat.le_of_ble_eq_true rfl)
  with_reducible refine seq_ret ?_
  with_reducible refine body_ret ?_
  rw [e0, e1, e2, e3]
  exact h
theorem cl_prev {L p : Nat} {Q : PV → Prop} (hr : c.Room 3) (h : Q (.cell (((gid L p) - ((2 ^ (60 - 2 * L) : Nat) : Int) * 2 ^ Int.toNat 1).fmod 18446744073709551615))) : Cl (gl w mean mg mb) c σ (.ref f_prev) [.cell (gid L p)] Q := by
  refine cl_def (k := 2) (ns := ["self"]) (by rfl) (by kernel_rfl) hr (by (intro vs s hl; match vs, hl with | [_], _ => exact BindsTo.of_eq rfl)) (by decide) (by decide) (by decide) (fun A g0 fL hid hr' => ?_)
  have h2 := two_z (L := L)
  with_reducible refine ex_cons ?_
  with_reducible refine' ex_return ?_
  (with_reducible refine' ev_Method (pl := _) ?_ ?h_16); (case h_16 => with_unfolding_all rfl)
  (with_reducible refine' ev_name ?x_31 ?p_31 ?_ ?d_31); (case x_31 => rfl); (case p_31 => rfl); (case d_31 => decide)
  with_reducible refine' mth_class cls_attr ?_
  (with_reducible refine' cw_def keep_CP ?_ ?h_40 ?p_40); (case h_40 => with_unfolding_all rfl); (case p_40 => with_unfolding_all rfl)
  (with_reducible refine' evl_cons ?_ ?h_434); (case h_434 => with_unfolding_all rfl)
  with_reducible refine' ev_BinOp ?_
  (with_reducible refine' ev_Method (pl := _) ?_ ?h_439); (case h_439 => with_unfolding_all rfl)
  (with_reducible refine' ev_name ?x_456 ?p_456 ?_ ?d_456); (case x_456 => rfl); (case p_456 => rfl); (case d_456 => decide)
  with_reducible refine' mth_cell0 m_id ?_
  (with_reducible refine' cl_id ?r_524 ?_); (case r_524 => (refine Cx.Room.le (by assumption) ?_; decide))
  with_reducible refine' ev_BinOp ?_
  (with_reducible refine' ev_Method (pl := _) ?_ ?h_531); (case h_531 => with_unfolding_all rfl)
  (with_reducible refine' ev_name ?x_539 ?p_539 ?_ ?d_539); (case x_539 => rfl); (case p_539 => rfl); (case d_539 => decide)
  with_reducible refine' mth_cell0 m_lsb ?_
  (with_reducible refine' cl_lsb ?r_602 ?_); (case r_602 => (refine Cx.Room.le (by assumption) ?_; decide))
  with_reducible refine' ev_int ?_
  refine op_shl (by decide) (shl_fits z_small (by decide) (by decide)) ?_
  with_reducible refine' op_sub ?_
  with_reducible refine' evl_nil ?_
  (with_reducible refine' cl_new ?r_687 ?c_687 ?_); (case r_687 => (refine Cx.Room.le (by assumption) ?_; decide)); (case c_687 => rfl)
  with_reducible refine seq_ret ?_
  with_reducible refine body_ret ?_
  exact h
theorem cl_next {L p : Nat} {Q : PV → Prop} (hr : c.Room 3) (h : Q (.cell (((gid L p) + ((2 ^ (60 - 2 * L) : Nat) : Int) * 2 ^ Int.toNat 1).fmod 18446744073709551615))) : Cl (gl w mean mg mb) c σ (.ref f_next) [.cell (gid L p)] Q := by
  refine cl_def (k := 2) (ns := ["self"]) (by rfl) (by kernel_rfl) hr (by (intro vs s hl; match vs, hl with | [_], _ => exact BindsTo.of_eq rfl)) (by decide) (by decide) (by decide) (fun A g0 fL hid hr' => ?_)
  have h2 := two_z (L := L)
  with_reducible refine ex_cons ?_
  with_reducible refine' ex_return ?_
  (with_reducible refine' ev_Method (pl := _) ?_ ?h_19); (case h_19 => with_unfolding_all rfl)
  (with_reducible refine' ev_name ?x_32 ?p_32 ?_ ?d_32); (case x_32 => rfl); (case p_32 => rfl); (case d_32 => decide)
  with_reducible refine' mth_class cls_attr ?_
  (with_reducible refine' cw_def keep_CP ?_ ?h_43 ?p_43); (case h_43 => with_unfolding_all rfl); (case p_43 => with_unfolding_all rfl)
  (with_reducible refine' evl_cons ?_ ?h_427); (case h_427 => with_unfolding_all rfl)
  with_reducible refine' ev_BinOp ?_
  (with_reducible refine' ev_Method (pl := _) ?_ ?h_433); (case h_433 => with_unfolding_all rfl)
  (with_reducible refine' ev_name ?x_454 ?p_454 ?_ ?d_454); (case x_454 => rfl); (case p_454 => rfl); (case d_454 => decide)
  with_reducible refine' mth_cell0 m_id ?_
  (with_reducible refine' cl_id ?r_518 ?_); (case r_518 => (refine Cx.Room.le (by assumption) ?_; decide))
  with_reducible refine' ev_BinOp ?_
  (with_reducible refine' ev_Method (pl := _) ?_ ?h_527); (case h_527 => with_unfolding_all rfl)
  (with_reducible refine' ev_name ?x_537 ?p_537 ?_ ?d_537); (case x_537 => rfl); (case p_537 => rfl); (case d_537 => decide)
  with_reducible refine' mth_cell0 m_lsb ?_
  (with_reducible refine' cl_lsb ?r_594 ?_); (case r_594 => (refine Cx.Room.le (by assumption) ?_; decide))
  with_reducible refine' ev_int ?_
  refine op_shl (by decide) (shl_fits z_small (by decide) (by decide)) ?_
  with_reducible refine' op_add ?_
  with_reducible refine' evl_nil ?_
  (with_reducible refine' cl_new ?r_685 ?c_685 ?_); (case r_685 => (refine Cx.Room.le (by assumption) ?_; decide)); (case c_685 => rfl)
  with_reducible refine seq_ret ?_
  with_reducible refine body_ret ?_
  exact h
theorem cl_prev_wrap {L p : Nat} {Q : PV → Prop} (hr : c.Room 5) (hL : L ≤ 30) (hp : p < 6 * 4 ^ L) (h : Q (.cell (gid L (pv L p)))) : Cl (gl w mean mg mb) c σ (.ref f_prev_wrap) [.cell (gid L p)] Q := by
  refine cl_def (k := 4) (ns := ["self"]) (by rfl) (by kernel_rfl) hr (by (intro vs s hl; match vs, hl with | [_], _ => exact BindsTo.of_eq rfl)) (by decide) (by decide) (by decide) (fun A g0 fL hid hr' => ?_)
  have hp2 : p < 6 * 2 ^ (2 * L) := by rw [pow4]; exact hp
  with_reducible refine ex_cons ?_
  with_reducible refine' ex_assert ?_
  (with_reducible refine' evt_of ?_ ?h_121); (case h_121 => with_unfolding_all rfl)
  (with_reducible refine' ev_Method (pl := _) ?_ ?h_122); (case h_122 => with_unfolding_all rfl)
  (with_reducible refine' ev_name ?x_127 ?p_127 ?_ ?d_127); (case x_127 => rfl); (case p_127 => rfl); (case d_127 => decide)
  with_reducible refine' mth_cell0 m_is_valid ?_
  (with_reducible refine' cl_is_valid ?r_176 ?l_176 ?p_176 ?_); (case r_176 => (refine Cx.Room.le (by assumption) ?_; decide)); (case l_176 => (first | assumption | omega)); (case p_176 => (first | assumption | omega))
  with_reducible refine' opt_bool ?_
  with_reducible refine' and_tt ?_
  with_reducible refine seq_nxt ?_
  with_reducible refine ex_cons ?_
  (with_reducible refine' ex_assign ?_ ?k_190 ?l_190 ?s_190); (case k_190 => rfl); (case l_190 => rfl); (case s_190 => rfl)
  (with_reducible refine' ev_Method (pl := _) ?_ ?h_210); (case h_210 => with_unfolding_all rfl)
  (with_reducible refine' ev_name ?x_230 ?p_230 ?_ ?d_230); (case x_230 => rfl); (case p_230 => rfl); (case d_230 => decide)
  with_reducible refine' mth_cell0 m_prev ?_
  refine cl_prev (hr'.le (by decide)) ?_
  rcases pv_or hp with ⟨h1, e⟩ | ⟨h1, e⟩
  · rw [gid_less h1, gid_mod hL (by rw [pow4]; omega)]
    rw [e] at h
    with_reducible refine seq_nxt ?_
    with_reducible refine ex_cons ?_
    with_reducible refine' ex_if ?_
    (with_reducible refine' evt_Compare ?_ ?m_383); (case m_383 => with_unfolding_all rfl)
    (with_reducible refine' ev_Method (pl := _) ?_ ?h_386); (case h_386 => with_unfolding_all rfl)
    (with_reducible refine' ev_name ?x_403 ?p_403 ?_ ?d_403); (case x_403 => rfl); (case p_403 => rfl); (case d_403 => decide)
    with_reducible refine' mth_cell0 m_id ?_
    (with_reducible refine' cl_id ?r_453 ?_); (case r_453 => (refine Cx.Room.le (by assumption) ?_; decide))
    (with_reducible refine' ev_Attr ?_ ?h_455); (case h_455 => with_unfolding_all rfl)
    (with_reducible refine' ev_Attr ?_ ?h_457); (case h_457 => with_unfolding_all rfl)
    (with_reducible refine' ev_name ?x_458 ?p_458 ?_ ?d_458); (case x_458 => rfl); (case p_458 => rfl); (case d_458 => decide)
    with_reducible refine' at_class cls_attr ?_
    with_reducible refine' at_cls_int cv_WRAP_OFFSET ?_
    with_reducible refine' op_lt ?_
    with_reducible refine' opt_bool ?_
    with_reducible refine ite_t ?_ ?_
    · exact dec_tt (gid_int_lt hL (by omega))
    with_reducible refine ex_cons ?_
    with_reducible refine' ex_return ?_
    (with_reducible refine' ev_name ?x_550 ?p_550 ?_ ?d_550); (case x_550 => rfl); (case p_550 => rfl); (case d_550 => decide)
    with_reducible refine seq_ret ?_
    with_reducible refine seq_ret ?_
    with_reducible refine body_ret ?_
    exact h
  · subst h1
    rw [gid_neg hL]
    have h2 := two_z (L := L)
    with_reducible refine seq_nxt ?_
    with_reducible refine ex_cons ?_
    with_reducible refine' ex_if ?_
    (with_reducible refine' evt_Compare ?_ ?m_617); (case m_617 => with_unfolding_all rfl)
    (with_reducible refine' ev_Method (pl := _) ?_ ?h_618); (case h_618 => with_unfolding_all rfl)
    (with_reducible refine' ev_name ?x_633 ?p_633 ?_ ?d_633); (case x_633 => rfl); (case p_633 => rfl); (case d_633 => decide)
    with_reducible refine' mth_cell0 m_id ?_
    (with_reducible refine' cl_id ?r_730 ?_); (case r_730 => (refine Cx.Room.le (by assumption) ?_; decide))
    (with_reducible refine' ev_Attr ?_ ?h_731); (case h_731 => with_unfolding_all rfl)
    (with_reducible refine' ev_Attr ?_ ?h_735); (case h_735 => with_unfolding_all rfl)
    (with_reducible refine' ev_name ?x_740 ?p_740 ?_ ?d_740); (case x_740 => rfl); (case p_740 => rfl); (case d_740 => decide)
    with_reducible refine' at_class cls_attr ?_
    with_reducible refine' at_cls_int cv_WRAP_OFFSET ?_
    with_reducible refine' op_lt ?_
    with_reducible refine' opt_bool ?_
    with_reducible refine ite_f ?_ ?_
    · exact dec_ff (by omega)
    with_reducible refine ex_cons ?_
    with_reducible refine' ex_return ?_
    (with_reducible refine' ev_Method (pl := _) ?_ ?h_880); (case h_880 => with_unfolding_all rfl)
    (with_reducible refine' ev_name ?x_905 ?p_905 ?_ ?d_905); (case x_905 => rfl); (case p_905 => rfl); (case d_905 => decide)
    with_reducible refine' mth_class cls_attr ?_
    (with_reducible refine' cw_def keep_CP ?_ ?h_930 ?p_930); (case h_930 => with_unfolding_all rfl); (case p_930 => with_unfolding_all rfl)
    (with_reducible refine' evl_cons ?_ ?h_1271); (case h_1271 => with_unfolding_all rfl)
    with_reducible refine' ev_BinOp ?_
    (with_reducible refine' ev_Method (pl := _) ?_ ?h_1273); (case h_1273 => with_unfolding_all rfl)
    (with_reducible refine' ev_name ?x_1282 ?p_1282 ?_ ?d_1282); (case x_1282 => rfl); (case p_1282 => rfl); (case d_1282 => decide)
    with_reducible refine' mth_cell0 m_id ?_
    (with_reducible refine' cl_id ?r_1319 ?_); (case r_1319 => (refine Cx.Room.le (by assumption) ?_; decide))
    (with_reducible refine' ev_Attr ?_ ?h_1320); (case h_1320 => with_unfolding_all rfl)
    (with_reducible refine' ev_Attr ?_ ?h_1321); (case h_1321 => with_unfolding_all rfl)
    (with_reducible refine' ev_name ?x_1322 ?p_1322 ?_ ?d_1322); (case x_1322 => rfl); (case p_1322 => rfl); (case d_1322 => decide)
    with_reducible refine' at_class cls_attr ?_
    with_reducible refine' at_cls_int cv_WRAP_OFFSET ?_
    with_reducible refine' op_add ?_
    with_reducible refine' evl_nil ?_
    (with_reducible refine' cl_new ?r_1371 ?c_1371 ?_); (case r_1371 => (refine Cx.Room.le (by assumption) ?_; decide)); (case c_1371 => rfl)
    with_reducible refine seq_ret ?_
    with_reducible refine seq_ret ?_
    with_reducible refine body_ret ?_
    rw [gid_wrap hL, show 6 * 4 ^ L - 1 = pv L 0 by omega]
    exact h
theorem cl_next_wrap {L p : Nat} {Q : PV → Prop} (hr : c.Room 5) (hL : L ≤ 30) (hp : p < 6 * 4 ^ L) (h : Q (.cell (gid L (nx L p)))) : Cl (gl w mean mg mb) c σ (.ref f_next_wrap) [.cell (gid L p)] Q := by
  refine cl_def (k := 4) (ns := ["self"]) (by rfl) (by kernel_rfl) hr (by (intro vs s hl; match vs, hl with | [_], _ => exact BindsTo.of_eq rfl)) (by decide) (by decide) (by decide) (fun A g0 fL hid hr' => ?_)
  have hp2 : p < 6 * 2 ^ (2 * L) := by rw [pow4]; exact hp
  have nf := nx_fit L p
  with_reducible refine ex_cons ?_
  with_reducible refine' ex_assert ?_
  (with_reducible refine' evt_of ?_ ?h_665); (case h_665 => with_unfolding_all rfl)
  (with_reducible refine' ev_Method (pl := _) ?_ ?h_674); (case h_674 => with_unfolding_all rfl)
  (with_reducible refine' ev_name ?x_700 ?p_700 ?_ ?d_700); (case x_700 => rfl); (case p_700 => rfl); (case d_700 => decide)
  with_reducible refine' mth_cell0 m_is_valid ?_
  (with_reducible refine' cl_is_valid ?r_768 ?l_768 ?p_768 ?_); (case r_768 => (refine Cx.Room.le (by assumption) ?_; decide)); (case l_768 => (first | assumption | omega)); (case p_768 => (first | assumption | omega))
  with_reducible refine' opt_bool ?_
  with_reducible refine' and_tt ?_
  with_reducible refine seq_nxt ?_
  with_reducible refine ex_cons ?_
  (with_reducible refine' ex_assign ?_ ?k_800 ?l_800 ?s_800); (case k_800 => rfl); (case l_800 => rfl); (case s_800 => rfl)
  (with_reducible refine' ev_Method (pl := _) ?_ ?h_808); (case h_808 => with_unfolding_all rfl)
  (with_reducible refine' ev_name ?x_828 ?p_828 ?_ ?d_828); (case x_828 => rfl); (case p_828 => rfl); (case d_828 => decide)
  with_reducible refine' mth_cell0 m_next ?_
  refine cl_next (hr'.le (by decide)) ?_
  rw [gid_more]
  by_cases h1 : p + 1 = 6 * 4 ^ L
  · have g := gid_top_ge hL
    rw [h1, g.2]
    with_reducible refine seq_nxt ?_
    with_reducible refine ex_cons ?_
    with_reducible refine' ex_if ?_
    (with_reducible refine' evt_Compare ?_ ?m_992); (case m_992 => with_unfolding_all rfl)
    (with_reducible refine' ev_Method (pl := _) ?_ ?h_994); (case h_994 => with_unfolding_all rfl)
    (with_reducible refine' ev_name ?x_1011 ?p_1011 ?_ ?d_1011); (case x_1011 => rfl); (case p_1011 => rfl); (case d_1011 => decide)
    with_reducible refine' mth_cell0 m_id ?_
    (with_reducible refine' cl_id ?r_1108 ?_); (case r_1108 => (refine Cx.Room.le (by assumption) ?_; decide))
    (with_reducible refine' ev_Attr ?_ ?h_1110); (case h_1110 => with_unfolding_all rfl)
    (with_reducible refine' ev_Attr ?_ ?h_1112); (case h_1112 => with_unfolding_all rfl)
    (with_reducible refine' ev_name ?x_1113 ?p_1113 ?_ ?d_1113); (case x_1113 => rfl); (case p_1113 => rfl); (case d_1113 => decide)
    with_reducible refine' at_class cls_attr ?_
    with_reducible refine' at_cls_int cv_WRAP_OFFSET ?_
    with_reducible refine' op_lt ?_
    with_reducible refine' opt_bool ?_
    with_reducible refine ite_f ?_ ?_
    · exact dec_ff g.1
    with_reducible refine ex_cons ?_
    with_reducible refine' ex_return ?_
    (with_reducible refine' ev_Method (pl := _) ?_ ?h_1183); (case h_1183 => with_unfolding_all rfl)
    (with_reducible refine' ev_name ?x_1207 ?p_1207 ?_ ?d_1207); (case x_1207 => rfl); (case p_1207 => rfl); (case d_1207 => decide)
    with_reducible refine' mth_class cls_attr ?_
    (with_reducible refine' cw_def keep_CP ?_ ?h_1232 ?p_1232); (case h_1232 => with_unfolding_all rfl); (case p_1232 => with_unfolding_all rfl)
    (with_reducible refine' evl_cons ?_ ?h_1449); (case h_1449 => with_unfolding_all rfl)
    with_reducible refine' ev_BinOp ?_
    (with_reducible refine' ev_Method (pl := _) ?_ ?h_1453); (case h_1453 => with_unfolding_all rfl)
    (with_reducible refine' ev_name ?x_1477 ?p_1477 ?_ ?d_1477); (case x_1477 => rfl); (case p_1477 => rfl); (case d_1477 => decide)
    with_reducible refine' mth_cell0 m_id ?_
    (with_reducible refine' cl_id ?r_1509 ?_); (case r_1509 => (refine Cx.Room.le (by assumption) ?_; decide))
    (with_reducible refine' ev_Attr ?_ ?h_1511); (case h_1511 => with_unfolding_all rfl)
    (with_reducible refine' ev_Attr ?_ ?h_1512); (case h_1512 => with_unfolding_all rfl)
    (with_reducible refine' ev_name ?x_1513 ?p_1513 ?_ ?d_1513); (case x_1513 => rfl); (case p_1513 => rfl); (case d_1513 => decide)
    with_reducible refine' at_class cls_attr ?_
    with_reducible refine' at_cls_int cv_WRAP_OFFSET ?_
    with_reducible refine' op_sub ?_
    with_reducible refine' evl_nil ?_
    (with_reducible refine' cl_new ?r_1592 ?c_1592 ?_); (case r_1592 => (refine Cx.Room.le (by assumption) ?_; decide)); (case c_1592 => rfl)
    with_reducible refine seq_ret ?_
    with_reducible refine seq_ret ?_
    with_reducible refine body_ret ?_
    rw [gid_over hL, gid_mod hL (by rw [pow4]; omega)]
    have : nx L p = 0 := by unfold nx; rw [h1, Nat.mod_self]
    rw [this] at h
    exact h
  · have e : nx L p = p + 1 := Nat.mod_eq_of_lt (by omega)
    rw [e] at h
    rw [gid_mod hL (by rw [pow4]; omega)]
    with_reducible refine seq_nxt ?_
    with_reducible refine ex_cons ?_
    with_reducible refine' ex_if ?_
    (with_reducible refine' evt_Compare ?_ ?m_1615); (case m_1615 => with_unfolding_all rfl)
    (with_reducible refine' ev_Method (pl := _) ?_ ?h_1616); (case h_1616 => with_unfolding_all rfl)
    (with_reducible refine' ev_name ?x_1617 ?p_1617 ?_ ?d_1617); (case x_1617 => rfl); (case p_1617 => rfl); (case d_1617 => decide)
    with_reducible refine' mth_cell0 m_id ?_
    (with_reducible refine' cl_id ?r_1659 ?_); (case r_1659 => (refine Cx.Room.le (by assumption) ?_; decide))
    (with_reducible refine' ev_Attr ?_ ?h_1660); (case h_1660 => with_unfolding_all rfl)
    (with_reducible refine' ev_Attr ?_ ?h_1661); (case h_1661 => with_unfolding_all rfl)
    (with_reducible refine' ev_name ?x_1662 ?p_1662 ?_ ?d_1662); (case x_1662 => rfl); (case p_1662 => rfl); (case d_1662 => decide)
    with_reducible refine' at_class cls_attr ?_
    with_reducible refine' at_cls_int cv_WRAP_OFFSET ?_
    with_reducible refine' op_lt ?_
    with_reducible refine' opt_bool ?_
    with_reducible refine ite_t ?_ ?_
    · exact dec_tt (gid_int_lt hL (by omega))
    with_reducible refine ex_cons ?_
    with_reducible refine' ex_return ?_
    (with_reducible refine' ev_name ?x_1708 ?p_1708 ?_ ?d_1708); (case x_1708 => rfl); (case p_1708 => rfl); (case d_1708 => decide)
    with_reducible refine seq_ret ?_
    with_reducible refine seq_ret ?_
    with_reducible refine body_ret ?_
    exact h
theorem cl_advance_wrap {L p n : Nat} {Q : PV → Prop} (hr : c.Room 5) (hL : L ≤ 30) (hp : p < 6 * 4 ^ L) (hn : 0 < n) (hn2 : n < 6 * 4 ^ L) (h : Q (.cell (gid L ((p + n) % (6 * 4 ^ L))))) : Cl (gl w mean mg mb) c σ (.ref f_advance_wrap) [.cell (gid L p), .int (n : Int)] Q := by
  refine cl_def (k := 4) (ns := ["self", "steps"]) (by rfl) (by kernel_rfl) hr (by (intro vs s hl; match vs, hl with | [_, _], _ => exact BindsTo.of_eq rfl)) (by decide) (by decide) (by decide) (fun A g0 fL hid hr' => ?_)
  have hp2 : p < 6 * 2 ^ (2 * L) := by rw [pow4]; exact hp
  have hmax : 4 ^ L ≤ 4 ^ 30 := Nat.pow_le_pow_right (by decide) hL
  with_reducible refine ex_cons ?_
  with_reducible refine' ex_assert ?_
  (with_reducible refine' evt_of ?_ ?h_778); (case h_778 => with_unfolding_all rfl)
  (with_reducible refine' ev_Method (pl := _) ?_ ?h_782); (case h_782 => with_unfolding_all rfl)
  (with_reducible refine' ev_name ?x_801 ?p_801 ?_ ?d_801); (case x_801 => rfl); (case p_801 => rfl); (case d_801 => decide)
  with_reducible refine' mth_cell0 m_is_valid ?_
  (with_reducible refine' cl_is_valid ?r_856 ?l_856 ?p_856 ?_); (case r_856 => (refine Cx.Room.le (by assumption) ?_; decide)); (case l_856 => (first | assumption | omega)); (case p_856 => (first | assumption | omega))
  with_reducible refine' opt_bool ?_
  with_reducible refine' and_tt ?_
  with_reducible refine seq_nxt ?_
  with_reducible refine ex_cons ?_
  with_reducible refine' ex_if ?_
  (with_reducible refine' evt_Compare ?_ ?m_884); (case m_884 => with_unfolding_all rfl)
  (with_reducible refine' ev_name ?x_889 ?p_889 ?_ ?d_889); (case x_889 => rfl); (case p_889 => rfl); (case d_889 => decide)
  with_reducible refine' ev_int ?_
  with_reducible refine' op_eq ?_
  with_reducible refine' opt_bool ?_
  refine ite_f (beq_eq_false_iff_ne.mpr (by omega)) ?_
  with_reducible refine ex_nil ?_
  with_reducible refine seq_nxt ?_
  with_reducible refine ex_cons ?_
  (with_reducible refine' ex_assign ?_ ?k_1010 ?l_1010 ?s_1010); (case k_1010 => rfl); (case l_1010 => rfl); (case s_1010 => rfl)
  with_reducible refine' ev_BinOp ?_
  with_reducible refine' ev_BinOp ?_
  with_reducible refine' ev_int ?_
  with_reducible refine' ev_BinOp ?_
  (with_reducible refine' ev_Attr ?_ ?h_1075); (case h_1075 => with_unfolding_all rfl)
  (with_reducible refine' ev_Attr ?_ ?h_1088); (case h_1088 => with_unfolding_all rfl)
  (with_reducible refine' ev_name ?x_1100 ?p_1100 ?_ ?d_1100); (case x_1100 => rfl); (case p_1100 => rfl); (case d_1100 => decide)
  with_reducible refine' at_class cls_attr ?_
  with_reducible refine' at_cls_int cv_MAX_LEVEL ?_
  (with_reducible refine' ev_Method (pl := _) ?_ ?h_1130); (case h_1130 => with_unfolding_all rfl)
  (with_reducible refine' ev_name ?x_1150 ?p_1150 ?_ ?d_1150); (case x_1150 => rfl); (case p_1150 => rfl); (case d_1150 => decide)
  with_reducible refine' mth_cell0 m_level ?_
  (with_reducible refine' cl_level ?r_1197 ?l_1197 ?_); (case r_1197 => (refine Cx.Room.le (by assumption) ?_; decide)); (case l_1197 => (first | assumption | omega))
  with_reducible refine' op_sub ?_
  (with_reducible refine' op_mul ?m_1203 ?_); (case m_1203 => first | exact mul_ok_l (by decide) | exact mul_ok_r (by decide))
  with_reducible refine' ev_int ?_
  with_reducible refine' op_add ?_
  with_reducible refine seq_nxt ?_
  with_reducible refine ex_cons ?_
  with_reducible refine' ex_if ?_
  (with_reducible refine' evt_Compare ?_ ?m_1219); (case m_1219 => with_unfolding_all rfl)
  (with_reducible refine' ev_name ?x_1223 ?p_1223 ?_ ?d_1223); (case x_1223 => rfl); (case p_1223 => rfl); (case d_1223 => decide)
  with_reducible refine' ev_int ?_
  with_reducible refine' op_lt ?_
  with_reducible refine' opt_bool ?_
  with_reducible refine ite_f ?_ ?_
  · exact dec_ff (by omega)
  with_reducible refine ex_cons ?_
  (with_reducible refine' ex_assign ?_ ?k_1296 ?l_1296 ?s_1296); (case k_1296 => rfl); (case l_1296 => rfl); (case s_1296 => rfl)
  with_reducible refine' ev_BinOp ?_
  with_reducible refine' ev_BinOp ?_
  (with_reducible refine' ev_Attr ?_ ?h_1330); (case h_1330 => with_unfolding_all rfl)
  (with_reducible refine' ev_Attr ?_ ?h_1332); (case h_1332 => with_unfolding_all rfl)
  (with_reducible refine' ev_name ?x_1338 ?p_1338 ?_ ?d_1338); (case x_1338 => rfl); (case p_1338 => rfl); (case d_1338 => decide)
  with_reducible refine' at_class cls_attr ?_
  with_reducible refine' at_cls_int cv_WRAP_OFFSET ?_
  (with_reducible refine' ev_Method (pl := _) ?_ ?h_1401); (case h_1401 => with_unfolding_all rfl)
  (with_reducible refine' ev_name ?x_1403 ?p_1403 ?_ ?d_1403); (case x_1403 => rfl); (case p_1403 => rfl); (case d_1403 => decide)
  with_reducible refine' mth_cell0 m_id ?_
  (with_reducible refine' cl_id ?r_1436 ?_); (case r_1436 => (refine Cx.Room.le (by assumption) ?_; decide))
  with_reducible refine' op_sub ?_
  (with_reducible refine' ev_name ?x_1440 ?p_1440 ?_ ?d_1440); (case x_1440 => rfl); (case p_1440 => rfl); (case d_1440 => decide)
  (with_reducible refine' op_shr ?n_1447 ?_); (case n_1447 => first | decide | omega)
  with_reducible refine seq_nxt ?_
  with_reducible refine ex_cons ?_
  with_reducible refine' ex_if ?_
  (with_reducible refine' evt_Compare ?_ ?m_1475); (case m_1475 => with_unfolding_all rfl)
  (with_reducible refine' ev_name ?x_1476 ?p_1476 ?_ ?d_1476); (case x_1476 => rfl); (case p_1476 => rfl); (case d_1476 => decide)
  (with_reducible refine' ev_name ?x_1510 ?p_1510 ?_ ?d_1510); (case x_1510 => rfl); (case p_1510 => rfl); (case d_1510 => decide)
  with_reducible refine' op_gt ?_
  with_reducible refine' opt_bool ?_
  rw [shr_ahead hL hp]
  by_cases hb : p + n < 6 * 4 ^ L
  · with_reducible refine ite_f ?_ ?_
    · exact dec_ff (by omega)
    with_reducible refine ex_nil ?_
    with_reducible refine seq_nxt ?_
    with_reducible refine ex_nil ?_
    with_reducible refine seq_nxt ?_
    with_reducible refine ex_cons ?_
    with_reducible refine' ex_return ?_
    (with_reducible refine' ev_Method (pl := _) ?_ ?h_1628); (case h_1628 => with_unfolding_all rfl)
    (with_reducible refine' ev_name ?x_1640 ?p_1640 ?_ ?d_1640); (case x_1640 => rfl); (case p_1640 => rfl); (case d_1640 => decide)
    with_reducible refine' mth_class cls_attr ?_
    (with_reducible refine' cw_def keep_CP ?_ ?h_1681 ?p_1681); (case h_1681 => with_unfolding_all rfl); (case p_1681 => with_unfolding_all rfl)
    (with_reducible refine' evl_cons ?_ ?h_1736); (case h_1736 => with_unfolding_all rfl)
    with_reducible refine' ev_BinOp ?_
    (with_reducible refine' ev_Method (pl := _) ?_ ?h_1738); (case h_1738 => with_unfolding_all rfl)
    (with_reducible refine' ev_name ?x_1743 ?p_1743 ?_ ?d_1743); (case x_1743 => rfl); (case p_1743 => rfl); (case d_1743 => decide)
    with_reducible refine' mth_cell0 m_id ?_
    (with_reducible refine' cl_id ?r_1804 ?_); (case r_1804 => (refine Cx.Room.le (by assumption) ?_; decide))
    with_reducible refine' ev_BinOp ?_
    (with_reducible refine' ev_name ?x_1812 ?p_1812 ?_ ?d_1812); (case x_1812 => rfl); (case p_1812 => rfl); (case d_1812 => decide)
    (with_reducible refine' ev_name ?x_1827 ?p_1827 ?_ ?d_1827); (case x_1827 => rfl); (case p_1827 => rfl); (case d_1827 => decide)
    refine op_shl (by omega) (shl_fits (by omega) (by omega) (by omega)) ?_
    with_reducible refine' op_add ?_
    with_reducible refine' evl_nil ?_
    (with_reducible refine' cl_new ?r_1887 ?c_1887 ?_); (case r_1887 => (refine Cx.Room.le (by assumption) ?_; decide)); (case c_1887 => rfl)
    with_reducible refine seq_ret ?_
    with_reducible refine body_ret ?_
    rw [step_int4 (q := p + n) hL (by omega), gid_mod hL (by rw [pow4]; omega)]
    rw [Nat.mod_eq_of_lt hb] at h
    exact h
  · with_reducible refine ite_t ?_ ?_
    · exact dec_tt (by omega)
    with_reducible refine ex_cons ?_
    (with_reducible refine' ex_assign ?_ ?k_1902 ?l_1902 ?s_1902); (case k_1902 => rfl); (case l_1902 => rfl); (case s_1902 => rfl)
    with_reducible refine' ev_BinOp ?_
    (with_reducible refine' ev_Attr ?_ ?h_1905); (case h_1905 => with_unfolding_all rfl)
    (with_reducible refine' ev_Attr ?_ ?h_1906); (case h_1906 => with_unfolding_all rfl)
    (with_reducible refine' ev_name ?x_1908 ?p_1908 ?_ ?d_1908); (case x_1908 => rfl); (case p_1908 => rfl); (case d_1908 => decide)
    with_reducible refine' at_class cls_attr ?_
    with_reducible refine' at_cls_int cv_WRAP_OFFSET ?_
    (with_reducible refine' ev_name ?x_1925 ?p_1925 ?_ ?d_1925); (case x_1925 => rfl); (case p_1925 => rfl); (case d_1925 => decide)
    (with_reducible refine' op_shr ?n_1929 ?_); (case n_1929 => first | decide | omega)
    with_reducible refine seq_nxt ?_
    with_reducible refine ex_cons ?_
    (with_reducible refine' ex_assign ?_ ?k_1938 ?l_1938 ?s_1938); (case k_1938 => rfl); (case l_1938 => rfl); (case s_1938 => rfl)
    with_reducible refine' ev_BinOp ?_
    (with_reducible refine' ev_name ?x_1944 ?p_1944 ?_ ?d_1944); (case x_1944 => rfl); (case p_1944 => rfl); (case d_1944 => decide)
    (with_reducible refine' ev_name ?x_1950 ?p_1950 ?_ ?d_1950); (case x_1950 => rfl); (case p_1950 => rfl); (case d_1950 => decide)
    rw [shr_whole hL]
    have many := many_p L
    refine op_mod (by omega) ?_
    rw [fmod_nat, Nat.mod_eq_of_lt hn2]
    with_reducible refine seq_nxt ?_
    with_reducible refine ex_cons ?_
    with_reducible refine' ex_if ?_
    (with_reducible refine' evt_Compare ?_ ?m_1994); (case m_1994 => with_unfolding_all rfl)
    (with_reducible refine' ev_name ?x_1995 ?p_1995 ?_ ?d_1995); (case x_1995 => rfl); (case p_1995 => rfl); (case d_1995 => decide)
    (with_reducible refine' ev_name ?x_1998 ?p_1998 ?_ ?d_1998); (case x_1998 => rfl); (case p_1998 => rfl); (case d_1998 => decide)
    with_reducible refine' op_gt ?_
    with_reducible refine' opt_bool ?_
    with_reducible refine ite_t ?_ ?_
    · exact dec_tt (by omega)
    with_reducible refine ex_cons ?_
    (with_reducible refine' ex_aug ?x_2043 ?p_2043 ?_ ?k_2043 ?l_2043); (case x_2043 => rfl); (case p_2043 => rfl); (case k_2043 => rfl); (case l_2043 => rfl)
    (with_reducible refine' ev_name ?x_2044 ?p_2044 ?_ ?d_2044); (case x_2044 => rfl); (case p_2044 => rfl); (case d_2044 => decide)
    with_reducible refine' iop_sub ?_
    with_reducible refine seq_nxt ?_
    with_reducible refine ex_nil ?_
    with_reducible refine seq_nxt ?_
    with_reducible refine ex_nil ?_
    with_reducible refine seq_nxt ?_
    with_reducible refine ex_nil ?_
    with_reducible refine seq_nxt ?_
    with_reducible refine ex_cons ?_
    with_reducible refine' ex_return ?_
    (with_reducible refine' ev_Method (pl := _) ?_ ?h_2073); (case h_2073 => with_unfolding_all rfl)
    (with_reducible refine' ev_name ?x_2074 ?p_2074 ?_ ?d_2074); (case x_2074 => rfl); (case p_2074 => rfl); (case d_2074 => decide)
    with_reducible refine' mth_class cls_attr ?_
    (with_reducible refine' cw_def keep_CP ?_ ?h_2077 ?p_2077); (case h_2077 => with_unfolding_all rfl); (case p_2077 => with_unfolding_all rfl)
    (with_reducible refine' evl_cons ?_ ?h_2079); (case h_2079 => with_unfolding_all rfl)
    with_reducible refine' ev_BinOp ?_
    (with_reducible refine' ev_Method (pl := _) ?_ ?h_2081); (case h_2081 => with_unfolding_all rfl)
    (with_reducible refine' ev_name ?x_2082 ?p_2082 ?_ ?d_2082); (case x_2082 => rfl); (case p_2082 => rfl); (case d_2082 => decide)
    with_reducible refine' mth_cell0 m_id ?_
    (with_reducible refine' cl_id ?r_2109 ?_); (case r_2109 => (refine Cx.Room.le (by assumption) ?_; decide))
    with_reducible refine' ev_BinOp ?_
    (with_reducible refine' ev_name ?x_2111 ?p_2111 ?_ ?d_2111); (case x_2111 => rfl); (case p_2111 => rfl); (case d_2111 => decide)
    (with_reducible refine' ev_name ?x_2112 ?p_2112 ?_ ?d_2112); (case x_2112 => rfl); (case p_2112 => rfl); (case d_2112 => decide)
    refine op_shl (by omega) (shl_fits (by omega) (by omega) (by omega)) ?_
    with_reducible refine' op_add ?_
    with_reducible refine' evl_nil ?_
    (with_reducible refine' cl_new ?r_2136 ?c_2136 ?_); (case r_2136 => (refine Cx.Room.le (by assumption) ?_; decide)); (case c_2136 => rfl)
    with_reducible refine seq_ret ?_
    with_reducible refine body_ret ?_
    have hq : (p + n) % (6 * 4 ^ L) = p + n - 6 * 4 ^ L := by rw [Nat.mod_eq_sub_mod (by omega), Nat.mod_eq_of_lt (by omega)]
    rw [hq] at h
    rw [step_int4 (q := p + n - 6 * 4 ^ L) hL (by omega), gid_mod hL (by rw [pow4]; omega)]
    exact h
theorem cl_law_place {n : Int} {Q : PV → Prop} (hr : c.Room 1) (h : ∀ I : Nat, I < 2 ^ 30 → Q (.int (I : Int))) : Cl (gl w mean mg mb) c σ (.ref d_law_place) [.int n] Q := by
  refine cl_def (k := 0) (ns := ["n"]) (by rfl) (by kernel_rfl) hr (by (intro vs s hl; match vs, hl with | [_], _ => exact BindsTo.of_eq rfl)) (by decide) (by decide) (by decide) (fun A g0 fL hid hr' => ?_)
  have k1 := fmod_fit ((n.fdiv 4) * 668265263) 1073741824 (by decide)
  have k2 := fmod_fit (n.fdiv 4) 128 (by decide)
  obtain ⟨r1, hr1, e1⟩ := k1
  obtain ⟨r2, hr2, e2⟩ := k2
  have e1' : ((n.fdiv 4) * 668265263).fmod 1073741824 = (r1 : Int) := e1
  have e2' : (n.fdiv 4).fmod 128 = (r2 : Int) := e2
  with_reducible refine ex_cons ?_
  (with_reducible refine' ex_assign ?_ ?k_723 ?l_723 ?s_723); (case k_723 => rfl); (case l_723 => rfl); (case s_723 => rfl)
  with_reducible refine' ev_BinOp ?_
  (with_reducible refine' ev_name ?x_733 ?p_733 ?_ ?d_733); (case x_733 => rfl); (case p_733 => rfl); (case d_733 => decide)
  with_reducible refine' ev_int ?_
  (with_reducible refine' op_fdiv ?n_761 ?m_761 ?_); (case n_761 => decide); (case m_761 => decide)
  with_reducible refine seq_nxt ?_
  with_reducible refine ex_cons ?_
  with_reducible refine' ex_if ?_
  (with_reducible refine' evt_Compare ?_ ?m_788); (case m_788 => with_unfolding_all rfl)
  with_reducible refine' ev_BinOp ?_
  (with_reducible refine' ev_name ?x_796 ?p_796 ?_ ?d_796); (case x_796 => rfl); (case p_796 => rfl); (case d_796 => decide)
  with_reducible refine' ev_int ?_
  (with_reducible refine' op_mod ?n_818 ?_); (case n_818 => decide)
  with_reducible refine' ev_int ?_
  with_reducible refine' op_eq ?_
  with_reducible refine' opt_bool ?_
  by_cases h0 : n.fmod 4 = 0
  · with_reducible refine ite_t ?_ ?_
    · exact beq_iff_eq.mpr h0
    with_reducible refine ex_cons ?_
    with_reducible refine' ex_return ?_
    with_reducible refine' ev_BinOp ?_
    with_reducible refine' ev_BinOp ?_
    (with_reducible refine' ev_name ?x_910 ?p_910 ?_ ?d_910); (case x_910 => rfl); (case p_910 => rfl); (case d_910 => decide)
    with_reducible refine' ev_int ?_
    (with_reducible refine' op_mul ?m_922 ?_); (case m_922 => first | exact mul_ok_l (by decide) | exact mul_ok_r (by decide))
    with_reducible refine' ev_int ?_
    (with_reducible refine' op_mod ?n_926 ?_); (case n_926 => decide)
    with_reducible refine seq_ret ?_
    with_reducible refine seq_ret ?_
    with_reducible refine body_ret ?_
    rw [e1']
    exact h r1 hr1
  · with_reducible refine ite_f ?_ ?_
    · exact beq_eq_false_iff_ne.mpr h0
    with_reducible refine ex_nil ?_
    with_reducible refine seq_nxt ?_
    with_reducible refine ex_cons ?_
    with_reducible refine' ex_if ?_
    (with_reducible refine' evt_Compare ?_ ?m_948); (case m_948 => with_unfolding_all rfl)
    with_reducible refine' ev_BinOp ?_
    (with_reducible refine' ev_name ?x_950 ?p_950 ?_ ?d_950); (case x_950 => rfl); (case p_950 => rfl); (case d_950 => decide)
    with_reducible refine' ev_int ?_
    (with_reducible refine' op_mod ?n_953 ?_); (case n_953 => decide)
    with_reducible refine' ev_int ?_
    with_reducible refine' op_eq ?_
    with_reducible refine' opt_bool ?_
    by_cases h1 : n.fmod 4 = 1
    · with_reducible refine ite_t ?_ ?_
      · exact beq_iff_eq.mpr h1
      with_reducible refine ex_cons ?_
      with_reducible refine' ex_return ?_
      with_reducible refine' ev_BinOp ?_
      (with_reducible refine' ev_name ?x_977 ?p_977 ?_ ?d_977); (case x_977 => rfl); (case p_977 => rfl); (case d_977 => decide)
      with_reducible refine' ev_int ?_
      (with_reducible refine' op_mod ?n_993 ?_); (case n_993 => decide)
      with_reducible refine seq_ret ?_
      with_reducible refine seq_ret ?_
      with_reducible refine body_ret ?_
      rw [e2']
      exact h r2 (by omega)
    · with_reducible refine ite_f ?_ ?_
      · exact beq_eq_false_iff_ne.mpr h1
      with_reducible refine ex_nil ?_
      with_reducible refine seq_nxt ?_
      with_reducible refine ex_cons ?_
      with_reducible refine' ex_if ?_
      (with_reducible refine' evt_Compare ?_ ?m_1027); (case m_1027 => with_unfolding_all rfl)
      with_reducible refine' ev_BinOp ?_
      (with_reducible refine' ev_name ?x_1030 ?p_1030 ?_ ?d_1030); (case x_1030 => rfl); (case p_1030 => rfl); (case d_1030 => decide)
      with_reducible refine' ev_int ?_
      (with_reducible refine' op_mod ?n_1081 ?_); (case n_1081 => decide)
      with_reducible refine' ev_int ?_
      with_reducible refine' op_eq ?_
      with_reducible refine' opt_bool ?_
      by_cases h2 : n.fmod 4 = 2
      · with_reducible refine ite_t ?_ ?_
        · exact beq_iff_eq.mpr h2
        with_reducible refine ex_cons ?_
        with_reducible refine' ex_return ?_
        with_reducible refine' ev_BinOp ?_
        with_reducible refine' ev_int ?_
        with_reducible refine' ev_BinOp ?_
        (with_reducible refine' ev_name ?x_1138 ?p_1138 ?_ ?d_1138); (case x_1138 => rfl); (case p_1138 => rfl); (case d_1138 => decide)
        with_reducible refine' ev_int ?_
        (with_reducible refine' op_mod ?n_1159 ?_); (case n_1159 => decide)
        with_reducible refine' op_sub ?_
        with_reducible refine seq_ret ?_
        with_reducible refine seq_ret ?_
        with_reducible refine body_ret ?_
        rw [e2', show (1073741823 : Int) - (r2 : Int) = ((1073741823 - r2 : Nat) : Int) by omega]
        exact h _ (by omega)
      · with_reducible refine ite_f ?_ ?_
        · exact beq_eq_false_iff_ne.mpr h2
        with_reducible refine ex_nil ?_
        with_reducible refine seq_nxt ?_
        with_reducible refine ex_cons ?_
        with_reducible refine' ex_return ?_
        with_reducible refine' ev_BinOp ?_
        with_reducible refine' ev_int ?_
        with_reducible refine' ev_BinOp ?_
        (with_reducible refine' ev_name ?x_1229 ?p_1229 ?_ ?d_1229); (case x_1229 => rfl); (case p_1229 => rfl); (case d_1229 => decide)
        with_reducible refine' ev_int ?_
        (with_reducible refine' op_mod ?n_1246 ?_); (case n_1246 => decide)
        with_reducible refine' op_add ?_
        with_reducible refine seq_ret ?_
        with_reducible refine body_ret ?_
        rw [e2', show (536870848 : Int) + (r2 : Int) = ((536870848 + r2 : Nat) : Int) by omega]
        exact h _ (by omega)
theorem cl_law_left {t cc g : Nat} {Q : PV → Prop} (hr : c.Room 1) (ht : t < 4) (hc : cc < 4) (hg : g < 4) (h : Q (.bool (lft cc g t))) : Cl (gl w mean mg mb) c σ (.ref d_law_left) [.int (t : Int), .tup [.int (cc : Int), .int (g : Int)]] Q := by
  refine cl_def (k := 0) (ns := ["side", "ways"]) (by rfl) (by kernel_rfl) hr (by (intro vs s hl; match vs, hl with | [_, _], _ => exact BindsTo.of_eq rfl)) (by decide) (by decide) (by decide) (fun A g0 fL hid hr' => ?_)
  with_reducible refine ex_cons ?_
  with_reducible refine' ex_return ?_
  (with_reducible refine' ev_Compare ?_ ?m_969); (case m_969 => with_unfolding_all rfl)
  with_reducible refine' ev_BinOp ?_
  with_reducible refine' ev_BinOp ?_
  (with_reducible refine' ev_name ?x_972 ?p_972 ?_ ?d_972); (case x_972 => rfl); (case p_972 => rfl); (case d_972 => decide)
  with_reducible refine' ev_Subscript ?_
  (with_reducible refine' ev_name ?x_979 ?p_979 ?_ ?d_979); (case x_979 => rfl); (case p_979 => rfl); (case d_979 => decide)
  with_reducible refine' ev_int ?_
  (with_reducible refine' op_item_tup ?a_1028 ?b_1028 ?j_1028 ?x_1028 ?_ ?s_1028); (case a_1028 => decide); (case b_1028 => decide); (case j_1028 => rfl); (case x_1028 => rfl); (case s_1028 => intros; with_unfolding_all rfl)
  with_reducible refine' op_sub ?_
  with_reducible refine' ev_int ?_
  (with_reducible refine' op_mod ?n_1043 ?_); (case n_1043 => decide)
  with_reducible refine' ev_BinOp ?_
  with_reducible refine' ev_BinOp ?_
  with_reducible refine' ev_Subscript ?_
  (with_reducible refine' ev_name ?x_1055 ?p_1055 ?_ ?d_1055); (case x_1055 => rfl); (case p_1055 => rfl); (case d_1055 => decide)
  with_reducible refine' ev_int ?_
  (with_reducible refine' op_item_tup ?a_1116 ?b_1116 ?j_1116 ?x_1116 ?_ ?s_1116); (case a_1116 => decide); (case b_1116 => decide); (case j_1116 => rfl); (case x_1116 => rfl); (case s_1116 => intros; with_unfolding_all rfl)
  with_reducible refine' ev_Subscript ?_
  (with_reducible refine' ev_name ?x_1124 ?p_1124 ?_ ?d_1124); (case x_1124 => rfl); (case p_1124 => rfl); (case d_1124 => decide)
  with_reducible refine' ev_int ?_
  (with_reducible refine' op_item_tup ?a_1157 ?b_1157 ?j_1157 ?x_1157 ?_ ?s_1157); (case a_1157 => decide); (case b_1157 => decide); (case j_1157 => rfl); (case x_1157 => rfl); (case s_1157 => intros; with_unfolding_all rfl)
  with_reducible refine' op_sub ?_
  with_reducible refine' ev_int ?_
  (with_reducible refine' op_mod ?n_1166 ?_); (case n_1166 => decide)
  with_reducible refine' op_lt ?_
  with_reducible refine seq_ret ?_
  with_reducible refine body_ret ?_
  rw [mod4 ht hg, mod4 hc hg]
  refine q_bool ?_ h
  unfold lft
  exact decide_eq_decide.mpr (by omega)
def nb (L p : Nat) : PV := .tup [.cell (gid L (nbr L p 0).1), .cell (gid L (nbr L p 1).1), .cell (gid L (nbr L p 2).1), .cell (gid L (nbr L p 3).1)]
theorem four_mem {y : PV} (hy : y ∈ ([.int 0, .int 1, .int 2, .int 3] : List PV)) : ∃ t : Nat, t < 4 ∧ y = .int (t : Int) := by
  simp only [List.mem_cons, List.not_mem_nil, or_false] at hy
  rcases hy with rfl | rfl | rfl | rfl
  · exact ⟨0, by decide, rfl⟩
  · exact ⟨1, by decide, rfl⟩
  · exact ⟨2, by decide, rfl⟩
  · exact ⟨3, by decide, rfl⟩
/-- which sides: a test of the number -/
def sideB (f : Nat → Bool) (y : PV) : Bool := match y with
  | .int t => f t.toNat
  | _ => false
theorem op_nb {value slice : Expr} {L p t : Nat} {Q : PV → Prop} (ht : t < 4) (h : Q (.cell (gid L (nbr L p t).1)))
    (hs : ∀ (l : Addr) (u : Tok), subscripted slice false (.ref l) (.int (t : Int) u) = operate [.ref l, .int (t : Int) u] (getItem (.ref l) (.int (t : Int) u)) := by intros; with_unfolding_all rfl) :
    Op2 (gl w mean mg mb) c σ (PyProof.Rows.subscriptTail value slice) (nb L p) (.int (t : Int)) Q := by
  have : t = 0 ∨ t = 1 ∨ t = 2 ∨ t = 3 := by omega
  rcases this with rfl | rfl | rfl | rfl
  · exact op_item_tup (by decide) (by decide) rfl rfl h hs
  · exact op_item_tup (by decide) (by decide) rfl rfl h hs
  · exact op_item_tup (by decide) (by decide) rfl rfl h hs
  · exact op_item_tup (by decide) (by decide) rfl rfl h hs
theorem sides_are (f : Nat → Bool) (g : PV → PV) : ((([.int 0, .int 1, .int 2, .int 3] : List PV).filter (sideB f)).map g) = (([0, 1, 2, 3] : List Nat).filter f).map fun (t : Nat) => g (.int (t : Int)) := by
  cases h0 : f 0 <;> cases h1 : f 1 <;> cases h2 : f 2 <;> cases h3 : f 3 <;> simp [List.filter, sideB, h0, h1, h2, h3]
theorem Cx.Room.comp {c : Cx} {scope : Scope} {cl : List (Str × Addr)} {C : Addr} {k : Nat} (h : c.Room k) : (compCx c scope cl C).Room k := h
theorem cl_law_ways {L p : Nat} {Q : PV → Prop} (hr : c.Room 30) (hL : L ≤ 30) (hp : p < 6 * 4 ^ L) (h : Q (.tup [.int (cs L p : Nat), .int (gs L p : Nat)])) : Cl (gl w mean mg mb) c σ (.ref d_law_ways) [.cell (gid L p), nb L p] Q := by
  refine cl_defC (k := 29) (ns := ["cell", "beside"]) (by rfl) (by kernel_rfl) hr (by intro vs hl; match vs, hl with | [_, _], _ => rfl) (by decide) (by decide) (by decide) (fun A g0 fL hid hr' => ?_)
  with_reducible refine ex_cons ?_
  (with_reducible refine' ex_assign_c ?_ ?k_1309 ?l_1309 ?s_1309); (case k_1309 => rfl); (case l_1309 => rfl); (case s_1309 => rfl)
  (with_reducible refine' ev_Method (pl := _) ?_ ?h_1324); (case h_1324 => with_unfolding_all rfl)
  (with_reducible refine' ev_name ?x_1333 ?p_1333 ?_ ?d_1333); (case x_1333 => rfl); (case p_1333 => rfl); (case d_1333 => decide)
  with_reducible refine' mth_cell0 m_prev_wrap ?_
  (with_reducible refine' cl_prev_wrap ?r_1374 ?l_1374 ?p_1374 ?_); (case r_1374 => (refine Cx.Room.le (by assumption) ?_; decide)); (case l_1374 => (first | assumption | omega)); (case p_1374 => (first | assumption | omega))
  with_reducible refine seq_nxt ?_
  with_reducible refine ex_cons ?_
  (with_reducible refine' ex_assign_c ?_ ?k_1405 ?l_1405 ?s_1405); (case k_1405 => rfl); (case l_1405 => rfl); (case s_1405 => rfl)
  (with_reducible refine' ev_Method (pl := _) ?_ ?h_1441); (case h_1441 => with_unfolding_all rfl)
  (with_reducible refine' ev_name ?x_1445 ?p_1445 ?_ ?d_1445); (case x_1445 => rfl); (case p_1445 => rfl); (case d_1445 => decide)
  with_reducible refine' mth_cell0 m_next_wrap ?_
  (with_reducible refine' cl_next_wrap ?r_1454 ?l_1454 ?p_1454 ?_); (case r_1454 => (refine Cx.Room.le (by assumption) ?_; decide)); (case l_1454 => (first | assumption | omega)); (case p_1454 => (first | assumption | omega))
  with_reducible refine seq_nxt ?_
  with_reducible refine ex_cons ?_
  refine ex_assign_comp ["before", "beside"] (sideB fun t => decide (t = cs L p)) (fun y => y) ⟨rfl, rfl, rfl, rfl, rfl, ?_⟩ rfl rfl rfl ?_ (fun _ => rfl)
  · intro n hn
    simp only [List.mem_cons, List.not_mem_nil, or_false] at hn
    rcases hn with rfl | rfl <;> exact ⟨rfl, rfl, rfl, by decide⟩
  (with_reducible refine' ev_Call ?_ ?h_1746); (case h_1746 => with_unfolding_all rfl)
  (with_reducible refine' ev_builtin n_range bb_range ?k_1747 ?_ ?n_1747 ?d_1747); (case k_1747 => rfl); (case n_1747 => decide); (case d_1747 => decide)
  (with_reducible refine' cw_type ?_ ?h_1796 ?p_1796); (case h_1796 => with_unfolding_all rfl); (case p_1796 => with_unfolding_all rfl)
  (with_reducible refine' evl_cons ?_ ?h_1813); (case h_1813 => with_unfolding_all rfl)
  with_reducible refine' ev_int ?_
  with_reducible refine' evl_nil ?_
  with_reducible refine' b_range1 ?_
  refine ⟨[.int 0, .int 1, .int 2, .int 3], .rng (n := 4) (by decide) (by decide) rfl, by decide, ?_, ?_, ?_, ?_, ?_⟩
  · intro y hy; obtain ⟨t, _, rfl⟩ := four_mem hy; rfl
  · intro y hy; obtain ⟨t, _, rfl⟩ := four_mem hy; rfl
  · intro C y hy
    obtain ⟨t, ht, rfl⟩ := four_mem hy
    show EvT _ _ _ _ _
    (with_reducible refine' evt_Compare ?_ ?m_1839); (case m_1839 => with_unfolding_all rfl)
    with_reducible refine' ev_Subscript ?_
    (with_reducible refine' ev_name ?x_1841 ?p_1841 ?_ ?d_1841); (case x_1841 => rfl); (case p_1841 => rfl); (case d_1841 => decide)
    (with_reducible refine' ev_name ?x_1870 ?p_1870 ?_ ?d_1870); (case x_1870 => rfl); (case p_1870 => rfl); (case d_1870 => decide)
    refine op_nb ht ?_
    (with_reducible refine' ev_name ?x_2140 ?p_2140 ?_ ?d_2140); (case x_2140 => rfl); (case p_2140 => rfl); (case d_2140 => decide)
    (with_reducible refine' op_eq_cell ?r_2142 cmp_Eq ?_); (case r_2142 => (refine Cx.Room.le (by assumption) ?_; decide))
    (with_reducible refine' cl_eq ?r_2156 ?_); (case r_2156 => (refine Cx.Room.le (by assumption) ?_; decide))
    (with_reducible refine' And.intro ?a_2158 ?_); (case a_2158 => exact resBool_bool)
    with_reducible refine' opt_bool ?_
    rw [gid_beq]
    exact decide_eq_decide.mpr (come_one hp ht)
  · intro C y hy _
    obtain ⟨t, _, rfl⟩ := four_mem hy
    (with_reducible refine' ev_name ?x_2164 ?p_2164 ?_ ?d_2164); (case x_2164 => rfl); (case p_2164 => rfl); (case d_2164 => decide)
    rfl
  rw [sides_are, pick_one _ (cs_lt L p), show (List.map (fun (t : Nat) => PV.int (t : Int)) [cs L p]) = [.int (cs L p : Nat)] from rfl]
  with_reducible refine seq_nxt ?_
  with_reducible refine ex_cons ?_
  refine ex_assign_comp ["behind", "beside"] (sideB fun t => decide (t = gs L p)) (fun y => y) ⟨rfl, rfl, rfl, rfl, rfl, ?_⟩ rfl rfl rfl ?_ (fun _ => rfl)
  · intro n hn
    simp only [List.mem_cons, List.not_mem_nil, or_false] at hn
    rcases hn with rfl | rfl <;> exact ⟨rfl, rfl, rfl, by decide⟩
  (with_reducible refine' ev_Call ?_ ?h_2186); (case h_2186 => with_unfolding_all rfl)
  (with_reducible refine' ev_builtin n_range bb_range ?k_2187 ?_ ?n_2187 ?d_2187); (case k_2187 => rfl); (case n_2187 => decide); (case d_2187 => decide)
  (with_reducible refine' cw_type ?_ ?h_2191 ?p_2191); (case h_2191 => with_unfolding_all rfl); (case p_2191 => with_unfolding_all rfl)
  (with_reducible refine' evl_cons ?_ ?h_2193); (case h_2193 => with_unfolding_all rfl)
  with_reducible refine' ev_int ?_
  with_reducible refine' evl_nil ?_
  with_reducible refine' b_range1 ?_
  refine ⟨[.int 0, .int 1, .int 2, .int 3], .rng (n := 4) (by decide) (by decide) rfl, by decide, ?_, ?_, ?_, ?_, ?_⟩
  · intro y hy; obtain ⟨t, _, rfl⟩ := four_mem hy; rfl
  · intro y hy; obtain ⟨t, _, rfl⟩ := four_mem hy; rfl
  · intro C y hy
    obtain ⟨t, ht, rfl⟩ := four_mem hy
    show EvT _ _ _ _ _
    (with_reducible refine' evt_Compare ?_ ?m_2204); (case m_2204 => with_unfolding_all rfl)
    with_reducible refine' ev_Subscript ?_
    (with_reducible refine' ev_name ?x_2206 ?p_2206 ?_ ?d_2206); (case x_2206 => rfl); (case p_2206 => rfl); (case d_2206 => decide)
    (with_reducible refine' ev_name ?x_2207 ?p_2207 ?_ ?d_2207); (case x_2207 => rfl); (case p_2207 => rfl); (case d_2207 => decide)
    refine op_nb ht ?_
    (with_reducible refine' ev_name ?x_2211 ?p_2211 ?_ ?d_2211); (case x_2211 => rfl); (case p_2211 => rfl); (case d_2211 => decide)
    (with_reducible refine' op_eq_cell ?r_2213 cmp_Eq ?_); (case r_2213 => (refine Cx.Room.le (by assumption) ?_; decide))
    (with_reducible refine' cl_eq ?r_2227 ?_); (case r_2227 => (refine Cx.Room.le (by assumption) ?_; decide))
    (with_reducible refine' And.intro ?a_2229 ?_); (case a_2229 => exact resBool_bool)
    with_reducible refine' opt_bool ?_
    rw [gid_beq]
    exact decide_eq_decide.mpr (go_one hp ht)
  · intro C y hy _
    obtain ⟨t, _, rfl⟩ := four_mem hy
    (with_reducible refine' ev_name ?x_2235 ?p_2235 ?_ ?d_2235); (case x_2235 => rfl); (case p_2235 => rfl); (case d_2235 => decide)
    rfl
  rw [sides_are, pick_one _ (gs_lt L p), show (List.map (fun (t : Nat) => PV.int (t : Int)) [gs L p]) = [.int (gs L p : Nat)] from rfl]
  with_reducible refine seq_nxt ?_
  with_reducible refine ex_cons ?_
  with_reducible refine' ex_if ?_
  with_reducible refine' evt_or ?_
  (with_reducible refine' evt_Compare ?_ ?m_2255); (case m_2255 => with_unfolding_all rfl)
  (with_reducible refine' ev_Call ?_ ?h_2257); (case h_2257 => with_unfolding_all rfl)
  (with_reducible refine' ev_builtin n_len bb_len ?k_2258 ?_ ?n_2258 ?d_2258); (case k_2258 => rfl); (case n_2258 => decide); (case d_2258 => decide)
  (with_reducible refine' cw_builtin ?_ ?h_2261 ?p_2261); (case h_2261 => with_unfolding_all rfl); (case p_2261 => with_unfolding_all rfl)
  (with_reducible refine' evl_cons ?_ ?h_2263); (case h_2263 => with_unfolding_all rfl)
  (with_reducible refine' ev_name ?x_2264 ?p_2264 ?_ ?d_2264); (case x_2264 => rfl); (case p_2264 => rfl); (case d_2264 => decide)
  with_reducible refine' evl_nil ?_
  have ne := ways_ne hp
  refine b_len_tup (by simp) ?_
  with_reducible refine' ev_int ?_
  with_reducible refine' op_ne ?_
  with_reducible refine' opt_bool ?_
  with_reducible refine ite_f (bne_self_eq_false _) ?_
  with_reducible refine' evt_or ?_
  (with_reducible refine' evt_Compare ?_ ?m_2291); (case m_2291 => with_unfolding_all rfl)
  (with_reducible refine' ev_Call ?_ ?h_2293); (case h_2293 => with_unfolding_all rfl)
  (with_reducible refine' ev_builtin n_len bb_len ?k_2294 ?_ ?n_2294 ?d_2294); (case k_2294 => rfl); (case n_2294 => decide); (case d_2294 => decide)
  (with_reducible refine' cw_builtin ?_ ?h_2297 ?p_2297); (case h_2297 => with_unfolding_all rfl); (case p_2297 => with_unfolding_all rfl)
  (with_reducible refine' evl_cons ?_ ?h_2299); (case h_2299 => with_unfolding_all rfl)
  (with_reducible refine' ev_name ?x_2300 ?p_2300 ?_ ?d_2300); (case x_2300 => rfl); (case p_2300 => rfl); (case d_2300 => decide)
  with_reducible refine' evl_nil ?_
  (with_reducible refine' b_len_lst ?l_2303 ?_); (case l_2303 => first | decide | (simp; done))
  with_reducible refine' ev_int ?_
  with_reducible refine' op_ne ?_
  with_reducible refine' opt_bool ?_
  with_reducible refine ite_f (bne_self_eq_false _) ?_
  with_reducible refine' evt_or ?_
  (with_reducible refine' evt_Compare ?_ ?m_2318); (case m_2318 => with_unfolding_all rfl)
  (with_reducible refine' ev_Call ?_ ?h_2320); (case h_2320 => with_unfolding_all rfl)
  (with_reducible refine' ev_builtin n_len bb_len ?k_2321 ?_ ?n_2321 ?d_2321); (case k_2321 => rfl); (case n_2321 => decide); (case d_2321 => decide)
  (with_reducible refine' cw_builtin ?_ ?h_2324 ?p_2324); (case h_2324 => with_unfolding_all rfl); (case p_2324 => with_unfolding_all rfl)
  (with_reducible refine' evl_cons ?_ ?h_2326); (case h_2326 => with_unfolding_all rfl)
  (with_reducible refine' ev_name ?x_2327 ?p_2327 ?_ ?d_2327); (case x_2327 => rfl); (case p_2327 => rfl); (case d_2327 => decide)
  with_reducible refine' evl_nil ?_
  (with_reducible refine' b_len_lst ?l_2330 ?_); (case l_2330 => first | decide | (simp; done))
  with_reducible refine' ev_int ?_
  with_reducible refine' op_ne ?_
  with_reducible refine' opt_bool ?_
  with_reducible refine ite_f (bne_self_eq_false _) ?_
  with_reducible refine' evt_or ?_
  (with_reducible refine' evt_Compare ?_ ?m_2345); (case m_2345 => with_unfolding_all rfl)
  (with_reducible refine' ev_name ?x_2346 ?p_2346 ?_ ?d_2346); (case x_2346 => rfl); (case p_2346 => rfl); (case d_2346 => decide)
  (with_reducible refine' ev_name ?x_2347 ?p_2347 ?_ ?d_2347); (case x_2347 => rfl); (case p_2347 => rfl); (case d_2347 => decide)
  refine op_eq_data (hr'.le (by decide)) rfl rfl rfl rfl ?_
  rw [show (PySem.PyData.list [.int ((cs L p : Nat) : Int)]).eqv (.list [.int ((gs L p : Nat) : Int)]) = false from by simp [PySem.PyData.eqv, PySem.PyData.eqvAll]; omega]
  with_reducible refine' opt_bool ?_
  (with_reducible refine' ite_f ?h_2354 ?_); (case h_2354 => decide)
  with_reducible refine' evt_or_nil ?_
  (with_reducible refine' ite_f ?h_2363 ?_); (case h_2363 => decide)
  with_reducible refine ex_nil ?_
  with_reducible refine seq_nxt ?_
  with_reducible refine ex_cons ?_
  with_reducible refine' ex_return ?_
  with_reducible refine' ev_Tuple ?_
  (with_reducible refine' evl_cons ?_ ?h_2371); (case h_2371 => with_unfolding_all rfl)
  with_reducible refine' ev_Subscript ?_
  (with_reducible refine' ev_name ?x_2373 ?p_2373 ?_ ?d_2373); (case x_2373 => rfl); (case p_2373 => rfl); (case d_2373 => decide)
  with_reducible refine' ev_int ?_
  (with_reducible refine' op_item_lst ?a_2377 ?b_2377 ?x_2377 ?_ ?s_2377); (case a_2377 => decide); (case b_2377 => decide); (case x_2377 => rfl); (case s_2377 => intros; with_unfolding_all rfl)
  (with_reducible refine' evl_cons ?_ ?h_2379); (case h_2379 => with_unfolding_all rfl)
  with_reducible refine' ev_Subscript ?_
  (with_reducible refine' ev_name ?x_2381 ?p_2381 ?_ ?d_2381); (case x_2381 => rfl); (case p_2381 => rfl); (case d_2381 => decide)
  with_reducible refine' ev_int ?_
  (with_reducible refine' op_item_lst ?a_2385 ?b_2385 ?x_2385 ?_ ?s_2385); (case a_2385 => decide); (case b_2385 => decide); (case x_2385 => rfl); (case s_2385 => intros; with_unfolding_all rfl)
  with_reducible refine' evl_nil ?_
  (with_reducible refine' And.intro ?a_2389 ?_); (case a_2389 => exact Nat.le_of_ble_eq_true rfl)
  with_reducible refine seq_ret ?_
  with_reducible refine body_ret ?_
  exact h
end

end Mine
end Part46
section Part47
open PySem PySem.W PySem.Calls
set_option maxRecDepth 100000
set_option autoImplicit false
set_option linter.unusedVariables false
set_option maxHeartbeats 4000000
namespace Mine






open PyProof.Rows in
theorem law04 : PySem.Challenge.rw_eg5039_04.Holds := Mine.hd (by
  k_go0
  (all_goals try k_fold)
  rename_i N0 X0
  rename List Int => ns
  have hlen : ns.length ≤ 63 := by omega
  refine law_enterC (G := gl _ _ _ _) (Qk := qk) (Ek := ek) rfl (by assumption) (by assumption) (by assumption) N0 X0 rfl (by assumption) (by assumption) rfl rfl rfl rfl rfl rfl ⟨Nat.le_of_ble_eq_true rfl, Nat.le_of_ble_eq_true rfl⟩ ?_ ?_
  · intro hroom
    dsimp only at hroom ⊢
    refine ex_cons (ex_assign ?_ rfl rfl rfl)
    refine ev_of (Q := fun v => ∃ a0 a1 a2 a3 a4 : Int, v = .lst [.int a0, .int a1, .int a2, .int a3, .int a4]) ?_ ?_
    · with_reducible refine' ev_IfExp ?_
      (with_reducible refine' evt_of ?_ ?h_8); (case h_8 => with_unfolding_all rfl)
      (with_reducible refine' ev_name ?x_9 ?p_9 ?_ ?d_9); (case x_9 => rfl); (case p_9 => rfl); (case d_9 => decide)
      refine opt_lst (by rw [List.length_map]; omega) ?_
      by_cases hne : ns = []
      · subst hne
        refine ite_f rfl ?_
        with_reducible refine' ev_List ?_
        (with_reducible refine' evl_cons ?_ ?h_14); (case h_14 => with_unfolding_all rfl)
        with_reducible refine' ev_int ?_
        (with_reducible refine' evl_cons ?_ ?h_17); (case h_17 => with_unfolding_all rfl)
        with_reducible refine' ev_int ?_
        (with_reducible refine' evl_cons ?_ ?h_20); (case h_20 => with_unfolding_all rfl)
        with_reducible refine' ev_int ?_
        (with_reducible refine' evl_cons ?_ ?h_23); (case h_23 => with_unfolding_all rfl)
        with_reducible refine' ev_int ?_
        (with_reducible refine' evl_cons ?_ ?h_26); (case h_26 => with_unfolding_all rfl)
        with_reducible refine' ev_int ?_
        with_reducible refine' evl_nil ?_
        (with_reducible refine' And.intro ?a_31 ?_); (case a_31 => exact Nat.le_of_ble_eq_true rfl)
        exact ⟨0, 0, 0, 0, 0, rfl⟩
      · have hpos : 0 < ns.length := List.length_pos_iff.mpr hne
        refine ite_t (by cases ns with | nil => exact absurd rfl hne | cons => rfl) ?_
        refine ev_ListComp ["script"] (fun _ => true) (fun y => match y with | .int t => .int ((ns.getD (t.fmod (ns.length : Int)).toNat 0).fdiv (1 + t.fdiv (ns.length : Int))) | _ => .int 0) ⟨rfl, rfl, rfl, rfl, rfl, ?_⟩ ?_ (fun _ => rfl)
        · intro n hn
          obtain rfl := List.mem_singleton.mp hn
          exact ⟨rfl, rfl, rfl, by decide⟩
        · (with_reducible refine' ev_Call ?_ ?h_33); (case h_33 => with_unfolding_all rfl)
          (with_reducible refine' ev_builtin n_range bb_range ?k_34 ?_ ?n_34 ?d_34); (case k_34 => rfl); (case n_34 => decide); (case d_34 => decide)
          (with_reducible refine' cw_type ?_ ?h_38 ?p_38); (case h_38 => with_unfolding_all rfl); (case p_38 => with_unfolding_all rfl)
          (with_reducible refine' evl_cons ?_ ?h_40); (case h_40 => with_unfolding_all rfl)
          with_reducible refine' ev_int ?_
          with_reducible refine' evl_nil ?_
          with_reducible refine' b_range1 ?_
          refine ⟨[.int 0, .int 1, .int 2, .int 3, .int 4], .rng (n := 5) (by decide) (by decide) rfl, by decide, ?_, ?_, fun _ _ _ => rfl, ?_, ⟨_, _, _, _, _, rfl⟩⟩
          · intro y hy; simp only [List.mem_cons, List.not_mem_nil, or_false] at hy; rcases hy with rfl | rfl | rfl | rfl | rfl <;> rfl
          · intro y hy; simp only [List.mem_cons, List.not_mem_nil, or_false] at hy; rcases hy with rfl | rfl | rfl | rfl | rfl <;> rfl
          · intro C y hy _
            obtain ⟨t, ht, rfl⟩ : ∃ t : Nat, t < 5 ∧ y = .int (t : Int) := by
              simp only [List.mem_cons, List.not_mem_nil, or_false] at hy
              rcases hy with rfl | rfl | rfl | rfl | rfl
              · exact ⟨0, by decide, rfl⟩
              · exact ⟨1, by decide, rfl⟩
              · exact ⟨2, by decide, rfl⟩
              · exact ⟨3, by decide, rfl⟩
              · exact ⟨4, by decide, rfl⟩
            with_reducible refine' ev_BinOp ?_
            with_reducible refine' ev_Subscript ?_
            (with_reducible refine' ev_name ?x_48 ?p_48 ?_ ?d_48); (case x_48 => rfl); (case p_48 => rfl); (case d_48 => decide)
            with_reducible refine' ev_BinOp ?_
            (with_reducible refine' ev_name ?x_50 ?p_50 ?_ ?d_50); (case x_50 => rfl); (case p_50 => rfl); (case d_50 => decide)
            (with_reducible refine' ev_Call ?_ ?h_52); (case h_52 => with_unfolding_all rfl)
            (with_reducible refine' ev_builtin n_len bb_len ?k_53 ?_ ?n_53 ?d_53); (case k_53 => rfl); (case n_53 => decide); (case d_53 => decide)
            (with_reducible refine' cw_builtin ?_ ?h_56 ?p_56); (case h_56 => with_unfolding_all rfl); (case p_56 => with_unfolding_all rfl)
            (with_reducible refine' evl_cons ?_ ?h_58); (case h_58 => with_unfolding_all rfl)
            (with_reducible refine' ev_name ?x_59 ?p_59 ?_ ?d_59); (case x_59 => rfl); (case p_59 => rfl); (case d_59 => decide)
            with_reducible refine' evl_nil ?_
            refine b_len_lst (by rw [List.length_map]; omega) ?_
            rw [List.length_map]
            refine op_mod (by omega) ?_
            obtain ⟨r, hr, er⟩ := fmod_fit (t : Int) ns.length hpos
            rw [er]
            refine op_item_lst (x := .int (ns.getD r 0)) (by omega) (by omega) (by rw [Int.toNat_natCast, List.getElem?_map, List.getD_eq_getElem?_getD, List.getElem?_eq_getElem hr]; rfl) ?_ (by intros; with_unfolding_all rfl)
            with_reducible refine' ev_BinOp ?_
            with_reducible refine' ev_int ?_
            with_reducible refine' ev_BinOp ?_
            (with_reducible refine' ev_name ?x_78 ?p_78 ?_ ?d_78); (case x_78 => rfl); (case p_78 => rfl); (case d_78 => decide)
            (with_reducible refine' ev_Call ?_ ?h_80); (case h_80 => with_unfolding_all rfl)
            (with_reducible refine' ev_builtin n_len bb_len ?k_81 ?_ ?n_81 ?d_81); (case k_81 => rfl); (case n_81 => decide); (case d_81 => decide)
            (with_reducible refine' cw_builtin ?_ ?h_84 ?p_84); (case h_84 => with_unfolding_all rfl); (case p_84 => with_unfolding_all rfl)
            (with_reducible refine' evl_cons ?_ ?h_86); (case h_86 => with_unfolding_all rfl)
            (with_reducible refine' ev_name ?x_87 ?p_87 ?_ ?d_87); (case x_87 => rfl); (case p_87 => rfl); (case d_87 => decide)
            with_reducible refine' evl_nil ?_
            refine b_len_lst (by rw [List.length_map]; omega) ?_
            rw [List.length_map]
            have hq : 0 ≤ (t : Int).fdiv (ns.length : Int) ∧ (t : Int).fdiv (ns.length : Int) ≤ t := by rw [fdiv_nat]; exact ⟨Int.natCast_nonneg _, Int.ofNat_le.mpr (Nat.div_le_self _ _)⟩
            refine op_fdiv (by omega) (log2_small (by omega)) ?_
            with_reducible refine' op_add ?_
            refine op_fdiv (by omega) (log2_small (by omega)) ?_
            show PV.int _ = PV.int _
            rw [er, Int.toNat_natCast]
    · rintro _ ⟨a0, a1, a2, a3, a4, rfl⟩
      with_reducible refine seq_nxt ?_
      with_reducible refine ex_cons ?_
      (with_reducible refine' ex_assign ?_ ?k_111 ?l_111 ?s_111); (case k_111 => rfl); (case l_111 => rfl); (case s_111 => rfl)
      with_reducible refine' ev_BinOp ?_
      with_reducible refine' ev_BinOp ?_
      with_reducible refine' ev_Subscript ?_
      (with_reducible refine' ev_name ?x_115 ?p_115 ?_ ?d_115); (case x_115 => rfl); (case p_115 => rfl); (case d_115 => decide)
      with_reducible refine' ev_int ?_
      (with_reducible refine' op_item_lst ?a_119 ?b_119 ?x_119 ?_ ?s_119); (case a_119 => decide); (case b_119 => decide); (case x_119 => rfl); (case s_119 => intros; with_unfolding_all rfl)
      with_reducible refine' ev_int ?_
      (with_reducible refine' op_fdiv ?n_121 ?m_121 ?_); (case n_121 => decide); (case m_121 => decide)
      with_reducible refine' ev_int ?_
      (with_reducible refine' op_mod ?n_123 ?_); (case n_123 => decide)
      with_reducible refine seq_nxt ?_
      with_reducible refine ex_cons ?_
      (with_reducible refine' ex_assign ?_ ?k_132 ?l_132 ?s_132); (case k_132 => rfl); (case l_132 => rfl); (case s_132 => rfl)
      with_reducible refine' ev_BinOp ?_
      with_reducible refine' ev_int ?_
      with_reducible refine' ev_BinOp ?_
      with_reducible refine' ev_int ?_
      (with_reducible refine' ev_name ?x_137 ?p_137 ?_ ?d_137); (case x_137 => rfl); (case p_137 => rfl); (case d_137 => decide)
      (with_reducible refine' op_mul ?m_139 ?_); (case m_139 => first | exact mul_ok_l (by decide) | exact mul_ok_r (by decide))
      obtain ⟨L, hL, eL⟩ := fmod_fit (a0.fdiv 6) 29 (by decide)
      have eL' : (a0.fdiv 6).fmod 29 = (L : Int) := eL
      rw [eL']
      refine op_shl (by omega) (shl_fits (by decide) (by omega) (by omega)) ?_
      rw [many_int]
      with_reducible refine seq_nxt ?_
      with_reducible refine ex_cons ?_
      (with_reducible refine' ex_assign ?_ ?k_149 ?l_149 ?s_149); (case k_149 => rfl); (case l_149 => rfl); (case s_149 => rfl)
      with_reducible refine' ev_BinOp ?_
      with_reducible refine' ev_int ?_
      with_reducible refine' ev_BinOp ?_
      with_reducible refine' ev_int ?_
      (with_reducible refine' ev_name ?x_154 ?p_154 ?_ ?d_154); (case x_154 => rfl); (case p_154 => rfl); (case d_154 => decide)
      (with_reducible refine' op_mul ?m_156 ?_); (case m_156 => first | exact mul_ok_l (by decide) | exact mul_ok_r (by decide))
      with_reducible refine' op_sub ?_
      with_reducible refine seq_nxt ?_
      with_reducible refine ex_cons ?_
      (with_reducible refine' ex_assign ?_ ?k_166 ?l_166 ?s_166); (case k_166 => rfl); (case l_166 => rfl); (case s_166 => rfl)
      with_reducible refine' ev_BinOp ?_
      with_reducible refine' ev_int ?_
      with_reducible refine' ev_BinOp ?_
      with_reducible refine' ev_int ?_
      (with_reducible refine' ev_name ?x_171 ?p_171 ?_ ?d_171); (case x_171 => rfl); (case p_171 => rfl); (case d_171 => decide)
      with_reducible refine' op_sub ?_
      refine op_shl (by omega) (shl_fits (by decide) (by omega) (by omega)) ?_
      rw [show (30 - (L : Int)) = ((30 - L : Nat) : Int) by omega, pow_int]
      with_reducible refine seq_nxt ?_
      with_reducible refine ex_cons ?_
      (with_reducible refine' ex_assign ?_ ?k_182 ?l_182 ?s_182); (case k_182 => rfl); (case l_182 => rfl); (case s_182 => rfl)
      (with_reducible refine' ev_Call ?_ ?h_184); (case h_184 => with_unfolding_all rfl)
      (with_reducible refine' ev_global g_law_place ?k_185 ?_ ?d_185); (case k_185 => rfl); (case d_185 => decide)
      (with_reducible refine' cw_def kp_law_place ?_ ?h_186 ?p_186); (case h_186 => with_unfolding_all rfl); (case p_186 => with_unfolding_all rfl)
      (with_reducible refine' evl_cons ?_ ?h_188); (case h_188 => with_unfolding_all rfl)
      with_reducible refine' ev_Subscript ?_
      (with_reducible refine' ev_name ?x_190 ?p_190 ?_ ?d_190); (case x_190 => rfl); (case p_190 => rfl); (case d_190 => decide)
      with_reducible refine' ev_int ?_
      (with_reducible refine' op_item_lst ?a_194 ?b_194 ?x_194 ?_ ?s_194); (case a_194 => decide); (case b_194 => decide); (case x_194 => rfl); (case s_194 => intros; with_unfolding_all rfl)
      with_reducible refine' evl_nil ?_
      refine cl_law_place (by (refine Cx.Room.le (by assumption) ?_; decide)) ?_
      intro I hI
      with_reducible refine seq_nxt ?_
      with_reducible refine ex_cons ?_
      (with_reducible refine' ex_assign ?_ ?k_230 ?l_230 ?s_230); (case k_230 => rfl); (case l_230 => rfl); (case s_230 => rfl)
      (with_reducible refine' ev_Call ?_ ?h_232); (case h_232 => with_unfolding_all rfl)
      (with_reducible refine' ev_global g_law_place ?k_233 ?_ ?d_233); (case k_233 => rfl); (case d_233 => decide)
      (with_reducible refine' cw_def kp_law_place ?_ ?h_234 ?p_234); (case h_234 => with_unfolding_all rfl); (case p_234 => with_unfolding_all rfl)
      (with_reducible refine' evl_cons ?_ ?h_236); (case h_236 => with_unfolding_all rfl)
      with_reducible refine' ev_Subscript ?_
      (with_reducible refine' ev_name ?x_238 ?p_238 ?_ ?d_238); (case x_238 => rfl); (case p_238 => rfl); (case d_238 => decide)
      with_reducible refine' ev_int ?_
      (with_reducible refine' op_item_lst ?a_242 ?b_242 ?x_242 ?_ ?s_242); (case a_242 => decide); (case b_242 => decide); (case x_242 => rfl); (case s_242 => intros; with_unfolding_all rfl)
      with_reducible refine' evl_nil ?_
      refine cl_law_place (by (refine Cx.Room.le (by assumption) ?_; decide)) ?_
      intro J hJ
      obtain ⟨f, hf, ef⟩ := fmod_fit a0 6 (by decide)
      have ef' : a0.fmod 6 = (f : Int) := ef
      with_reducible refine seq_nxt ?_
      with_reducible refine ex_cons ?_
      (with_reducible refine' ex_assign_c ?_ ?k_279 ?l_279 ?s_279); (case k_279 => rfl); (case l_279 => rfl); (case s_279 => rfl)
      (with_reducible refine' ev_Method (pl := _) ?_ ?h_280); (case h_280 => with_unfolding_all rfl)
      (with_reducible refine' ev_Method (pl := _) ?_ ?h_281); (case h_281 => with_unfolding_all rfl)
      (with_reducible refine' ev_global g_CellId ?k_282 ?_ ?d_282); (case k_282 => rfl); (case d_282 => decide)
      (with_reducible refine' mth_cls cm_from_face_ij ?_ ?h_283 ?p_283); (case h_283 => with_unfolding_all rfl); (case p_283 => with_unfolding_all rfl)
      (with_reducible refine' evl_cons ?_ ?h_285); (case h_285 => with_unfolding_all rfl)
      with_reducible refine' ev_BinOp ?_
      with_reducible refine' ev_Subscript ?_
      (with_reducible refine' ev_name ?x_288 ?p_288 ?_ ?d_288); (case x_288 => rfl); (case p_288 => rfl); (case d_288 => decide)
      with_reducible refine' ev_int ?_
      (with_reducible refine' op_item_lst ?a_292 ?b_292 ?x_292 ?_ ?s_292); (case a_292 => decide); (case b_292 => decide); (case x_292 => rfl); (case s_292 => intros; with_unfolding_all rfl)
      with_reducible refine' ev_int ?_
      (with_reducible refine' op_mod ?n_294 ?_); (case n_294 => decide)
      (with_reducible refine' evl_cons ?_ ?h_296); (case h_296 => with_unfolding_all rfl)
      (with_reducible refine' ev_name ?x_297 ?p_297 ?_ ?d_297); (case x_297 => rfl); (case p_297 => rfl); (case d_297 => decide)
      (with_reducible refine' evl_cons ?_ ?h_299); (case h_299 => with_unfolding_all rfl)
      (with_reducible refine' ev_name ?x_300 ?p_300 ?_ ?d_300); (case x_300 => rfl); (case p_300 => rfl); (case d_300 => decide)
      with_reducible refine' evl_nil ?_
      rw [ef']
      refine cl_from_face_ij (by (refine Cx.Room.le (by assumption) ?_; decide)) rfl hf hI hJ ?_
      have hP : pz 30 f I J < 6 * 2 ^ (2 * 30) := by rw [pow4]; exact pz_lt hf hI hJ
      have hx := sq_lt (L := L) (by omega) hI
      have hy := sq_lt (L := L) (by omega) hJ
      obtain ⟨p, ep⟩ : ∃ p, p = pz L f (I / 2 ^ (30 - L)) (J / 2 ^ (30 - L)) := ⟨_, rfl⟩
      have hp : p < 6 * 4 ^ L := ep ▸ pz_lt hf hx hy
      have hat := at_pz L f _ _ hx hy
      rw [← ep] at hat
      (with_reducible refine' mth_cell m_parent ?_ ?h_329 ?p_329); (case h_329 => with_unfolding_all rfl); (case p_329 => with_unfolding_all rfl)
      (with_reducible refine' evl_cons ?_ ?h_331); (case h_331 => with_unfolding_all rfl)
      (with_reducible refine' ev_name ?x_332 ?p_332 ?_ ?d_332); (case x_332 => rfl); (case p_332 => rfl); (case d_332 => decide)
      with_reducible refine' evl_nil ?_
      (with_reducible refine' cl_parent ?r_351 ?l_351 ?m_351 ?p_351 ?_); (case r_351 => (refine Cx.Room.le (by assumption) ?_; decide)); (case l_351 => (first | assumption | omega)); (case m_351 => (first | assumption | omega)); (case p_351 => (first | assumption | omega))
      with_reducible refine seq_nxt ?_
      with_reducible refine ex_cons ?_
      (with_reducible refine' ex_assign ?_ ?k_360 ?l_360 ?s_360); (case k_360 => rfl); (case l_360 => rfl); (case s_360 => rfl)
      (with_reducible refine' ev_Method (pl := _) ?_ ?h_361); (case h_361 => with_unfolding_all rfl)
      (with_reducible refine' ev_name ?x_362 ?p_362 ?_ ?d_362); (case x_362 => rfl); (case p_362 => rfl); (case d_362 => decide)
      with_reducible refine' mth_cell0 m_id ?_
      (with_reducible refine' cl_id ?r_389 ?_); (case r_389 => (refine Cx.Room.le (by assumption) ?_; decide))
      with_reducible refine seq_nxt ?_
      with_reducible refine ex_cons ?_
      (with_reducible refine' ex_assign_c ?_ ?k_399 ?l_399 ?s_399); (case k_399 => rfl); (case l_399 => rfl); (case s_399 => rfl)
      (with_reducible refine' ev_Method (pl := _) ?_ ?h_400); (case h_400 => with_unfolding_all rfl)
      (with_reducible refine' ev_name ?x_401 ?p_401 ?_ ?d_401); (case x_401 => rfl); (case p_401 => rfl); (case d_401 => decide)
      with_reducible refine' mth_cell0 m_get_edge_neighbors ?_
      rw [pz_down (by omega), ← ep]
      (with_reducible refine' cl_edges ?r_432 ?l_432 ?p_432 ?_); (case r_432 => (refine Cx.Room.le (by assumption) ?_; decide)); (case l_432 => (first | assumption | omega)); (case p_432 => (first | assumption | omega))
      with_reducible refine seq_nxt ?_
      with_reducible refine ex_cons ?_
      (with_reducible refine' ex_assign_c ?_ ?k_442 ?l_442 ?s_442); (case k_442 => rfl); (case l_442 => rfl); (case s_442 => rfl)
      (with_reducible refine' ev_Call ?_ ?h_444); (case h_444 => with_unfolding_all rfl)
      (with_reducible refine' ev_global g_law_ways ?k_445 ?_ ?d_445); (case k_445 => rfl); (case d_445 => decide)
      (with_reducible refine' cw_def kp_law_ways ?_ ?h_446 ?p_446); (case h_446 => with_unfolding_all rfl); (case p_446 => with_unfolding_all rfl)
      (with_reducible refine' evl_cons ?_ ?h_448); (case h_448 => with_unfolding_all rfl)
      (with_reducible refine' ev_name ?x_449 ?p_449 ?_ ?d_449); (case x_449 => rfl); (case p_449 => rfl); (case d_449 => decide)
      (with_reducible refine' evl_cons ?_ ?h_451); (case h_451 => with_unfolding_all rfl)
      (with_reducible refine' ev_name ?x_452 ?p_452 ?_ ?d_452); (case x_452 => rfl); (case p_452 => rfl); (case d_452 => decide)
      with_reducible refine' evl_nil ?_
      refine cl_law_ways (by (refine Cx.Room.le (by assumption) ?_; decide)) (by omega) hp ?_
      with_reducible refine seq_nxt ?_
      with_reducible refine ex_cons ?_
      with_reducible refine' ex_if_no ?_ ?_
      (with_reducible refine' evt_Compare ?_ ?m_489); (case m_489 => with_unfolding_all rfl)
      (with_reducible refine' ev_name ?x_490 ?p_490 ?_ ?d_490); (case x_490 => rfl); (case p_490 => rfl); (case d_490 => decide)
      with_reducible refine' ev_none ?_
      (with_reducible refine' op_is_none ?h_511 ?_); (case h_511 => intro u e; cases e)
      with_reducible refine' opt_bool ?_
      exact rfl
      with_reducible refine seq_nxt ?_
      with_reducible refine ex_cons ?_
      have hc4 := cs_lt L p
      have hg4 := gs_lt L p
      have hcg := ways_ne hp
      refine ex_assign_comp ["ways"] (sideB fun t => decide (t ≠ cs L p) && decide (t ≠ gs L p)) (fun y => y) ⟨rfl, rfl, rfl, rfl, rfl, ?_⟩ rfl rfl rfl ?_ (fun _ => rfl)
      · intro n hn
        obtain rfl := List.mem_singleton.mp hn
        exact ⟨rfl, rfl, rfl, by decide⟩
      (with_reducible refine' ev_Call ?_ ?h_531); (case h_531 => with_unfolding_all rfl)
      (with_reducible refine' ev_builtin n_range bb_range ?k_532 ?_ ?n_532 ?d_532); (case k_532 => rfl); (case n_532 => decide); (case d_532 => decide)
      (with_reducible refine' cw_type ?_ ?h_536 ?p_536); (case h_536 => with_unfolding_all rfl); (case p_536 => with_unfolding_all rfl)
      (with_reducible refine' evl_cons ?_ ?h_538); (case h_538 => with_unfolding_all rfl)
      with_reducible refine' ev_int ?_
      with_reducible refine' evl_nil ?_
      with_reducible refine' b_range1 ?_
      refine ⟨[.int 0, .int 1, .int 2, .int 3], .rng (n := 4) (by decide) (by decide) rfl, by decide, ?_, ?_, ?_, ?_, ?_⟩
      · intro y hy; obtain ⟨t, _, rfl⟩ := four_mem hy; rfl
      · intro y hy; obtain ⟨t, _, rfl⟩ := four_mem hy; rfl
      · intro C y hy
        obtain ⟨t, ht, rfl⟩ := four_mem hy
        show EvT _ _ _ _ _
        with_reducible refine' evt_and ?_
        (with_reducible refine' evt_Compare ?_ ?m_551); (case m_551 => with_unfolding_all rfl)
        (with_reducible refine' ev_name ?x_552 ?p_552 ?_ ?d_552); (case x_552 => rfl); (case p_552 => rfl); (case d_552 => decide)
        with_reducible refine' ev_Subscript ?_
        (with_reducible refine' ev_name ?x_554 ?p_554 ?_ ?d_554); (case x_554 => rfl); (case p_554 => rfl); (case d_554 => decide)
        with_reducible refine' ev_int ?_
        (with_reducible refine' op_item_tup ?a_557 ?b_557 ?j_557 ?x_557 ?_ ?s_557); (case a_557 => decide); (case b_557 => decide); (case j_557 => rfl); (case x_557 => rfl); (case s_557 => intros; with_unfolding_all rfl)
        with_reducible refine' op_ne ?_
        with_reducible refine' opt_bool ?_
        by_cases h1 : t = cs L p
        · refine ite_f (by simp [h1]) ?_
          simp [sideB, h1]
        · refine ite_t (by simp; omega) ?_
          with_reducible refine' evt_and ?_
          (with_reducible refine' evt_Compare ?_ ?m_571); (case m_571 => with_unfolding_all rfl)
          (with_reducible refine' ev_name ?x_572 ?p_572 ?_ ?d_572); (case x_572 => rfl); (case p_572 => rfl); (case d_572 => decide)
          with_reducible refine' ev_Subscript ?_
          (with_reducible refine' ev_name ?x_574 ?p_574 ?_ ?d_574); (case x_574 => rfl); (case p_574 => rfl); (case d_574 => decide)
          with_reducible refine' ev_int ?_
          (with_reducible refine' op_item_tup ?a_577 ?b_577 ?j_577 ?x_577 ?_ ?s_577); (case a_577 => decide); (case b_577 => decide); (case j_577 => rfl); (case x_577 => rfl); (case s_577 => intros; with_unfolding_all rfl)
          with_reducible refine' op_ne ?_
          with_reducible refine' opt_bool ?_
          by_cases h2 : t = gs L p
          · refine ite_f (by simp [h2]) ?_
            simp [sideB, h2]
          · refine ite_t (by simp; omega) ?_
            with_reducible refine' evt_and_nil ?_
            simp [sideB, h1, h2]
      · intro C y hy _
        obtain ⟨t, _, rfl⟩ := four_mem hy
        (with_reducible refine' ev_name ?x_592 ?p_592 ?_ ?d_592); (case x_592 => rfl); (case p_592 => rfl); (case d_592 => decide)
        exact rfl
      obtain ⟨t1, t2, et, ht1, ht2, h1c, h1g, h2c, h2g⟩ := free_two _ _ hc4 hg4 hcg
      rw [sides_are, et]
      obtain ⟨k, hk, ek⟩ := fmod_fit a3 2 (by decide)
      have ek' : a3.fmod 2 = (k : Int) := ek
      obtain ⟨t, hit, ht, htc, htg⟩ : ∃ t : Nat, (List.map (fun (t : Nat) => PV.int (t : Int)) [t1, t2])[k]? = some (.int (t : Int)) ∧ t < 4 ∧ t ≠ cs L p ∧ t ≠ gs L p := by
        have : k = 0 ∨ k = 1 := by omega
        rcases this with rfl | rfl
        · exact ⟨t1, rfl, ht1, h1c, h1g⟩
        · exact ⟨t2, rfl, ht2, h2c, h2g⟩
      with_reducible refine seq_nxt ?_
      with_reducible refine ex_cons ?_
      (with_reducible refine' ex_assign ?_ ?k_602 ?l_602 ?s_602); (case k_602 => rfl); (case l_602 => rfl); (case s_602 => rfl)
      with_reducible refine' ev_Subscript ?_
      (with_reducible refine' ev_name ?x_604 ?p_604 ?_ ?d_604); (case x_604 => rfl); (case p_604 => rfl); (case d_604 => decide)
      with_reducible refine' ev_BinOp ?_
      with_reducible refine' ev_Subscript ?_
      (with_reducible refine' ev_name ?x_607 ?p_607 ?_ ?d_607); (case x_607 => rfl); (case p_607 => rfl); (case d_607 => decide)
      with_reducible refine' ev_int ?_
      (with_reducible refine' op_item_lst ?a_611 ?b_611 ?x_611 ?_ ?s_611); (case a_611 => decide); (case b_611 => decide); (case x_611 => rfl); (case s_611 => intros; with_unfolding_all rfl)
      with_reducible refine' ev_int ?_
      (with_reducible refine' op_mod ?n_613 ?_); (case n_613 => decide)
      rw [ek']
      refine op_item_lst (x := .int (t : Int)) (by omega) (by omega) (by rw [Int.toNat_natCast]; exact hit) ?_ (by intros; with_unfolding_all rfl)
      with_reducible refine seq_nxt ?_
      with_reducible refine ex_cons ?_
      (with_reducible refine' ex_assign ?_ ?k_625 ?l_625 ?s_625); (case k_625 => rfl); (case l_625 => rfl); (case s_625 => rfl)
      (with_reducible refine' ev_Call ?_ ?h_627); (case h_627 => with_unfolding_all rfl)
      (with_reducible refine' ev_global g_law_left ?k_628 ?_ ?d_628); (case k_628 => rfl); (case d_628 => decide)
      (with_reducible refine' cw_def kp_law_left ?_ ?h_629 ?p_629); (case h_629 => with_unfolding_all rfl); (case p_629 => with_unfolding_all rfl)
      (with_reducible refine' evl_cons ?_ ?h_631); (case h_631 => with_unfolding_all rfl)
      (with_reducible refine' ev_name ?x_632 ?p_632 ?_ ?d_632); (case x_632 => rfl); (case p_632 => rfl); (case d_632 => decide)
      (with_reducible refine' evl_cons ?_ ?h_634); (case h_634 => with_unfolding_all rfl)
      (with_reducible refine' ev_name ?x_635 ?p_635 ?_ ?d_635); (case x_635 => rfl); (case p_635 => rfl); (case d_635 => decide)
      with_reducible refine' evl_nil ?_
      (with_reducible refine' cl_law_left ?r_637 ?a_637 ?b_637 ?d_637 ?_); (case r_637 => (refine Cx.Room.le (by assumption) ?_; decide)); (case a_637 => (first | assumption | omega)); (case b_637 => (first | assumption | omega | exact cs_lt _ _)); (case d_637 => (first | assumption | omega | exact gs_lt _ _))
      with_reducible refine seq_nxt ?_
      with_reducible refine ex_cons ?_
      (with_reducible refine' ex_assign ?_ ?k_646 ?l_646 ?s_646); (case k_646 => rfl); (case l_646 => rfl); (case s_646 => rfl)
      with_reducible refine' ev_Subscript ?_
      (with_reducible refine' ev_name ?x_648 ?p_648 ?_ ?d_648); (case x_648 => rfl); (case p_648 => rfl); (case d_648 => decide)
      (with_reducible refine' ev_name ?x_649 ?p_649 ?_ ?d_649); (case x_649 => rfl); (case p_649 => rfl); (case d_649 => decide)
      refine op_nb (L := L) (p := p) ht ?_
      with_reducible refine seq_nxt ?_
      with_reducible refine ex_cons ?_
      refine ex_if_set2 "i" (.int (eI t (I : Int) ((2 ^ (30 - L) : Nat) : Int))) "j" (.int (eJ t (J : Int) ((2 ^ (30 - L) : Nat) : Int))) ?_ ?_
      · have h4 : t = 0 ∨ t = 1 ∨ t = 2 ∨ t = 3 := by omega
        rcases h4 with rfl | rfl | rfl | rfl
        · with_reducible refine' ex_if ?_
          (with_reducible refine' evt_Compare ?_ ?m_677); (case m_677 => with_unfolding_all rfl)
          with_reducible refine' ev_BinOp ?_
          (with_reducible refine' ev_name ?x_679 ?p_679 ?_ ?d_679); (case x_679 => rfl); (case p_679 => rfl); (case d_679 => decide)
          with_reducible refine' ev_int ?_
          (with_reducible refine' op_mod ?n_681 ?_); (case n_681 => decide)
          with_reducible refine' ev_int ?_
          with_reducible refine' op_eq ?_
          with_reducible refine' opt_bool ?_
          (with_reducible refine' ite_f ?h_688 ?_); (case h_688 => decide)
          with_reducible refine ex_cons ?_
          (with_reducible refine' ex_aug ?x_698 ?p_698 ?_ ?k_698 ?l_698); (case x_698 => rfl); (case p_698 => rfl); (case k_698 => rfl); (case l_698 => rfl)
          with_reducible refine' ev_IfExp ?_
          (with_reducible refine' evt_Compare ?_ ?m_705); (case m_705 => with_unfolding_all rfl)
          (with_reducible refine' ev_name ?x_706 ?p_706 ?_ ?d_706); (case x_706 => rfl); (case p_706 => rfl); (case d_706 => decide)
          with_reducible refine' ev_int ?_
          with_reducible refine' op_eq ?_
          with_reducible refine' opt_bool ?_
          (with_reducible refine' ite_f ?h_713 ?_); (case h_713 => decide)
          with_reducible refine' ev_UnaryOp ?_
          (with_reducible refine' ev_name ?x_715 ?p_715 ?_ ?d_715); (case x_715 => rfl); (case p_715 => rfl); (case d_715 => decide)
          with_reducible refine' op_neg ?_
          with_reducible refine' iop_add ?_
          with_reducible refine seq_nxt ?_
          with_reducible refine ex_nil ?_
          exact ⟨rfl, fun z pv h => sub_upd (upd_here rfl) z pv h⟩
        · with_reducible refine' ex_if ?_
          (with_reducible refine' evt_Compare ?_ ?m_750); (case m_750 => with_unfolding_all rfl)
          with_reducible refine' ev_BinOp ?_
          (with_reducible refine' ev_name ?x_752 ?p_752 ?_ ?d_752); (case x_752 => rfl); (case p_752 => rfl); (case d_752 => decide)
          with_reducible refine' ev_int ?_
          (with_reducible refine' op_mod ?n_754 ?_); (case n_754 => decide)
          with_reducible refine' ev_int ?_
          with_reducible refine' op_eq ?_
          with_reducible refine' opt_bool ?_
          (with_reducible refine' ite_t ?h_760 ?_); (case h_760 => decide)
          with_reducible refine ex_cons ?_
          (with_reducible refine' ex_aug ?x_770 ?p_770 ?_ ?k_770 ?l_770); (case x_770 => rfl); (case p_770 => rfl); (case k_770 => rfl); (case l_770 => rfl)
          with_reducible refine' ev_IfExp ?_
          (with_reducible refine' evt_Compare ?_ ?m_777); (case m_777 => with_unfolding_all rfl)
          (with_reducible refine' ev_name ?x_778 ?p_778 ?_ ?d_778); (case x_778 => rfl); (case p_778 => rfl); (case d_778 => decide)
          with_reducible refine' ev_int ?_
          with_reducible refine' op_eq ?_
          with_reducible refine' opt_bool ?_
          (with_reducible refine' ite_t ?h_784 ?_); (case h_784 => decide)
          (with_reducible refine' ev_name ?x_785 ?p_785 ?_ ?d_785); (case x_785 => rfl); (case p_785 => rfl); (case d_785 => decide)
          with_reducible refine' iop_add ?_
          with_reducible refine seq_nxt ?_
          with_reducible refine ex_nil ?_
          exact ⟨rfl, fun z pv h => upd_here rfl z pv h⟩
        · with_reducible refine' ex_if ?_
          (with_reducible refine' evt_Compare ?_ ?m_818); (case m_818 => with_unfolding_all rfl)
          with_reducible refine' ev_BinOp ?_
          (with_reducible refine' ev_name ?x_820 ?p_820 ?_ ?d_820); (case x_820 => rfl); (case p_820 => rfl); (case d_820 => decide)
          with_reducible refine' ev_int ?_
          (with_reducible refine' op_mod ?n_822 ?_); (case n_822 => decide)
          with_reducible refine' ev_int ?_
          with_reducible refine' op_eq ?_
          with_reducible refine' opt_bool ?_
          (with_reducible refine' ite_f ?h_829 ?_); (case h_829 => decide)
          with_reducible refine ex_cons ?_
          (with_reducible refine' ex_aug ?x_839 ?p_839 ?_ ?k_839 ?l_839); (case x_839 => rfl); (case p_839 => rfl); (case k_839 => rfl); (case l_839 => rfl)
          with_reducible refine' ev_IfExp ?_
          (with_reducible refine' evt_Compare ?_ ?m_846); (case m_846 => with_unfolding_all rfl)
          (with_reducible refine' ev_name ?x_847 ?p_847 ?_ ?d_847); (case x_847 => rfl); (case p_847 => rfl); (case d_847 => decide)
          with_reducible refine' ev_int ?_
          with_reducible refine' op_eq ?_
          with_reducible refine' opt_bool ?_
          (with_reducible refine' ite_t ?h_853 ?_); (case h_853 => decide)
          (with_reducible refine' ev_name ?x_854 ?p_854 ?_ ?d_854); (case x_854 => rfl); (case p_854 => rfl); (case d_854 => decide)
          with_reducible refine' iop_add ?_
          with_reducible refine seq_nxt ?_
          with_reducible refine ex_nil ?_
          exact ⟨rfl, fun z pv h => sub_upd (upd_here rfl) z pv h⟩
        · with_reducible refine' ex_if ?_
          (with_reducible refine' evt_Compare ?_ ?m_887); (case m_887 => with_unfolding_all rfl)
          with_reducible refine' ev_BinOp ?_
          (with_reducible refine' ev_name ?x_889 ?p_889 ?_ ?d_889); (case x_889 => rfl); (case p_889 => rfl); (case d_889 => decide)
          with_reducible refine' ev_int ?_
          (with_reducible refine' op_mod ?n_891 ?_); (case n_891 => decide)
          with_reducible refine' ev_int ?_
          with_reducible refine' op_eq ?_
          with_reducible refine' opt_bool ?_
          (with_reducible refine' ite_t ?h_897 ?_); (case h_897 => decide)
          with_reducible refine ex_cons ?_
          (with_reducible refine' ex_aug ?x_907 ?p_907 ?_ ?k_907 ?l_907); (case x_907 => rfl); (case p_907 => rfl); (case k_907 => rfl); (case l_907 => rfl)
          with_reducible refine' ev_IfExp ?_
          (with_reducible refine' evt_Compare ?_ ?m_914); (case m_914 => with_unfolding_all rfl)
          (with_reducible refine' ev_name ?x_915 ?p_915 ?_ ?d_915); (case x_915 => rfl); (case p_915 => rfl); (case d_915 => decide)
          with_reducible refine' ev_int ?_
          with_reducible refine' op_eq ?_
          with_reducible refine' opt_bool ?_
          (with_reducible refine' ite_f ?h_922 ?_); (case h_922 => decide)
          with_reducible refine' ev_UnaryOp ?_
          (with_reducible refine' ev_name ?x_924 ?p_924 ?_ ?d_924); (case x_924 => rfl); (case p_924 => rfl); (case d_924 => decide)
          with_reducible refine' op_neg ?_
          with_reducible refine' iop_add ?_
          with_reducible refine seq_nxt ?_
          with_reducible refine ex_nil ?_
          exact ⟨rfl, fun z pv h => upd_here rfl z pv h⟩
      with_reducible refine seq_nxt ?_
      with_reducible refine ex_cons ?_
      have hIs : (I : Int) = ((xz L p * 2 ^ (30 - L) + I % 2 ^ (30 - L) : Nat) : Int) := by rw [hat.1, part_sq]
      have hJs : (J : Int) = ((yz L p * 2 ^ (30 - L) + J % 2 ^ (30 - L) : Nat) : Int) := by rw [hat.2.1, part_sq]
      obtain ⟨bb, ea⟩ := EA_eI (I := (I : Int)) (J := (J : Int)) (S := ((2 ^ (30 - L) : Nat) : Int)) ht
      generalize eI t (I : Int) ((2 ^ (30 - L) : Nat) : Int) = i' at ea ⊢
      generalize eJ t (J : Int) ((2 ^ (30 - L) : Nat) : Int) = j' at ea ⊢
      rw [hIs, hJs] at ea
      have zpos : 0 < 2 ^ (30 - L) := Nat.pow_pos (by decide)
      have hμ := Nat.mod_lt I zpos
      have hν := Nat.mod_lt J zpos
      refine ex_keep ?_ ?_
      · refine ex_if (evt_mono (Q := fun b => b = decide (0 ≤ i' ∧ i' < 1073741824 ∧ 0 ≤ j' ∧ j' < 1073741824)) ?_ ?_)
        · with_reducible refine' evt_and ?_
          (with_reducible refine' evt_chain ?_ ?m_973); (case m_973 => with_unfolding_all rfl)
          with_reducible refine' ev_int ?_
          (with_reducible refine' ev_name ?x_975 ?p_975 ?_ ?d_975); (case x_975 => rfl); (case p_975 => rfl); (case d_975 => decide)
          with_reducible refine' op_le ?_
          with_reducible refine' opt_bool ?_
          by_cases c1 : 0 ≤ i'
          · with_reducible refine ite_t ?_ ?_
            · exact dec_tt c1
            with_reducible refine' ev_int ?_
            with_reducible refine' op_lt ?_
            with_reducible refine' opt_bool ?_
            by_cases c2 : i' < 1073741824
            · with_reducible refine ite_t ?_ ?_
              · exact dec_tt c2
              with_reducible refine' evt_and ?_
              (with_reducible refine' evt_chain ?_ ?m_997); (case m_997 => with_unfolding_all rfl)
              with_reducible refine' ev_int ?_
              (with_reducible refine' ev_name ?x_999 ?p_999 ?_ ?d_999); (case x_999 => rfl); (case p_999 => rfl); (case d_999 => decide)
              with_reducible refine' op_le ?_
              with_reducible refine' opt_bool ?_
              by_cases c3 : 0 ≤ j'
              · with_reducible refine ite_t ?_ ?_
                · exact dec_tt c3
                with_reducible refine' ev_int ?_
                with_reducible refine' op_lt ?_
                with_reducible refine' opt_bool ?_
                by_cases c4 : j' < 1073741824
                · with_reducible refine ite_t ?_ ?_
                  · exact dec_tt c4
                  with_reducible refine' evt_and_nil ?_
                  exact (dec_tt ⟨c1, c2, c3, c4⟩).symm
                · with_reducible refine ite_f ?_ ?_
                  · exact dec_ff c4
                  exact (dec_ff fun k => c4 k.2.2.2).symm
              · with_reducible refine ite_f ?_ ?_
                · exact dec_ff c3
                (with_reducible refine' ite_f ?h_1029 ?_); (case h_1029 => decide)
                exact (dec_ff fun k => c3 k.2.2.1).symm
            · with_reducible refine ite_f ?_ ?_
              · exact dec_ff c2
              exact (dec_ff fun k => c2 k.2.1).symm
          · with_reducible refine ite_f ?_ ?_
            · exact dec_ff c1
            (with_reducible refine' ite_f ?h_1043 ?_); (case h_1043 => decide)
            exact (dec_ff fun k => c1 k.1).symm
        · intro b hb
          by_cases hrim : rim L t (xz L p) (yz L p)
          · have off := rim_off (by omega) ht (xz_lt L p) (yz_lt L p) hμ hν hrim ea
            with_reducible refine ite_f ?_ ?_
            · rw [hb]; exact dec_ff off
            with_reducible refine ex_nil ?_
            exact ⟨rfl, rfl⟩
          · obtain ⟨_, I2, J2, e1, e2, hI2, hJ2, e3⟩ := EA_in (by omega) hp ht hμ hν ea hrim
            subst e1 e2
            with_reducible refine ite_t ?_ ?_
            · rw [hb]; exact dec_tt ⟨by omega, by omega, by omega, by omega⟩
            rw [hat.2.2] at e3
            with_reducible refine ex_cons ?_
            with_reducible refine' ex_if_no ?_ ?_
            (with_reducible refine' evt_Compare ?_ ?m_1063); (case m_1063 => with_unfolding_all rfl)
            (with_reducible refine' ev_name ?x_1064 ?p_1064 ?_ ?d_1064); (case x_1064 => rfl); (case p_1064 => rfl); (case d_1064 => decide)
            (with_reducible refine' ev_Method (pl := _) ?_ ?h_1065); (case h_1065 => with_unfolding_all rfl)
            (with_reducible refine' ev_Method (pl := _) ?_ ?h_1066); (case h_1066 => with_unfolding_all rfl)
            (with_reducible refine' ev_global g_CellId ?k_1067 ?_ ?d_1067); (case k_1067 => rfl); (case d_1067 => decide)
            (with_reducible refine' mth_cls cm_from_face_ij ?_ ?h_1068 ?p_1068); (case h_1068 => with_unfolding_all rfl); (case p_1068 => with_unfolding_all rfl)
            (with_reducible refine' evl_cons ?_ ?h_1070); (case h_1070 => with_unfolding_all rfl)
            with_reducible refine' ev_BinOp ?_
            with_reducible refine' ev_Subscript ?_
            (with_reducible refine' ev_name ?x_1073 ?p_1073 ?_ ?d_1073); (case x_1073 => rfl); (case p_1073 => rfl); (case d_1073 => decide)
            with_reducible refine' ev_int ?_
            (with_reducible refine' op_item_lst ?a_1077 ?b_1077 ?x_1077 ?_ ?s_1077); (case a_1077 => decide); (case b_1077 => decide); (case x_1077 => rfl); (case s_1077 => intros; with_unfolding_all rfl)
            with_reducible refine' ev_int ?_
            (with_reducible refine' op_mod ?n_1079 ?_); (case n_1079 => decide)
            (with_reducible refine' evl_cons ?_ ?h_1081); (case h_1081 => with_unfolding_all rfl)
            (with_reducible refine' ev_name ?x_1082 ?p_1082 ?_ ?d_1082); (case x_1082 => rfl); (case p_1082 => rfl); (case d_1082 => decide)
            (with_reducible refine' evl_cons ?_ ?h_1084); (case h_1084 => with_unfolding_all rfl)
            (with_reducible refine' ev_name ?x_1085 ?p_1085 ?_ ?d_1085); (case x_1085 => rfl); (case p_1085 => rfl); (case d_1085 => decide)
            with_reducible refine' evl_nil ?_
            rw [ef']
            refine cl_from_face_ij (by (refine Cx.Room.le (by assumption) ?_; decide)) rfl hf hI2 hJ2 ?_
            have hP2 : pz 30 f I2 J2 < 6 * 2 ^ (2 * 30) := by rw [pow4]; exact pz_lt hf hI2 hJ2
            (with_reducible refine' mth_cell m_parent ?_ ?h_1114 ?p_1114); (case h_1114 => with_unfolding_all rfl); (case p_1114 => with_unfolding_all rfl)
            (with_reducible refine' evl_cons ?_ ?h_1116); (case h_1116 => with_unfolding_all rfl)
            (with_reducible refine' ev_name ?x_1117 ?p_1117 ?_ ?d_1117); (case x_1117 => rfl); (case p_1117 => rfl); (case d_1117 => decide)
            with_reducible refine' evl_nil ?_
            (with_reducible refine' cl_parent ?r_1136 ?l_1136 ?m_1136 ?p_1136 ?_); (case r_1136 => (refine Cx.Room.le (by assumption) ?_; decide)); (case l_1136 => (first | assumption | omega)); (case m_1136 => (first | assumption | omega)); (case p_1136 => (first | assumption | omega))
            (with_reducible refine' op_ne_cell ?r_1138 cmp_NotEq ?_); (case r_1138 => (refine Cx.Room.le (by assumption) ?_; decide))
            (with_reducible refine' cl_ne ?r_1151 ?_); (case r_1151 => (refine Cx.Room.le (by assumption) ?_; decide))
            (with_reducible refine' And.intro ?a_1153 ?_); (case a_1153 => exact resBool_bool)
            with_reducible refine' opt_bool ?_
            rw [e3]
            with_reducible exact not_beq_self
            with_reducible refine seq_nxt ?_
            with_reducible refine ex_nil ?_
            exact ⟨rfl, rfl⟩
      have fit := nbr_fit L p t hp ht
      have hq := fit.1
      obtain ⟨q, eq⟩ : ∃ q, (nbr L p t).1 = q := ⟨_, rfl⟩
      rw [eq] at hq ⊢
      with_reducible refine seq_nxt ?_
      with_reducible refine ex_cons ?_
      (with_reducible refine' ex_assign_c ?_ ?k_1181 ?l_1181 ?s_1181); (case k_1181 => rfl); (case l_1181 => rfl); (case s_1181 => rfl)
      (with_reducible refine' ev_Method (pl := _) ?_ ?h_1182); (case h_1182 => with_unfolding_all rfl)
      (with_reducible refine' ev_name ?x_1183 ?p_1183 ?_ ?d_1183); (case x_1183 => rfl); (case p_1183 => rfl); (case d_1183 => decide)
      with_reducible refine' mth_cell0 m_get_edge_neighbors ?_
      (with_reducible refine' cl_edges ?r_1188 ?l_1188 ?p_1188 ?_); (case r_1188 => (refine Cx.Room.le (by assumption) ?_; decide)); (case l_1188 => (first | assumption | omega)); (case p_1188 => (first | assumption | omega))
      with_reducible refine seq_nxt ?_
      with_reducible refine ex_cons ?_
      (with_reducible refine' ex_assign_c ?_ ?k_1198 ?l_1198 ?s_1198); (case k_1198 => rfl); (case l_1198 => rfl); (case s_1198 => rfl)
      (with_reducible refine' ev_Call ?_ ?h_1200); (case h_1200 => with_unfolding_all rfl)
      (with_reducible refine' ev_global g_law_ways ?k_1201 ?_ ?d_1201); (case k_1201 => rfl); (case d_1201 => decide)
      (with_reducible refine' cw_def kp_law_ways ?_ ?h_1202 ?p_1202); (case h_1202 => with_unfolding_all rfl); (case p_1202 => with_unfolding_all rfl)
      (with_reducible refine' evl_cons ?_ ?h_1204); (case h_1204 => with_unfolding_all rfl)
      (with_reducible refine' ev_name ?x_1205 ?p_1205 ?_ ?d_1205); (case x_1205 => rfl); (case p_1205 => rfl); (case d_1205 => decide)
      (with_reducible refine' evl_cons ?_ ?h_1207); (case h_1207 => with_unfolding_all rfl)
      (with_reducible refine' ev_name ?x_1208 ?p_1208 ?_ ?d_1208); (case x_1208 => rfl); (case p_1208 => rfl); (case d_1208 => decide)
      with_reducible refine' evl_nil ?_
      refine cl_law_ways (by (refine Cx.Room.le (by assumption) ?_; decide)) (by omega) hq ?_
      with_reducible refine seq_nxt ?_
      with_reducible refine ex_cons ?_
      with_reducible refine' ex_if_no ?_ ?_
      (with_reducible refine' evt_Compare ?_ ?m_1245); (case m_1245 => with_unfolding_all rfl)
      (with_reducible refine' ev_name ?x_1246 ?p_1246 ?_ ?d_1246); (case x_1246 => rfl); (case p_1246 => rfl); (case d_1246 => decide)
      with_reducible refine' ev_none ?_
      (with_reducible refine' op_is_none ?h_1267 ?_); (case h_1267 => intro u e; cases e)
      with_reducible refine' opt_bool ?_
      exact rfl
      with_reducible refine seq_nxt ?_
      with_reducible refine ex_cons ?_
      obtain ⟨b, hb⟩ : ∃ b, b = (if lft (cs L p) (gs L p) t = true then 0 else 1) := ⟨_, rfl⟩
      have hb2 : b < 2 := by rw [hb]; split <;> decide
      have hPr : Pr b L p t := ⟨hp, ht, by rw [hb]; exact lft_fr htc htg⟩
      have hPr2 := hand hb2 L p t hPr
      have hback := nbr_back L p t hp ht
      have hone : ∀ u, u < 4 → ((nbr L q u).1 = p ↔ u = (nbr L p t).2) := fun u hu => by rw [← eq]; exact home_one hp ht hu
      rw [eq] at hPr2 hback
      have l1 := fr_lft hPr.2.2
      have l2 := fr_lft hPr2.2.2
      have ht2 := fit.2
      obtain ⟨u2, eu2⟩ : ∃ u, (nbr L p t).2 = u := ⟨_, rfl⟩
      rw [eu2] at hPr2 l2 ht2 hback
      simp only [eu2] at hone
      have qc4 := cs_lt L q
      have qg4 := gs_lt L q
      refine ex_assign_comp ["beside", "cell"] (sideB fun t => decide (t = u2)) (fun y => y) ⟨rfl, rfl, rfl, rfl, rfl, ?_⟩ rfl rfl rfl ?_ (fun _ => rfl)
      · intro n hn
        simp only [List.mem_cons, List.not_mem_nil, or_false] at hn
        rcases hn with rfl | rfl <;> exact ⟨rfl, rfl, rfl, by decide⟩
      (with_reducible refine' ev_Call ?_ ?h_1287); (case h_1287 => with_unfolding_all rfl)
      (with_reducible refine' ev_builtin n_range bb_range ?k_1288 ?_ ?n_1288 ?d_1288); (case k_1288 => rfl); (case n_1288 => decide); (case d_1288 => decide)
      (with_reducible refine' cw_type ?_ ?h_1292 ?p_1292); (case h_1292 => with_unfolding_all rfl); (case p_1292 => with_unfolding_all rfl)
      (with_reducible refine' evl_cons ?_ ?h_1294); (case h_1294 => with_unfolding_all rfl)
      with_reducible refine' ev_int ?_
      with_reducible refine' evl_nil ?_
      with_reducible refine' b_range1 ?_
      refine ⟨[.int 0, .int 1, .int 2, .int 3], .rng (n := 4) (by decide) (by decide) rfl, by decide, ?_, ?_, ?_, ?_, ?_⟩
      · intro y hy; obtain ⟨t, _, rfl⟩ := four_mem hy; rfl
      · intro y hy; obtain ⟨t, _, rfl⟩ := four_mem hy; rfl
      · intro C y hy
        obtain ⟨u, hu, rfl⟩ := four_mem hy
        show EvT _ _ _ _ _
        (with_reducible refine' evt_Compare ?_ ?m_1305); (case m_1305 => with_unfolding_all rfl)
        with_reducible refine' ev_Subscript ?_
        (with_reducible refine' ev_name ?x_1307 ?p_1307 ?_ ?d_1307); (case x_1307 => rfl); (case p_1307 => rfl); (case d_1307 => decide)
        (with_reducible refine' ev_name ?x_1308 ?p_1308 ?_ ?d_1308); (case x_1308 => rfl); (case p_1308 => rfl); (case d_1308 => decide)
        refine op_nb (L := L) (p := q) hu ?_
        (with_reducible refine' ev_name ?x_1312 ?p_1312 ?_ ?d_1312); (case x_1312 => rfl); (case p_1312 => rfl); (case d_1312 => decide)
        (with_reducible refine' op_eq_cell ?r_1314 cmp_Eq ?_); (case r_1314 => (refine Cx.Room.le (by assumption) ?_; decide))
        (with_reducible refine' cl_eq ?r_1328 ?_); (case r_1328 => (refine Cx.Room.le (by assumption) ?_; decide))
        (with_reducible refine' And.intro ?a_1330 ?_); (case a_1330 => exact resBool_bool)
        with_reducible refine' opt_bool ?_
        rw [gid_beq]
        exact decide_eq_decide.mpr (hone u hu)
      · intro C y hy _
        obtain ⟨t, _, rfl⟩ := four_mem hy
        (with_reducible refine' ev_name ?x_1337 ?p_1337 ?_ ?d_1337); (case x_1337 => rfl); (case p_1337 => rfl); (case d_1337 => decide)
        exact rfl
      rw [sides_are, pick_one _ ht2, show (List.map (fun (t : Nat) => PV.int (t : Int)) [u2]) = [.int (u2 : Int)] from rfl]
      with_reducible refine seq_nxt ?_
      with_reducible refine ex_cons ?_
      with_reducible refine' ex_if_no ?_ ?_
      with_reducible refine' evt_or ?_
      (with_reducible refine' evt_Compare ?_ ?m_1352); (case m_1352 => with_unfolding_all rfl)
      (with_reducible refine' ev_Call ?_ ?h_1354); (case h_1354 => with_unfolding_all rfl)
      (with_reducible refine' ev_builtin n_len bb_len ?k_1355 ?_ ?n_1355 ?d_1355); (case k_1355 => rfl); (case n_1355 => decide); (case d_1355 => decide)
      (with_reducible refine' cw_builtin ?_ ?h_1358 ?p_1358); (case h_1358 => with_unfolding_all rfl); (case p_1358 => with_unfolding_all rfl)
      (with_reducible refine' evl_cons ?_ ?h_1360); (case h_1360 => with_unfolding_all rfl)
      (with_reducible refine' ev_name ?x_1361 ?p_1361 ?_ ?d_1361); (case x_1361 => rfl); (case p_1361 => rfl); (case d_1361 => decide)
      with_reducible refine' evl_nil ?_
      (with_reducible refine' b_len_lst ?l_1364 ?_); (case l_1364 => first | decide | (simp; done))
      with_reducible refine' ev_int ?_
      with_reducible refine' op_ne ?_
      with_reducible refine' opt_bool ?_
      with_reducible refine ite_f (bne_self_eq_false _) ?_
      with_reducible refine' evt_or ?_
      (with_reducible refine' evt_Compare ?_ ?m_1379); (case m_1379 => with_unfolding_all rfl)
      with_reducible refine' ev_Subscript ?_
      (with_reducible refine' ev_name ?x_1381 ?p_1381 ?_ ?d_1381); (case x_1381 => rfl); (case p_1381 => rfl); (case d_1381 => decide)
      with_reducible refine' ev_int ?_
      (with_reducible refine' op_item_lst ?a_1385 ?b_1385 ?x_1385 ?_ ?s_1385); (case a_1385 => decide); (case b_1385 => decide); (case x_1385 => rfl); (case s_1385 => intros; with_unfolding_all rfl)
      with_reducible refine' ev_Subscript ?_
      (with_reducible refine' ev_name ?x_1387 ?p_1387 ?_ ?d_1387); (case x_1387 => rfl); (case p_1387 => rfl); (case d_1387 => decide)
      with_reducible refine' ev_int ?_
      (with_reducible refine' op_item_tup ?a_1390 ?b_1390 ?j_1390 ?x_1390 ?_ ?s_1390); (case a_1390 => decide); (case b_1390 => decide); (case j_1390 => rfl); (case x_1390 => rfl); (case s_1390 => intros; with_unfolding_all rfl)
      with_reducible refine' op_eq ?_
      with_reducible refine' opt_bool ?_
      refine ite_f (beq_eq_false_iff_ne.mpr (by omega)) ?_
      with_reducible refine' evt_or ?_
      (with_reducible refine' evt_Compare ?_ ?m_1406); (case m_1406 => with_unfolding_all rfl)
      with_reducible refine' ev_Subscript ?_
      (with_reducible refine' ev_name ?x_1408 ?p_1408 ?_ ?d_1408); (case x_1408 => rfl); (case p_1408 => rfl); (case d_1408 => decide)
      with_reducible refine' ev_int ?_
      (with_reducible refine' op_item_lst ?a_1412 ?b_1412 ?x_1412 ?_ ?s_1412); (case a_1412 => decide); (case b_1412 => decide); (case x_1412 => rfl); (case s_1412 => intros; with_unfolding_all rfl)
      with_reducible refine' ev_Subscript ?_
      (with_reducible refine' ev_name ?x_1414 ?p_1414 ?_ ?d_1414); (case x_1414 => rfl); (case p_1414 => rfl); (case d_1414 => decide)
      with_reducible refine' ev_int ?_
      (with_reducible refine' op_item_tup ?a_1417 ?b_1417 ?j_1417 ?x_1417 ?_ ?s_1417); (case a_1417 => decide); (case b_1417 => decide); (case j_1417 => rfl); (case x_1417 => rfl); (case s_1417 => intros; with_unfolding_all rfl)
      with_reducible refine' op_eq ?_
      with_reducible refine' opt_bool ?_
      refine ite_f (beq_eq_false_iff_ne.mpr (by omega)) ?_
      with_reducible refine' evt_or ?_
      (with_reducible refine' evt_Compare ?_ ?m_1433); (case m_1433 => with_unfolding_all rfl)
      (with_reducible refine' ev_Call ?_ ?h_1435); (case h_1435 => with_unfolding_all rfl)
      (with_reducible refine' ev_global g_law_left ?k_1436 ?_ ?d_1436); (case k_1436 => rfl); (case d_1436 => decide)
      (with_reducible refine' cw_def kp_law_left ?_ ?h_1437 ?p_1437); (case h_1437 => with_unfolding_all rfl); (case p_1437 => with_unfolding_all rfl)
      (with_reducible refine' evl_cons ?_ ?h_1439); (case h_1439 => with_unfolding_all rfl)
      with_reducible refine' ev_Subscript ?_
      (with_reducible refine' ev_name ?x_1441 ?p_1441 ?_ ?d_1441); (case x_1441 => rfl); (case p_1441 => rfl); (case d_1441 => decide)
      with_reducible refine' ev_int ?_
      (with_reducible refine' op_item_lst ?a_1445 ?b_1445 ?x_1445 ?_ ?s_1445); (case a_1445 => decide); (case b_1445 => decide); (case x_1445 => rfl); (case s_1445 => intros; with_unfolding_all rfl)
      (with_reducible refine' evl_cons ?_ ?h_1447); (case h_1447 => with_unfolding_all rfl)
      (with_reducible refine' ev_name ?x_1448 ?p_1448 ?_ ?d_1448); (case x_1448 => rfl); (case p_1448 => rfl); (case d_1448 => decide)
      with_reducible refine' evl_nil ?_
      (with_reducible refine' cl_law_left ?r_1450 ?a_1450 ?b_1450 ?d_1450 ?_); (case r_1450 => (refine Cx.Room.le (by assumption) ?_; decide)); (case a_1450 => (first | assumption | omega)); (case b_1450 => (first | assumption | omega | exact cs_lt _ _)); (case d_1450 => (first | assumption | omega | exact gs_lt _ _))
      (with_reducible refine' ev_name ?x_1451 ?p_1451 ?_ ?d_1451); (case x_1451 => rfl); (case p_1451 => rfl); (case d_1451 => decide)
      refine op_ne_same (by rw [l1.2.2, l2.2.2]) (by (refine Cx.Room.le (by assumption) ?_; decide)) rfl rfl ?_
      with_reducible refine' opt_bool ?_
      (with_reducible refine' ite_f ?h_1458 ?_); (case h_1458 => decide)
      with_reducible refine' evt_or_nil ?_
      exact rfl
      with_reducible refine seq_nxt ?_
      with_reducible refine ex_cons ?_
      (with_reducible refine' ex_assign ?_ ?k_1472 ?l_1472 ?s_1472); (case k_1472 => rfl); (case l_1472 => rfl); (case s_1472 => rfl)
      (with_reducible refine' ev_name ?x_1473 ?p_1473 ?_ ?d_1473); (case x_1473 => rfl); (case p_1473 => rfl); (case d_1473 => decide)
      with_reducible refine seq_nxt ?_
      with_reducible refine ex_cons ?_
      (with_reducible refine' ex_assign ?_ ?k_1481 ?l_1481 ?s_1481); (case k_1481 => rfl); (case l_1481 => rfl); (case s_1481 => rfl)
      (with_reducible refine' ev_name ?x_1482 ?p_1482 ?_ ?d_1482); (case x_1482 => rfl); (case p_1482 => rfl); (case d_1482 => decide)
      with_reducible refine seq_nxt ?_
      with_reducible refine ex_cons ?_
      obtain ⟨A, ta, E, te, hA1, hA2, hPA, hAE⟩ : ∃ A ta E te, ((a3.fdiv 2).fmod 2 = 1 → A = q ∧ E = p) ∧ (¬(a3.fdiv 2).fmod 2 = 1 → A = p ∧ E = q) ∧ Pr b L A ta ∧ nbr L A ta = (E, te) := by
        by_cases hcond : (a3.fdiv 2).fmod 2 = 1
        · exact ⟨q, u2, p, t, fun _ => ⟨rfl, rfl⟩, fun h => absurd hcond h, hPr2, hback⟩
        · exact ⟨p, t, q, u2, fun h => absurd h hcond, fun _ => ⟨rfl, rfl⟩, hPr, Prod.ext eq eu2⟩
      refine ex_if_set2 "first" (.cell (gid L A)) "end" (.cell (gid L E)) ?_ ?_
      · refine ex_if ?_
        (with_reducible refine' evt_Compare ?_ ?m_1503); (case m_1503 => with_unfolding_all rfl)
        with_reducible refine' ev_BinOp ?_
        with_reducible refine' ev_BinOp ?_
        with_reducible refine' ev_Subscript ?_
        (with_reducible refine' ev_name ?x_1507 ?p_1507 ?_ ?d_1507); (case x_1507 => rfl); (case p_1507 => rfl); (case d_1507 => decide)
        with_reducible refine' ev_int ?_
        (with_reducible refine' op_item_lst ?a_1511 ?b_1511 ?x_1511 ?_ ?s_1511); (case a_1511 => decide); (case b_1511 => decide); (case x_1511 => rfl); (case s_1511 => intros; with_unfolding_all rfl)
        with_reducible refine' ev_int ?_
        (with_reducible refine' op_fdiv ?n_1513 ?m_1513 ?_); (case n_1513 => decide); (case m_1513 => decide)
        with_reducible refine' ev_int ?_
        (with_reducible refine' op_mod ?n_1515 ?_); (case n_1515 => decide)
        with_reducible refine' ev_int ?_
        with_reducible refine' op_eq ?_
        with_reducible refine' opt_bool ?_
        by_cases hcond : (a3.fdiv 2).fmod 2 = 1
        · refine ite_t (beq_iff_eq.mpr hcond) ?_
          with_reducible refine ex_cons ?_
          (with_reducible refine' ex_assign ?_ ?k_1530 ?l_1530 ?s_1530); (case k_1530 => rfl); (case l_1530 => rfl); (case s_1530 => rfl)
          (with_reducible refine' ev_name ?x_1531 ?p_1531 ?_ ?d_1531); (case x_1531 => rfl); (case p_1531 => rfl); (case d_1531 => decide)
          with_reducible refine seq_nxt ?_
          with_reducible refine ex_cons ?_
          (with_reducible refine' ex_assign ?_ ?k_1540 ?l_1540 ?s_1540); (case k_1540 => rfl); (case l_1540 => rfl); (case s_1540 => rfl)
          (with_reducible refine' ev_name ?x_1541 ?p_1541 ?_ ?d_1541); (case x_1541 => rfl); (case p_1541 => rfl); (case d_1541 => decide)
          with_reducible refine seq_nxt ?_
          with_reducible refine ex_nil ?_
          rw [(hA1 hcond).1, (hA1 hcond).2]
          exact ⟨rfl, fun _ _ h => h⟩
        · refine ite_f (beq_eq_false_iff_ne.mpr hcond) ?_
          with_reducible refine ex_nil ?_
          rw [(hA2 hcond).1, (hA2 hcond).2]
          exact ⟨rfl, fun z pv h => upd_here rfl _ _ (sub_upd (upd_here rfl) _ _ h)⟩
      with_reducible refine seq_nxt ?_
      with_reducible refine ex_cons ?_
      (with_reducible refine' ex_assign ?_ ?k_1562 ?l_1562 ?s_1562); (case k_1562 => rfl); (case l_1562 => rfl); (case s_1562 => rfl)
      with_reducible refine' ev_BinOp ?_
      (with_reducible refine' ev_Method (pl := _) ?_ ?h_1564); (case h_1564 => with_unfolding_all rfl)
      (with_reducible refine' ev_name ?x_1565 ?p_1565 ?_ ?d_1565); (case x_1565 => rfl); (case p_1565 => rfl); (case d_1565 => decide)
      with_reducible refine' mth_cell0 m_id ?_
      (with_reducible refine' cl_id ?r_1592 ?_); (case r_1592 => (refine Cx.Room.le (by assumption) ?_; decide))
      (with_reducible refine' ev_name ?x_1593 ?p_1593 ?_ ?d_1593); (case x_1593 => rfl); (case p_1593 => rfl); (case d_1593 => decide)
      (with_reducible refine' op_shr ?n_1594 ?_); (case n_1594 => first | decide | omega)
      with_reducible refine seq_nxt ?_
      with_reducible refine ex_cons ?_
      (with_reducible refine' ex_assign ?_ ?k_1602 ?l_1602 ?s_1602); (case k_1602 => rfl); (case l_1602 => rfl); (case s_1602 => rfl)
      with_reducible refine' ev_BinOp ?_
      with_reducible refine' ev_BinOp ?_
      with_reducible refine' ev_BinOp ?_
      (with_reducible refine' ev_Method (pl := _) ?_ ?h_1606); (case h_1606 => with_unfolding_all rfl)
      (with_reducible refine' ev_name ?x_1607 ?p_1607 ?_ ?d_1607); (case x_1607 => rfl); (case p_1607 => rfl); (case d_1607 => decide)
      with_reducible refine' mth_cell0 m_id ?_
      (with_reducible refine' cl_id ?r_1634 ?_); (case r_1634 => (refine Cx.Room.le (by assumption) ?_; decide))
      (with_reducible refine' ev_name ?x_1635 ?p_1635 ?_ ?d_1635); (case x_1635 => rfl); (case p_1635 => rfl); (case d_1635 => decide)
      (with_reducible refine' op_shr ?n_1636 ?_); (case n_1636 => first | decide | omega)
      (with_reducible refine' ev_name ?x_1637 ?p_1637 ?_ ?d_1637); (case x_1637 => rfl); (case p_1637 => rfl); (case d_1637 => decide)
      with_reducible refine' op_sub ?_
      (with_reducible refine' ev_name ?x_1639 ?p_1639 ?_ ?d_1639); (case x_1639 => rfl); (case p_1639 => rfl); (case d_1639 => decide)
      have many := many_p L
      have hAfit := hPA.1
      have hEfit : E < 6 * 4 ^ L := by have := (nbr_fit L A ta hPA.1 hPA.2.1).1; rw [hAE] at this; exact this
      have lA := fr_lft hPA.2.2
      have hap := apart_free hPA.1 hPA.2.1 lA.1 lA.2.1
      rw [hAE] at hap
      dsimp only at hap
      refine op_mod (by omega) ?_
      rw [shr_down (by omega), shr_down (by omega), mod_ahead hAfit]
      obtain ⟨d, hd⟩ : ∃ d, ahead L A E = d := ⟨_, rfl⟩
      rw [hd] at hap ⊢
      with_reducible refine seq_nxt ?_
      with_reducible refine ex_cons ?_
      with_reducible refine' ex_if_no ?_ ?_
      with_reducible refine' evt_or ?_
      (with_reducible refine' evt_Compare ?_ ?m_1654); (case m_1654 => with_unfolding_all rfl)
      (with_reducible refine' ev_name ?x_1655 ?p_1655 ?_ ?d_1655); (case x_1655 => rfl); (case p_1655 => rfl); (case d_1655 => decide)
      with_reducible refine' ev_int ?_
      with_reducible refine' op_lt ?_
      with_reducible refine' opt_bool ?_
      refine ite_f (dec_ff (by omega)) ?_
      with_reducible refine' evt_or ?_
      (with_reducible refine' evt_Compare ?_ ?m_1672); (case m_1672 => with_unfolding_all rfl)
      (with_reducible refine' ev_name ?x_1673 ?p_1673 ?_ ?d_1673); (case x_1673 => rfl); (case p_1673 => rfl); (case d_1673 => decide)
      with_reducible refine' ev_BinOp ?_
      (with_reducible refine' ev_name ?x_1675 ?p_1675 ?_ ?d_1675); (case x_1675 => rfl); (case p_1675 => rfl); (case d_1675 => decide)
      with_reducible refine' ev_int ?_
      with_reducible refine' op_sub ?_
      with_reducible refine' op_gt ?_
      with_reducible refine' opt_bool ?_
      refine ite_f (dec_ff (by omega)) ?_
      with_reducible refine' evt_or_nil ?_
      exact rfl
      with_reducible refine seq_nxt ?_
      with_reducible refine ex_cons ?_
      (with_reducible refine' ex_assign ?_ ?k_1697 ?l_1697 ?s_1697); (case k_1697 => rfl); (case l_1697 => rfl); (case s_1697 => rfl)
      with_reducible refine' ev_BinOp ?_
      with_reducible refine' ev_Subscript ?_
      (with_reducible refine' ev_name ?x_1700 ?p_1700 ?_ ?d_1700); (case x_1700 => rfl); (case p_1700 => rfl); (case d_1700 => decide)
      with_reducible refine' ev_int ?_
      (with_reducible refine' op_item_lst ?a_1704 ?b_1704 ?x_1704 ?_ ?s_1704); (case a_1704 => decide); (case b_1704 => decide); (case x_1704 => rfl); (case s_1704 => intros; with_unfolding_all rfl)
      with_reducible refine' ev_int ?_
      (with_reducible refine' op_fdiv ?n_1706 ?m_1706 ?_); (case n_1706 => decide); (case m_1706 => decide)
      with_reducible refine seq_nxt ?_
      with_reducible refine ex_cons ?_
      have ed1 : ((d : Nat) : Int) - 1 = ((d - 1 : Nat) : Int) := by omega
      obtain ⟨r1, hr1, e1⟩ := fmod_fit ((a4.fdiv 3) * 11400714819323198485) (d - 1) (by omega)
      obtain ⟨r2, hr2, e2⟩ := fmod_fit (a4.fdiv 3) (d - 1) (by omega)
      obtain ⟨n, hn0, hn1, hn2⟩ : ∃ n : Nat, (a4.fmod 3 = 0 → n = 1 + r1) ∧ (¬a4.fmod 3 = 0 → a4.fmod 3 = 1 → n = 1 + r2) ∧ (¬a4.fmod 3 = 0 → ¬a4.fmod 3 = 1 → n = d - 1 - r2) := by
        by_cases c0 : a4.fmod 3 = 0
        · exact ⟨1 + r1, fun _ => rfl, fun h => absurd c0 h, fun h => absurd c0 h⟩
        · by_cases c1 : a4.fmod 3 = 1
          · exact ⟨1 + r2, fun h => absurd h c0, fun _ _ => rfl, fun _ h => absurd c1 h⟩
          · exact ⟨d - 1 - r2, fun h => absurd h c0, fun _ h => absurd h c1, fun _ _ => rfl⟩
      refine ex_if_set "steps" (.int (n : Int)) ?_ ?_
      · refine ex_if ?_
        (with_reducible refine' evt_Compare ?_ ?m_1727); (case m_1727 => with_unfolding_all rfl)
        with_reducible refine' ev_BinOp ?_
        with_reducible refine' ev_Subscript ?_
        (with_reducible refine' ev_name ?x_1730 ?p_1730 ?_ ?d_1730); (case x_1730 => rfl); (case p_1730 => rfl); (case d_1730 => decide)
        with_reducible refine' ev_int ?_
        (with_reducible refine' op_item_lst ?a_1734 ?b_1734 ?x_1734 ?_ ?s_1734); (case a_1734 => decide); (case b_1734 => decide); (case x_1734 => rfl); (case s_1734 => intros; with_unfolding_all rfl)
        with_reducible refine' ev_int ?_
        (with_reducible refine' op_mod ?n_1736 ?_); (case n_1736 => decide)
        with_reducible refine' ev_int ?_
        with_reducible refine' op_eq ?_
        with_reducible refine' opt_bool ?_
        by_cases c0 : a4.fmod 3 = 0
        · refine ite_t (beq_iff_eq.mpr c0) ?_
          with_reducible refine ex_cons ?_
          (with_reducible refine' ex_assign ?_ ?k_1751 ?l_1751 ?s_1751); (case k_1751 => rfl); (case l_1751 => rfl); (case s_1751 => rfl)
          with_reducible refine' ev_BinOp ?_
          with_reducible refine' ev_int ?_
          with_reducible refine' ev_BinOp ?_
          with_reducible refine' ev_BinOp ?_
          (with_reducible refine' ev_name ?x_1756 ?p_1756 ?_ ?d_1756); (case x_1756 => rfl); (case p_1756 => rfl); (case d_1756 => decide)
          with_reducible refine' ev_int ?_
          (with_reducible refine' op_mul ?m_1759 ?_); (case m_1759 => first | exact mul_ok_l (by decide) | exact mul_ok_r (by decide))
          with_reducible refine' ev_BinOp ?_
          (with_reducible refine' ev_name ?x_1761 ?p_1761 ?_ ?d_1761); (case x_1761 => rfl); (case p_1761 => rfl); (case d_1761 => decide)
          with_reducible refine' ev_int ?_
          with_reducible refine' op_sub ?_
          refine op_mod (by omega) ?_
          rw [ed1, e1]
          with_reducible refine' op_add ?_
          with_reducible refine seq_nxt ?_
          with_reducible refine ex_nil ?_
          refine ⟨rfl, ?_⟩
          rw [hn0 c0, Int.natCast_add]
          exact fun _ _ h => h
        · refine ite_f (beq_eq_false_iff_ne.mpr c0) ?_
          with_reducible refine ex_cons ?_
          with_reducible refine' ex_if ?_
          (with_reducible refine' evt_Compare ?_ ?m_1784); (case m_1784 => with_unfolding_all rfl)
          with_reducible refine' ev_BinOp ?_
          with_reducible refine' ev_Subscript ?_
          (with_reducible refine' ev_name ?x_1787 ?p_1787 ?_ ?d_1787); (case x_1787 => rfl); (case p_1787 => rfl); (case d_1787 => decide)
          with_reducible refine' ev_int ?_
          (with_reducible refine' op_item_lst ?a_1791 ?b_1791 ?x_1791 ?_ ?s_1791); (case a_1791 => decide); (case b_1791 => decide); (case x_1791 => rfl); (case s_1791 => intros; with_unfolding_all rfl)
          with_reducible refine' ev_int ?_
          (with_reducible refine' op_mod ?n_1793 ?_); (case n_1793 => decide)
          with_reducible refine' ev_int ?_
          with_reducible refine' op_eq ?_
          with_reducible refine' opt_bool ?_
          by_cases c1 : a4.fmod 3 = 1
          · refine ite_t (beq_iff_eq.mpr c1) ?_
            with_reducible refine ex_cons ?_
            (with_reducible refine' ex_assign ?_ ?k_1808 ?l_1808 ?s_1808); (case k_1808 => rfl); (case l_1808 => rfl); (case s_1808 => rfl)
            with_reducible refine' ev_BinOp ?_
            with_reducible refine' ev_int ?_
            with_reducible refine' ev_BinOp ?_
            (with_reducible refine' ev_name ?x_1812 ?p_1812 ?_ ?d_1812); (case x_1812 => rfl); (case p_1812 => rfl); (case d_1812 => decide)
            with_reducible refine' ev_BinOp ?_
            (with_reducible refine' ev_name ?x_1814 ?p_1814 ?_ ?d_1814); (case x_1814 => rfl); (case p_1814 => rfl); (case d_1814 => decide)
            with_reducible refine' ev_int ?_
            with_reducible refine' op_sub ?_
            refine op_mod (by omega) ?_
            rw [ed1, e2]
            with_reducible refine' op_add ?_
            with_reducible refine seq_nxt ?_
            with_reducible refine ex_nil ?_
            with_reducible refine seq_nxt ?_
            with_reducible refine ex_nil ?_
            refine ⟨rfl, ?_⟩
            rw [hn1 c0 c1, Int.natCast_add]
            exact fun _ _ h => h
          · refine ite_f (beq_eq_false_iff_ne.mpr c1) ?_
            with_reducible refine ex_cons ?_
            (with_reducible refine' ex_assign ?_ ?k_1837 ?l_1837 ?s_1837); (case k_1837 => rfl); (case l_1837 => rfl); (case s_1837 => rfl)
            with_reducible refine' ev_BinOp ?_
            with_reducible refine' ev_BinOp ?_
            (with_reducible refine' ev_name ?x_1840 ?p_1840 ?_ ?d_1840); (case x_1840 => rfl); (case p_1840 => rfl); (case d_1840 => decide)
            with_reducible refine' ev_int ?_
            with_reducible refine' op_sub ?_
            with_reducible refine' ev_BinOp ?_
            (with_reducible refine' ev_name ?x_1844 ?p_1844 ?_ ?d_1844); (case x_1844 => rfl); (case p_1844 => rfl); (case d_1844 => decide)
            with_reducible refine' ev_BinOp ?_
            (with_reducible refine' ev_name ?x_1846 ?p_1846 ?_ ?d_1846); (case x_1846 => rfl); (case p_1846 => rfl); (case d_1846 => decide)
            with_reducible refine' ev_int ?_
            with_reducible refine' op_sub ?_
            refine op_mod (by omega) ?_
            rw [ed1, e2]
            with_reducible refine' op_sub ?_
            with_reducible refine seq_nxt ?_
            with_reducible refine ex_nil ?_
            with_reducible refine seq_nxt ?_
            with_reducible refine ex_nil ?_
            refine ⟨rfl, ?_⟩
            rw [hn2 c0 c1, show ((d - 1 - r2 : Nat) : Int) = ((d - 1 : Nat) : Int) - (r2 : Int) by omega]
            exact fun _ _ h => h
      have hn : 1 ≤ n ∧ n < d := by
        by_cases c0 : a4.fmod 3 = 0
        · have := hn0 c0; omega
        · by_cases c1 : a4.fmod 3 = 1
          · have := hn1 c0 c1; omega
          · have := hn2 c0 c1; omega
      with_reducible refine seq_nxt ?_
      with_reducible refine ex_cons ?_
      (with_reducible refine' ex_assign ?_ ?k_1868 ?l_1868 ?s_1868); (case k_1868 => rfl); (case l_1868 => rfl); (case s_1868 => rfl)
      (with_reducible refine' ev_Method (pl := _) ?_ ?h_1869); (case h_1869 => with_unfolding_all rfl)
      (with_reducible refine' ev_name ?x_1870 ?p_1870 ?_ ?d_1870); (case x_1870 => rfl); (case p_1870 => rfl); (case d_1870 => decide)
      (with_reducible refine' mth_cell m_advance_wrap ?_ ?h_1872 ?p_1872); (case h_1872 => with_unfolding_all rfl); (case p_1872 => with_unfolding_all rfl)
      (with_reducible refine' evl_cons ?_ ?h_1874); (case h_1874 => with_unfolding_all rfl)
      (with_reducible refine' ev_name ?x_1875 ?p_1875 ?_ ?d_1875); (case x_1875 => rfl); (case p_1875 => rfl); (case d_1875 => decide)
      with_reducible refine' evl_nil ?_
      refine cl_advance_wrap (by (refine Cx.Room.le (by assumption) ?_; decide)) (by omega) hAfit (by omega) (by omega) ?_
      have hxs := ahead_step (L := L) (n := n) hAfit (by omega)
      have hX : (A + n) % (6 * 4 ^ L) < 6 * 4 ^ L := Nat.mod_lt _ (by omega)
      obtain ⟨X, eX⟩ : ∃ X, (A + n) % (6 * 4 ^ L) = X := ⟨_, rfl⟩
      rw [eX] at hxs hX ⊢
      with_reducible refine seq_nxt ?_
      with_reducible refine ex_cons ?_
      with_reducible refine' ex_if_no ?_ ?_
      with_reducible refine' evt_or ?_
      (with_reducible refine' evt_Compare ?_ ?m_1916); (case m_1916 => with_unfolding_all rfl)
      (with_reducible refine' ev_Method (pl := _) ?_ ?h_1917); (case h_1917 => with_unfolding_all rfl)
      (with_reducible refine' ev_name ?x_1918 ?p_1918 ?_ ?d_1918); (case x_1918 => rfl); (case p_1918 => rfl); (case d_1918 => decide)
      with_reducible refine' mth_cell0 m_level ?_
      (with_reducible refine' cl_level ?r_1938 ?l_1938 ?_); (case r_1938 => (refine Cx.Room.le (by assumption) ?_; decide)); (case l_1938 => (first | assumption | omega))
      (with_reducible refine' ev_name ?x_1939 ?p_1939 ?_ ?d_1939); (case x_1939 => rfl); (case p_1939 => rfl); (case d_1939 => decide)
      with_reducible refine' op_ne ?_
      with_reducible refine' opt_bool ?_
      with_reducible refine ite_f (bne_self_eq_false _) ?_
      with_reducible refine' evt_or ?_
      (with_reducible refine' evt_Compare ?_ ?m_1953); (case m_1953 => with_unfolding_all rfl)
      with_reducible refine' ev_BinOp ?_
      with_reducible refine' ev_BinOp ?_
      with_reducible refine' ev_BinOp ?_
      (with_reducible refine' ev_Method (pl := _) ?_ ?h_1957); (case h_1957 => with_unfolding_all rfl)
      (with_reducible refine' ev_name ?x_1958 ?p_1958 ?_ ?d_1958); (case x_1958 => rfl); (case p_1958 => rfl); (case d_1958 => decide)
      with_reducible refine' mth_cell0 m_id ?_
      (with_reducible refine' cl_id ?r_1985 ?_); (case r_1985 => (refine Cx.Room.le (by assumption) ?_; decide))
      (with_reducible refine' ev_name ?x_1986 ?p_1986 ?_ ?d_1986); (case x_1986 => rfl); (case p_1986 => rfl); (case d_1986 => decide)
      (with_reducible refine' op_shr ?n_1987 ?_); (case n_1987 => first | decide | omega)
      (with_reducible refine' ev_name ?x_1988 ?p_1988 ?_ ?d_1988); (case x_1988 => rfl); (case p_1988 => rfl); (case d_1988 => decide)
      with_reducible refine' op_sub ?_
      (with_reducible refine' ev_name ?x_1990 ?p_1990 ?_ ?d_1990); (case x_1990 => rfl); (case p_1990 => rfl); (case d_1990 => decide)
      refine op_mod (by omega) ?_
      rw [shr_down (by omega), mod_ahead hAfit, hxs]
      (with_reducible refine' ev_name ?x_1992 ?p_1992 ?_ ?d_1992); (case x_1992 => rfl); (case p_1992 => rfl); (case d_1992 => decide)
      with_reducible refine' op_ne ?_
      with_reducible refine' opt_bool ?_
      with_reducible refine ite_f (bne_self_eq_false _) ?_
      with_reducible refine' evt_or_nil ?_
      exact rfl
      with_reducible refine seq_nxt ?_
      with_reducible refine ex_cons ?_
      (with_reducible refine' ex_assign_c ?_ ?k_2012 ?l_2012 ?s_2012); (case k_2012 => rfl); (case l_2012 => rfl); (case s_2012 => rfl)
      (with_reducible refine' ev_Method (pl := _) ?_ ?h_2013); (case h_2013 => with_unfolding_all rfl)
      (with_reducible refine' ev_name ?x_2014 ?p_2014 ?_ ?d_2014); (case x_2014 => rfl); (case p_2014 => rfl); (case d_2014 => decide)
      with_reducible refine' mth_cell0 m_get_edge_neighbors ?_
      (with_reducible refine' cl_edges ?r_2019 ?l_2019 ?p_2019 ?_); (case r_2019 => (refine Cx.Room.le (by assumption) ?_; decide)); (case l_2019 => (first | assumption | omega)); (case p_2019 => (first | assumption | omega))
      with_reducible refine seq_nxt ?_
      with_reducible refine ex_cons ?_
      (with_reducible refine' ex_assign_c ?_ ?k_2029 ?l_2029 ?s_2029); (case k_2029 => rfl); (case l_2029 => rfl); (case s_2029 => rfl)
      (with_reducible refine' ev_Call ?_ ?h_2031); (case h_2031 => with_unfolding_all rfl)
      (with_reducible refine' ev_global g_law_ways ?k_2032 ?_ ?d_2032); (case k_2032 => rfl); (case d_2032 => decide)
      (with_reducible refine' cw_def kp_law_ways ?_ ?h_2033 ?p_2033); (case h_2033 => with_unfolding_all rfl); (case p_2033 => with_unfolding_all rfl)
      (with_reducible refine' evl_cons ?_ ?h_2035); (case h_2035 => with_unfolding_all rfl)
      (with_reducible refine' ev_name ?x_2036 ?p_2036 ?_ ?d_2036); (case x_2036 => rfl); (case p_2036 => rfl); (case d_2036 => decide)
      (with_reducible refine' evl_cons ?_ ?h_2038); (case h_2038 => with_unfolding_all rfl)
      (with_reducible refine' ev_name ?x_2039 ?p_2039 ?_ ?d_2039); (case x_2039 => rfl); (case p_2039 => rfl); (case d_2039 => decide)
      with_reducible refine' evl_nil ?_
      refine cl_law_ways (by (refine Cx.Room.le (by assumption) ?_; decide)) (by omega) hX ?_
      with_reducible refine seq_nxt ?_
      with_reducible refine ex_cons ?_
      with_reducible refine' ex_if_no ?_ ?_
      (with_reducible refine' evt_Compare ?_ ?m_2076); (case m_2076 => with_unfolding_all rfl)
      (with_reducible refine' ev_name ?x_2077 ?p_2077 ?_ ?d_2077); (case x_2077 => rfl); (case p_2077 => rfl); (case d_2077 => decide)
      with_reducible refine' ev_none ?_
      (with_reducible refine' op_is_none ?h_2098 ?_); (case h_2098 => intro u e; cases e)
      with_reducible refine' opt_bool ?_
      exact rfl
      with_reducible refine seq_nxt ?_
      with_reducible refine ex_cons ?_
      (with_reducible refine' ex_for ?_ ?t_2112 ?s_2112); (case t_2112 => intro _ _; rfl); (case s_2112 => intro _; rfl)
      (with_reducible refine' ev_Call ?_ ?h_2114); (case h_2114 => with_unfolding_all rfl)
      (with_reducible refine' ev_builtin n_range bb_range ?k_2115 ?_ ?n_2115 ?d_2115); (case k_2115 => rfl); (case n_2115 => decide); (case d_2115 => decide)
      (with_reducible refine' cw_type ?_ ?h_2119 ?p_2119); (case h_2119 => with_unfolding_all rfl); (case p_2119 => with_unfolding_all rfl)
      (with_reducible refine' evl_cons ?_ ?h_2121); (case h_2121 => with_unfolding_all rfl)
      with_reducible refine' ev_int ?_
      with_reducible refine' evl_nil ?_
      with_reducible refine' b_range1 ?_
      refine ⟨[.int 0, .int 1, .int 2, .int 3], .rng (n := 4) (by decide) (by decide) rfl, ?_⟩
      refine forL_list (fun i σ => SubL ([("ways", .tup [.int (cs L X : Nat), .int (gs L X : Nat)]), ("left", .bool (lft (cs L p) (gs L p) t)), ("beside", nb L X), ("level", .int (L : Int)), ("down", .int (61 - 2 * (L : Int))), ("begin", .int (A : Int)), ("many", .int ((6 * 4 ^ L : Nat) : Int)), ("apart", .int (d : Int)), ("cell", .cell (gid L p)), ("kept", .int (gid L p))] : Sg) σ) rfl rfl 4 ?_ _ 0 _ rfl ?_ ⟨rfl, rfl, rfl, rfl, rfl, rfl, rfl, rfl, rfl, rfl, trivial⟩
      · intro σ hS
        refine seq_nxt (ex_sub hS.get ?_)
        with_reducible refine ex_cons ?_
        with_reducible refine' ex_return ?_
        (with_reducible refine' ev_Compare ?_ ?m_2129); (case m_2129 => with_unfolding_all rfl)
        (with_reducible refine' ev_Method (pl := _) ?_ ?h_2130); (case h_2130 => with_unfolding_all rfl)
        (with_reducible refine' ev_name ?x_2131 ?p_2131 ?_ ?d_2131); (case x_2131 => rfl); (case p_2131 => rfl); (case d_2131 => decide)
        with_reducible refine' mth_cell0 m_id ?_
        (with_reducible refine' cl_id ?r_2158 ?_); (case r_2158 => (refine Cx.Room.le (by assumption) ?_; decide))
        (with_reducible refine' ev_name ?x_2159 ?p_2159 ?_ ?d_2159); (case x_2159 => rfl); (case p_2159 => rfl); (case d_2159 => decide)
        with_reducible refine' op_eq ?_
        with_reducible refine seq_ret ?_
        exact congrArg (fun b => Fl.ret (PV.bool b)) (beq_self_eq_true _)
      · intro i x σ hxe hS
        obtain ⟨u, hu, rfl⟩ := four_mem (List.mem_of_getElem? hxe)
        refine ex_sub (sub_upd hS.get) ?_
        have xc4 := cs_lt L X
        have xg4 := gs_lt L X
        refine ex_cons (ex_keep ?_ ?_)
        · refine ex_if ?_
          with_reducible refine' evt_and ?_
          (with_reducible refine' evt_Compare ?_ ?m_2175); (case m_2175 => with_unfolding_all rfl)
          (with_reducible refine' ev_name ?x_2176 ?p_2176 ?_ ?d_2176); (case x_2176 => rfl); (case p_2176 => rfl); (case d_2176 => decide)
          with_reducible refine' ev_Subscript ?_
          (with_reducible refine' ev_name ?x_2178 ?p_2178 ?_ ?d_2178); (case x_2178 => rfl); (case p_2178 => rfl); (case d_2178 => decide)
          with_reducible refine' ev_int ?_
          (with_reducible refine' op_item_tup ?a_2181 ?b_2181 ?j_2181 ?x_2181 ?_ ?s_2181); (case a_2181 => decide); (case b_2181 => decide); (case j_2181 => rfl); (case x_2181 => rfl); (case s_2181 => intros; with_unfolding_all rfl)
          with_reducible refine' op_ne ?_
          with_reducible refine' opt_bool ?_
          by_cases h1 : u = cs L X
          · refine ite_f (by simp [h1]) ?_
            (with_reducible refine' ite_f ?h_2191 ?_); (case h_2191 => decide)
            with_reducible refine ex_nil ?_
            exact ⟨rfl, rfl⟩
          · refine ite_t (by simp; omega) ?_
            with_reducible refine' evt_and ?_
            (with_reducible refine' evt_Compare ?_ ?m_2205); (case m_2205 => with_unfolding_all rfl)
            (with_reducible refine' ev_name ?x_2206 ?p_2206 ?_ ?d_2206); (case x_2206 => rfl); (case p_2206 => rfl); (case d_2206 => decide)
            with_reducible refine' ev_Subscript ?_
            (with_reducible refine' ev_name ?x_2208 ?p_2208 ?_ ?d_2208); (case x_2208 => rfl); (case p_2208 => rfl); (case d_2208 => decide)
            with_reducible refine' ev_int ?_
            (with_reducible refine' op_item_tup ?a_2211 ?b_2211 ?j_2211 ?x_2211 ?_ ?s_2211); (case a_2211 => decide); (case b_2211 => decide); (case j_2211 => rfl); (case x_2211 => rfl); (case s_2211 => intros; with_unfolding_all rfl)
            with_reducible refine' op_ne ?_
            with_reducible refine' opt_bool ?_
            by_cases h2 : u = gs L X
            · refine ite_f (by simp [h2]) ?_
              (with_reducible refine' ite_f ?h_2221 ?_); (case h_2221 => decide)
              with_reducible refine ex_nil ?_
              exact ⟨rfl, rfl⟩
            · refine ite_t (by simp; omega) ?_
              with_reducible refine' evt_and ?_
              (with_reducible refine' evt_Compare ?_ ?m_2235); (case m_2235 => with_unfolding_all rfl)
              (with_reducible refine' ev_Call ?_ ?h_2237); (case h_2237 => with_unfolding_all rfl)
              (with_reducible refine' ev_global g_law_left ?k_2238 ?_ ?d_2238); (case k_2238 => rfl); (case d_2238 => decide)
              (with_reducible refine' cw_def kp_law_left ?_ ?h_2239 ?p_2239); (case h_2239 => with_unfolding_all rfl); (case p_2239 => with_unfolding_all rfl)
              (with_reducible refine' evl_cons ?_ ?h_2241); (case h_2241 => with_unfolding_all rfl)
              (with_reducible refine' ev_name ?x_2242 ?p_2242 ?_ ?d_2242); (case x_2242 => rfl); (case p_2242 => rfl); (case d_2242 => decide)
              (with_reducible refine' evl_cons ?_ ?h_2244); (case h_2244 => with_unfolding_all rfl)
              (with_reducible refine' ev_name ?x_2245 ?p_2245 ?_ ?d_2245); (case x_2245 => rfl); (case p_2245 => rfl); (case d_2245 => decide)
              with_reducible refine' evl_nil ?_
              (with_reducible refine' cl_law_left ?r_2247 ?a_2247 ?b_2247 ?d_2247 ?_); (case r_2247 => (refine Cx.Room.le (by assumption) ?_; decide)); (case a_2247 => (first | assumption | omega)); (case b_2247 => (first | assumption | omega | exact cs_lt _ _)); (case d_2247 => (first | assumption | omega | exact gs_lt _ _))
              (with_reducible refine' ev_name ?x_2248 ?p_2248 ?_ ?d_2248); (case x_2248 => rfl); (case p_2248 => rfl); (case d_2248 => decide)
              refine op_eq_data (dx := .bool _) (dy := .bool _) (by (refine Cx.Room.le (by assumption) ?_; decide)) rfl rfl rfl rfl ?_
              with_reducible refine' opt_bool ?_
              by_cases h3 : lft (cs L X) (gs L X) u = lft (cs L p) (gs L p) t
              · refine ite_t (beq_iff_eq.mpr h3) ?_
                have hPX : Pr b L X u := ⟨hX, hu, by rw [hb, ← h3]; exact lft_fr h1 h2⟩
                have hs := shut hb2 hPA hPX (by rw [hxs]; exact hn.1) (by rw [hxs, hAE]; dsimp only; omega)
                rw [hAE] at hs
                dsimp only at hs
                rw [hd] at hs
                with_reducible refine' evt_and_nil ?_
                (with_reducible refine' ite_t ?h_2261 ?_); (case h_2261 => decide)
                with_reducible refine ex_cons ?_
                with_reducible refine' ex_if_no ?_ ?_
                with_reducible refine' evt_or ?_
                (with_reducible refine' evt_Compare ?_ ?m_2274); (case m_2274 => with_unfolding_all rfl)
                (with_reducible refine' ev_Method (pl := _) ?_ ?h_2275); (case h_2275 => with_unfolding_all rfl)
                with_reducible refine' ev_Subscript ?_
                (with_reducible refine' ev_name ?x_2277 ?p_2277 ?_ ?d_2277); (case x_2277 => rfl); (case p_2277 => rfl); (case d_2277 => decide)
                (with_reducible refine' ev_name ?x_2278 ?p_2278 ?_ ?d_2278); (case x_2278 => rfl); (case p_2278 => rfl); (case d_2278 => decide)
                refine op_nb hu ?_
                with_reducible refine' mth_cell0 m_level ?_
                (with_reducible refine' cl_level ?r_2301 ?l_2301 ?_); (case r_2301 => (refine Cx.Room.le (by assumption) ?_; decide)); (case l_2301 => (first | assumption | omega))
                (with_reducible refine' ev_name ?x_2302 ?p_2302 ?_ ?d_2302); (case x_2302 => rfl); (case p_2302 => rfl); (case d_2302 => decide)
                with_reducible refine' op_ne ?_
                with_reducible refine' opt_bool ?_
                with_reducible refine ite_f (bne_self_eq_false _) ?_
                with_reducible refine' evt_or ?_
                (with_reducible refine' evt_Compare ?_ ?m_2316); (case m_2316 => with_unfolding_all rfl)
                with_reducible refine' ev_BinOp ?_
                with_reducible refine' ev_BinOp ?_
                with_reducible refine' ev_BinOp ?_
                (with_reducible refine' ev_Method (pl := _) ?_ ?h_2320); (case h_2320 => with_unfolding_all rfl)
                with_reducible refine' ev_Subscript ?_
                (with_reducible refine' ev_name ?x_2322 ?p_2322 ?_ ?d_2322); (case x_2322 => rfl); (case p_2322 => rfl); (case d_2322 => decide)
                (with_reducible refine' ev_name ?x_2323 ?p_2323 ?_ ?d_2323); (case x_2323 => rfl); (case p_2323 => rfl); (case d_2323 => decide)
                refine op_nb hu ?_
                with_reducible refine' mth_cell0 m_id ?_
                (with_reducible refine' cl_id ?r_2353 ?_); (case r_2353 => (refine Cx.Room.le (by assumption) ?_; decide))
                (with_reducible refine' ev_name ?x_2354 ?p_2354 ?_ ?d_2354); (case x_2354 => rfl); (case p_2354 => rfl); (case d_2354 => decide)
                (with_reducible refine' op_shr ?n_2355 ?_); (case n_2355 => first | decide | omega)
                (with_reducible refine' ev_name ?x_2356 ?p_2356 ?_ ?d_2356); (case x_2356 => rfl); (case p_2356 => rfl); (case d_2356 => decide)
                with_reducible refine' op_sub ?_
                (with_reducible refine' ev_name ?x_2358 ?p_2358 ?_ ?d_2358); (case x_2358 => rfl); (case p_2358 => rfl); (case d_2358 => decide)
                refine op_mod (by omega) ?_
                rw [shr_down (by omega), mod_ahead hAfit]
                (with_reducible refine' ev_name ?x_2360 ?p_2360 ?_ ?d_2360); (case x_2360 => rfl); (case p_2360 => rfl); (case d_2360 => decide)
                with_reducible refine' op_gt ?_
                with_reducible refine' opt_bool ?_
                refine ite_f (dec_ff (by omega)) ?_
                with_reducible refine' evt_or_nil ?_
                exact rfl
                with_reducible refine seq_nxt ?_
                with_reducible refine ex_nil ?_
                exact ⟨rfl, rfl⟩
              · refine ite_f (beq_eq_false_iff_ne.mpr h3) ?_
                (with_reducible refine' ite_f ?h_2383 ?_); (case h_2383 => decide)
                with_reducible refine ex_nil ?_
                exact ⟨rfl, rfl⟩
        · with_reducible refine seq_nxt ?_
          with_reducible refine ex_nil ?_
          with_reducible refine for_nxt ?_
          exact ⟨rfl, rfl, rfl, rfl, rfl, rfl, rfl, rfl, rfl, rfl, trivial⟩
  · intro h' tk' m' F'
    exact goodW_bool F' (by assumption) (raisesW_false (by wrow_none_raised)) (by wrow_post))

end Mine
end Part47
theorem PySem.Challenge.cw_eg5039_04_holds : PySem.Challenge.rw_eg5039_04.Holds := by
  exact Mine.law04
