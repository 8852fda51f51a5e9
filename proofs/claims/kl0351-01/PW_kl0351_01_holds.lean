import PyProof.Rows.All
import Wide.All
import OpenK.AllK
import Wide.FinOn
import PySem.Challenge.RW_kl0351_01
open PySem PySem.W PyProof.Rows PySem.Calls PySem.Spec
set_option maxRecDepth 100000
set_option linter.unusedVariables false
set_option linter.unusedSimpArgs false
set_option Elab.async false
-- F1
namespace Mine

/-! ## plain data, and how a heap bears it -/

/-- a claim that is not to be unfolded -/
structure Hold (p : Prop) : Prop where
  out : p

inductive D where
  | none
  | bool (b : Bool)
  | int (i : Int)
  | str (x : Str)
  | byt (b : Array UInt8)
  | tup (ds : List D)
  | lst (ds : List D)
  | tab (kvs : List (Int × D))

/-- a part of a heap -/
noncomputable abbrev FH := Addr → Option Obj

noncomputable def Sub (a b : FH) : Prop := ∀ x o, a x = some o → b x = some o
theorem Sub.rfl {a : FH} : Sub a a := fun _ _ e => e
theorem Sub.trans {a b c : FH} (x : Sub a b) (y : Sub b c) : Sub a c := fun i o e => y i o (x i o e)

/-- the call's world: the program, the model's world, the state ahead of the law's call, the names of the top and of the built-ins -/
structure Wd where
  prog : Program
  w : World
  s0 : Shared
  mg : Str → Option Value
  mb : Str → Option Value

structure Wd.Ok (W : Wd) : Prop where
  g : W.s0.heap.Ns mainGlobals W.mg
  b : W.s0.heap.Ns builtinsNs W.mb
  lim : W.s0.heap.NoLimit
  blt : ∀ x : Str, x ≠ "__name__" → W.mb x = bootBuiltins x

noncomputable def SeqAt (h : FH) (T : String) (a : Addr) (vs : List Value) : Prop := ∃ o n, h a = some o ∧ o.cls = .type T ∧ o.dict = none ∧ o.data = .seq vs.toArray n
theorem SeqAt.mono {h h' : FH} {T : String} {a : Addr} {vs : List Value} (x : SeqAt h T a vs) (s : Sub h h') : SeqAt h' T a vs :=
  let ⟨o, n, e, r⟩ := x; ⟨o, n, s _ _ e, r⟩
theorem SeqAt.isList {h : Heap} {a : Addr} {vs : List Value} (x : SeqAt h.get? "list" a vs) : h.IsList a vs.toArray := let ⟨o, n, e, c, _, d⟩ := x; ⟨o, e, c, n, d⟩
theorem SeqAt.isTup {h : Heap} {a : Addr} {vs : List Value} (x : SeqAt h.get? "tuple" a vs) : IsTup h a vs.toArray := let ⟨o, n, e, c, _, d⟩ := x; ⟨o, e, c, n, d⟩
theorem SeqAt.isTuple {h : Heap} {a : Addr} {vs : List Value} (x : SeqAt h.get? "tuple" a vs) : h.IsTuple a vs.toArray := let ⟨o, n, e, c, _, d⟩ := x; ⟨o, e, c, n, d⟩
theorem SeqAt.plain {h : Heap} {a : Addr} {vs : List Value} (x : SeqAt h.get? "list" a vs) : PlainL h a vs.toArray := let ⟨o, n, e, c, z, d⟩ := x; ⟨o, n, e, c, z, d⟩
theorem SeqAt.inj {h : FH} {T T' : String} {a : Addr} {vs ws : List Value} (x : SeqAt h T a vs) (y : SeqAt h T' a ws) : vs = ws := by
  obtain ⟨o, n, e, _, _, d⟩ := x
  obtain ⟨o', n', e', _, _, d'⟩ := y
  rw [e] at e'; cases e'
  rw [d] at d'
  injection d' with d' _
  exact List.toArray_inj d'

noncomputable def TabAt (W : Wd) (h : FH) (a : Addr) (kvs : List (Int × Value)) : Prop :=
  ∃ o es ep, h a = some o ∧ o.ExactDict ∧ o.data = .dict es ep ∧ KeysOf (intKind W.prog W.w) es ∧ Pairs (intKind W.prog W.w) es.toList kvs ∧ (kvs.map (·.1)).Nodup
theorem TabAt.mono {W : Wd} {h h' : FH} {a : Addr} {kvs : List (Int × Value)} (x : TabAt W h a kvs) (s : Sub h h') : TabAt W h' a kvs :=
  let ⟨o, es, ep, e, r⟩ := x; ⟨o, es, ep, s _ _ e, r⟩

mutual
inductive Rep (W : Wd) (F : FH) : Value → D → Prop
  | none : Rep W F Value.none D.none
  | bool (b : Bool) : Rep W F (Value.bool b) (D.bool b)
  | int (i : Int) (t : Tok) : Rep W F (Value.int i t) (D.int i)
  | str (x : Str) (t : Tok) : Rep W F (Value.str x t) (D.str x)
  | byt (b : Array UInt8) (t : Tok) : Rep W F (Value.bytes b t) (D.byt b)
  | tup {a : Addr} {vs : List Value} {ds : List D} : SeqAt F "tuple" a vs → RepAll W F vs ds → Rep W F (Value.ref a) (D.tup ds)
  | lst {a : Addr} {vs : List Value} {ds : List D} : SeqAt F "list" a vs → RepAll W F vs ds → Rep W F (Value.ref a) (D.lst ds)
  | tab {a : Addr} {ks : List Int} {vs : List Value} {ds : List D} : TabAt W F a (ks.zip vs) → ks.length = ds.length → RepAll W F vs ds → Rep W F (Value.ref a) (D.tab (ks.zip ds))
inductive RepAll (W : Wd) (F : FH) : List Value → List D → Prop
  | nil : RepAll W F [] []
  | cons {v : Value} {vs : List Value} {d : D} {ds : List D} : Rep W F v d → RepAll W F vs ds → RepAll W F (v :: vs) (d :: ds)
end
mutual
theorem Rep.mono {W : Wd} {F F' : FH} (hs : Sub F F') : ∀ {v : Value} {d : D}, Rep W F v d → Rep W F' v d
  | _, _, .none => .none
  | _, _, .bool b => .bool b
  | _, _, .int i t => .int i t
  | _, _, .str x t => .str x t
  | _, _, .byt b t => .byt b t
  | _, _, .tup h r => .tup (h.mono hs) (RepAll.mono hs r)
  | _, _, .lst h r => .lst (h.mono hs) (RepAll.mono hs r)
  | _, _, .tab h l r => .tab (h.mono hs) l (RepAll.mono hs r)
theorem RepAll.mono {W : Wd} {F F' : FH} (hs : Sub F F') : ∀ {vs : List Value} {ds : List D}, RepAll W F vs ds → RepAll W F' vs ds
  | _, _, .nil => .nil
  | _, _, .cons h r => .cons (Rep.mono hs h) (RepAll.mono hs r)
end
section
variable {W : Wd} {F : FH} {v : Value} {d : D} {vs ws : List Value} {ds es : List D}
theorem RepAll.length (h : RepAll W F vs ds) : vs.length = ds.length := by
  induction vs generalizing ds with
  | nil => cases h; rfl
  | cons v vs ih =>
    cases h with
    | cons _ r => rw [List.length_cons, List.length_cons, ih r]
theorem RepAll.append (h : RepAll W F vs ds) (k : RepAll W F ws es) : RepAll W F (vs ++ ws) (ds ++ es) := by
  induction vs generalizing ds with
  | nil => cases h; exact k
  | cons v vs ih =>
    cases h with
    | cons h r => exact .cons h (ih r)
theorem RepAll.one (h : Rep W F v d) : RepAll W F [v] [d] := .cons h .nil
theorem RepAll.get (h : RepAll W F vs ds) {k : Nat} {d : D} (hk : ds[k]? = some d) : ∃ v, vs[k]? = some v ∧ Rep W F v d := by
  induction vs generalizing ds k with
  | nil => cases h; cases hk
  | cons v vs ih =>
    cases h with
    | cons h r =>
      cases k with
      | zero => cases hk; exact ⟨v, rfl, h⟩
      | succ k => exact ih r hk
theorem RepAll.get' (h : RepAll W F vs ds) {k : Nat} {v : Value} (hk : vs[k]? = some v) : ∃ d, ds[k]? = some d ∧ Rep W F v d := by
  induction vs generalizing ds k with
  | nil => cases hk
  | cons v vs ih =>
    cases h with
    | cons h r =>
      cases k with
      | zero => cases hk; exact ⟨_, rfl, h⟩
      | succ k => exact ih r hk
end

/-! ## what an evaluation may do: new objects, some of them fixed for good -/

structure Adv (s : Shared) (F : FH) (s' : Shared) (F' : FH) : Prop where
  same : ∃ h tk, s' = { s with heap := h, toks := tk }
  ext : Sub s.heap.get? s'.heap.get?
  sub : Sub F F'
  new : ∀ a o, F' a = some o → F a = some o ∨ s.heap.get? a = none
  sup : Sub F' s'.heap.get?

theorem Adv.refl {s : Shared} {F : FH} (h : Sub F s.heap.get?) : Adv s F s F := ⟨⟨_, _, rfl⟩, Sub.rfl, Sub.rfl, fun _ _ e => .inl e, h⟩
theorem Adv.trans {s s' s'' : Shared} {F F' F'' : FH} (x : Adv s F s' F') (y : Adv s' F' s'' F'') : Adv s F s'' F'' where
  same := by
    obtain ⟨h, tk, rfl⟩ := x.same
    obtain ⟨h', tk', rfl⟩ := y.same
    exact ⟨h', tk', rfl⟩
  ext := x.ext.trans y.ext
  sub := x.sub.trans y.sub
  new := fun a o e => by
    rcases y.new a o e with e | e
    · exact x.new a o e
    · right
      cases h : s.heap.get? a with
      | none => rfl
      | some o' => rw [x.ext a o' h] at e; cases e
  sup := y.sup

/-- only the tokens' count moves -/
theorem Adv.tok {s : Shared} {F : FH} (h : Sub F s.heap.get?) (n : Nat) : Adv s F { s with toks := n } F := ⟨⟨_, _, rfl⟩, Sub.rfl, Sub.rfl, fun _ _ e => .inl e, h⟩
/-- the heap grows, nothing new is fixed -/
theorem Adv.grow {s : Shared} {F : FH} {h' : Heap} {n : Nat} (h : Sub F s.heap.get?) (e : Sub s.heap.get? h'.get?) : Adv s F { s with heap := h', toks := n } F := ⟨⟨_, _, rfl⟩, e, Sub.rfl, fun _ _ e => .inl e, h.trans e⟩
/-- what is new is fixed -/
noncomputable def fixed (F : FH) (s : Shared) (h' : Heap) : FH := fun a => match F a with
  | some o => some o
  | none => match s.heap.get? a with
    | some _ => none
    | none => h'.get? a
theorem Adv.fix {s : Shared} {F : FH} {h' : Heap} {n : Nat} (h : Sub F s.heap.get?) (e : Sub s.heap.get? h'.get?) : Adv s F { s with heap := h', toks := n } (fixed F s h') where
  same := ⟨_, _, rfl⟩
  ext := e
  sub := fun a o x => by unfold fixed; rw [x]
  new := fun a o x => by
    unfold fixed at x
    cases hF : F a with
    | some o' => rw [hF] at x; exact .inl x
    | none =>
      rw [hF] at x
      cases hs : s.heap.get? a with
      | some o' => rw [hs] at x; cases x
      | none => exact .inr rfl
  sup := fun a o x => by
    unfold fixed at x
    cases hF : F a with
    | some o' => rw [hF] at x; cases x; exact e _ _ (h _ _ hF)
    | none =>
      rw [hF] at x
      cases hs : s.heap.get? a with
      | some o' => rw [hs] at x; cases x
      | none => rw [hs] at x; exact x
theorem fixed_new {s : Shared} {F : FH} {h' : Heap} {a : Addr} {o : Obj} (h : Sub F s.heap.get?) (hn : s.heap.get? a = none) (e : h'.get? a = some o) : fixed F s h' a = some o := by
  unfold fixed
  cases hF : F a with
  | some o' => rw [h _ _ hF] at hn; cases hn
  | none => rw [hn]; exact e
theorem get_size_none (h : Heap) : h.get? h.objs.size = none := by
  cases e : h.get? h.objs.size with
  | none => rfl
  | some o => exact absurd (Heap.lt_size e) (Nat.lt_irrefl _)
theorem sub_push (h : Heap) (o : Obj) : Sub h.get? (h.push o).get? := fun _ _ e => Heap.get?_push_of_some _ e

/-! ## variables, frames -/

inductive Ent where
  | v (d : D)
  | own (ds : List D)
  | bor (ds : List D)
  | own2 (ds es : List D)
noncomputable abbrev Vars := List (Str × Ent)

/-- a list made by a display, nothing else about it -/
noncomputable def OwnAt (h : FH) (a : Addr) (vs : List Value) : Prop := ∃ n, h a = some { cls := .type "list", data := .seq vs.toArray n }
theorem OwnAt.mono {h h' : FH} {a : Addr} {vs : List Value} (x : OwnAt h a vs) (s : Sub h h') : OwnAt h' a vs := let ⟨n, e⟩ := x; ⟨n, s _ _ e⟩
theorem OwnAt.seq {h : FH} {a : Addr} {vs : List Value} (x : OwnAt h a vs) : SeqAt h "list" a vs := let ⟨n, e⟩ := x; ⟨_, n, e, rfl, rfl, rfl⟩
theorem OwnAt.some {h : FH} {a : Addr} {vs : List Value} (x : OwnAt h a vs) : ∃ o, h a = some o := let ⟨n, e⟩ := x; ⟨_, e⟩

inductive ERep (W : Wd) (K F h : FH) : Ent → Value → List Addr → Prop
  | v {d : D} {x : Value} : Rep W F x d → ERep W K F h (.v d) x []
  | own {a : Addr} {vs : List Value} {ds : List D} : F a = none → K a = none → OwnAt h a vs → RepAll W F vs ds → ERep W K F h (.own ds) (.ref a) [a]
  | bor {a : Addr} {vs : List Value} {ds : List D} : SeqAt K "list" a vs → RepAll W F vs ds → ERep W K F h (.bor ds) (.ref a) []
  | own2 {a b : Addr} {vs ws : List Value} {ds es : List D} : a ≠ b → F a = none → K a = none → F b = none → K b = none → OwnAt h a (vs ++ [.ref b]) → RepAll W F vs ds → OwnAt h b ws → RepAll W F ws es →
      ERep W K F h (.own2 ds es) (.ref a) [a, b]

/-- the names of a frame's scope; which cells are its own -/
structure Sc where
  names : List (Str × NameKind)
  wr : Str → Bool

noncomputable def At (env : Env) (m : Str → Option Value) (h : Heap) (x : Str) (v : Value) : Prop :=
  (env.kindOf x = some .local ∧ m x = some v) ∨ (env.kindOf x = some .cell ∧ ∃ c, env.cells.lookup x = some c ∧ h.IsCell c (some v))

structure StX (W : Wd) (sc : Sc) (env : Env) (K F : FH) (ρ : Vars) (s : Shared) (X : List Addr) : Prop where
  kind : env.scope.kind = .function
  names : env.scope.names = sc.names
  glob : env.globals = mainGlobals
  blt : env.builtins = builtinsNs
  inj : ∀ x y c, env.cells.lookup x = some c → env.cells.lookup y = some c → x = y
  wr : ∀ x c, sc.wr x = true → env.cells.lookup x = some c → K c = none
  has : ∀ x, env.kindOf x = some .cell → ∃ c, env.cells.lookup x = some c
  same : ∃ h tk, s = { W.s0 with heap := h, toks := tk }
  base : Sub W.s0.heap.get? K
  keep : Sub K s.heap.get?
  froz : Sub F s.heap.get?
  offL : F env.locals = none ∧ K env.locals = none
  offC : ∀ x c, env.cells.lookup x = some c → F c = none ∧ ∃ v, s.heap.IsCell c v
  vars : ∃ (m : Str → Option Value) (val : Str → Value) (fp : Str → List Addr), s.heap.Ns env.locals m ∧
    (∀ x e, ρ.lookup x = some e → At env m s.heap x (val x) ∧ ERep W K F s.heap.get? e (val x) (fp x)) ∧ (∀ x y b, b ∈ fp x → b ∈ fp y → x = y) ∧ (∀ x b, b ∈ fp x → b ∉ X)
/-- X: the lists that no name owns yet -/
noncomputable abbrev St (W : Wd) (sc : Sc) (env : Env) (K F : FH) (ρ : Vars) (s : Shared) : Prop := StX W sc env K F ρ s []

theorem ns_some {h : Heap} {a : Addr} {m : Str → Option Value} (n : h.Ns a m) : ∃ o es ep, h.get? a = some o ∧ o.data = .dict es ep := let ⟨o, es, ep, e, d, _⟩ := n; ⟨o, es, ep, e, d⟩

section
variable {W : Wd} {sc : Sc} {env : Env} {K F F' : FH} {ρ : Vars} {s s' : Shared}

theorem Adv.off (a : Adv s F s' F') {x : Addr} {o : Obj} (hF : F x = none) (hs : s.heap.get? x = some o) : F' x = none := by
  cases e : F' x with
  | none => rfl
  | some o' =>
    rcases a.new x o' e with q | q
    · rw [hF] at q; cases q
    · rw [hs] at q; cases q

theorem SeqAt.some {h : FH} {T : String} {a : Addr} {vs : List Value} (x : SeqAt h T a vs) : ∃ o, h a = some o := let ⟨o, _, e, _⟩ := x; ⟨o, e⟩

theorem ERep.adv {e : Ent} {v : Value} {fp : List Addr} (a : Adv s F s' F') (x : ERep W K F s.heap.get? e v fp) : ERep W K F' s'.heap.get? e v fp := by
  cases x with
  | v r => exact .v (r.mono a.sub)
  | own f k q r => obtain ⟨o, ho⟩ := q.some; exact .own (a.off f ho) k (q.mono a.ext) (r.mono a.sub)
  | bor q r => exact .bor q (r.mono a.sub)
  | own2 hn f k f2 k2 q r q2 r2 =>
    obtain ⟨o, ho⟩ := q.some
    obtain ⟨o2, ho2⟩ := q2.some
    exact .own2 hn (a.off f ho) k (a.off f2 ho2) k2 (q.mono a.ext) (r.mono a.sub) (q2.mono a.ext) (r2.mono a.sub)

theorem At.ext {m : Str → Option Value} {h h' : Heap} {x : Str} {v : Value} (e : Sub h.get? h'.get?) (a : At env m h x v) : At env m h' x v := by
  rcases a with a | ⟨k, c, l, q⟩
  · exact .inl a
  · exact .inr ⟨k, c, l, q.keeps e⟩

theorem St.adv (S : St W sc env K F ρ s) (a : Adv s F s' F') : St W sc env K F' ρ s' where
  kind := S.kind
  names := S.names
  glob := S.glob
  blt := S.blt
  inj := S.inj
  wr := S.wr
  has := S.has
  same := by
    obtain ⟨h, tk, e⟩ := S.same
    obtain ⟨h', tk', e'⟩ := a.same
    exact ⟨h', tk', by rw [e', e]⟩
  base := S.base
  keep := S.keep.trans a.ext
  froz := a.sup
  offL := by
    obtain ⟨m, val, fp, n, _⟩ := S.vars
    obtain ⟨o, _, _, e, _⟩ := ns_some n
    exact ⟨a.off S.offL.1 e, S.offL.2⟩
  offC := fun x c hc => by
    obtain ⟨hF, v, o, ho, hd⟩ := S.offC x c hc
    exact ⟨a.off hF ho, v, o, a.ext _ _ ho, hd⟩
  vars := by
    obtain ⟨m, val, fp, n, v, p⟩ := S.vars
    exact ⟨m, val, fp, n.keeps a.ext, fun x e hx => ⟨(v x e hx).1.ext a.ext, (v x e hx).2.adv a⟩, p⟩

/-- fewer variables are told of -/
theorem St.weaken {ρ' : Vars} (S : St W sc env K F ρ s) (h : ∀ p ∈ ρ', ρ.lookup p.1 = some p.2) : St W sc env K F ρ' s where
  kind := S.kind
  names := S.names
  glob := S.glob
  blt := S.blt
  inj := S.inj
  wr := S.wr
  has := S.has
  same := S.same
  base := S.base
  keep := S.keep
  froz := S.froz
  offL := S.offL
  offC := S.offC
  vars := by
    obtain ⟨m, val, fp, n, v, p⟩ := S.vars
    exact ⟨m, val, fp, n, fun x e hx => v x e (h _ (mem_of_lookup hx)), p⟩

theorem St.room0 (S : St W sc env K F ρ s) : Adv s F s F := Adv.refl S.froz
end

/-- room to call, and no exception in hand -/
structure Room (k : Nat) (A : Around) : Prop where
  hh : A.handled = none
  dep : A.depth + k < 900
  uni : A.units + 10 * k < 9000

theorem Room.mono {k j : Nat} {A : Around} (r : Room k A) (h : j ≤ k) : Room j A := ⟨r.hh, by have := r.dep; omega, by have := r.uni; omega⟩

/-! ## evaluation as a relation over plain data -/

/-- e is worth d: evaluated, it gives a value that bears d for good -/
noncomputable def Evals (W : Wd) (sc : Sc) (k : Nat) (e : Expr) (ρ : Vars) (d : D) : Prop := Hold <|
  ∀ env A K F s Q E, Room k A → St W sc env K F ρ s → (∀ F' s' v, Adv s F s' F' → Rep W F' v d → Q v s') → wpAny (model W.prog W.w) A (eval e env) Q E s

/-- v bears d now (a list may change later) -/
inductive Rd (W : Wd) (F h : FH) : Value → D → Prop
  | rep {v : Value} {d : D} : Rep W F v d → (∀ ds, d ≠ .lst ds) → Rd W F h v d
  | lst {a : Addr} {vs : List Value} {ds : List D} : SeqAt h "list" a vs → RepAll W F vs ds → Rd W F h (.ref a) (.lst ds)
theorem Rd.of {W : Wd} {F h : FH} {v : Value} {d : D} (r : Rep W F v d) (hs : Sub F h) : Rd W F h v d := by
  cases r with
  | lst q r => exact .lst (q.mono hs) r
  | _ => exact .rep (by constructor <;> assumption) (by intro ds e; cases e)
theorem Rd.adv {W : Wd} {s s' : Shared} {F F' : FH} {v : Value} {d : D} (a : Adv s F s' F') (r : Rd W F s.heap.get? v d) : Rd W F' s'.heap.get? v d := by
  cases r with
  | rep r n => exact .rep (r.mono a.sub) n
  | lst q r => exact .lst (q.mono a.ext) (r.mono a.sub)

/-- e is readable as d -/
noncomputable def EvR (W : Wd) (sc : Sc) (k : Nat) (e : Expr) (ρ : Vars) (d : D) : Prop := Hold <|
  ∀ env A K F s Q E, Room k A → St W sc env K F ρ s → (∀ F' s' v, Adv s F s' F' → Rd W F' s'.heap.get? v d → Q v s') → wpAny (model W.prog W.w) A (eval e env) Q E s

/-- a test -/
noncomputable def Tests (W : Wd) (sc : Sc) (k : Nat) (e : Expr) (ρ : Vars) (b : Bool) : Prop := Hold <|
  ∀ env A K F s Q E, Room k A → St W sc env K F ρ s → (∀ F' s', Adv s F s' F' → Q b s') → wpAny (model W.prog W.w) A (isTrue e env (eval e env)) Q E s

theorem EvR.of {W : Wd} {sc : Sc} {k : Nat} {e : Expr} {ρ : Vars} {d : D} (h : Evals W sc k e ρ d) : EvR W sc k e ρ d :=
  Hold.mk fun env A K F s Q E r S q => h.out env A K F s Q E r S fun F' s' v a x => q F' s' v a (.of x a.sup)

end Mine

-- F2
namespace Mine

section
variable {W : Wd} {sc : Sc} {env : Env} {K F F' : FH} {ρ : Vars} {s s' : Shared} {k : Nat}

/-! ## names -/

theorem St.read (S : St W sc env K F ρ s) {x : Str} {e : Ent} (hx : ρ.lookup x = some e) {M : Model} {A : Around} {Q : Value → Shared → Prop} {E : Value → Shared → Prop}
    (h : ∀ v fp, ERep W K F s.heap.get? e v fp → Q v s) : wpAny M A (loadName env x) Q E s := by
  obtain ⟨m, val, fp, n, v, _⟩ := S.vars
  obtain ⟨a, r⟩ := v x e hx
  rcases a with ⟨k1, k2⟩ | ⟨k1, c, k2, k3⟩
  · exact wpAny_loadName_local S.kind k1 n k2 (h _ _ r)
  · exact wpAny_loadName_cell S.kind k1 k2 k3 (h _ _ r)

theorem ev_name {x : Str} {pos : Pos} {d : D} (hx : ρ.lookup x = some (.v d)) (hd : (x == ("__debug__" : Str)) = false := by decide) : Evals W sc k (.Name x pos) ρ d := by
  refine ⟨?_⟩; intro env A K F s Q E r S q
  refine wpAny_Name (S.read hx fun v fp e => ?_) hd
  cases e with
  | v r => exact q F s _ S.room0 r

theorem evr_name {x : Str} {pos : Pos} {d : D} (hx : ρ.lookup x = some (.v d)) (hd : (x == ("__debug__" : Str)) = false := by decide) : EvR W sc k (.Name x pos) ρ d := .of (ev_name hx hd)
theorem evr_own {x : Str} {pos : Pos} {ds : List D} (hx : ρ.lookup x = some (.own ds)) (hd : (x == ("__debug__" : Str)) = false := by decide) : EvR W sc k (.Name x pos) ρ (.lst ds) := by
  refine ⟨?_⟩; intro env A K F s Q E r S q
  refine wpAny_Name (S.read hx fun v fp e => ?_) hd
  cases e with
  | own _ _ q' r => exact q F s _ S.room0 (.lst q'.seq r)
theorem evr_bor {x : Str} {pos : Pos} {ds : List D} (hx : ρ.lookup x = some (.bor ds)) (hd : (x == ("__debug__" : Str)) = false := by decide) : EvR W sc k (.Name x pos) ρ (.lst ds) := by
  refine ⟨?_⟩; intro env A K F s Q E r S q
  refine wpAny_Name (S.read hx fun v fp e => ?_) hd
  cases e with
  | bor q' r => exact q F s _ S.room0 (.lst (q'.mono S.keep) r)

/-! ## written values -/

theorem ev_int {i : Int} {n : Nat} {pos : Pos} : Evals W sc k (.Constant (.int i) n pos) ρ (.int i) :=
  Hold.mk fun _ _ _ _ s _ _ _ S q => wpAny_Constant_int (q _ _ _ (.tok S.froz _) (.int i s.toks))
theorem ev_str {x : Str} {n : Nat} {pos : Pos} : Evals W sc k (.Constant (.str x) n pos) ρ (.str x) :=
  Hold.mk fun _ _ _ _ s _ _ _ S q => wpAny_Constant_str (q _ _ _ (.tok S.froz _) (.str x s.toks))
theorem ev_byt {x : List UInt8} {n : Nat} {pos : Pos} : Evals W sc k (.Constant (.bytes x) n pos) ρ (.byt x.toArray) :=
  Hold.mk fun _ _ _ _ s _ _ _ S q => Constant_bytes (q _ _ _ (.tok S.froz _) (.byt x.toArray s.toks))
theorem ev_none {n : Nat} {pos : Pos} : Evals W sc k (.Constant .none n pos) ρ .none :=
  Hold.mk fun _ _ _ _ s _ _ _ S q => wpAny_Constant_none (q _ _ _ S.room0 .none)
theorem ev_bool {b : Bool} {n : Nat} {pos : Pos} : Evals W sc k (.Constant (.bool b) n pos) ρ (.bool b) :=
  Hold.mk fun _ _ _ _ s _ _ _ S q => wpAny_Constant_bool (q _ _ _ S.room0 (.bool b))

/-! ## names of the top -/

theorem St.top (S : St W sc env K F ρ s) : Sub W.s0.heap.get? s.heap.get? := S.base.trans S.keep

theorem St.glob' (S : St W sc env K F ρ s) (O : W.Ok) {x : Str} {v : Value} (hk : sc.names.lookup x = some .globalImplicit) (hx : W.mg x = some v) {M : Model} {A : Around} {Q : Value → Shared → Prop} {E : Value → Shared → Prop}
    (h : Q v s) : wpAny M A (loadName env x) Q E s :=
  ks_loadName_global S.kind (by show env.scope.names.lookup x = _; rw [S.names]; exact hk) (loadGlobal_global (by rw [S.glob]; exact O.g.keeps S.top) hx h)
theorem St.builtin (S : St W sc env K F ρ s) (O : W.Ok) {x : Str} {v : Value} (hk : sc.names.lookup x = some .globalImplicit) (hx : W.mg x = none) (hn : x ≠ "__name__") (hv : bootBuiltins x = some v) {M : Model} {A : Around} {Q : Value → Shared → Prop} {E : Value → Shared → Prop}
    (h : Q v s) : wpAny M A (loadName env x) Q E s :=
  ks_loadName_global S.kind (by show env.scope.names.lookup x = _; rw [S.names]; exact hk) (loadGlobal_builtin (by rw [S.glob]; exact O.g.keeps S.top) hx (by rw [S.blt]; exact O.b.keeps S.top) ((O.blt x hn).trans hv) h)

theorem ev_const {x : Str} {pos : Pos} {v : Value} {d : D} (O : W.Ok) (hk : sc.names.lookup x = some .globalImplicit) (hx : W.mg x = some v) (hr : ∀ F, Rep W F v d) (hd : (x == ("__debug__" : Str)) = false := by decide) : Evals W sc k (.Name x pos) ρ d :=
  Hold.mk fun _ _ _ _ _ _ _ _ S q => wpAny_Name (S.glob' O hk hx (q _ _ _ S.room0 (hr _))) hd

/-! ## operators -/

/-- the operator takes d1 and d2 to d -/
noncomputable def BinOk (W : Wd) (op : Operator) (d1 d2 d : D) : Prop := Hold <|
  ∀ A F s v1 v2 Q E, Room 0 A → Sub F s.heap.get? → Rd W F s.heap.get? v1 d1 → Rd W F s.heap.get? v2 d2 → (∀ F' s' v, Adv s F s' F' → Rep W F' v d → Q v s') → wpAny (model W.prog W.w) A (binaryOp op v1 v2) Q E s

theorem ev_bin {l r : Expr} {op : Operator} {pos : Pos} {d1 d2 d : D} (h1 : EvR W sc k l ρ d1) (h2 : EvR W sc k r ρ d2) (h : BinOk W op d1 d2 d) : Evals W sc k (.BinOp l op r pos) ρ d := by
  refine ⟨?_⟩; intro env A K F s Q E R S q
  refine wpAny_BinOp (h1.out env A K F s _ E R S fun F1 s1 v1 a1 r1 => ?_)
  refine h2.out env A K F1 s1 _ E R (S.adv a1) fun F2 s2 v2 a2 r2 => ?_
  exact h.out A F2 s2 v1 v2 _ E (R.mono (Nat.zero_le _)) a2.sup (r1.adv a2) r2 fun F3 s3 v a3 r3 => q _ _ _ ((a1.trans a2).trans a3) r3

theorem Rd.int {h : FH} {v : Value} {i : Int} (r : Rd W F h v (.int i)) : ∃ t, v = .int i t := by
  cases r with
  | rep r _ => cases r; exact ⟨_, rfl⟩
theorem Rd.str {h : FH} {v : Value} {x : Str} (r : Rd W F h v (.str x)) : ∃ t, v = .str x t := by
  cases r with
  | rep r _ => cases r; exact ⟨_, rfl⟩
theorem Rd.byt {h : FH} {v : Value} {x : Array UInt8} (r : Rd W F h v (.byt x)) : ∃ t, v = .bytes x t := by
  cases r with
  | rep r _ => cases r; exact ⟨_, rfl⟩
theorem Rd.none {h : FH} {v : Value} (r : Rd W F h v .none) : v = .none := by
  cases r with
  | rep r _ => cases r; rfl
theorem Rd.seq {h : FH} {v : Value} {ds : List D} (r : Rd W F h v (.lst ds)) : ∃ a vs, v = .ref a ∧ SeqAt h "list" a vs ∧ RepAll W F vs ds := by
  cases r with
  | rep r n => exact absurd rfl (n _)
  | lst q r => exact ⟨_, _, rfl, q, r⟩
theorem Rd.tup {h : FH} {v : Value} {ds : List D} (hs : Sub F h) (r : Rd W F h v (.tup ds)) : ∃ a vs, v = .ref a ∧ SeqAt h "tuple" a vs ∧ RepAll W F vs ds := by
  cases r with
  | rep r n => cases r with
    | tup q r => exact ⟨_, _, rfl, q.mono hs, r⟩

theorem bin_add {a b : Int} : BinOk W .Add (.int a) (.int b) (.int (a + b)) := by
  refine ⟨?_⟩; intro A F s v1 v2 Q E _ hF r1 r2 q
  obtain ⟨t, rfl⟩ := r1.int
  obtain ⟨u, rfl⟩ := r2.int
  exact add_int (q _ _ _ (.tok hF _) (.int _ _))
theorem bin_sub {a b : Int} : BinOk W .Sub (.int a) (.int b) (.int (a - b)) := by
  refine ⟨?_⟩; intro A F s v1 v2 Q E _ hF r1 r2 q
  obtain ⟨t, rfl⟩ := r1.int
  obtain ⟨u, rfl⟩ := r2.int
  exact sub_int (q _ _ _ (.tok hF _) (.int _ _))
theorem bin_mul {a b : Int} (h : a.natAbs < 2 ^ 64 ∨ b.natAbs < 2 ^ 64) : BinOk W .Mult (.int a) (.int b) (.int (a * b)) := by
  refine ⟨?_⟩; intro A F s v1 v2 Q E _ hF r1 r2 q
  obtain ⟨t, rfl⟩ := r1.int
  obtain ⟨u, rfl⟩ := r2.int
  refine mul_int (q _ _ _ (.tok hF _) (.int _ _)) ?_
  rcases h with h | h
  · exact .of_left (intBits_le_64 (by omega) (by omega))
  · exact .of_right (intBits_le_64 (by omega) (by omega))
theorem bin_mod {a b : Int} (h : b ≠ 0) : BinOk W .Mod (.int a) (.int b) (.int (a.fmod b)) := by
  refine ⟨?_⟩; intro A F s v1 v2 Q E _ hF r1 r2 q
  obtain ⟨t, rfl⟩ := r1.int
  obtain ⟨u, rfl⟩ := r2.int
  exact mod_int h (q _ _ _ (.tok hF _) (.int _ _))
theorem no_pylong {a b : Int} (h : b.natAbs < 2 ^ 64) : Builtin.divisionGoesByPylong a b = false := by
  have hb : b = 0 ∨ (b.natAbs.log2 ≤ 64) := by
    right
    by_cases h0 : b.natAbs = 0
    · rw [h0]; decide
    · exact Nat.le_of_lt ((Nat.log2_lt h0).mpr h)
  unfold Builtin.divisionGoesByPylong
  dsimp only
  rw [Bool.and_eq_false_iff]
  left
  refine decide_eq_false ?_
  split
  · decide
  · rcases hb with hb | hb
    · simp_all
    · have : b.natAbs.log2 / 30 ≤ 64 / 30 := Nat.div_le_div_right hb
      omega
theorem bin_div {a b : Int} (h : b ≠ 0) (hb : b.natAbs < 2 ^ 64) : BinOk W .FloorDiv (.int a) (.int b) (.int (a.fdiv b)) := by
  refine ⟨?_⟩; intro A F s v1 v2 Q E _ hF r1 r2 q
  obtain ⟨t, rfl⟩ := r1.int
  obtain ⟨u, rfl⟩ := r2.int
  exact floordiv_int h (q _ _ _ (.tok hF _) (.int _ _)) (.inl (no_pylong hb))
theorem bin_pow {a n : Int} (h0 : 0 ≤ n) (h1 : n ≤ 1000000) (h2 : a.natAbs < 2 ^ 64) : BinOk W .Pow (.int a) (.int n) (.int (a ^ n.toNat)) := by
  refine ⟨?_⟩; intro A F s v1 v2 Q E _ hF r1 r2 q
  obtain ⟨t, rfl⟩ := r1.int
  obtain ⟨u, rfl⟩ := r2.int
  exact pow_int_small h0 h1 h2 (q _ _ _ (.tok hF _) (.int _ _))
theorem bin_shr {a n : Int} (h0 : 0 ≤ n) : BinOk W .RShift (.int a) (.int n) (.int (a.fdiv (2 ^ n.toNat))) := by
  refine ⟨?_⟩; intro A F s v1 v2 Q E _ hF r1 r2 q
  obtain ⟨t, rfl⟩ := r1.int
  obtain ⟨u, rfl⟩ := r2.int
  exact rshift_int h0 (q _ _ _ (.tok hF _) (.int _ _))
theorem bin_and {a b : Int} : BinOk W .BitAnd (.int a) (.int b) (.int (Builtin.bitAnd a b)) := by
  refine ⟨?_⟩; intro A F s v1 v2 Q E _ hF r1 r2 q
  obtain ⟨t, rfl⟩ := r1.int
  obtain ⟨u, rfl⟩ := r2.int
  exact and_int (q _ _ _ (.tok hF _) (.int _ _))
theorem bin_cat {x y : Str} (h : x.length + y.length ≤ 1000000) : BinOk W .Add (.str x) (.str y) (.str (x ++ y)) := by
  refine ⟨?_⟩; intro A F s v1 v2 Q E _ hF r1 r2 q
  obtain ⟨t, rfl⟩ := r1.str
  obtain ⟨u, rfl⟩ := r2.str
  exact SB.add (fun t' c => q _ _ _ (.tok hF _) (.str _ _)) (by rw [sizeLine_eq]; omega)
theorem bin_bytes {x y : List UInt8} (h : x.length + y.length ≤ 1000000) : BinOk W .Add (.byt x.toArray) (.byt y.toArray) (.byt (x ++ y).toArray) := by
  refine ⟨?_⟩; intro A F s v1 v2 Q E _ hF r1 r2 q
  obtain ⟨t, rfl⟩ := r1.byt
  obtain ⟨u, rfl⟩ := r2.byt
  exact bytes_add_K (by rw [List.size_toArray, List.size_toArray]; omega) rfl (fun t' c => q _ _ _ (.tok hF _) (.byt _ _))
theorem bin_lists {ds es : List D} (h : ds.length + es.length ≤ 1000000) : BinOk W .Add (.lst ds) (.lst es) (.lst (ds ++ es)) := by
  refine ⟨?_⟩; intro A F s v1 v2 Q E _ hF r1 r2 q
  obtain ⟨a, vs, rfl, q1, r1⟩ := r1.seq
  obtain ⟨b, ws, rfl, q2, r2⟩ := r2.seq
  obtain ⟨⟨c1, d1, e1, l1⟩, n1, ho, hc, hd, he⟩ := q1
  obtain ⟨⟨c2, d2, e2, l2⟩, n2, ho2, hc2, hd2, he2⟩ := q2
  simp only at hc hd he hc2 hd2 he2
  subst hc hd he hc2 hd2 he2
  have hsz : vs.toArray.size + ws.toArray.size ≤ sizeLine := by
    rw [List.size_toArray, List.size_toArray, r1.length, r2.length, sizeLine_eq]; omega
  refine concat_meets ⟨_, ho, rfl⟩ ⟨_, ho2, rfl⟩ noFill_list_add seq_list_add PySem.F.slot_list_add PySem.F.entry_list_add (PySem.F.args_list_add_2 _ _) (list_addW a b vs.toArray ws.toArray n1 n2 _ _ l1 l2 hsz) ⟨ho, ho2, ?_⟩
  refine q _ _ _ (.fix hF (sub_push _ _)) (.lst (vs := vs ++ ws) ⟨_, _, fixed_new hF (get_size_none _) (Heap.get?_push_size _ rfl), rfl, rfl, by simp; rfl⟩ ?_)
  have a := (Adv.fix (n := s.toks) hF (sub_push s.heap { cls := .type "list", data := .seq (vs.toArray ++ ws.toArray) })).sub
  exact (r1.mono a).append (r2.mono a)
end
end Mine

-- F3
namespace Mine

section
variable {W : Wd} {sc : Sc} {K F F' : FH} {ρ : Vars} {s s' : Shared} {k : Nat}

theorem Room.zero {A : Around} (R : Room k A) : Room 0 A := R.mono (Nat.zero_le _)

/-! ## comparisons -/

noncomputable def CmpOk (W : Wd) (op : CmpOp) (d1 d2 : D) (b : Bool) : Prop := Hold <|
  ∀ A F s v1 v2 Q E, Room 0 A → Sub F s.heap.get? → Rd W F s.heap.get? v1 d1 → Rd W F s.heap.get? v2 d2 → (∀ F' s', Adv s F s' F' → Q (.bool b) s') → wpAny (model W.prog W.w) A (compareOp op v1 v2) Q E s

theorem ev_cmp {l r : Expr} {op : CmpOp} {pos : Pos} {d1 d2 : D} {b : Bool} (h1 : EvR W sc k l ρ d1) (h2 : EvR W sc k r ρ d2) (h : CmpOk W op d1 d2 b) (hm : behindInMarks op r = false := by with_unfolding_all rfl) :
    Evals W sc k (.Compare l [op] [r] pos) ρ (.bool b) := by
  refine ⟨?_⟩; intro env A K F s Q E R S q
  refine wpAny_Compare1 (h1.out env A K F s _ E R S fun F1 s1 v1 a1 r1 => ?_) hm
  refine h2.out env A K F1 s1 _ E R (S.adv a1) fun F2 s2 v2 a2 r2 => ?_
  exact h.out A F2 s2 v1 v2 _ E R.zero a2.sup (r1.adv a2) r2 fun F3 s3 a3 => q _ _ _ ((a1.trans a2).trans a3) (.bool b)
theorem t_cmp {l r : Expr} {op : CmpOp} {pos : Pos} {d1 d2 : D} {b : Bool} (h1 : EvR W sc k l ρ d1) (h2 : EvR W sc k r ρ d2) (h : CmpOk W op d1 d2 b) (hm : behindInMarks op r = false := by with_unfolding_all rfl) :
    Tests W sc k (.Compare l [op] [r] pos) ρ b := by
  refine ⟨?_⟩; intro env A K F s Q E R S q
  refine wpAny_isTrue_Compare1 (h1.out env A K F s _ E R S fun F1 s1 v1 a1 r1 => ?_) hm
  refine h2.out env A K F1 s1 _ E R (S.adv a1) fun F2 s2 v2 a2 r2 => ?_
  exact h.out A F2 s2 v1 v2 _ E R.zero a2.sup (r1.adv a2) r2 fun F3 s3 a3 => wpAny_truthy_bool (q _ _ ((a1.trans a2).trans a3))

theorem cmp_eq_int {a b : Int} : CmpOk W .Eq (.int a) (.int b) (a == b) := by
  refine ⟨?_⟩; intro A F s v1 v2 Q E _ hF r1 r2 q
  obtain ⟨t, rfl⟩ := r1.int
  obtain ⟨u, rfl⟩ := r2.int
  exact eq_int (q _ _ (.refl hF))
theorem cmp_ne_int {a b : Int} : CmpOk W .NotEq (.int a) (.int b) (a != b) := by
  refine ⟨?_⟩; intro A F s v1 v2 Q E _ hF r1 r2 q
  obtain ⟨t, rfl⟩ := r1.int
  obtain ⟨u, rfl⟩ := r2.int
  exact ne_int (q _ _ (.refl hF))
theorem cmp_lt_int {a b : Int} : CmpOk W .Lt (.int a) (.int b) (decide (a < b)) := by
  refine ⟨?_⟩; intro A F s v1 v2 Q E _ hF r1 r2 q
  obtain ⟨t, rfl⟩ := r1.int
  obtain ⟨u, rfl⟩ := r2.int
  exact lt_int (q _ _ (.refl hF))
theorem cmp_eq_str {a b : Str} : CmpOk W .Eq (.str a) (.str b) (a == b) := by
  refine ⟨?_⟩; intro A F s v1 v2 Q E _ hF r1 r2 q
  obtain ⟨t, rfl⟩ := r1.str
  obtain ⟨u, rfl⟩ := r2.str
  exact eq_str (q _ _ (.refl hF))
theorem cmp_ne_str {a b : Str} : CmpOk W .NotEq (.str a) (.str b) (a != b) := by
  refine ⟨?_⟩; intro A F s v1 v2 Q E _ hF r1 r2 q
  obtain ⟨t, rfl⟩ := r1.str
  obtain ⟨u, rfl⟩ := r2.str
  exact ne_str (q _ _ (.refl hF))
theorem cmp_ne_byt {a b : Array UInt8} : CmpOk W .NotEq (.byt a) (.byt b) (a.toList != b.toList) := by
  refine ⟨?_⟩; intro A F s v1 v2 Q E _ hF r1 r2 q
  obtain ⟨t, rfl⟩ := r1.byt
  obtain ⟨u, rfl⟩ := r2.byt
  exact ne_bytes (q _ _ (.refl hF))
noncomputable def D.isNone : D → Bool
  | .none => true
  | _ => false
theorem cmp_is_none {d : D} {b : Bool} (h : d.isNone = b) : CmpOk W .Is d .none b := by
  refine ⟨?_⟩; intro A F s v1 v2 Q E _ hF r1 r2 q
  obtain rfl := r2.none
  subst h
  refine is_none_gen ?_
  have e : (v1 == Value.none) = d.isNone := by
    clear q
    cases r1 with
    | rep r _ => cases r <;> rfl
    | lst _ _ => rfl
  rw [e]
  exact q _ _ (.refl hF)
theorem cmp_in_str {x y : Str} : CmpOk W .In (.str y) (.str x) (Txt.contains x y) := by
  refine ⟨?_⟩; intro A F s v1 v2 Q E _ hF r1 r2 q
  obtain ⟨t, rfl⟩ := r1.str
  obtain ⟨u, rfl⟩ := r2.str
  exact SB.contains (q _ _ (.refl hF))
theorem cmp_notin_str {x y : Str} : CmpOk W .NotIn (.str y) (.str x) (!Txt.contains x y) := by
  refine ⟨?_⟩; intro A F s v1 v2 Q E _ hF r1 r2 q
  obtain ⟨t, rfl⟩ := r1.str
  obtain ⟨u, rfl⟩ := r2.str
  exact SB.notContains (q _ _ (.refl hF))
theorem RepAll.strs {vs : List Value} {ys : List Str} (h : RepAll W F vs (ys.map D.str)) : StrsAre vs ys := by
  induction ys generalizing vs with
  | nil => cases h; exact .nil
  | cons y ys ih =>
    cases h with
    | cons h r => cases h with
      | str _ t => exact .cons _ t (ih r)
theorem RepAll.ints {vs : List Value} {ns : List Int} (h : RepAll W F vs (ns.map D.int)) : IntsAre vs ns := by
  induction ns generalizing vs with
  | nil => cases h; exact .nil
  | cons y ys ih =>
    cases h with
    | cons h r => cases h with
      | int _ t => exact .cons _ t (ih r)
theorem cmp_in_tup {x : Str} (ys : List Str) : CmpOk W .In (.str x) (.tup (ys.map D.str)) (ys.any (· == x)) := by
  refine ⟨?_⟩; intro A F s v1 v2 Q E _ hF r1 r2 q
  obtain ⟨t, rfl⟩ := r1.str
  obtain ⟨a, vs, rfl, q2, r2⟩ := r2.tup hF
  exact in_tuple_strs q2.isTup (by simpa using r2.strs) (q _ _ (.refl hF))
theorem cmp_notin_tup {x : Str} (ys : List Str) : CmpOk W .NotIn (.str x) (.tup (ys.map D.str)) (!ys.any (· == x)) := by
  refine ⟨?_⟩; intro A F s v1 v2 Q E _ hF r1 r2 q
  obtain ⟨t, rfl⟩ := r1.str
  obtain ⟨a, vs, rfl, q2, r2⟩ := r2.tup hF
  exact notin_tuple_strs q2.isTup (by simpa using r2.strs) (q _ _ (.refl hF))
theorem cmp_in_ints {x : Int} (ns : List Int) : CmpOk W .In (.int x) (.lst (ns.map D.int)) (ns.any (· == x)) := by
  refine ⟨?_⟩; intro A F s v1 v2 Q E _ hF r1 r2 q
  obtain ⟨t, rfl⟩ := r1.int
  obtain ⟨a, vs, rfl, q2, r2⟩ := r2.seq
  exact in_list_ints q2.isList r2.ints (q _ _ (.refl hF))
theorem cmp_notin_ints {x : Int} (ns : List Int) : CmpOk W .NotIn (.int x) (.lst (ns.map D.int)) (!ns.any (· == x)) := by
  refine ⟨?_⟩; intro A F s v1 v2 Q E _ hF r1 r2 q
  obtain ⟨t, rfl⟩ := r1.int
  obtain ⟨a, vs, rfl, q2, r2⟩ := r2.seq
  exact notin_list_ints q2.isList r2.ints (q _ _ (.refl hF))

/-! lists held against each other -/
mutual
noncomputable def toDat : D → Dat
  | .none => .none
  | .bool b => .bool b
  | .int i => .int i
  | .str x => .str x
  | .byt b => .bytes b
  | .tup ds => .tuple (toDats ds)
  | .lst ds => .list (toDats ds)
  | .tab _ => .bytes #[]
noncomputable def toDats : List D → List Dat
  | [] => []
  | d :: ds => toDat d :: toDats ds
end
theorem toDats_map {ds : List D} : toDats ds = ds.map toDat := by
  induction ds with
  | nil => simp [toDats]
  | cons d ds ih => simp [toDats, ih]
mutual
theorem rep_reads {h : Heap} (hs : Sub F h.get?) : ∀ {v : Value} {d : D} (n : Nat), Rep W F v d → kqdOk n (toDat d) = true → ∃ as, Reads h v (kqdP (toDat d)) as
  | _, _, _, .none, _ => ⟨_, by simpa only [toDat, kqdP] using Reads.none⟩
  | _, _, _, .bool b, _ => ⟨_, by simpa only [toDat, kqdP] using Reads.bool b⟩
  | _, _, _, .int i t, _ => ⟨_, by simpa only [toDat, kqdP] using Reads.int i t⟩
  | _, _, _, .str x t, _ => ⟨_, by simpa only [toDat, kqdP] using Reads.str x t⟩
  | _, _, n, .byt _ _, hk => by cases n <;> simp [toDat, kqdOk] at hk
  | _, _, n, .tab _ _ _, hk => by cases n <;> simp [toDat, kqdOk] at hk
  | _, _, 0, .tup _ _, hk => by simp [toDat, kqdOk] at hk
  | _, _, 0, .lst _ _, hk => by simp [toDat, kqdOk] at hk
  | _, _, n + 1, .tup q r, hk => by
    obtain ⟨as, x⟩ := rep_readsAll hs n r (by simpa [toDat, kqdOk] using hk)
    obtain ⟨o, m, e, c, z, d⟩ := q
    rw [toDat, kqdP]
    exact ⟨as, reads_tuple_at (hs _ _ e) c d (by simpa using x)⟩
  | _, _, n + 1, .lst q r, hk => by
    obtain ⟨as, x⟩ := rep_readsAll hs n r (by simpa [toDat, kqdOk] using hk)
    obtain ⟨o, m, e, c, z, d⟩ := q
    rw [toDat, kqdP]
    exact ⟨_, reads_list_at (hs _ _ e) c d (by simpa using x)⟩
theorem rep_readsAll {h : Heap} (hs : Sub F h.get?) : ∀ {vs : List Value} {ds : List D} (n : Nat), RepAll W F vs ds → (∀ d ∈ toDats ds, kqdOk n d = true) → ∃ as, ReadsAll h vs (kqdPs (toDats ds)) as
  | _, _, _, .nil, _ => ⟨_, by simpa only [toDats, kqdPs] using ReadsAll.nil⟩
  | _, _, n, .cons hd r, hk => by
    obtain ⟨as, q⟩ := rep_reads hs n hd (hk _ (by simp [toDats]))
    obtain ⟨bs, p⟩ := rep_readsAll hs n r fun d hm => hk d (by simp only [toDats]; exact .tail _ hm)
    rw [toDats, kqdPs]
    exact ⟨_, ReadsAll.cons q p⟩
end
theorem cmp_lists (neg : Bool) {ds es : List D} {b : Bool} (h1 : ∀ d ∈ toDats ds, kqdOk 8 d = true) (h2 : ∀ d ∈ toDats es, kqdOk 8 d = true) (hb : toDats ds = toDats es ↔ (b = true)) :
    CmpOk W (if neg then .NotEq else .Eq) (.lst ds) (.lst es) (if neg then !b else b) := by
  refine ⟨?_⟩; intro A F s v1 v2 Q E R hF r1 r2 q
  obtain ⟨a, vs, rfl, ⟨o1, n1, e1, c1, z1, y1⟩, r1⟩ := r1.seq
  obtain ⟨a', ws, rfl, ⟨o2, n2, e2, c2, z2, y2⟩, r2⟩ := r2.seq
  obtain ⟨as, ra⟩ := rep_readsAll hF 8 r1 h1
  obtain ⟨bs, rb⟩ := rep_readsAll hF 8 r2 h2
  have la := kqd_lay 9 (.list (toDats ds)) (by simpa [kqdOk] using h1)
  have lb := kqd_lay 9 (.list (toDats es)) (by simpa [kqdOk] using h2)
  rw [kqdP] at la lb
  have e : PyData.eqv (.list (kqdPs (toDats ds))) (.list (kqdPs (toDats es))) = b := by
    have q := kqd_eqv 9 (.list (toDats ds)) (.list (toDats es)) 9 (by simpa [kqdOk] using h1) (by simpa [kqdOk] using h2)
    rw [kqdP, kqdP, Dat.list.injEq, hb] at q
    cases b <;> simp_all
  have hu : A.units + 64 < cLine := by have := R.uni; unfold cLine; omega
  have sa : _root_.PySem.SeqAt.shaped (.list (kqdPs (toDats ds))) = true := by
    unfold _root_.PySem.SeqAt.shaped; rw [la.1, Bool.true_and]; exact decide_eq_true (Nat.le_trans la.2 (by decide))
  have sb : _root_.PySem.SeqAt.shaped (.list (kqdPs (toDats es))) = true := by
    unfold _root_.PySem.SeqAt.shaped; rw [lb.1, Bool.true_and]; exact decide_eq_true (Nat.le_trans lb.2 (by decide))
  have Ra := reads_list_at e1 c1 y1 (by simpa using ra)
  have Rb := reads_list_at e2 c2 y2 (by simpa using rb)
  cases neg with
  | true => exact ne_dataH Ra Rb sa sb hu (by rw [e]; exact q _ _ (.refl hF))
  | false => exact eq_dataH Ra Rb sa sb hu (by rw [e]; exact q _ _ (.refl hF))
theorem cmp_ne_lists {ds es : List D} {b : Bool} (h1 : ∀ d ∈ toDats ds, kqdOk 8 d = true) (h2 : ∀ d ∈ toDats es, kqdOk 8 d = true) (hb : toDats ds = toDats es ↔ (b = true)) : CmpOk W .NotEq (.lst ds) (.lst es) (!b) := cmp_lists true h1 h2 hb
theorem cmp_eq_lists {ds es : List D} {b : Bool} (h1 : ∀ d ∈ toDats ds, kqdOk 8 d = true) (h2 : ∀ d ∈ toDats es, kqdOk 8 d = true) (hb : toDats ds = toDats es ↔ (b = true)) : CmpOk W .Eq (.lst ds) (.lst es) b := cmp_lists false h1 h2 hb

theorem ints_ok (n : Nat) (l : List Int) : ∀ d ∈ toDats (l.map D.int), kqdOk n d = true := by
  intro d hd
  rw [toDats_map, List.map_map] at hd
  obtain ⟨x, _, rfl⟩ := List.mem_map.mp hd
  cases n <;> rfl
theorem map_inj {α β : Type} {f : α → β} (hf : ∀ a b, f a = f b → a = b) : ∀ {l l' : List α}, l.map f = l'.map f → l = l'
  | [], [], _ => rfl
  | [], _ :: _, h => by simp at h
  | _ :: _, [], h => by simp at h
  | a :: l, b :: l', h => by
    simp only [List.map_cons, List.cons.injEq] at h
    rw [hf a b h.1, map_inj hf h.2]
theorem ints_inj {l l' : List Int} : toDats (l.map D.int) = toDats (l'.map D.int) ↔ l = l' := by
  rw [toDats_map, toDats_map, List.map_map, List.map_map]
  constructor
  · intro h
    exact map_inj (fun a b e => by simpa [toDat] using e) h
  · rintro rfl; rfl
theorem cmp_ne_ints (l l' : List Int) : CmpOk W .NotEq (.lst (l.map D.int)) (.lst (l'.map D.int)) (!decide (l = l')) :=
  cmp_ne_lists (ints_ok 8 l) (ints_ok 8 l') (by rw [ints_inj]; simp)
theorem cmp_eq_ints (l l' : List Int) : CmpOk W .Eq (.lst (l.map D.int)) (.lst (l'.map D.int)) (decide (l = l')) :=
  cmp_eq_lists (ints_ok 8 l) (ints_ok 8 l') (by rw [ints_inj]; simp)
end
end Mine

-- F4
namespace Mine

section
variable {W : Wd} {sc : Sc} {K F F' : FH} {ρ : Vars} {s s' : Shared} {k : Nat}

/-! ## truth -/
noncomputable def Truth (W : Wd) (d : D) (b : Bool) : Prop := Hold <|
  ∀ A F s v Q E, Room 0 A → Sub F s.heap.get? → Rd W F s.heap.get? v d → (∀ F' s', Adv s F s' F' → Q b s') → wpAny (model W.prog W.w) A (truthy v) Q E s
theorem truth_int {i : Int} : Truth W (.int i) (i != 0) := by
  refine ⟨?_⟩; intro A F s v Q E _ hF r q
  obtain ⟨t, rfl⟩ := r.int
  exact truthy_int (q _ _ (.refl hF))
theorem truth_bool {b : Bool} : Truth W (.bool b) b := by
  refine ⟨?_⟩; intro A F s v Q E _ hF r q
  cases r with
  | rep r _ => cases r; exact wpAny_truthy_bool (q _ _ (.refl hF))
theorem truth_str {x : Str} (h : x.length ≤ 1000000) : Truth W (.str x) (x.length != 0) := by
  refine ⟨?_⟩; intro A F s v Q E _ hF r q
  obtain ⟨t, rfl⟩ := r.str
  refine P.truthy_str (by omega) ?_
  have e : ((x.length : Int) != 0) = (x.length != 0) := by
    rw [Bool.eq_iff_iff]; simp
  rw [e]
  exact q _ _ (.tok hF _)
theorem t_val {e : Expr} {d : D} {b : Bool} (h : EvR W sc k e ρ d) (ht : Truth W d b)
    (hs : ∀ env whole, PySem.isTrue e env whole = (do let v ← whole; standAt e.pos; holding [v] (truthy v)) := by intros; rfl) : Tests W sc k e ρ b := by
  refine ⟨?_⟩; intro env A K F s Q E R S q
  refine wpAny_isTrue_value (h.out env A K F s _ E R S fun F1 s1 v1 a1 r1 => ?_) (hs _ _)
  exact ht.out A F1 s1 v1 _ E R.zero a1.sup r1 fun F2 s2 a2 => q _ _ (a1.trans a2)
theorem t_or_nil {pos : Pos} : Tests W sc k (.BoolOp .Or [] pos) ρ false := Hold.mk fun _ _ _ _ _ _ _ _ S q => isTrue_or_nil (q _ _ S.room0)
theorem or_whole {M : Model} {A : Around} {E : Value → Shared → Prop} {s : Shared} {env : Env} {Q : Bool → Shared → Prop} {pos : Pos} {es : List Expr} {w1 w2 : Sem Value} (h : wpAny M A (PySem.isTrue (.BoolOp .Or es pos) env w1) Q E s) : wpAny M A (PySem.isTrue (.BoolOp .Or es pos) env w2) Q E s := h
theorem t_or {x : Expr} {rest : List Expr} {pos : Pos} {b c : Bool} (h1 : Tests W sc k x ρ b) (h2 : b = false → Tests W sc k (.BoolOp .Or rest pos) ρ c) : Tests W sc k (.BoolOp .Or (x :: rest) pos) ρ (b || c) := by
  refine ⟨?_⟩; intro env A K F s Q E R S q
  refine isTrue_or (h1.out env A K F s _ E R S fun F1 s1 a1 => ?_)
  cases b with
  | true => exact q _ _ a1
  | false => exact or_whole ((h2 rfl).out env A K F1 s1 _ E R (S.adv a1) fun F2 s2 a2 => q _ _ (a1.trans a2))

/-- x or y, the value -/
theorem ev_or {x y : Expr} {pos : Pos} {d1 d2 : D} {b : Bool} (h1 : Evals W sc k x ρ d1) (ht : Truth W d1 b) (h2 : b = false → Evals W sc k y ρ d2) : Evals W sc k (.BoolOp .Or [x, y] pos) ρ (if b then d1 else d2) := by
  refine ⟨?_⟩; intro env A K F s Q E R S q
  refine wpAny_Or2 (h1.out env A K F s _ E R S fun F1 s1 v1 a1 r1 => ?_)
  refine ht.out A F1 s1 v1 _ E R.zero a1.sup (.of r1 a1.sup) fun F2 s2 a2 => ?_
  cases b with
  | true => exact q _ _ _ (a1.trans a2) (r1.mono a2.sub)
  | false => exact (h2 rfl).out env A K F2 s2 _ E R (S.adv (a1.trans a2)) fun F3 s3 v3 a3 r3 => q _ _ _ ((a1.trans a2).trans a3) r3

theorem ev_if {t x y : Expr} {pos : Pos} {b : Bool} {d : D} (h1 : Tests W sc k t ρ b) (h2 : b = true → Evals W sc k x ρ d) (h3 : b = false → Evals W sc k y ρ d) : Evals W sc k (.IfExp t x y pos) ρ d := by
  refine ⟨?_⟩; intro env A K F s Q E R S q
  refine wpAny_IfExp (h1.out env A K F s _ E R S fun F1 s1 a1 => ?_)
  cases b with
  | true => exact (h2 rfl).out env A K F1 s1 _ E R (S.adv a1) fun F2 s2 v2 a2 r2 => q _ _ _ (a1.trans a2) r2
  | false => exact (h3 rfl).out env A K F1 s1 _ E R (S.adv a1) fun F2 s2 v2 a2 r2 => q _ _ _ (a1.trans a2) r2

theorem ev_neg {x : Expr} {pos : Pos} {i : Int} (h : Evals W sc k x ρ (.int i)) : Evals W sc k (.UnaryOp .USub x pos) ρ (.int (-i)) := by
  refine ⟨?_⟩; intro env A K F s Q E R S q
  refine wpAny_UnaryOp (h.out env A K F s _ E R S fun F1 s1 v1 a1 r1 => ?_)
  cases r1 with
  | int _ t => exact neg_int (q _ _ _ (a1.trans (.tok a1.sup _)) (.int _ _))

/-! ## lists, tuples, dicts written out -/
inductive EvAll (W : Wd) (sc : Sc) (k : Nat) (ρ : Vars) : List Expr → List D → Prop
  | nil : EvAll W sc k ρ [] []
  | cons {e : Expr} {es : List Expr} {d : D} {ds : List D} : Evals W sc k e ρ d → EvAll W sc k ρ es ds → (∀ rest env, starEach (e :: rest) env = (false, eval e env) :: starEach rest env) → EvAll W sc k ρ (e :: es) (d :: ds)

theorem ev_spliced {es : List Expr} {ds : List D} (h : EvAll W sc k ρ es ds) : ∀ env A K F s Q E pos, Room k A → St W sc env K F ρ s → (∀ F' s' vs, Adv s F s' F' → RepAll W F' vs ds → Q vs s') →
    wpAny (model W.prog W.w) A (spliced (backTo pos (starEach es env))) Q E s := by
  induction h with
  | nil => intro env A K F s Q E pos R S q; exact spliced_none (q _ _ _ S.room0 .nil)
  | @cons e es d ds h1 hr hs ih =>
    intro env A K F s Q E pos R S q
    refine spliced_more (h1.out env A K F s _ E R S fun F1 s1 v1 a1 r1 => ?_) (hs _ _)
    exact ih env A K F1 s1 _ E pos R (S.adv a1) fun F2 s2 vs a2 r2 => q _ _ _ (a1.trans a2) (.cons (r1.mono a2.sub) r2)

theorem made_seq {T : String} {s : Shared} {F : FH} {vs : List Value} (hF : Sub F s.heap.get?) :
    SeqAt (fixed F s (s.heap.push { cls := .type T, data := .seq vs.toArray })) T s.heap.objs.size vs := ⟨_, _, fixed_new hF (get_size_none _) (Heap.get?_push_size _ rfl), rfl, rfl, rfl⟩

theorem ev_tup {es : List Expr} {n : Nat} {pos : Pos} {ds : List D} (h : EvAll W sc k ρ es ds) (hl : ds.length ≤ 1000000 := by decide) : Evals W sc k (.Tuple es n pos) ρ (.tup ds) := by
  refine ⟨?_⟩; intro env A K F s Q E R S q
  refine Tuple_ (ev_spliced h env A K F s _ E pos R S fun F1 s1 vs a1 r1 => ?_)
  refine wpAny_newTuple ?_ (by rw [r1.length, sizeLine_eq]; omega)
  have a2 := Adv.fix (n := s1.toks) a1.sup (sub_push s1.heap { cls := .type "tuple", data := .seq vs.toArray })
  exact q _ _ _ (a1.trans a2) (.tup (made_seq a1.sup) (r1.mono a2.sub))
theorem ev_lst {es : List Expr} {pos : Pos} {ds : List D} (h : EvAll W sc k ρ es ds) (hl : ds.length ≤ 1000000 := by decide) : Evals W sc k (.List es pos) ρ (.lst ds) := by
  refine ⟨?_⟩; intro env A K F s Q E R S q
  refine List_ (ev_spliced h env A K F s _ E pos R S fun F1 s1 vs a1 r1 => ?_)
  refine wpAny_newList ?_ (by rw [r1.length, sizeLine_eq]; omega)
  have a2 := Adv.fix (n := s1.toks) a1.sup (sub_push s1.heap { cls := .type "list", data := .seq vs.toArray })
  exact q _ _ _ (a1.trans a2) (.lst (made_seq a1.sup) (r1.mono a2.sub))

/-- a list that the frame may change later -/
theorem made_own {es : List Expr} {pos : Pos} {ds : List D} (h : EvAll W sc k ρ es ds) (hl : ds.length ≤ 1000000 := by decide) {env : Env} {A : Around} {Q : Value → Shared → Prop} {E : Value → Shared → Prop} (R : Room k A) (S : St W sc env K F ρ s)
    (q : ∀ F' s' a vs, Adv s F s' F' → F' a = none → K a = none → s.heap.get? a = none → OwnAt s'.heap.get? a vs → RepAll W F' vs ds → Q (.ref a) s') : wpAny (model W.prog W.w) A (eval (.List es pos) env) Q E s := by
  refine List_ (ev_spliced h env A K F s _ E pos R S fun F1 s1 vs a1 r1 => ?_)
  refine wpAny_newList ?_ (by rw [r1.length, sizeLine_eq]; omega)
  have a2 := Adv.grow (n := s1.toks) a1.sup (sub_push s1.heap { cls := .type "list", data := .seq vs.toArray })
  have hs : s.heap.get? s1.heap.objs.size = none := by
    cases e : s.heap.get? s1.heap.objs.size with
    | none => rfl
    | some o => have := a1.ext _ _ e; rw [get_size_none] at this; cases this
  have hF : F1 s1.heap.objs.size = none := by
    cases e : F1 s1.heap.objs.size with
    | none => rfl
    | some o => have := a1.sup _ _ e; rw [get_size_none] at this; cases this
  have hK : K s1.heap.objs.size = none := by
    cases e : K s1.heap.objs.size with
    | none => rfl
    | some o => have := S.keep _ _ e; rw [hs] at this; cases this
  exact q _ _ _ vs (a1.trans a2) hF hK hs ⟨_, Heap.get?_push_size _ rfl⟩ r1

/-! ## items -/
noncomputable def ItemOk (W : Wd) (d : D) (i : Int) (r : D) : Prop := Hold <|
  ∀ A F s value slice v u Q E, (∀ o, subscripted slice false o (.int i u) = operate [o, .int i u] (getItem o (.int i u))) → Sub F s.heap.get? → Rd W F s.heap.get? v d → (∀ F' s' x, Adv s F s' F' → Rep W F' x r → Q x s') →
    wpAny (model W.prog W.w) A (subscriptTail value slice v (.int i u)) Q E s

theorem ev_item {value slice : Expr} {pos : Pos} {d r : D} {i : Int} (h1 : EvR W sc k value ρ d) (h2 : EvR W sc k slice ρ (.int i)) (h : ItemOk W d i r)
    (hs : ∀ o u, subscripted slice false o (.int i u) = operate [o, .int i u] (getItem o (.int i u)) := by intros; with_unfolding_all rfl) : Evals W sc k (.Subscript value slice pos) ρ r := by
  refine ⟨?_⟩; intro env A K F s Q E R S q
  refine Subscript_ (h1.out env A K F s _ E R S fun F1 s1 v1 a1 r1 => ?_)
  refine h2.out env A K F1 s1 _ E R (S.adv a1) fun F2 s2 v2 a2 r2 => ?_
  obtain ⟨u, rfl⟩ := r2.int
  exact h.out A F2 s2 value slice v1 u _ E (fun o => hs o u) a2.sup (r1.adv a2) fun F3 s3 x a3 r3 => q _ _ _ ((a1.trans a2).trans a3) r3

theorem seqIndex_nat {i : Int} {n j : Nat} (h0 : 0 ≤ i) (h : seqIndex? i n = some j) : j = i.toNat := by
  unfold seqIndex? at h
  have : ¬ i < 0 := by omega
  simp only [this, if_false] at h
  split at h <;> simp_all
theorem item_lst {ds : List D} {i : Int} {j : Nat} {r : D} (hj : seqIndex? i ds.length = some j) (hr : ds[j]? = some r) (h1 : -1000000 ≤ i) (h2 : i ≤ 1000000) : ItemOk W (.lst ds) i r := by
  refine ⟨?_⟩; intro A F s value slice v u Q E hs hF rd q
  obtain ⟨a, vs, rfl, sq, ra⟩ := rd.seq
  obtain ⟨x, hx, rx⟩ := ra.get hr
  refine tail_any sq.isList.typeIs slot_list_getitem.lookup ?_ (hs _)
  by_cases h0 : 0 ≤ i
  · refine wpAny_getItem_list sq.isList h0 (by omega) (x := x) ?_ (q _ _ _ (.refl hF) rx)
    rw [← seqIndex_nat h0 hj]
    simpa using hx
  · exact kde_getNeg sq.isList (by omega) (by omega) (by rw [ra.length]; exact hj) hx (q _ _ _ (.refl hF) rx)
theorem item_tup {ds : List D} {i : Int} {j : Nat} {r : D} (hj : seqIndex? i ds.length = some j) (hr : ds[j]? = some r) (h1 : -1000000 ≤ i) (h2 : i ≤ 1000000) : ItemOk W (.tup ds) i r := by
  refine ⟨?_⟩; intro A F s value slice v u Q E hs hF rd q
  obtain ⟨a, vs, rfl, sq, ra⟩ := rd.tup hF
  obtain ⟨x, hx, rx⟩ := ra.get hr
  exact item_tupleT sq.isTup (by omega) (by omega) (by rw [ra.length]; exact hj) hx (q _ _ _ (.refl hF) rx) (hs _)
theorem letGo_str {value : Expr} {x : Str} {t : Tok} {r : Value} : letTemporaryGo value (.str x t) r = pure () := by
  unfold letTemporaryGo
  split
  · rfl
  · rename_i h; cases h
  · rfl
theorem letGo_byt {value : Expr} {x : Array UInt8} {t : Tok} {r : Value} : letTemporaryGo value (.bytes x t) r = pure () := by
  unfold letTemporaryGo
  split
  · rfl
  · rename_i h; cases h
  · rfl
theorem item_sign {x : Str} {i : Int} {c : Nat} (h : Txt.charAt x i = some c) (h1 : -1000000 ≤ i) (h2 : i ≤ 1000000) : ItemOk W (.str x) i (.str (Txt.item x i)) := by
  refine ⟨?_⟩; intro A F s value slice v u Q E hs hF rd q
  obtain ⟨t, rfl⟩ := rd.str
  exact tail_of_ItemOn (SB.item (by unfold fitsSsize; simp; omega) (by rw [h]; rfl) (q _ _ _ (.tok hF _) (.str _ _))) (hs _) fun _ => letGo_str

theorem TabAt.dict {h : Heap} {a : Addr} {kvs : List (Int × Value)} (x : TabAt W h.get? a kvs) : Heap.DictOf (intKind W.prog W.w) h a kvs := x
theorem item_tab {kds : List (Int × D)} {i : Int} {r : D} (hr : kds.lookup i = some r) : ItemOk W (.tab kds) i r := by
  refine ⟨?_⟩; intro A F s value slice v u Q E hs hF rd q
  cases rd with
  | rep rd _ =>
    cases rd with
    | @tab a ks vs ds T l ra =>
      have T' : TabAt W s.heap.get? a (ks.zip vs) := T.mono hF
      have key : ∀ (ks : List Int) (vs : List Value) (ds : List D), RepAll W F vs ds → ks.length = ds.length → (ks.zip ds).lookup i = some r → ∃ x, valueAt (ks.zip vs) i = some x ∧ Rep W F x r := by
        intro ks
        induction ks with
        | nil => intro vs ds _ _ h; simp at h
        | cons k ks ih =>
          intro vs ds ra l h
          cases ra with
          | nil => simp at l
          | @cons v vs d ds rv rvs =>
            simp only [List.zip_cons_cons, List.lookup_cons] at h
            cases hk : i == k with
            | true =>
              rw [hk] at h
              cases h
              refine ⟨v, ?_, rv⟩
              unfold valueAt
              rw [List.zip_cons_cons, List.find?_cons]
              have : k = i := (beq_iff_eq.mp hk).symm
              simp [this]
            | false =>
              rw [hk] at h
              obtain ⟨x, hx, rx⟩ := ih vs ds rvs (by simpa using l) h
              refine ⟨x, ?_, rx⟩
              unfold valueAt at hx ⊢
              rw [List.zip_cons_cons, List.find?_cons]
              have : ¬ k = i := fun e => by subst e; simp at hk
              simpa [this] using hx
      obtain ⟨x, hx, rx⟩ := key ks vs ds ra l hr
      have M := T'.dict.mapOf
      exact tail_any M.typeIs slot_dict_getitem.lookup (wpAny_getItem_of (by simp [intKind, Value.isInt]) M hx (q _ _ _ (.tok hF _) rx)) (hs _)
end
end Mine

-- F5
namespace Mine

section
variable {W : Wd} {sc : Sc} {K F F' : FH} {ρ : Vars} {s s' : Shared} {k : Nat}

/-! ## arguments -/
inductive ArgR (W : Wd) (F h : FH) : Value → Ent → Prop
  | v {x : Value} {d : D} : Rep W F x d → ArgR W F h x (.v d)
  | bor {a : Addr} {vs : List Value} {ds : List D} : SeqAt h "list" a vs → RepAll W F vs ds → ArgR W F h (.ref a) (.bor ds)
inductive ArgsR (W : Wd) (F h : FH) : List Value → List Ent → Prop
  | nil : ArgsR W F h [] []
  | cons {v : Value} {vs : List Value} {e : Ent} {es : List Ent} : ArgR W F h v e → ArgsR W F h vs es → ArgsR W F h (v :: vs) (e :: es)
theorem ArgR.adv {v : Value} {e : Ent} (a : Adv s F s' F') (r : ArgR W F s.heap.get? v e) : ArgR W F' s'.heap.get? v e := by
  cases r with
  | v r => exact .v (r.mono a.sub)
  | bor q r => exact .bor (q.mono a.ext) (r.mono a.sub)
theorem ArgsR.adv {vs : List Value} {es : List Ent} (a : Adv s F s' F') (r : ArgsR W F s.heap.get? vs es) : ArgsR W F' s'.heap.get? vs es := by
  induction r with
  | nil => exact .nil
  | cons h _ ih => exact .cons (h.adv a) ih
theorem ArgsR.length {h : FH} {vs : List Value} {es : List Ent} (r : ArgsR W F h vs es) : vs.length = es.length := by
  induction r with
  | nil => rfl
  | cons _ _ ih => rw [List.length_cons, List.length_cons, ih]
theorem ArgR.rd {v : Value} {ds : List D} {h : FH} (r : ArgR W F h v (.bor ds)) : Rd W F h v (.lst ds) := by
  cases r with
  | bor q r => exact .lst q r

noncomputable def EvA (W : Wd) (sc : Sc) (k : Nat) (e : Expr) (ρ : Vars) (t : Ent) : Prop := Hold <|
  ∀ env A K F s Q E, Room k A → St W sc env K F ρ s → (∀ F' s' v, Adv s F s' F' → ArgR W F' s'.heap.get? v t → Q v s') → wpAny (model W.prog W.w) A (eval e env) Q E s
theorem eva_v {e : Expr} {d : D} (h : Evals W sc k e ρ d) : EvA W sc k e ρ (.v d) := Hold.mk fun env A K F s Q E R S q => h.out env A K F s Q E R S fun F' s' v a r => q F' s' v a (.v r)
theorem eva_b {e : Expr} {ds : List D} (h : EvR W sc k e ρ (.lst ds)) : EvA W sc k e ρ (.bor ds) := Hold.mk fun env A K F s Q E R S q => h.out env A K F s Q E R S fun F' s' v a r => by
  obtain ⟨b, vs, rfl, q1, r1⟩ := r.seq
  exact q F' s' _ a (.bor q1 r1)

inductive EvArgs (W : Wd) (sc : Sc) (k : Nat) (ρ : Vars) : List Expr → List Ent → Prop
  | nil : EvArgs W sc k ρ [] []
  | cons {e : Expr} {es : List Expr} {d : Ent} {ds : List Ent} : EvA W sc k e ρ d → EvArgs W sc k ρ es ds → (∀ rest env, starEach (e :: rest) env = (false, eval e env) :: starEach rest env) → EvArgs W sc k ρ (e :: es) (d :: ds)

theorem ev_args {es : List Expr} {ds : List Ent} (h : EvArgs W sc k ρ es ds) : ∀ env A K F s Q E pos, Room k A → St W sc env K F ρ s → (∀ F' s' vs, Adv s F s' F' → ArgsR W F' s'.heap.get? vs ds → Q vs s') →
    wpAny (model W.prog W.w) A (spliced (backTo pos (starEach es env))) Q E s := by
  induction h with
  | nil => intro env A K F s Q E pos R S q; exact spliced_none (q _ _ _ S.room0 .nil)
  | @cons e es d ds h1 hr hs ih =>
    intro env A K F s Q E pos R S q
    refine spliced_more (h1.out env A K F s _ E R S fun F1 s1 v1 a1 r1 => ?_) (hs _ _)
    exact ih env A K F1 s1 _ E pos R (S.adv a1) fun F2 s2 vs a2 r2 => q _ _ _ (a1.trans a2) (.cons (r1.adv a2) r2)
theorem ev_args_plain {es : List Expr} {ds : List Ent} (h : EvArgs W sc k ρ es ds) (env : Env) (pos : Pos) : ((backTo pos (starEach es env)).any fun x => x.1) = false := by
  induction h with
  | nil => rfl
  | cons _ _ hs ih => rw [hs]; exact ih

/-! ## built-in functions -/
noncomputable def BltOk (W : Wd) (f : Value) (es : List Ent) (r : D) : Prop := Hold <|
  ∀ A F s vs Q E, Room 0 A → Sub F s.heap.get? → ArgsR W F s.heap.get? vs es → (∀ F' s' v, Adv s F s' F' → Rep W F' v r → Q v s') → wpAny (model W.prog W.w) A (call f vs) Q E s
theorem ev_blt {x : Str} {id : String} {p pos : Pos} {args : List Expr} {es : List Ent} {r : D} (O : W.Ok) (ha : EvArgs W sc k ρ args es) (h : BltOk W (.builtin id) es r) (hne : es ≠ []) (hx : W.mg x = none)
    (hk : sc.names.lookup x = some .globalImplicit) (hv : bootBuiltins x = some (.builtin id)) (hn : x ≠ "__name__" := by decide) (hd : (x == ("__debug__" : Str)) = false := by decide) : Evals W sc k (.Call (.Name x p) args [] pos) ρ r := by
  refine ⟨?_⟩; intro env A K F s Q E R S q
  refine Call_Name rfl (wpAny_Name (S.builtin O hk hx hn hv ?_) hd)
  cases ha with
  | nil => exact absurd rfl hne
  | cons h1 hr hs =>
    refine PyProof.Rows.callWith_builtin1 (ev_args (.cons h1 hr hs) env A K F s _ E pos R S fun F1 s1 vs a1 r1 => ?_) (hs _ _) (ev_args_plain hr env pos)
    exact h.out A F1 s1 vs _ E R.zero a1.sup r1 fun F2 s2 v a2 r2 => q _ _ _ (a1.trans a2) r2
theorem ev_typ {x : Str} {T : String} {p pos : Pos} {args : List Expr} {es : List Ent} {r : D} (O : W.Ok) (ha : EvArgs W sc k ρ args es) (h : BltOk W (.type T) es r) (hne : es ≠ []) (hx : W.mg x = none)
    (hk : sc.names.lookup x = some .globalImplicit) (hv : bootBuiltins x = some (.type T)) (hn : x ≠ "__name__" := by decide) (hd : (x == ("__debug__" : Str)) = false := by decide) : Evals W sc k (.Call (.Name x p) args [] pos) ρ r := by
  refine ⟨?_⟩; intro env A K F s Q E R S q
  refine Call_Name rfl (wpAny_Name (S.builtin O hk hx hn hv ?_) hd)
  cases ha with
  | nil => exact absurd rfl hne
  | cons h1 hr hs =>
    refine PyProof.Rows.callWith_type1 (ev_args (.cons h1 hr hs) env A K F s _ E pos R S fun F1 s1 vs a1 r1 => ?_) (hs _ _) (ev_args_plain hr env pos)
    exact h.out A F1 s1 vs _ E R.zero a1.sup r1 fun F2 s2 v a2 r2 => q _ _ _ (a1.trans a2) r2

theorem ArgsR.one {h : FH} {vs : List Value} {e : Ent} (r : ArgsR W F h vs [e]) : ∃ v, vs = [v] ∧ ArgR W F h v e := by
  cases r with
  | cons a r => cases r; exact ⟨_, rfl, a⟩
theorem ArgsR.two {h : FH} {vs : List Value} {e e' : Ent} (r : ArgsR W F h vs [e, e']) : ∃ v v', vs = [v, v'] ∧ ArgR W F h v e ∧ ArgR W F h v' e' := by
  cases r with
  | cons a r => obtain ⟨v', rfl, b⟩ := r.one; exact ⟨_, _, rfl, a, b⟩
theorem ArgR.int {h : FH} {v : Value} {i : Int} (r : ArgR W F h v (.v (.int i))) : ∃ t, v = .int i t := by
  cases r with
  | v r => cases r; exact ⟨_, rfl⟩

theorem blt_len {ds : List D} (hl : ds.length ≤ 1000000) : BltOk W (.builtin "len") [.bor ds] (.int ds.length) := by
  refine ⟨?_⟩; intro A F s vs Q E _ hF ra q
  obtain ⟨v, rfl, r⟩ := ra.one
  cases r with
  | @bor a ws ds sq r =>
    have e : ws.toArray.size = ds.length := by rw [List.size_toArray, r.length]
    refine len_list sq.isList (by rw [e]; omega) ?_
    rw [e]
    exact q _ _ _ (.tok hF _) (.int _ _)
theorem blt_abs {i : Int} : BltOk W (.builtin "abs") [.v (.int i)] (.int (if i < 0 then -i else i)) := by
  refine ⟨?_⟩; intro A F s vs Q E _ hF ra q
  obtain ⟨v, rfl, r⟩ := ra.one
  obtain ⟨t, rfl⟩ := r.int
  exact call_abs_int fun u tk => q _ _ _ (.tok hF _) (.int _ _)
theorem typ_int {i : Int} : BltOk W (.type "int") [.v (.int i)] (.int i) := by
  refine ⟨?_⟩; intro A F s vs Q E _ hF ra q
  obtain ⟨v, rfl, r⟩ := ra.one
  obtain ⟨t, rfl⟩ := r.int
  exact call_int_int (q _ _ _ (.refl hF) (.int _ _))
theorem blt_divmod {a b : Int} (h : b ≠ 0) (hb : b.natAbs < 2 ^ 64) : BltOk W (.builtin "divmod") [.v (.int a), .v (.int b)] (.tup [.int (a.fdiv b), .int (a.fmod b)]) := by
  refine ⟨?_⟩; intro A F s vs Q E _ hF ra q
  obtain ⟨v, v', rfl, r, r'⟩ := ra.two
  obtain ⟨t, rfl⟩ := r.int
  obtain ⟨u, rfl⟩ := r'.int
  refine divmod_int h ?_ (.inl (no_pylong hb))
  exact q _ _ _ (.fix hF (sub_push _ _)) (.tup (made_seq (T := "tuple") (vs := [_, _]) hF) (.cons (.int _ _) (.cons (.int _ _) .nil)))

/-! ## methods of texts -/
noncomputable def methForm (o : Expr) (name : Str) (apos : Pos) (args : List Expr) (pos : Pos) : Prop := ∀ env, ∃ pl, eval (.Call (.Attribute o name apos) args [] pos) env = (do
      let ov ← eval o env
      standAt apos.atName
      let (f, first) ← holding [ov] (getMethod ov name pl)
      callWith pos f first (backTo pos (starEach args env)) [])

theorem ev_meth {o : Expr} {name : Str} {id : String} {apos pos : Pos} {args : List Expr} {es : List Ent} {x : Str} {r : D} (he : methForm o name apos args pos)
    (hg : ∀ {M : Model} {A : Around} {E : Value → Shared → Prop} {s : Shared} {t : Tok} {pl : Sem Bool} {Q : Value × List Value → Shared → Prop}, Q (.builtin id, [.str x t]) s → wpAny M A (getMethod (.str x t) name pl) Q E s)
    (ho : EvR W sc k o ρ (.str x)) (ha : EvArgs W sc k ρ args es) (h : BltOk W (.builtin id) (.v (.str x) :: es) r) : Evals W sc k (.Call (.Attribute o name apos) args [] pos) ρ r := by
  refine ⟨?_⟩; intro env A K F s Q E R S q
  obtain ⟨pl, he⟩ := he env
  refine MethodCall_ (pl := pl) (ho.out env A K F s _ E R S fun F0 s0 v a0 r0 => ?_) he
  obtain ⟨t, rfl⟩ := r0.str
  refine hg ?_
  cases ha with
  | nil => exact callWith_method0 (h.out A F0 s0 _ _ E R.zero a0.sup (.cons (.v (.str _ _)) .nil) fun F2 s2 v a2 r2 => q _ _ _ (a0.trans a2) r2)
  | cons h1 hr hs =>
    refine callWith_method1 (ev_args (.cons h1 hr hs) env A K F0 s0 _ E pos R (S.adv a0) fun F1 s1 vs a1 r1 => ?_) (hs _ _) (ev_args_plain hr env pos)
    exact h.out A F1 s1 _ _ E R.zero a1.sup (.cons (.v (.str _ _)) r1) fun F2 s2 v a2 r2 => q _ _ _ ((a0.trans a1).trans a2) r2
theorem ArgR.str {h : FH} {v : Value} {i : Str} (r : ArgR W F h v (.v (.str i))) : ∃ t, v = .str i t := by
  cases r with
  | v r => cases r; exact ⟨_, rfl⟩
theorem m_count {x y : Str} : BltOk W (.builtin "str.count") [.v (.str x), .v (.str y)] (.int (Txt.count x y)) := by
  refine ⟨?_⟩; intro A F s vs Q E _ hF ra q
  obtain ⟨v, v', rfl, r, r'⟩ := ra.two
  obtain ⟨t, rfl⟩ := r.str
  obtain ⟨u, rfl⟩ := r'.str
  exact SC.count (q _ _ _ (.tok hF _) (.int _ _))
theorem m_lower {x : Str} (hl : Builtin.Str.tooLong (Txt.lower x).length = false) : BltOk W (.builtin "str.lower") [.v (.str x)] (.str (Txt.lower x)) := by
  refine ⟨?_⟩; intro A F s vs Q E _ hF ra q
  obtain ⟨v, rfl, r⟩ := ra.one
  obtain ⟨t, rfl⟩ := r.str
  exact SC.lower hl (q _ _ _ (.tok hF _) (.str _ _))
theorem m_partition {x y : Str} (hy : (y.length == 0) = false) (hl : x.length ≤ 1000000) : BltOk W (.builtin "str.partition") [.v (.str x), .v (.str y)] (.tup [.str (Txt.partition x y).1, .str (Txt.partition x y).2.1, .str (Txt.partition x y).2.2]) := by
  refine ⟨?_⟩; intro A F s vs Q E _ hF ra q
  obtain ⟨v, v', rfl, r, r'⟩ := ra.two
  obtain ⟨t, rfl⟩ := r.str
  obtain ⟨u, rfl⟩ := r'.str
  refine call_meets PySem.F.slot_str_partition (typeIs_str _ _ _) PySem.F.entry_str_partition (PySem.F.args_str_partition_2 _ _) (meets_str_partition x y t u hy (by rw [sizeLine_eq]; omega)) ?_
  have q' := q
  unfold Txt.partition at q'
  revert q'
  cases Builtin.Str.occurrences x y 0 x.length 1 with
  | nil => intro q'; exact q' _ _ _ (.fix hF (sub_push _ _)) (.tup (made_seq (T := "tuple") hF) (.cons (.str _ _) (.cons (.str _ _) (.cons (.str _ _) .nil))))
  | cons i r => intro q'; exact q' _ _ _ (.fix hF (sub_push _ _)) (.tup (made_seq (T := "tuple") hF) (.cons (.str _ _) (.cons (.str _ _) (.cons (.str _ _) .nil))))
theorem RepAll.strVals {vs : List Value} {ys : List Str} (h : RepAll W F vs (ys.map D.str)) : ∃ l, vs = strValues l ∧ l.map (·.1) = ys := by
  induction ys generalizing vs with
  | nil => cases h; exact ⟨[], rfl, rfl⟩
  | cons y ys ih =>
    cases h with
    | cons h r => cases h with
      | str _ t =>
        obtain ⟨l, rfl, e⟩ := ih r
        exact ⟨(y, t) :: l, rfl, by simp [e]⟩
theorem m_join {x : Str} {ys : List Str} (hj : JoinOk x ys = true) : BltOk W (.builtin "str.join") [.v (.str x), .bor (ys.map D.str)] (.str (Txt.join x ys)) := by
  refine ⟨?_⟩; intro A F s vs Q E _ hF ra q
  obtain ⟨v, v', rfl, r, r'⟩ := ra.two
  obtain ⟨t, rfl⟩ := r.str
  obtain ⟨a, ws, rfl, sq, rr⟩ := r'.rd.seq
  obtain ⟨l, rfl, e⟩ := rr.strVals
  exact SC.join sq.isList e hj fun t' c => q _ _ _ (.tok hF _) (.str _ _)

/-! ## slices -/
theorem sub_push2 (h : Heap) (a b : Obj) : Sub h.get? ((h.push a).push b).get? := (sub_push h a).trans (sub_push _ b)

/-- text[:j] -/
theorem ev_cut {value e : Expr} {p pos : Pos} {x : Str} {j : Int} (h1 : EvR W sc k value ρ (.str x)) (h2 : EvR W sc k e ρ (.int j)) (hl : x.length ≤ 1000000) :
    Evals W sc k (.Subscript value (.Slice none (some e) none p) pos) ρ (.str (Txt.slice x none (some j))) := by
  refine ⟨?_⟩; intro env A K F s Q E R S q
  refine Subscript_ (h1.out env A K F s _ E R S fun F1 s1 v1 a1 r1 => ?_)
  obtain ⟨t, rfl⟩ := r1.str
  refine wpAny_Slice (wpAny_pure ?_)
  show wpAny _ A (eval e env) _ E s1
  refine h2.out env A K F1 s1 _ E R (S.adv a1) fun F2 s2 v2 a2 r2 => ?_
  obtain ⟨u, rfl⟩ := r2.int
  refine wpAny_pure ?_
  refine tail_of_ItemOn (ops := [_, _]) (SBH.sliceItem_ns (P := fun h => Sub s2.heap.get? h.get?) (fun h o e => e.trans (sub_push h o)) Sub.rfl (fun h' t' c hs => ?_) (by rw [sizeLine_eq]; omega)) (by rfl) fun _ => letGo_str
  exact q _ _ _ ((a1.trans a2).trans (.grow a2.sup hs)) (.str _ _)
/-- text[::-1] of four signs -/
theorem ev_turned {value e : Expr} {p pos : Pos} {a b c d : Nat} (h1 : EvR W sc k value ρ (.str ⟨#[a, b, c, d]⟩)) (h2 : EvR W sc k e ρ (.int (-1))) :
    Evals W sc k (.Subscript value (.Slice none none (some e) p) pos) ρ (.str ⟨#[d, c, b, a]⟩) := by
  refine ⟨?_⟩; intro env A K F s Q E R S q
  refine Subscript_ (h1.out env A K F s _ E R S fun F1 s1 v1 a1 r1 => ?_)
  obtain ⟨t, rfl⟩ := r1.str
  refine wpAny_Slice (wpAny_pure (wpAny_pure ?_))
  show wpAny _ A (eval e env) _ E s1
  refine h2.out env A K F1 s1 _ E R (S.adv a1) fun F2 s2 v2 a2 r2 => ?_
  obtain ⟨u, rfl⟩ := r2.int
  have hS : (s2.heap.push { cls := .type "slice", data := .fields #[.none, .none, .int (-1) u] }).IsSlice s2.heap.objs.size none none (some (-1, u)) := ⟨_, Heap.get?_push_size _ rfl, rfl, rfl⟩
  refine tail_any (T := "str") (typeIs_str _ _ _) PySem.F.slot_str_getitem.lookup (wpAny_getItem_str_slice hS (by rfl) ?_) (ops := [_, _]) (by rfl)
  have e : sliceMade ⟨#[a, b, c, d]⟩ t none none (some (-1, u)) = .str ⟨#[d, c, b, a]⟩ := by
    have e1 : slicePicked ⟨#[a, b, c, d]⟩ none none (some (-1, u)) = [3, 2, 1, 0] := by
      show Builtin.Str.strSliceIndices none none (-1) 4 = [3, 2, 1, 0]
      decide +kernel
    unfold sliceMade
    rw [e1]
    simp
  rw [e]
  exact ⟨by rw [sizeLine_eq]; show 4 ≤ _; omega, q _ _ _ ((a1.trans a2).trans (.grow a2.sup (sub_push _ _)) |>.trans (.tok (Sub.trans a2.sup (sub_push _ _)) _)) (.str _ _)⟩

theorem isPart_int {i : Int} {t : Tok} : IsPart (.int i t) (some i) := .int _ _
theorem RepAll.take {vs : List Value} {ds : List D} (h : RepAll W F vs ds) (n : Nat) : RepAll W F (vs.take n) (ds.take n) := by
  induction n generalizing vs ds with
  | zero => exact .nil
  | succ n ih =>
    cases h with
    | nil => exact .nil
    | cons h r => exact .cons h (ih r)
/-- items[:j] -/
theorem ev_part {value e : Expr} {p pos : Pos} {ds : List D} {j : Nat} (h1 : EvR W sc k value ρ (.lst ds)) (h2 : EvR W sc k e ρ (.int j)) (hl : ds.length ≤ 1000000) :
    Evals W sc k (.Subscript value (.Slice none (some e) none p) pos) ρ (.lst (ds.take j)) := by
  refine ⟨?_⟩; intro env A K F s Q E R S q
  refine Subscript_ (h1.out env A K F s _ E R S fun F1 s1 v1 a1 r1 => ?_)
  obtain ⟨a, vs, rfl, q1, r1⟩ := r1.seq
  refine wpAny_Slice (wpAny_pure ?_)
  show wpAny _ A (eval e env) _ E s1
  refine h2.out env A K F1 s1 _ E R (S.adv a1) fun F2 s2 v2 a2 r2 => ?_
  obtain ⟨u, rfl⟩ := r2.int
  refine wpAny_pure ?_
  have q2 := q1.mono a2.ext
  have hS : (s2.heap.push { cls := .type "slice", data := .fields #[.none, .int j u, .none] }).IsSliceOf s2.heap.objs.size .none (.int j u) .none := ⟨_, Heap.get?_push_size _ rfl, rfl, rfl⟩
  have hL : (s2.heap.push { cls := .type "slice", data := .fields #[.none, .int j u, .none] }).IsList a vs.toArray := q2.isList.push _
  refine tail_any (T := "list") hL.typeIs slot_list_getitem.lookup ?_ (ops := [_, _]) (by rfl)
  refine wpAny_getItem_list_slice hL hS .none (.int _ _) .none (by simp) ?_ (by rw [List.size_toArray, r1.length, sizeLine_eq]; omega)
  have e : (slicePick vs.toArray none (some (j : Int)) none) = (vs.take j).toArray := by
    rw [slicePick_upto']
  rw [e]
  have hs3 : Sub F2 (s2.heap.push { cls := .type "slice", data := .fields #[.none, .int j u, .none] }).get? := a2.sup.trans (sub_push _ _)
  have a3 := Adv.grow (s := s2) (n := s2.toks) a2.sup (sub_push s2.heap { cls := .type "slice", data := .fields #[.none, .int j u, .none] })
  have a4 := Adv.fix (s := { s2 with heap := s2.heap.push { cls := .type "slice", data := .fields #[.none, .int j u, .none] } }) (n := s2.toks) hs3 (sub_push _ { cls := .type "list", data := .seq (vs.take j).toArray })
  refine q _ _ _ (((a1.trans a2).trans a3).trans a4) (.lst (made_seq hs3) ?_)
  exact ((r1.mono a2.sub).mono a4.sub).take j
end
end Mine

-- F6
namespace Mine

section
variable {W : Wd} {sc : Sc} {env : Env} {K F F' : FH} {ρ : Vars} {s s' : Shared} {k : Nat}

/-! ## storing a name -/
noncomputable def canStore (sc : Sc) (x : Str) : Bool := match sc.names.lookup x with
  | some .local => true
  | some .cell => sc.wr x
  | _ => false

theorem ERep.there {h : FH} {e : Ent} {v : Value} {fp : List Addr} (r : ERep W K F h e v fp) : ∀ b ∈ fp, ∃ vs, SeqAt h "list" b vs := by
  cases r with
  | v _ => intro b hb; cases hb
  | own _ _ q _ => intro b hb; rw [List.mem_singleton.mp hb]; exact ⟨_, q.seq⟩
  | bor _ _ => intro b hb; cases hb
  | own2 _ _ _ _ _ q _ q2 _ =>
    intro b hb
    rcases List.mem_cons.mp hb with rfl | hb
    · exact ⟨_, q.seq⟩
    · rw [List.mem_singleton.mp hb]; exact ⟨_, q2.seq⟩
/-- an entry stands when one object that is no list has changed -/
theorem ERep.change {h h' : FH} {e : Ent} {v : Value} {fp : List Addr} {a : Addr} (r : ERep W K F h e v fp) (hc : ∀ b, b ≠ a → h' b = h b) (ha : ∀ vs, ¬ SeqAt h "list" a vs) : ERep W K F h' e v fp := by
  have key : ∀ {b vs}, OwnAt h b vs → OwnAt h' b vs := fun {b vs} q => by
    have hb : b ≠ a := by rintro rfl; exact ha _ q.seq
    obtain ⟨n, e⟩ := q
    exact ⟨n, (hc b hb).trans e⟩
  cases r with
  | v r => exact .v r
  | own f k q r => exact .own f k (key q) r
  | bor q r => exact .bor q r
  | own2 n f k f2 k2 q r q2 r2 => exact .own2 n f k f2 k2 (key q) r (key q2) r2

/-- what is made since, no name owns -/
theorem St.reserve (S : St W sc env K F ρ s) (a : Adv s F s' F') (X : List Addr) (hX : ∀ b ∈ X, s.heap.get? b = none) : StX W sc env K F' ρ s' X where
  kind := S.kind
  names := S.names
  glob := S.glob
  blt := S.blt
  inj := S.inj
  wr := S.wr
  has := S.has
  same := (S.adv a).same
  base := S.base
  keep := (S.adv a).keep
  froz := (S.adv a).froz
  offL := (S.adv a).offL
  offC := (S.adv a).offC
  vars := by
    obtain ⟨m, val, fp, n, hv, hd, _⟩ := S.vars
    refine ⟨m, val, fun y => if ρ.lookup y = none then [] else fp y, n.keeps a.ext, fun x e hx => ?_, ?_, ?_⟩
    · dsimp only
      rw [if_neg (by rw [hx]; simp)]
      exact ⟨(hv x e hx).1.ext a.ext, (hv x e hx).2.adv a⟩
    · intro x y b hx hy
      dsimp only at hx hy
      by_cases e1 : ρ.lookup x = none
      · rw [if_pos e1] at hx; cases hx
      · by_cases e2 : ρ.lookup y = none
        · rw [if_pos e2] at hy; cases hy
        · rw [if_neg e1] at hx; rw [if_neg e2] at hy; exact hd x y b hx hy
    · intro x b hx hb
      dsimp only at hx
      by_cases e1 : ρ.lookup x = none
      · rw [if_pos e1] at hx; cases hx
      · rw [if_neg e1] at hx
        obtain ⟨e, he⟩ := Option.ne_none_iff_exists'.mp e1
        obtain ⟨vs, o, _, ho, _⟩ := (hv x e he).2.there b hx
        rw [hX b hb] at ho; cases ho

/-- what a store leaves as it was -/
noncomputable def Touch (env : Env) (s s2 : Shared) : Prop := ∀ b o, s.heap.get? b = some o → b ≠ env.locals → (∀ x, env.cells.lookup x ≠ some b) → s2.heap.get? b = some o
theorem Touch.trans {env : Env} {s1 s2 s3 : Shared} (a : Touch env s1 s2) (b : Touch env s2 s3) : Touch env s1 s3 := fun x o e h1 h2 => b x o (a x o e h1 h2) h1 h2
theorem Adv.touch {env : Env} (a : Adv s F s' F') : Touch env s s' := fun b o e _ _ => a.ext b o e

theorem StX.storeT {X : List Addr} (S' : StX W sc env K F' ρ s' X) {x : Str} {e : Ent} {v : Value} {fp : List Addr} (hx : canStore sc x = true) (r : ERep W K F' s'.heap.get? e v fp)
    (hfp : ∀ b ∈ fp, b ∈ X) {M : Model} {A : Around} {Q : Unit → Shared → Prop} {E : Value → Shared → Prop} (q : ∀ s2, Touch env s' s2 → (∀ b ∈ X, s2.heap.get? b = s'.heap.get? b) → StX W sc env K F' ((x, e) :: ρ) s2 (X.filter fun b => !fp.contains b) → Q () s2) (hX : ∀ b ∈ X, ∃ vs, SeqAt s'.heap.get? "list" b vs) : wpAny M A (storeName env x v) Q E s' := by
  obtain ⟨m, val, fpo, n, hv, hd, hXo⟩ := S'.vars
  have hfp' : ∀ y b, b ∈ fpo y → ρ.lookup y ≠ none → b ∉ fp := fun y b hb _ hb' => hXo y b hb (hfp b hb')
  have n' := n
  obtain ⟨oL, es, ep, hoL, hdL⟩ := ns_some n'
  have hL : ∀ vs, ¬ SeqAt s'.heap.get? "list" env.locals vs := by
    rintro vs ⟨o, k, ho, _, _, hd⟩
    rw [hoL] at ho; cases ho; rw [hdL] at hd; cases hd
  let val' : Str → Value := fun y => if y = x then v else val y
  let fp' : Str → List Addr := fun y => if y = x then fp else if ρ.lookup y = none then [] else fpo y
  have disj : ∀ y z b, b ∈ fp' y → b ∈ fp' z → y = z := by
    intro y z b hy hz
    simp only [fp'] at hy hz
    by_cases e1 : y = x
    · by_cases e2 : z = x
      · rw [e1, e2]
      · rw [if_pos e1] at hy; rw [if_neg e2] at hz
        by_cases e3 : ρ.lookup z = none
        · rw [if_pos e3] at hz; cases hz
        · rw [if_neg e3] at hz; exact absurd hy (hfp' z b hz e3)
    · by_cases e2 : z = x
      · rw [if_neg e1] at hy; rw [if_pos e2] at hz
        by_cases e3 : ρ.lookup y = none
        · rw [if_pos e3] at hy; cases hy
        · rw [if_neg e3] at hy; exact absurd hz (hfp' y b hy e3)
      · rw [if_neg e1] at hy; rw [if_neg e2] at hz
        by_cases e3 : ρ.lookup y = none
        · rw [if_pos e3] at hy; cases hy
        · rw [if_neg e3] at hy
          by_cases e4 : ρ.lookup z = none
          · rw [if_pos e4] at hz; cases hz
          · rw [if_neg e4] at hz; exact hd y z b hy hz
  have hX' : ∀ y b, b ∈ fp' y → b ∉ X.filter fun b => !fp.contains b := by
    intro y b hy hb
    obtain ⟨hb1, hb2⟩ := List.mem_filter.mp hb
    simp only [fp'] at hy
    by_cases e1 : y = x
    · rw [if_pos e1] at hy
      simp [hy] at hb2
    · rw [if_neg e1] at hy
      by_cases e3 : ρ.lookup y = none
      · rw [if_pos e3] at hy; cases hy
      · rw [if_neg e3] at hy; exact hXo y b hy hb1
  have look : ∀ y e', ((x, e) :: ρ).lookup y = some e' → (y = x ∧ e' = e) ∨ (y ≠ x ∧ ρ.lookup y = some e') := by
    intro y e' h
    rw [List.lookup_cons] at h
    cases hb : y == x with
    | true => rw [hb] at h; cases h; exact .inl ⟨beq_iff_eq.mp hb, rfl⟩
    | false => rw [hb] at h; exact .inr ⟨fun e => by rw [e] at hb; simp at hb, h⟩
  unfold canStore at hx
  rw [← S'.names] at hx
  cases hk : env.scope.names.lookup x with
  | none => rw [hk] at hx; cases hx
  | some kd =>
    rw [hk] at hx
    cases kd with
    | «local» =>
      refine wpAny_storeName_local (m := m) hk n' (fun h' hn' hs' => q _ (fun b o e h1 h2 => (hs'.2 b h1).trans e) (fun b hb => hs'.2 b (by rintro rfl; obtain ⟨vs, hq⟩ := hX _ hb; exact hL vs hq)) ?_) (by rw [S'.kind]; rfl)
      have hch : ∀ b, b ≠ env.locals → h'.get? b = s'.heap.get? b := fun b hb => hs'.2 b hb
      have keepF : Sub F' h'.get? := fun b o e => (hch b (fun h => by rw [h, S'.offL.1] at e; cases e)).trans (S'.froz b o e)
      have keepK : Sub K h'.get? := fun b o e => (hch b (fun h => by rw [h, S'.offL.2] at e; cases e)).trans (S'.keep b o e)
      have cellL : ∀ c v0, s'.heap.IsCell c v0 → c ≠ env.locals := by
        rintro c v0 ⟨o, ho, hdc⟩ rfl
        rw [hoL] at ho; cases ho; rw [hdL] at hdc; cases hdc
      refine ⟨S'.kind, S'.names, S'.glob, S'.blt, S'.inj, S'.wr, S'.has, ?_, S'.base, keepK, keepF, S'.offL, ?_, fun y => if y = x then some v else m y, val', fp', hn', ?_, disj, hX'⟩
      · obtain ⟨h0, tk, e0⟩ := S'.same; exact ⟨h', _, by rw [e0]⟩
      · intro y c hc
        obtain ⟨h1, v0, h2⟩ := S'.offC y c hc
        exact ⟨h1, v0, h2.sameBut hs' (cellL c v0 h2)⟩
      · intro y e' hy
        rcases look y e' hy with ⟨rfl, rfl⟩ | ⟨hyx, hy⟩
        · refine ⟨.inl ⟨hk, by simp [val']⟩, ?_⟩
          simp only [val', fp', if_true]
          exact r.change hch hL
        · obtain ⟨at_, er⟩ := hv y e' hy
          have at' := at_
          have er' := er.change hch hL
          have hn : ρ.lookup y ≠ none := by rw [hy]; simp
          refine ⟨?_, by simp only [val', fp', if_neg hyx, if_neg hn]; exact er'⟩
          simp only [val', if_neg hyx]
          rcases at' with ⟨k1, k2⟩ | ⟨k1, c, k2, k3⟩
          · exact .inl ⟨k1, by show (if y = x then some v else m y) = _; rw [if_neg hyx]; exact k2⟩
          · exact .inr ⟨k1, c, k2, k3.sameBut hs' (cellL c _ k3)⟩
    | cell =>
      obtain ⟨c, hc⟩ := S'.has x hk
      obtain ⟨hcF, v0, hcell⟩ := S'.offC x c hc
      have hcK := S'.wr x c hx hc
      have hcL : ∀ vs, ¬ SeqAt s'.heap.get? "list" c vs := by
        rintro vs ⟨o, k, ho, _, _, hd⟩
        obtain ⟨o', ho', hd'⟩ := hcell
        rw [ho] at ho'; cases ho'; rw [hd] at hd'; cases hd'
      have hLc : env.locals ≠ c := by
        rintro e
        obtain ⟨o', ho', hd'⟩ := hcell
        rw [← e, hoL] at ho'; cases ho'; rw [hdL] at hd'; cases hd'
      refine wpAny_storeName_cell S'.kind hk hc hcell (fun h' hc' hs' => q _ (fun b o e h1 h2 => (hs'.2 b (fun e => h2 x (by rw [e]; exact hc))).trans e) (fun b hb => hs'.2 b (by rintro rfl; obtain ⟨vs, hq⟩ := hX _ hb; exact hcL vs hq)) ?_)
      have hch : ∀ b, b ≠ c → h'.get? b = s'.heap.get? b := fun b hb => hs'.2 b hb
      have keepF : Sub F' h'.get? := fun b o e => (hch b (fun h => by rw [h, hcF] at e; cases e)).trans (S'.froz b o e)
      have keepK : Sub K h'.get? := fun b o e => (hch b (fun h => by rw [h, hcK] at e; cases e)).trans (S'.keep b o e)
      refine ⟨S'.kind, S'.names, S'.glob, S'.blt, S'.inj, S'.wr, S'.has, ?_, S'.base, keepK, keepF, S'.offL, ?_, m, val', fp', n'.sameBut hs' hLc, ?_, disj, hX'⟩
      · obtain ⟨h0, tk, e0⟩ := S'.same; exact ⟨h', _, by rw [e0]⟩
      · intro y c' hc2
        obtain ⟨h1, v1, h2⟩ := S'.offC y c' hc2
        refine ⟨h1, ?_⟩
        by_cases e : c' = c
        · subst e; exact ⟨_, hc'⟩
        · exact ⟨v1, h2.sameBut hs' e⟩
      · intro y e' hy
        rcases look y e' hy with ⟨rfl, rfl⟩ | ⟨hyx, hy⟩
        · refine ⟨.inr ⟨hk, c, hc, by simpa [val'] using hc'⟩, ?_⟩
          simp only [val', fp', if_true]
          exact r.change hch hcL
        · obtain ⟨at_, er⟩ := hv y e' hy
          have at' := at_
          have er' := er.change hch hcL
          have hn : ρ.lookup y ≠ none := by rw [hy]; simp
          refine ⟨?_, by simp only [val', fp', if_neg hyx, if_neg hn]; exact er'⟩
          simp only [val', if_neg hyx]
          rcases at' with ⟨k1, k2⟩ | ⟨k1, c', k2, k3⟩
          · exact .inl ⟨k1, k2⟩
          · refine .inr ⟨k1, c', k2, k3.sameBut hs' fun e => hyx ?_⟩
            subst e
            exact S'.inj _ _ _ k2 hc
    | _ => cases hx
theorem StX.store {X : List Addr} (S' : StX W sc env K F' ρ s' X) {x : Str} {e : Ent} {v : Value} {fp : List Addr} (hx : canStore sc x = true) (r : ERep W K F' s'.heap.get? e v fp)
    (hfp : ∀ b ∈ fp, b ∈ X) {M : Model} {A : Around} {Q : Unit → Shared → Prop} {E : Value → Shared → Prop} (q : ∀ s2, (∀ b ∈ X, s2.heap.get? b = s'.heap.get? b) → StX W sc env K F' ((x, e) :: ρ) s2 (X.filter fun b => !fp.contains b) → Q () s2) (hX : ∀ b ∈ X, ∃ vs, SeqAt s'.heap.get? "list" b vs) : wpAny M A (storeName env x v) Q E s' :=
  S'.storeT hx r hfp (fun s2 _ => q s2) hX
theorem St.storeT (S : St W sc env K F ρ s) (a : Adv s F s' F') {x : Str} {e : Ent} {v : Value} {fp : List Addr} (hx : canStore sc x = true) (r : ERep W K F' s'.heap.get? e v fp)
    (hfp : ∀ b ∈ fp, s.heap.get? b = none) {M : Model} {A : Around} {Q : Unit → Shared → Prop} {E : Value → Shared → Prop} (q : ∀ s2, Touch env s' s2 → St W sc env K F' ((x, e) :: ρ) s2 → Q () s2) : wpAny M A (storeName env x v) Q E s' := by
  refine (S.reserve a fp hfp).storeT hx r (fun b hb => hb) (fun s2 ht _ S2 => q s2 ht ?_) r.there
  have e : (fp.filter fun b => !fp.contains b) = [] := by
    rw [List.filter_eq_nil_iff]
    intro b hb
    simp [hb]
  rw [e] at S2
  exact S2
theorem St.store (S : St W sc env K F ρ s) (a : Adv s F s' F') {x : Str} {e : Ent} {v : Value} {fp : List Addr} (hx : canStore sc x = true) (r : ERep W K F' s'.heap.get? e v fp)
    (hfp : ∀ b ∈ fp, s.heap.get? b = none) {M : Model} {A : Around} {Q : Unit → Shared → Prop} {E : Value → Shared → Prop} (q : ∀ s2, St W sc env K F' ((x, e) :: ρ) s2 → Q () s2) : wpAny M A (storeName env x v) Q E s' :=
  S.storeT a hx r hfp fun s2 _ => q s2
theorem St.store_v (S : St W sc env K F ρ s) (a : Adv s F s' F') {x : Str} {d : D} {v : Value} (hx : canStore sc x = true) (r : Rep W F' v d) {M : Model} {A : Around} {Q : Unit → Shared → Prop} {E : Value → Shared → Prop}
    (q : ∀ s2, St W sc env K F' ((x, .v d) :: ρ) s2 → Q () s2) : wpAny M A (storeName env x v) Q E s' := S.store a hx (.v r) (fun b hb => by cases hb) q
theorem St.store_vT (S : St W sc env K F ρ s) (a : Adv s F s' F') {x : Str} {d : D} {v : Value} (hx : canStore sc x = true) (r : Rep W F' v d) {M : Model} {A : Around} {Q : Unit → Shared → Prop} {E : Value → Shared → Prop}
    (q : ∀ s2, Touch env s' s2 → St W sc env K F' ((x, .v d) :: ρ) s2 → Q () s2) : wpAny M A (storeName env x v) Q E s' := S.storeT a hx (.v r) (fun b hb => by cases hb) q
end
end Mine

-- F7
namespace Mine

section
variable {W : Wd} {sc : Sc} {K F F' : FH} {ρ ρ' : Vars} {s s' : Shared} {k : Nat}

/-! ## statements -/
structure Grow (K F F' : FH) : Prop where
  sub : Sub F F'
  new : ∀ a o, F' a = some o → F a = some o ∨ K a = none
theorem Grow.refl : Grow K F F := ⟨Sub.rfl, fun _ _ e => .inl e⟩
theorem Grow.trans {F'' : FH} (x : Grow K F F') (y : Grow K F' F'') : Grow K F F'' := ⟨x.sub.trans y.sub, fun a o e => (y.new a o e).elim (x.new a o) .inr⟩
theorem Adv.grows (a : Adv s F s' F') (h : Sub K s.heap.get?) : Grow K F F' := ⟨a.sub, fun x o e => (a.new x o e).imp id fun hn => by
  cases hk : K x with
  | none => rfl
  | some o' => rw [h _ _ hk] at hn; cases hn⟩

inductive Out where
  | nxt (ρ : Vars)
  | ret (d : D)

structure Bare (W : Wd) (K F : FH) (s : Shared) : Prop where
  same : ∃ h tk, s = { W.s0 with heap := h, toks := tk }
  keep : Sub K s.heap.get?
  froz : Sub F s.heap.get?

noncomputable def OutOk (W : Wd) (sc : Sc) (env : Env) (K F : FH) (o : Out) (f : Flow) (s : Shared) : Prop := match o with
  | .nxt ρ => f = .next ∧ St W sc env K F ρ s
  | .ret d => ∃ v, f = .ret v ∧ Rep W F v d ∧ Bare W K F s

noncomputable def Exec (W : Wd) (sc : Sc) (k : Nat) (st : Stmt) (ρ : Vars) (o : Out) : Prop := Hold <|
  ∀ env A K F s Q E, Room k A → St W sc env K F ρ s → (∀ F' s' f, Grow K F F' → OutOk W sc env K F' o f s' → Q f s') → wpAny (model W.prog W.w) A (exec st env) Q E s
noncomputable def Execs (W : Wd) (sc : Sc) (k : Nat) (ss : List Stmt) (ρ : Vars) (o : Out) : Prop := Hold <|
  ∀ env A K F s Q E, Room k A → St W sc env K F ρ s → (∀ F' s' f, Grow K F F' → OutOk W sc env K F' o f s' → Q f s') → wpAny (model W.prog W.w) A (execs ss env) Q E s

theorem St.bare {env : Env} (S : St W sc env K F ρ s) : Bare W K F s := ⟨S.same, S.keep, S.froz⟩

theorem xs_nil : Execs W sc k [] ρ (.nxt ρ) := Hold.mk fun env A K F s Q E R S q => wpAny_execs_nil (q _ _ _ .refl ⟨rfl, S⟩)
theorem xs_cons {st : Stmt} {rest : List Stmt} {o : Out} (h1 : Exec W sc k st ρ (.nxt ρ')) (h2 : Execs W sc k rest ρ' o) : Execs W sc k (st :: rest) ρ o := by
  refine ⟨?_⟩; intro env A K F s Q E R S q
  refine wpAny_execs_cons (h1.out env A K F s _ E R S fun F1 s1 f g ⟨hf, S1⟩ => ?_)
  subst hf
  exact h2.out env A K F1 s1 _ E R S1 fun F2 s2 f g2 h => q _ _ _ (g.trans g2) h
theorem xs_ret {st : Stmt} {rest : List Stmt} {d : D} (h1 : Exec W sc k st ρ (.ret d)) : Execs W sc k (st :: rest) ρ (.ret d) := by
  refine ⟨?_⟩; intro env A K F s Q E R S q
  refine wpAny_execs_cons (h1.out env A K F s _ E R S fun F1 s1 f g h => ?_)
  obtain ⟨v, hf, _⟩ := id h
  subst hf
  exact q _ _ _ g h
theorem xs_weak {ss : List Stmt} {o : Out} (h : Execs W sc k ss ρ' o) (hw : ∀ p ∈ ρ', ρ.lookup p.1 = some p.2) : Execs W sc k ss ρ o :=
  Hold.mk fun env A K F s Q E R S q => h.out env A K F s Q E R (S.weaken hw) q
theorem xs_out {ss : List Stmt} {ρ1 : Vars} (h : Execs W sc k ss ρ (.nxt ρ1)) (hw : ∀ p ∈ ρ', ρ1.lookup p.1 = some p.2) : Execs W sc k ss ρ (.nxt ρ') :=
  Hold.mk fun env A K F s Q E R S q => h.out env A K F s Q E R S fun F' s' f g ⟨hf, S1⟩ => q F' s' f g ⟨hf, S1.weaken hw⟩
theorem x_weak {st : Stmt} {o : Out} (h : Exec W sc k st ρ' o) (hw : ∀ p ∈ ρ', ρ.lookup p.1 = some p.2) : Exec W sc k st ρ o :=
  Hold.mk fun env A K F s Q E R S q => h.out env A K F s Q E R (S.weaken hw) q
theorem x_out {st : Stmt} {ρ1 : Vars} (h : Exec W sc k st ρ (.nxt ρ1)) (hw : ∀ p ∈ ρ', ρ1.lookup p.1 = some p.2) : Exec W sc k st ρ (.nxt ρ') :=
  Hold.mk fun env A K F s Q E R S q => h.out env A K F s Q E R S fun F' s' f g ⟨hf, S1⟩ => q F' s' f g ⟨hf, S1.weaken hw⟩
theorem xs_out_eq {ss : List Stmt} {o o' : Out} (h : Execs W sc k ss ρ o) (e : o = o') : Execs W sc k ss ρ o' := e ▸ h

theorem x_ret {e : Expr} {pos : Pos} {d : D} (h : Evals W sc k e ρ d) : Exec W sc k (.Return (some e) pos) ρ (.ret d) := by
  refine ⟨?_⟩; intro env A K F s Q E R S q
  refine wpAny_Return_some (h.out env A K F s _ E R S fun F1 s1 v a r => ?_)
  exact q _ _ _ (a.grows S.keep) ⟨v, rfl, r, (S.adv a).bare⟩

/-- the frame gives up its right to change a list -/
theorem St.freeze {env : Env} {x : Str} {ds : List D} (S : St W sc env K F ρ s) (hx : ρ.lookup x = some (.own ds)) :
    ∃ F', Grow K F F' ∧ St W sc env K F' ((x, .v (.lst ds)) :: ρ) s := by
  obtain ⟨m, val, fp, n, hv, hd, _⟩ := S.vars
  obtain ⟨at_, er⟩ := hv x _ hx
  generalize hval : val x = vx at at_ er
  generalize hfp : fp x = fx at er
  cases er with
  | @own a vs ds hF hK q r =>
    obtain ⟨oa, na, hoa, hca, hda, hdd⟩ := q.seq
    let F' : FH := fun b => if b = a then some oa else F b
    have hsub : Sub F F' := fun b o e => by
      show (if b = a then some oa else F b) = some o
      by_cases hb : b = a
      · subst hb; rw [hF] at e; cases e
      · rw [if_neg hb]; exact e
    have hsup : Sub F' s.heap.get? := fun b o e => by
      have e' : (if b = a then some oa else F b) = some o := e
      by_cases hb : b = a
      · subst hb; rw [if_pos rfl] at e'; cases e'; exact hoa
      · rw [if_neg hb] at e'; exact S.froz b o e'
    have hoff : ∀ b, b ≠ a → F b = none → F' b = none := fun b hb e => by
      show (if b = a then some oa else F b) = none
      rw [if_neg hb]; exact e
    obtain ⟨oL, es, ep, hoL, hdL⟩ := ns_some n
    have hLa : env.locals ≠ a := by
      rintro e
      rw [← e, hoL] at hoa; cases hoa; rw [hdL] at hdd; cases hdd
    refine ⟨F', ⟨hsub, fun b o e => ?_⟩, S.kind, S.names, S.glob, S.blt, S.inj, S.wr, S.has, S.same, S.base, S.keep, hsup, ⟨hoff _ hLa S.offL.1, S.offL.2⟩, ?_, m, val, fun y => if y = x then [] else fp y, n, ?_, ?_, fun _ _ _ h => by cases h⟩
    · have e' : (if b = a then some oa else F b) = some o := e
      by_cases hb : b = a
      · subst hb; exact .inr hK
      · rw [if_neg hb] at e'; exact .inl e'
    · intro y c hc
      obtain ⟨h1, v0, o0, h2, h3⟩ := S.offC y c hc
      refine ⟨hoff _ ?_ h1, v0, o0, h2, h3⟩
      rintro rfl
      rw [h2] at hoa; cases hoa; rw [h3] at hdd; cases hdd
    · intro y e hy
      rw [List.lookup_cons] at hy
      cases hb : y == x with
      | true =>
        rw [hb] at hy; cases hy
        have hyx := beq_iff_eq.mp hb
        subst hyx
        refine ⟨by rw [hval]; exact at_, ?_⟩
        dsimp only
        rw [if_pos rfl, hval]
        refine .v (.lst ⟨oa, na, ?_, hca, hda, hdd⟩ (r.mono hsub))
        show (if a = a then some oa else F a) = some oa
        rw [if_pos rfl]
      | false =>
        rw [hb] at hy
        have hyx : y ≠ x := fun e => by rw [e] at hb; simp at hb
        have hy' : ρ.lookup y = some e := hy
        obtain ⟨at2, er2⟩ := hv y e hy'
        refine ⟨at2, ?_⟩
        dsimp only
        rw [if_neg hyx]
        have notin : a ∉ fp y := fun hm => hyx (hd y x a hm (by rw [hfp]; exact List.mem_singleton.mpr rfl))
        generalize fp y = fy at er2 notin
        generalize val y = vy at er2
        cases er2 with
        | v r => exact .v (r.mono hsub)
        | @own b ws es f k q r =>
          exact .own (hoff _ (fun e => notin (by rw [e]; exact List.mem_singleton.mpr rfl)) f) k q (r.mono hsub)
        | bor q r => exact .bor q (r.mono hsub)
        | @own2 b c ws us es gs hn f k f2 k2 q r q2 r2 =>
          exact .own2 hn (hoff _ (fun e => notin (by rw [e]; exact List.mem_cons_self)) f) k (hoff _ (fun e => notin (by rw [e]; exact List.mem_cons_of_mem _ (List.mem_singleton.mpr rfl))) f2) k2 q (r.mono hsub) q2 (r2.mono hsub)
    · intro y z b hy hz
      dsimp only at hy hz
      by_cases e1 : y = x
      · rw [if_pos e1] at hy; cases hy
      · by_cases e2 : z = x
        · rw [if_pos e2] at hz; cases hz
        · rw [if_neg e1] at hy; rw [if_neg e2] at hz; exact hd y z b hy hz
theorem xs_freeze {ss : List Stmt} {o : Out} (x : Str) {ds : List D} (hx : ρ.lookup x = some (.own ds)) (h : Execs W sc k ss ((x, .v (.lst ds)) :: ρ) o) : Execs W sc k ss ρ o := by
  refine ⟨?_⟩; intro env A K F s Q E R S q
  obtain ⟨F1, g, S1⟩ := S.freeze hx
  exact h.out env A K F1 s Q E R S1 fun F2 s2 f g2 h2 => q _ _ _ (g.trans g2) h2

/-! ## assignments -/
theorem x_set {x : Str} {p pos : Pos} {value : Expr} {d : D} (h : Evals W sc k value ρ d) (hx : canStore sc x = true)
    (hs : ∀ env, swapsWith value (some (.Name x p)) pos.line env = pure false := by intros; rfl) : Exec W sc k (.Assign [.Name x p] value pos) ρ (.nxt ((x, .v d) :: ρ)) := by
  refine ⟨?_⟩; intro env A K F s Q E R S q
  refine wpAny_Assign_Name (h.out env A K F s _ E R S fun F1 s1 v a r => ?_) (hs env)
  exact S.store_v a hx r fun s2 S2 => q _ _ _ (a.grows S.keep) ⟨rfl, S2⟩
theorem x_own {x : Str} {p pos pos' : Pos} {es : List Expr} {ds : List D} (h : EvAll W sc k ρ es ds) (hx : canStore sc x = true) (hl : ds.length ≤ 1000000 := by decide) :
    Exec W sc k (.Assign [.Name x p] (.List es pos') pos) ρ (.nxt ((x, .own ds) :: ρ)) := by
  refine ⟨?_⟩; intro env A K F s Q E R S q
  refine wpAny_Assign_Name (made_own h hl R S fun F1 s1 a vs ad hF hK hn sq r => ?_) (by rfl)
  refine S.store ad hx (.own hF hK sq r) (fun b hb => ?_) fun s2 S2 => q _ _ _ (ad.grows S.keep) ⟨rfl, S2⟩
  rw [List.mem_singleton.mp hb]; exact hn

/-- binding a target to data -/
noncomputable def bindN : List Expr → List D → Vars → Option Vars
  | [], ds, ρ => match ds with
    | [] => some ρ
    | _ :: _ => none
  | e :: es, ds, ρ => match ds with
    | [] => none
    | d :: ds => match e with
      | .Name x _ => bindN es ds ((x, .v d) :: ρ)
      | _ => none
noncomputable def bindT : Expr → D → Vars → Option Vars
  | .Name x _, d, ρ => some ((x, .v d) :: ρ)
  | .Tuple es _ _, d, ρ => match d with
    | .tup ds => bindN es ds ρ
    | _ => none
  | _, _, _ => none
noncomputable def nameGood (sc : Sc) : Expr → Bool
  | .Name x _ => canStore sc x
  | _ => false
noncomputable def targetOk (sc : Sc) : Expr → Bool
  | .Name x _ => canStore sc x
  | .Tuple es _ _ => es.all (nameGood sc)
  | _ => false

/-- names in a row, each to its datum -/
theorem store_rowT {env : Env} {A : Around} {E : Value → Shared → Prop} : ∀ (ts : List (Str × Pos)) (vs : List Value) (ds : List D) (ρ : Vars) (s : Shared) (Q : Unit → Shared → Prop), (ts.all fun t => canStore sc t.1) = true → St W sc env K F ρ s → RepAll W F vs ds → ts.length = ds.length →
    (∀ s', Touch env s s' → St W sc env K F ((((ts.map (·.1)).zip ds).map fun p => (p.1, Ent.v p.2)).reverse ++ ρ) s' → Q () s') →
    wpAny (model W.prog W.w) A (assignInOrder (ts.map fun t => assign (.Name t.1 t.2) env) vs) Q E s
  | [], _, _, ρ, s, Q, _, S, r, hl, q => by
    cases r with
    | nil => exact assignInOrder_nil (q s (fun _ _ e _ _ => e) (by simpa using S))
    | cons _ _ => simp at hl
  | t :: ts, _, _, ρ, s, Q, hc, S, r, hl, q => by
    cases r with
    | nil => simp at hl
    | @cons v vs d ds r rs =>
      simp only [List.all_cons, Bool.and_eq_true] at hc
      refine assignInOrder_cons (wpAny_assign_Name (S.store_vT S.room0 hc.1 r fun s2 t2 S2 => ?_))
      refine store_rowT ts vs ds _ s2 Q hc.2 S2 rs (by simpa using hl) fun s3 t3 S3 => q s3 (t2.trans t3) ?_
      simpa using S3
theorem store_row {env : Env} {A : Around} {E : Value → Shared → Prop} (ts : List (Str × Pos)) (vs : List Value) (ds : List D) (ρ : Vars) (s : Shared) (Q : Unit → Shared → Prop) (hc : (ts.all fun t => canStore sc t.1) = true) (S : St W sc env K F ρ s) (r : RepAll W F vs ds) (hl : ts.length = ds.length)
    (q : ∀ s', St W sc env K F ((((ts.map (·.1)).zip ds).map fun p => (p.1, Ent.v p.2)).reverse ++ ρ) s' → Q () s') : wpAny (model W.prog W.w) A (assignInOrder (ts.map fun t => assign (.Name t.1 t.2) env) vs) Q E s :=
  store_rowT ts vs ds ρ s Q hc S r hl fun s' _ => q s'
end
end Mine

-- F8
namespace Mine

section
variable {W : Wd} {sc : Sc} {K F F' : FH} {ρ ρ' : Vars} {s s' : Shared} {k : Nat}

noncomputable abbrev names_ (ts : List (Str × Pos)) : List Expr := ts.map fun t => .Name t.1 t.2
theorem assignEach_names (env : Env) : ∀ ts : List (Str × Pos), assignEach (names_ ts) env = ts.map fun t => (false, assign (.Name t.1 t.2) env)
  | [] => rfl
  | t :: ts => by
    show (false, assign (.Name t.1 t.2) env) :: assignEach (names_ ts) env = _
    rw [assignEach_names env ts]; rfl
theorem findIdx_none {α : Type} (l : List α) (f : α → Bool × (Value → Sem Unit)) (h : ∀ x, (f x).1 = false) : (l.map f).findIdx? (·.1) = none := by
  rw [List.findIdx?_eq_none_iff]
  intro x hx
  obtain ⟨y, _, rfl⟩ := List.mem_map.mp hx
  rw [h y]

theorem Adv.extBut {h' : Heap} (hF : Sub F s.heap.get?) (he : Heap.ExtBut s.heap.objs.size s.heap h') : Adv s F { s with heap := h' } F :=
  ⟨⟨h', s.toks, rfl⟩, fun b o e => he b o (Nat.ne_of_lt (Heap.lt_size e)) e, Sub.rfl, fun _ _ e => .inl e, fun b o e => he b o (Nat.ne_of_lt (Heap.lt_size (hF b o e))) (hF b o e)⟩

noncomputable def boundAll (ts : List (Str × Pos)) (ds : List D) (ρ : Vars) : Vars := (((ts.map (·.1)).zip ds).map fun p => (p.1, Ent.v p.2)).reverse ++ ρ

/-- a, b = (a tuple) -/
theorem assign_pairT {env : Env} {A : Around} {E : Value → Shared → Prop} {Q : Unit → Shared → Prop} {ts : List (Str × Pos)} {n : Nat} {tp : Pos} {a : Addr} {vs : List Value} {ds : List D} (R : Room k A) (S : St W sc env K F ρ s) (ht : IsTup s.heap a vs.toArray) (r : RepAll W F vs ds) (hl : ts.length = ds.length)
    (hc : (ts.all fun t => canStore sc t.1) = true) (q : ∀ s', Touch env s s' → St W sc env K F (boundAll ts ds ρ) s' → Q () s') : wpAny (model W.prog W.w) A (assign (.Tuple (names_ ts) n tp) env (.ref a)) Q E s := by
  have hn : (assignEach (names_ ts) env).length = vs.toArray.size := by rw [assignEach_names, List.length_map, List.size_toArray, r.length, hl]
  refine assign_Tuple_tuple R.hh ht hn (by rw [assignEach_names]; exact findIdx_none _ _ fun _ => rfl) fun h' he => ?_
  rw [assignEach_names, List.map_map]
  have ad := Adv.extBut S.froz he
  exact store_rowT ts vs ds ρ _ Q hc (S.adv ad) r hl fun s' t' => q s' ((ad.touch).trans t')
theorem assign_tupT {env : Env} {A : Around} {E : Value → Shared → Prop} {Q : Unit → Shared → Prop} {ts : List (Str × Pos)} {n : Nat} {tp : Pos} {v : Value} {ds : List D} (R : Room k A) (S : St W sc env K F ρ s) (r : Rep W F v (.tup ds)) (hl : ts.length = ds.length)
    (hc : (ts.all fun t => canStore sc t.1) = true) (q : ∀ s', Touch env s s' → St W sc env K F (boundAll ts ds ρ) s' → Q () s') : wpAny (model W.prog W.w) A (assign (.Tuple (names_ ts) n tp) env v) Q E s := by
  cases r with
  | @tup a vs ds sq r => exact assign_pairT R S (sq.mono S.froz).isTup r hl hc q
theorem assign_tup {env : Env} {A : Around} {E : Value → Shared → Prop} {Q : Unit → Shared → Prop} {ts : List (Str × Pos)} {n : Nat} {tp : Pos} {v : Value} {ds : List D} (R : Room k A) (S : St W sc env K F ρ s) (r : Rep W F v (.tup ds)) (hl : ts.length = ds.length)
    (hc : (ts.all fun t => canStore sc t.1) = true) (q : ∀ s', St W sc env K F (boundAll ts ds ρ) s' → Q () s') : wpAny (model W.prog W.w) A (assign (.Tuple (names_ ts) n tp) env v) Q E s := assign_tupT R S r hl hc fun s' _ => q s'
theorem assign_lst {env : Env} {A : Around} {E : Value → Shared → Prop} {Q : Unit → Shared → Prop} {ts : List (Str × Pos)} {n : Nat} {tp : Pos} {v : Value} {ds : List D} (R : Room k A) (S : St W sc env K F ρ s) (r : Rep W F v (.lst ds)) (hl : ts.length = ds.length)
    (hc : (ts.all fun t => canStore sc t.1) = true) (q : ∀ s', St W sc env K F (boundAll ts ds ρ) s' → Q () s') : wpAny (model W.prog W.w) A (assign (.Tuple (names_ ts) n tp) env v) Q E s := by
  cases r with
  | @lst a vs ds sq r =>
    have hn : (assignEach (names_ ts) env).length = vs.toArray.size := by rw [assignEach_names, List.length_map, List.size_toArray, r.length, hl]
    rw [assign_Tuple]
    refine wpAny_bind (wpAny_standAt ?_)
    unfold unpack
    rw [hn, assignEach_names, findIdx_none _ _ fun _ => rfl]
    refine wpAny_bind (wpAny_holding (kun_itemsOf R.hh (sq.mono S.froz).isList fun h' he => ?_))
    rw [List.map_map]
    exact store_row ts vs ds ρ _ Q hc (S.adv (.extBut S.froz he)) r hl q
theorem x_unpack {ts : List (Str × Pos)} {n : Nat} {tp pos : Pos} {value : Expr} {ds : List D} (h : Evals W sc k value ρ (.tup ds)) (hl : ts.length = ds.length) (hc : (ts.all fun t => canStore sc t.1) = true)
    (h1 : ∀ env, swapsWithSole [.Tuple (names_ ts) n tp] value pos.line env = pure false := by intros; rfl) (h2 : ∀ env, env.scope.kind = .function → swappedStores [.Tuple (names_ ts) n tp] value env = pure none := by intros; rfl) :
    Exec W sc k (.Assign [.Tuple (names_ ts) n tp] value pos) ρ (.nxt (boundAll ts ds ρ)) := by
  refine ⟨?_⟩; intro env A K F s Q E R S q
  refine PyProof.Rows.Assign_Tuple (h.out env A K F s _ E R S fun F1 s1 v a r => ?_) (h1 env) (h2 env S.kind)
  exact assign_tup R (S.adv a) r hl hc fun s2 S2 => q _ _ _ (a.grows S.keep) ⟨rfl, S2⟩
theorem x_unpackL {ts : List (Str × Pos)} {n : Nat} {tp pos : Pos} {value : Expr} {ds : List D} (h : Evals W sc k value ρ (.lst ds)) (hl : ts.length = ds.length) (hc : (ts.all fun t => canStore sc t.1) = true)
    (h1 : ∀ env, swapsWithSole [.Tuple (names_ ts) n tp] value pos.line env = pure false := by intros; rfl) (h2 : ∀ env, env.scope.kind = .function → swappedStores [.Tuple (names_ ts) n tp] value env = pure none := by intros; rfl) :
    Exec W sc k (.Assign [.Tuple (names_ ts) n tp] value pos) ρ (.nxt (boundAll ts ds ρ)) := by
  refine ⟨?_⟩; intro env A K F s Q E R S q
  refine PyProof.Rows.Assign_Tuple (h.out env A K F s _ E R S fun F1 s1 v a r => ?_) (h1 env) (h2 env S.kind)
  exact assign_lst R (S.adv a) r hl hc fun s2 S2 => q _ _ _ (a.grows S.keep) ⟨rfl, S2⟩

/-- x, y = d, e, stored from behind -/
theorem x_swap2 {x y : Str} {p1 p2 tp pos : Pos} {n : Nat} {value : Expr} {d e : D} (h : Evals W sc k value ρ (.tup [d, e])) (hx : canStore sc x = true) (hy : canStore sc y = true)
    (h1 : ∀ env, swapsWithSole [.Tuple [.Name x p1, .Name y p2] n tp] value pos.line env = pure false)
    (h2 : ∀ env, env.scope.kind = .function → env.scope.names = sc.names → swappedStores [.Tuple [.Name x p1, .Name y p2] n tp] value env = pure (some [x, y])) :
    Exec W sc k (.Assign [.Tuple [.Name x p1, .Name y p2] n tp] value pos) ρ (.nxt ((x, .v d) :: (y, .v e) :: ρ)) := by
  refine ⟨?_⟩; intro env A K F s Q E R S q
  refine Assign_Tuple_swapped (names := [x, y]) (h.out env A K F s _ E R S fun F1 s1 v a r => ?_) (h1 env) (h2 env S.kind S.names)
  cases r with
  | @tup t vs ds sq r =>
    cases r with
    | @cons v1 vs _ _ r1 r =>
      cases r with
      | @cons v2 vs _ _ r2 r =>
        cases r
        refine unpackItems_tuple (items := #[v1, v2]) R.hh (sq.mono a.sup).isTup fun h' he => ?_
        have S1 := (S.adv a).adv (.extBut a.sup he)
        refine assignInOrder_cons (wpAny_bindName (S1.store_v S1.room0 hy r2 fun s2 S2 => ?_))
        refine assignInOrder_cons (wpAny_bindName (S2.store_v S2.room0 hx r1 fun s3 S3 => ?_))
        exact assignInOrder_nil (q _ _ _ (a.grows S.keep) ⟨rfl, S3⟩)

/-- x, y = [..], [..] -/
theorem x_swap_own2 {x y : Str} {p1 p2 tp pos q1 q2 vp : Pos} {n m : Nat} {es fs : List Expr} {ds gs : List D} (h1 : EvAll W sc k ρ es ds) (h2 : EvAll W sc k ρ fs gs) (hx : canStore sc x = true) (hy : canStore sc y = true)
    (hsw : ∀ env, swapsWithSole [.Tuple [.Name x p1, .Name y p2] n tp] (.Tuple [.List es q1, .List fs q2] m vp) pos.line env = pure false)
    (hsw2 : ∀ env, env.scope.kind = .function → env.scope.names = sc.names → swappedStores [.Tuple [.Name x p1, .Name y p2] n tp] (.Tuple [.List es q1, .List fs q2] m vp) env = pure (some [x, y]))
    (l1 : ds.length ≤ 1000000 := by decide) (l2 : gs.length ≤ 1000000 := by decide) :
    Exec W sc k (.Assign [.Tuple [.Name x p1, .Name y p2] n tp] (.Tuple [.List es q1, .List fs q2] m vp) pos) ρ (.nxt ((x, .own ds) :: (y, .own gs) :: ρ)) := by
  refine ⟨?_⟩; intro env A K F s Q E R S q
  refine Assign_Tuple_swapped (names := [x, y]) ?_ (hsw env) (hsw2 env S.kind S.names)
  refine Tuple_ (spliced_more (made_own h1 l1 R S fun F1 s1 a1 vs1 ad1 hF1 hK1 hn1 sq1 r1 => ?_) (by rfl))
  refine spliced_more (made_own h2 l2 R (S.adv ad1) fun F2 s2 a2 vs2 ad2 hF2 hK2 hn2 sq2 r2 => ?_) (by rfl)
  refine spliced_none (wpAny_newTuple ?_ (by rw [sizeLine_eq]; show _ ≤ 16777216; simp))
  obtain ⟨o1, ho1⟩ := sq1.some
  have hne : a1 ≠ a2 := by rintro rfl; rw [ho1] at hn2; cases hn2
  have hF21 : F2 a1 = none := ad2.off hF1 ho1
  have ad3 := Adv.grow (n := s2.toks) ad2.sup (sub_push s2.heap { cls := .type "tuple", data := .seq [Value.ref a1, .ref a2].toArray })
  have hT : IsTup (s2.heap.push { cls := .type "tuple", data := .seq [Value.ref a1, .ref a2].toArray }) s2.heap.objs.size #[.ref a1, .ref a2] := ⟨_, Heap.get?_push_size _ rfl, rfl, _, rfl⟩
  refine unpackItems_tuple (items := #[.ref a1, .ref a2]) R.hh hT fun h' he => ?_
  have ad4 : Adv s F _ F2 := ((ad1.trans ad2).trans ad3).trans (.extBut ad3.sup he)
  have k1 : s.heap.get? a1 = none := hn1
  have k2 : s.heap.get? a2 = none := by
    cases e : s.heap.get? a2 with
    | none => rfl
    | some o => have := ad1.ext _ _ e; rw [hn2] at this; cases this
  have e34 : Sub s2.heap.get? h'.get? := ad3.ext.trans (Adv.extBut ad3.sup he).ext
  have sq1' : OwnAt h'.get? a1 vs1 := (sq1.mono ad2.ext).mono e34
  have sq2' : OwnAt h'.get? a2 vs2 := sq2.mono e34
  have SX := S.reserve ad4 [a1, a2] (by intro b hb; simp at hb; rcases hb with rfl | rfl <;> assumption)
  refine assignInOrder_cons (wpAny_bindName (SX.store hy (.own hF2 hK2 sq2' r2) (by simp) (fun s5 hs5 S5 => ?_) ?_))
  · have e5 : ([a1, a2].filter fun b => ![a2].contains b) = [a1] := by simp [List.filter, hne]
    rw [e5] at S5
    have sq1'' : OwnAt s5.heap.get? a1 vs1 := by
      obtain ⟨nn, e⟩ := sq1'
      exact ⟨nn, (hs5 a1 (by simp)).trans e⟩
    refine assignInOrder_cons (wpAny_bindName (S5.store hx (.own hF21 hK1 sq1'' (r1.mono ad2.sub)) (by simp) (fun s6 hs6 S6 => ?_) (by intro b hb; rw [List.mem_singleton.mp hb]; exact ⟨_, sq1''.seq⟩)))
    have e6 : ([a1].filter fun b => ![a1].contains b) = [] := by simp
    rw [e6] at S6
    exact assignInOrder_nil (q _ _ _ (ad4.grows S.keep) ⟨rfl, S6⟩)
  · intro b hb
    simp at hb
    rcases hb with rfl | rfl
    · exact ⟨_, sq1'.seq⟩
    · exact ⟨_, sq2'.seq⟩
/-- x, y, z = [..], [..], [..] -/
theorem x_swap_own3 {x y z : Str} {p1 p2 p3 tp pos q1 q2 q3 vp : Pos} {n m : Nat} {es fs ws : List Expr} {ds gs us : List D} (h1 : EvAll W sc k ρ es ds) (h2 : EvAll W sc k ρ fs gs) (h3 : EvAll W sc k ρ ws us) (hx : canStore sc x = true) (hy : canStore sc y = true) (hz : canStore sc z = true)
    (hsw : ∀ env, swapsWithSole [.Tuple [.Name x p1, .Name y p2, .Name z p3] n tp] (.Tuple [.List es q1, .List fs q2, .List ws q3] m vp) pos.line env = pure false)
    (hsw2 : ∀ env, env.scope.kind = .function → env.scope.names = sc.names → swappedStores [.Tuple [.Name x p1, .Name y p2, .Name z p3] n tp] (.Tuple [.List es q1, .List fs q2, .List ws q3] m vp) env = pure (some [x, y, z]))
    (l1 : ds.length ≤ 1000000 := by decide) (l2 : gs.length ≤ 1000000 := by decide) (l3 : us.length ≤ 1000000 := by decide) :
    Exec W sc k (.Assign [.Tuple [.Name x p1, .Name y p2, .Name z p3] n tp] (.Tuple [.List es q1, .List fs q2, .List ws q3] m vp) pos) ρ (.nxt ((x, .own ds) :: (y, .own gs) :: (z, .own us) :: ρ)) := by
  refine ⟨?_⟩; intro env A K F s Q E R S q
  refine Assign_Tuple_swapped (names := [x, y, z]) ?_ (hsw env) (hsw2 env S.kind S.names)
  refine Tuple_ (spliced_more (made_own h1 l1 R S fun F1 s1 a1 vs1 ad1 hF1 hK1 hn1 sq1 r1 => ?_) (by rfl))
  refine spliced_more (made_own h2 l2 R (S.adv ad1) fun F2 s2 a2 vs2 ad2 hF2 hK2 hn2 sq2 r2 => ?_) (by rfl)
  refine spliced_more (made_own h3 l3 R ((S.adv ad1).adv ad2) fun F3 s3 a3 vs3 ad3 hF3 hK3 hn3 sq3 r3 => ?_) (by rfl)
  refine spliced_none (wpAny_newTuple ?_ (by rw [sizeLine_eq]; show _ ≤ 16777216; simp))
  obtain ⟨o1, ho1⟩ := sq1.some
  obtain ⟨o2, ho2⟩ := sq2.some
  have hne : a1 ≠ a2 := by rintro rfl; rw [ho1] at hn2; cases hn2
  have hne13 : a1 ≠ a3 := by rintro rfl; rw [ad2.ext _ _ ho1] at hn3; cases hn3
  have hne23 : a2 ≠ a3 := by rintro rfl; rw [ho2] at hn3; cases hn3
  have hF31 : F3 a1 = none := ad3.off (ad2.off hF1 ho1) (ad2.ext _ _ ho1)
  have hF32 : F3 a2 = none := ad3.off hF2 ho2
  have ad4 := Adv.grow (n := s3.toks) ad3.sup (sub_push s3.heap { cls := .type "tuple", data := .seq [Value.ref a1, .ref a2, .ref a3].toArray })
  have hT : IsTup (s3.heap.push { cls := .type "tuple", data := .seq [Value.ref a1, .ref a2, .ref a3].toArray }) s3.heap.objs.size #[.ref a1, .ref a2, .ref a3] := ⟨_, Heap.get?_push_size _ rfl, rfl, _, rfl⟩
  refine unpackItems_tuple (items := #[.ref a1, .ref a2, .ref a3]) R.hh hT fun h' he => ?_
  have ad5 : Adv s F _ F3 := (((ad1.trans ad2).trans ad3).trans ad4).trans (.extBut ad4.sup he)
  have none_of : ∀ {b : Addr} {t : Shared}, Sub s.heap.get? t.heap.get? → t.heap.get? b = none → s.heap.get? b = none := fun {b t} hsub hb => by
    cases e : s.heap.get? b with
    | none => rfl
    | some o => have := hsub _ _ e; rw [hb] at this; cases this
  have k1 : s.heap.get? a1 = none := hn1
  have k2 : s.heap.get? a2 = none := none_of ad1.ext hn2
  have k3 : s.heap.get? a3 = none := none_of (ad1.ext.trans ad2.ext) hn3
  have e34 : Sub s3.heap.get? h'.get? := ad4.ext.trans (Adv.extBut ad4.sup he).ext
  have sq1' : OwnAt h'.get? a1 vs1 := ((sq1.mono ad2.ext).mono ad3.ext).mono e34
  have sq2' : OwnAt h'.get? a2 vs2 := (sq2.mono ad3.ext).mono e34
  have sq3' : OwnAt h'.get? a3 vs3 := sq3.mono e34
  have SX := S.reserve ad5 [a1, a2, a3] (by intro b hb; simp at hb; rcases hb with rfl | rfl | rfl <;> assumption)
  have still : ∀ {t t' : Shared} {X : List Addr} {b : Addr} {vs : List Value}, (∀ b ∈ X, t'.heap.get? b = t.heap.get? b) → b ∈ X → OwnAt t.heap.get? b vs → OwnAt t'.heap.get? b vs := fun h hb ⟨nn, e⟩ => ⟨nn, (h _ hb).trans e⟩
  refine assignInOrder_cons (wpAny_bindName (SX.store hz (.own hF3 hK3 sq3' r3) (by simp) (fun s5 hs5 S5 => ?_) ?_))
  · have e5 : ([a1, a2, a3].filter fun b => ![a3].contains b) = [a1, a2] := by simp [List.filter, hne13, hne23]
    rw [e5] at S5
    have t1 := still hs5 (by simp) sq1'
    have t2 := still hs5 (by simp) sq2'
    refine assignInOrder_cons (wpAny_bindName (S5.store hy (.own hF32 hK2 t2 (r2.mono ad3.sub)) (by simp) (fun s6 hs6 S6 => ?_) ?_))
    · have e6 : ([a1, a2].filter fun b => ![a2].contains b) = [a1] := by simp [List.filter, hne]
      rw [e6] at S6
      have u1 := still hs6 (by simp) t1
      refine assignInOrder_cons (wpAny_bindName (S6.store hx (.own hF31 hK1 u1 ((r1.mono ad2.sub).mono ad3.sub)) (by simp) (fun s7 hs7 S7 => ?_) (by intro b hb; rw [List.mem_singleton.mp hb]; exact ⟨_, u1.seq⟩)))
      have e7 : ([a1].filter fun b => ![a1].contains b) = [] := by simp
      rw [e7] at S7
      exact assignInOrder_nil (q _ _ _ (ad5.grows S.keep) ⟨rfl, S7⟩)
    · intro b hb
      simp at hb
      rcases hb with rfl | rfl
      · exact ⟨_, t1.seq⟩
      · exact ⟨_, t2.seq⟩
  · intro b hb
    simp at hb
    rcases hb with rfl | rfl | rfl
    · exact ⟨_, sq1'.seq⟩
    · exact ⟨_, sq2'.seq⟩
    · exact ⟨_, sq3'.seq⟩
end
end Mine

-- F9
namespace Mine

section
variable {W : Wd} {sc : Sc} {K F F' : FH} {ρ ρ' : Vars} {s s' : Shared} {k : Nat}

/-- a list that the frame owns: how it is read, how it may be changed -/
theorem St.own_val {env : Env} {x : Str} {ds : List D} (S : St W sc env K F ρ s) (hx : ρ.lookup x = some (.own ds)) :
    ∃ a vs, (∀ (M : Model) (A : Around) (Q : Value → Shared → Prop) (E : Value → Shared → Prop), Q (.ref a) s → wpAny M A (loadName env x) Q E s) ∧ OwnAt s.heap.get? a vs ∧ RepAll W F vs ds ∧ F a = none ∧ K a = none ∧
      (∀ F2 s2 h' tk vs' ds', Adv s F s2 F2 → (∀ b, b ≠ a → h'.get? b = s2.heap.get? b) → OwnAt h'.get? a vs' → RepAll W F2 vs' ds' → St W sc env K F2 ((x, .own ds') :: ρ) { s2 with heap := h', toks := tk }) := by
  obtain ⟨m, val, fp, n, hv, hd, _⟩ := S.vars
  obtain ⟨at_, er⟩ := hv x _ hx
  generalize hval : val x = vx at at_ er
  generalize hfp : fp x = fx at er
  cases er with
  | @own a vs ds hF hK q r =>
    refine ⟨a, vs, fun M A Q E hQ => ?_, q, r, hF, hK, ?_⟩
    · rcases at_ with ⟨k1, k2⟩ | ⟨k1, c, k2, k3⟩
      · exact wpAny_loadName_local S.kind k1 n k2 hQ
      · exact wpAny_loadName_cell S.kind k1 k2 k3 hQ
    · intro F2 s2 h' tk vs' ds' ad hch hown hr
      have S2 := S.adv ad
      obtain ⟨oa, hoa⟩ := q.some
      obtain ⟨na, hna⟩ := q
      have n2 := n.keeps ad.ext
      obtain ⟨oL, es, ep, hoL, hdL⟩ := ns_some n2
      have hLa : env.locals ≠ a := by
        rintro e
        rw [e, ad.ext _ _ hna] at hoL; cases hoL; cases hdL
      have hF2 : F2 a = none := ad.off hF hna
      have keepF : Sub F2 h'.get? := fun b o e => (hch b (fun h => by rw [h, hF2] at e; cases e)).trans (ad.sup b o e)
      have keepK : Sub K h'.get? := fun b o e => (hch b (fun h => by rw [h, hK] at e; cases e)).trans (S2.keep b o e)
      have cellA : ∀ c v0, s2.heap.IsCell c v0 → c ≠ a := by
        rintro c v0 ⟨o, ho, hdc⟩ rfl
        rw [ad.ext _ _ hna] at ho; cases ho; cases hdc
      refine ⟨S.kind, S.names, S.glob, S.blt, S.inj, S.wr, S.has, ?_, S.base, keepK, keepF, S2.offL, ?_, m, val, fp, ?_, ?_, hd, fun _ _ _ h => by cases h⟩
      · obtain ⟨h0, tk0, e0⟩ := S2.same; exact ⟨h', tk, by rw [e0]⟩
      · intro y c hc
        obtain ⟨h1, v0, o0, h2, h3⟩ := S2.offC y c hc
        exact ⟨h1, v0, o0, (hch c (cellA c v0 ⟨o0, h2, h3⟩)).trans h2, h3⟩
      · obtain ⟨o, es, ep, e, rest⟩ := n2
        exact ⟨o, es, ep, (hch _ hLa).trans e, rest⟩
      · have atm : ∀ y vy, At env m s.heap y vy → At env m h' y vy := by
          intro y vy h
          rcases h with h | ⟨k1, c, k2, k3⟩
          · exact .inl h
          · obtain ⟨o0, h2, h3⟩ := k3.keeps ad.ext
            exact .inr ⟨k1, c, k2, o0, (hch c (cellA c _ ⟨o0, h2, h3⟩)).trans h2, h3⟩
        intro y e hy
        rw [List.lookup_cons] at hy
        cases hb : y == x with
        | true =>
          rw [hb] at hy; cases hy
          have hyx := beq_iff_eq.mp hb
          subst hyx
          rw [hval, hfp]
          exact ⟨atm _ _ at_, .own hF2 hK hown hr⟩
        | false =>
          rw [hb] at hy
          have hyx : y ≠ x := fun e => by rw [e] at hb; simp at hb
          obtain ⟨at2, er2⟩ := hv y e hy
          refine ⟨atm _ _ at2, ?_⟩
          have notin : a ∉ fp y := fun hm => hyx (hd y x a hm (by rw [hfp]; exact List.mem_singleton.mpr rfl))
          have er3 := er2.adv ad
          generalize fp y = fy at er3 notin
          generalize val y = vy at er3
          have key : ∀ {b ws}, b ≠ a → OwnAt s2.heap.get? b ws → OwnAt h'.get? b ws := fun {b ws} hb ⟨nn, e⟩ => ⟨nn, (hch b hb).trans e⟩
          cases er3 with
          | v r => exact .v r
          | @own b ws es f k q r => exact .own f k (key (fun e => notin (by rw [e]; exact List.mem_singleton.mpr rfl)) q) r
          | bor q r => exact .bor q r
          | @own2 b c ws us es gs hn f k f2 k2 q r q2 r2 =>
            exact .own2 hn f k f2 k2 (key (fun e => notin (by rw [e]; exact List.mem_cons_self)) q) r (key (fun e => notin (by rw [e]; exact List.mem_cons_of_mem _ (List.mem_singleton.mpr rfl))) q2) r2

/-- the shape of x.append(e) as a statement -/
structure AppForm (o e : Expr) (apos cpos : Pos) : Prop where
  base : ∀ env, attributeBase o "append" env (eval o env) = eval o env
  few : ∀ env, ((backTo cpos (starEach [e] env)).all (fun x => !x.1) && (backToKw cpos (keywordEach [] env)).all (fun x => x.1.isSome) && decide (([e] : List Expr).length + ([] : List Keyword).length + (if ([] : List Keyword).isEmpty then 0 else 1) < 30)) = true
  line : (apos.endLine == cpos.line) = true
  trees : ∀ env, backTo cpos (starEach [e] env) = [(false, eval e env)]

theorem inter_false {env : Env} (h : env.scope.kind = .function) : interactive env = false := by unfold interactive; rw [h]; rfl

theorem x_append {x : Str} {p apos cpos pos : Pos} {e : Expr} {ds : List D} {d : D} (hx : ρ.lookup x = some (.own ds)) (h : Evals W sc k e ρ d) (hf : AppForm (.Name x p) e apos cpos) (hl : ds.length ≤ 1000000) (hd : (x == ("__debug__" : Str)) = false := by decide) :
    Exec W sc k (.Expr (.Call (.Attribute (.Name x p) "append" apos) [e] [] cpos) pos) ρ (.nxt ((x, .own (ds ++ [d])) :: ρ)) := by
  refine ⟨?_⟩; intro env A K F s Q E R S q
  obtain ⟨a, vs, rd, ⟨n, ho⟩, r, hF, hK, chg⟩ := S.own_val hx
  refine wpAny_Expr (wpAny_Call_append (hf.base env) (hf.few env) hf.line (hf.trees env) (wpAny_Name (rd _ _ _ _ ⟨a, vs.toArray, rfl, ⟨_, n, ho, rfl, rfl, rfl⟩, ?_⟩) hd)) (inter_false S.kind) (by rfl)
  refine h.out env A K F s _ E R S fun F1 s1 v ad rv => ?_
  refine wpAny_list_append_plain (items := vs.toArray) ⟨n, ad.ext _ _ ho⟩ (fun h' hp hs => ?_) (by rw [List.size_toArray, r.length, sizeLine_eq]; omega)
  refine q F1 _ _ (ad.grows S.keep) ⟨rfl, chg F1 s1 h' s1.toks (vs ++ [v]) _ ad (fun b hb => hs.2 b hb) ?_ ((r.mono ad.sub).append (.one rv))⟩
  obtain ⟨n', hn'⟩ := hp
  exact ⟨n', by rw [hn']; simp⟩

/-- x[i] = e -/
theorem x_setitem {x : Str} {p pos' pos : Pos} {i value : Expr} {ds : List D} {d : D} {j : Nat} (hx : ρ.lookup x = some (.own ds)) (hi : Evals W sc k i ρ (.int j)) (hv : Evals W sc k value ρ d) (hj : j < ds.length) (hl : ds.length ≤ 1000000)
    (hs : ∀ env, swapsWith value (some (.Subscript (.Name x p) i pos')) pos.line env = pure false := by intros; rfl) (hd : (x == ("__debug__" : Str)) = false := by decide) :
    Exec W sc k (.Assign [.Subscript (.Name x p) i pos'] value pos) ρ (.nxt ((x, .own (ds.set j d)) :: ρ)) := by
  refine ⟨?_⟩; intro env A K F s Q E R S q
  refine wpAny_Assign_Subscript (hv.out env A K F s _ E R S fun F1 s1 v ad rv => ?_) (hs env)
  have S1 := S.adv ad
  obtain ⟨a, vs, rd, ⟨n, ho⟩, r, hF, hK, chg⟩ := S1.own_val hx
  refine wpAny_Name (rd _ _ _ _ ?_) hd
  refine hi.out env A K F1 s1 _ E R S1 fun F2 s2 iv ad2 ri => ?_
  cases ri with
  | int _ t =>
    have hl' := r.length
    refine ki_setAt (n := n) (items := vs.toArray) (ad2.ext _ _ ho) (by omega) (by omega) (by rw [List.size_toArray, hl']; omega) ?_
    refine q F2 _ _ ((ad.trans ad2).grows S.keep) ⟨rfl, chg F2 s2 _ s2.toks (vs.set j v) _ ad2 (fun b hb => (Heap.SameBut.update ..).2 b hb) ?_ ?_⟩
    · refine ⟨n, ?_⟩
      refine (Heap.get?_update_self _ (ad2.ext _ _ ho) (by rfl)).trans ?_
      simp [Obj.mapSeq]
    · have key : ∀ {ws : List Value} {es : List D} (m : Nat), RepAll W F2 ws es → RepAll W F2 (ws.set m v) (es.set m d) := by
        intro ws es m h
        induction m generalizing ws es with
        | zero => cases h with
          | nil => exact .nil
          | cons _ r => exact .cons (rv.mono ad2.sub) r
        | succ m ih => cases h with
          | nil => exact .nil
          | cons h r => exact .cons h (ih r)
      exact key j (r.mono ad2.sub)
end
end Mine

-- F10
namespace Mine

section
variable {W : Wd} {sc : Sc} {K F F' : FH} {ρ ρ' : Vars} {s s' : Shared} {k : Nat}

/-! ## branches, loops on a test, try -/
theorem x_if {test : Expr} {body orelse : List Stmt} {pos : Pos} {b : Bool} {o : Out} (h : Tests W sc k test ρ b) (h1 : b = true → Execs W sc k body ρ o) (h2 : b = false → Execs W sc k orelse ρ o) : Exec W sc k (.If test body orelse pos) ρ o := by
  refine ⟨?_⟩; intro env A K F s Q E R S q
  refine wpAny_If (h.out env A K F s _ E R S fun F1 s1 a => ?_)
  cases b with
  | true => rw [if_pos rfl]; exact (h1 rfl).out env A K F1 s1 _ E R (S.adv a) fun F2 s2 f g h => q _ _ _ ((a.grows S.keep).trans g) h
  | false => rw [if_neg (by simp)]; exact (h2 rfl).out env A K F1 s1 _ E R (S.adv a) fun F2 s2 f g h => q _ _ _ ((a.grows S.keep).trans g) h

inductive Loops (W : Wd) (sc : Sc) (k : Nat) (test : Expr) (body : List Stmt) : Nat → Vars → Vars → Prop
  | done {ρ : Vars} : Tests W sc k test ρ false → Loops W sc k test body 0 ρ ρ
  | turn {ρ ρ1 ρ' : Vars} {n : Nat} : Tests W sc k test ρ true → Execs W sc k body ρ (.nxt ρ1) → Loops W sc k test body n ρ1 ρ' → Loops W sc k test body (n + 1) ρ ρ'

theorem x_while {test : Expr} {body : List Stmt} {pos : Pos} {n : Nat} (h : Loops W sc k test body n ρ ρ') : Exec W sc k (.While test body [] pos) ρ (.nxt ρ') := by
  refine ⟨?_⟩; intro env A K F s Q E R S q
  refine wpAny_While (codeAny_whileLoop (fun m s' => ∃ F1 ρ1, Loops W sc k test body m ρ1 ρ' ∧ Grow K F F1 ∧ St W sc env K F1 ρ1 s') ?_ n ⟨F, ρ, h, .refl, S⟩)
  rintro m s1 ⟨F1, ρ1, L, g, S1⟩
  cases L with
  | done ht =>
    refine ht.out env A K F1 s1 _ _ R S1 fun F2 s2 a => ?_
    rw [if_neg (by simp)]
    exact wpAny_execs_nil (q _ _ _ (g.trans (a.grows S1.keep)) ⟨rfl, S1.adv a⟩)
  | turn ht hb L =>
    refine ht.out env A K F1 s1 _ _ R S1 fun F2 s2 a => ?_
    rw [if_pos rfl]
    refine hb.out env A K F2 s2 _ _ R (S1.adv a) fun F3 s3 f g3 ⟨hf, S3⟩ => ?_
    subst hf
    exact ⟨_, Nat.lt_succ_self _, F3, _, L, (g.trans (a.grows S1.keep)).trans g3, S3⟩

theorem x_try {body : List Stmt} {h₀ : ExceptHandler} {hs : List ExceptHandler} {pos : Pos} {o : Out} (h : Execs W sc k body ρ o) : Exec W sc k (.Try body (h₀ :: hs) [] [] pos) ρ o := by
  refine ⟨?_⟩; intro env A K F s Q E R S q
  refine wpAny_Try_except (h.out env A K F s _ _ R S fun F1 s1 f g ho => ?_)
  cases f with
  | next => exact wpAny_execs_nil (q _ _ _ g ho)
  | _ => exact q _ _ _ g ho

/-! ## x += e -/
theorem x_aug {x : Str} {p pos : Pos} {value : Expr} {a b : Int} (hx : ρ.lookup x = some (.v (.int a))) (h : Evals W sc k value ρ (.int b)) (hc : canStore sc x = true) :
    Exec W sc k (.AugAssign (.Name x p) .Add value pos) ρ (.nxt ((x, .v (.int (a + b))) :: ρ)) := by
  refine ⟨?_⟩; intro env A K F s Q E R S q
  refine wpAny_AugAssign_Name (S.read hx fun v fp e => ?_)
  cases e with
  | v r =>
    cases r with
    | int _ t =>
      refine h.out env A K F s _ E R S fun F1 s1 v ad rv => ?_
      cases rv with
      | int _ u =>
        refine iadd_int ?_
        have a2 := ad.trans (.tok ad.sup (s1.toks + 1))
        exact S.store_v a2 hc (.int _ _) fun s2 S2 => q _ _ _ (ad.grows S.keep) ⟨rfl, S2⟩

theorem RepAll.set {F : FH} {v : Value} {d : D} (rv : Rep W F v d) {ws : List Value} {es : List D} (m : Nat) (h : RepAll W F ws es) : RepAll W F (ws.set m v) (es.set m d) := by
  induction m generalizing ws es with
  | zero => cases h with
    | nil => exact .nil
    | cons _ r => exact .cons rv r
  | succ m ih => cases h with
    | nil => exact .nil
    | cons h r => exact .cons h (ih r)

/-- x[i] += e -/
theorem x_augset {x : Str} {p pos' pos : Pos} {i value : Expr} {ds : List D} {a b : Int} {j : Nat} (hx : ρ.lookup x = some (.own ds)) (hi : Evals W sc k i ρ (.int j)) (hv : Evals W sc k value ρ (.int b)) (hj : ds[j]? = some (.int a)) (hl : ds.length ≤ 1000000)
    (hs : ∀ (ov iv new : Value), augStore i ov iv new = (do holding [new, ov, iv] (setItem ov iv new); release [new, ov, iv] []; pure Flow.next) := by intros; rfl) (hd : (x == ("__debug__" : Str)) = false := by decide) :
    Exec W sc k (.AugAssign (.Subscript (.Name x p) i pos') .Add value pos) ρ (.nxt ((x, .own (ds.set j (.int (a + b)))) :: ρ)) := by
  refine ⟨?_⟩; intro env A K F s Q E R S q
  obtain ⟨l, vs, rd, ⟨n, ho⟩, r, hF, hK, chg⟩ := S.own_val hx
  refine PyProof.Rows.wpAny_AugAssign_Subscript_any (wpAny_Name (rd _ _ _ _ ?_) hd) hs
  refine hi.out env A K F s _ E R S fun F1 s1 iv a1 ri => ?_
  cases ri with
  | int _ t =>
    have q1 : SeqAt s1.heap.get? "list" l vs := ⟨_, n, a1.ext _ _ ho, rfl, rfl, rfl⟩
    obtain ⟨y, hy, ry⟩ := r.get hj
    have hl' := r.length
    have hjl : j < ds.length := by
      rcases Nat.lt_or_ge j ds.length with h | h
      · exact h
      · rw [List.getElem?_eq_none h] at hj; cases hj
    cases ry with
    | int _ u =>
      refine wpAny_getItem_list q1.isList (by omega) (by omega) (x := .int a u) (by simpa using hy) ?_
      refine hv.out env A K F1 s1 _ E R (S.adv a1) fun F2 s2 v a2 rv => ?_
      cases rv with
      | int _ u' =>
        refine iadd_int ?_
        refine ki_setAt (n := n) (items := vs.toArray) (a2.ext _ _ (a1.ext _ _ ho)) (by omega) (by omega) (by rw [List.size_toArray, hl']; omega) ?_
        refine q F2 _ _ ((a1.trans a2).grows S.keep) ⟨rfl, chg F2 s2 _ _ (vs.set j (.int (a + b) s2.toks)) _ (a1.trans a2) (fun b hb => (Heap.SameBut.update ..).2 b hb) ?_ ?_⟩
        · refine ⟨n, ?_⟩
          refine (Heap.get?_update_self _ (a2.ext _ _ (a1.ext _ _ ho)) (by rfl)).trans ?_
          simp [Obj.mapSeq]
        · exact RepAll.set (.int _ _) j (r.mono (a1.trans a2).sub)

/-! ## an entry changed, in general -/
theorem ERep.off {h : FH} {e : Ent} {v : Value} {fp : List Addr} (r : ERep W K F h e v fp) : ∀ b ∈ fp, F b = none ∧ K b = none := by
  cases r with
  | v _ => intro b hb; cases hb
  | own f k _ _ => intro b hb; rw [List.mem_singleton.mp hb]; exact ⟨f, k⟩
  | bor _ _ => intro b hb; cases hb
  | own2 _ f k f2 k2 q _ q2 _ =>
    intro b hb
    rcases List.mem_cons.mp hb with rfl | hb
    · exact ⟨f, k⟩
    · rw [List.mem_singleton.mp hb]; exact ⟨f2, k2⟩
theorem ERep.else {h h' F3 : FH} {e : Ent} {v : Value} {fp : List Addr} (r : ERep W K F h e v fp) (hs : Sub F F3) (hF : ∀ b ∈ fp, F3 b = none) (hh : ∀ b ∈ fp, h' b = h b) : ERep W K F3 h' e v fp := by
  have key : ∀ {b ws}, b ∈ fp → OwnAt h b ws → OwnAt h' b ws := fun {b ws} hb ⟨nn, e⟩ => ⟨nn, (hh b hb).trans e⟩
  cases r with
  | v r => exact .v (r.mono hs)
  | own f k q r => exact .own (hF _ List.mem_cons_self) k (key List.mem_cons_self q) (r.mono hs)
  | bor q r => exact .bor q (r.mono hs)
  | own2 n f k f2 k2 q r q2 r2 => exact .own2 n (hF _ List.mem_cons_self) k (hF _ (by simp)) k2 (key List.mem_cons_self q) (r.mono hs) (key (by simp) q2) (r2.mono hs)

theorem St.alter {env : Env} {x : Str} {e : Ent} (S : St W sc env K F ρ s) (hx : ρ.lookup x = some e) :
    ∃ v fp, (∀ (M : Model) (A : Around) (Q : Value → Shared → Prop) (E : Value → Shared → Prop), Q v s → wpAny M A (loadName env x) Q E s) ∧ ERep W K F s.heap.get? e v fp ∧
      (∀ F2 F3 s2 h' tk e' fp', Adv s F s2 F2 → Sub F2 F3 → (∀ b o, F3 b = some o → F2 b = some o ∨ b ∈ fp) → Sub F3 h'.get? → (∀ b, b ∉ fp → h'.get? b = s2.heap.get? b) → ERep W K F3 h'.get? e' v fp' → (∀ b ∈ fp', b ∈ fp ∨ s.heap.get? b = none) →
        St W sc env K F3 ((x, e') :: ρ) { s2 with heap := h', toks := tk }) := by
  obtain ⟨m, val, fp, n, hv, hd, _⟩ := S.vars
  obtain ⟨at_, er⟩ := hv x _ hx
  refine ⟨val x, fp x, fun M A Q E hQ => ?_, er, ?_⟩
  · rcases at_ with ⟨k1, k2⟩ | ⟨k1, c, k2, k3⟩
    · exact wpAny_loadName_local S.kind k1 n k2 hQ
    · exact wpAny_loadName_cell S.kind k1 k2 k3 hQ
  · intro F2 F3 s2 h' tk e' fp' ad h23 hnew hsup hch er' hfp'
    have S2 := S.adv ad
    have n2 := n.keeps ad.ext
    obtain ⟨oL, es, ep, hoL, hdL⟩ := ns_some n2
    have er2 := er.adv ad
    have lst : ∀ b ∈ fp x, ∃ vs, SeqAt s2.heap.get? "list" b vs := er2.there
    have hL : env.locals ∉ fp x := fun hm => by
      obtain ⟨vs, o, k, ho, _, _, hd⟩ := lst _ hm
      rw [hoL] at ho; cases ho; rw [hdL] at hd; cases hd
    have hC : ∀ c v0, s2.heap.IsCell c v0 → c ∉ fp x := by
      rintro c v0 ⟨o, ho, hdc⟩ hm
      obtain ⟨vs, o', k, ho', _, _, hd⟩ := lst _ hm
      rw [ho] at ho'; cases ho'; rw [hdc] at hd; cases hd
    have offF : ∀ b, b ∉ fp x → F2 b = none → F3 b = none := fun b hb hn => by
      cases e : F3 b with
      | none => rfl
      | some o =>
        rcases hnew b o e with h | h
        · rw [hn] at h; cases h
        · exact absurd h hb
    have keepK : Sub K h'.get? := fun b o e => by
      refine (hch b fun hm => ?_).trans (S2.keep b o e)
      rw [(er.off b hm).2] at e; cases e
    refine ⟨S.kind, S.names, S.glob, S.blt, S.inj, S.wr, S.has, ?_, S.base, keepK, hsup, ⟨offF _ hL S2.offL.1, S2.offL.2⟩, ?_, m, val, fun y => if y = x then fp' else if ρ.lookup y = none then [] else fp y, ?_, ?_, ?_, fun _ _ _ h => by cases h⟩
    · obtain ⟨h0, tk0, e0⟩ := S2.same; exact ⟨h', tk, by rw [e0]⟩
    · intro y c hc
      obtain ⟨h1, v0, o0, h2, h3⟩ := S2.offC y c hc
      exact ⟨offF c (hC c v0 ⟨o0, h2, h3⟩) h1, v0, o0, (hch c (hC c v0 ⟨o0, h2, h3⟩)).trans h2, h3⟩
    · obtain ⟨o, es, ep, e, rest⟩ := n2
      exact ⟨o, es, ep, (hch _ hL).trans e, rest⟩
    · have atm : ∀ y vy, At env m s.heap y vy → At env m h' y vy := by
        intro y vy h
        rcases h with h | ⟨k1, c, k2, k3⟩
        · exact .inl h
        · obtain ⟨o0, h2, h3⟩ := k3.keeps ad.ext
          exact .inr ⟨k1, c, k2, o0, (hch c (hC c _ ⟨o0, h2, h3⟩)).trans h2, h3⟩
      intro y e hy
      rw [List.lookup_cons] at hy
      cases hb : y == x with
      | true =>
        rw [hb] at hy; cases hy
        have hyx := beq_iff_eq.mp hb
        subst hyx
        dsimp only
        rw [if_pos rfl]
        exact ⟨atm _ _ at_, er'⟩
      | false =>
        rw [hb] at hy
        have hyx : y ≠ x := fun e => by rw [e] at hb; simp at hb
        have hy' : ρ.lookup y = some e := hy
        obtain ⟨at2, er2⟩ := hv y e hy'
        refine ⟨atm _ _ at2, ?_⟩
        dsimp only
        rw [if_neg hyx, if_neg (by rw [hy']; simp)]
        have notin : ∀ b ∈ fp y, b ∉ fp x := fun b hb hb' => hyx (hd y x b hb hb')
        have er3 := er2.adv ad
        exact er3.else h23 (fun b hb => offF b (notin b hb) (er3.off b hb).1) fun b hb => hch b (notin b hb)
    · intro y z b hy hz
      dsimp only at hy hz
      have old : ∀ y, y ≠ x → ρ.lookup y ≠ none → b ∈ fp y → b ∉ fp' := fun y hyx hn hb hb' => by
        rcases hfp' b hb' with h | h
        · exact hyx (hd y x b hb h)
        · obtain ⟨e, he⟩ := Option.ne_none_iff_exists'.mp hn
          obtain ⟨vs, o, _, ho, _⟩ := (hv y e he).2.there b hb
          rw [h] at ho; cases ho
      by_cases e1 : y = x
      · by_cases e2 : z = x
        · rw [e1, e2]
        · rw [if_pos e1] at hy; rw [if_neg e2] at hz
          by_cases e3 : ρ.lookup z = none
          · rw [if_pos e3] at hz; cases hz
          · rw [if_neg e3] at hz; exact absurd hy (old z e2 e3 hz)
      · by_cases e2 : z = x
        · rw [if_neg e1] at hy; rw [if_pos e2] at hz
          by_cases e3 : ρ.lookup y = none
          · rw [if_pos e3] at hy; cases hy
          · rw [if_neg e3] at hy; exact absurd hz (old y e1 e3 hy)
        · rw [if_neg e1] at hy; rw [if_neg e2] at hz
          by_cases e3 : ρ.lookup y = none
          · rw [if_pos e3] at hy; cases hy
          · rw [if_neg e3] at hy
            by_cases e4 : ρ.lookup z = none
            · rw [if_pos e4] at hz; cases hz
            · rw [if_neg e4] at hz; exact hd y z b hy hz
end
end Mine

-- F11
namespace Mine

section
variable {W : Wd} {sc : Sc} {K F F' : FH} {ρ ρ' : Vars} {s s' : Shared} {k : Nat}

/-! ## a table that grows row by row -/

/-- x.append([]) -/
theorem x_newrow {x : Str} {p apos cpos pos lp : Pos} {ds : List D} (hx : ρ.lookup x = some (.own ds)) (hf : AppForm (.Name x p) (.List [] lp) apos cpos) (hl : ds.length ≤ 1000000) (hd : (x == ("__debug__" : Str)) = false := by decide) :
    Exec W sc k (.Expr (.Call (.Attribute (.Name x p) "append" apos) [.List [] lp] [] cpos) pos) ρ (.nxt ((x, .own2 ds []) :: ρ)) := by
  refine ⟨?_⟩; intro env A K F s Q E R S q
  obtain ⟨v, fp, rd, er, alter⟩ := S.alter hx
  cases er with
  | @own a vs ds hF hK ow r =>
    obtain ⟨n, ho⟩ := ow
    refine wpAny_Expr (wpAny_Call_append (hf.base env) (hf.few env) hf.line (hf.trees env) (wpAny_Name (rd _ _ _ _ ⟨a, vs.toArray, rfl, ⟨_, n, ho, rfl, rfl, rfl⟩, ?_⟩) hd)) (inter_false S.kind) (by rfl)
    refine made_own (k := k) (ds := []) .nil (by decide) R S fun F1 s1 b ws ad hF1 hK1 hn sq rr => ?_
    cases rr
    have hne : a ≠ b := by rintro rfl; rw [ho] at hn; cases hn
    refine wpAny_list_append_plain (items := vs.toArray) ⟨n, ad.ext _ _ ho⟩ (fun h' hp hs => ?_) (by rw [List.size_toArray, r.length, sizeLine_eq]; omega)
    have hch : ∀ c, c ∉ [a] → h'.get? c = s1.heap.get? c := fun c hc => hs.2 c (fun e => hc (by simp [e]))
    refine q F1 _ _ (ad.grows S.keep) ⟨rfl, alter F1 F1 s1 h' s1.toks (.own2 ds []) [a, b] ad Sub.rfl (fun _ _ e => .inl e) ?_ hch ?_ ?_⟩
    · intro c o e
      refine (hch c fun hm => ?_).trans (ad.sup c o e)
      rw [List.mem_singleton.mp hm, ad.off hF ho] at e; cases e
    · refine .own2 hne (ad.off hF ho) hK hF1 hK1 ?_ (r.mono ad.sub) ?_ .nil
      · obtain ⟨n', hn'⟩ := hp
        exact ⟨n', by rw [hn']; simp⟩
      · obtain ⟨n', hn'⟩ := sq
        exact ⟨n', (hch b (by simpa using hne.symm)).trans hn'⟩
    · intro c hc
      rcases List.mem_cons.mp hc with rfl | hc
      · exact .inl (by simp)
      · rw [List.mem_singleton.mp hc]; exact .inr hn

/-- x[-1].append(e) -/
theorem x_rowapp {x : Str} {p apos cpos pos sp : Pos} {i e : Expr} {ds es : List D} {d : D} (hx : ρ.lookup x = some (.own2 ds es)) (hi : Evals W sc k i ρ (.int (-1))) (h : Evals W sc k e ρ d) (hf : AppForm (.Subscript (.Name x p) i sp) e apos cpos) (hl : ds.length ≤ 1000000) (hl2 : es.length ≤ 1000000)
    (hs : ∀ o u, subscripted i false o (.int (-1) u) = operate [o, .int (-1) u] (getItem o (.int (-1) u)) := by intros; with_unfolding_all rfl) (hd : (x == ("__debug__" : Str)) = false := by decide) :
    Exec W sc k (.Expr (.Call (.Attribute (.Subscript (.Name x p) i sp) "append" apos) [e] [] cpos) pos) ρ (.nxt ((x, .own2 ds (es ++ [d])) :: ρ)) := by
  refine ⟨?_⟩; intro env A K F s Q E R S q
  obtain ⟨v, fp, rd, er, alter⟩ := S.alter hx
  cases er with
  | @own2 a b vs ws ds es hne hF hK hF2 hK2 ow r ow2 r2 =>
    obtain ⟨n, ho⟩ := id ow
    obtain ⟨n2, ho2⟩ := id ow2
    refine wpAny_Expr (wpAny_Call_append (hf.base env) (hf.few env) hf.line (hf.trees env) (Subscript_ (wpAny_Name (rd _ _ _ _ ?_) hd))) (inter_false S.kind) (by rfl)
    refine hi.out env A K F s _ E R S fun F0 s0 iv a0 ri => ?_
    cases ri with
    | int _ t =>
      have hL : s0.heap.IsList a (vs ++ [Value.ref b]).toArray := ⟨_, a0.ext _ _ ho, rfl, n, rfl⟩
      refine tail_any (T := "list") hL.typeIs slot_list_getitem.lookup ?_ (hs _ _)
      refine kde_getNeg (j := vs.length) hL (by omega) (by omega) ?_ (v := .ref b) (by simp) ?_
      · simp [seqIndex?]
        omega
      refine ⟨b, ws.toArray, rfl, ⟨_, n2, a0.ext _ _ ho2, rfl, rfl, rfl⟩, ?_⟩
      refine h.out env A K F0 s0 _ E R (S.adv a0) fun F1 s1 v a1 rv => ?_
      have ad := a0.trans a1
      refine wpAny_list_append_plain (items := ws.toArray) ⟨n2, ad.ext _ _ ho2⟩ (fun h' hp hs => ?_) (by rw [List.size_toArray, r2.length, sizeLine_eq]; omega)
      have hch : ∀ c, c ∉ [a, b] → h'.get? c = s1.heap.get? c := fun c hc => hs.2 c (fun e => hc (by simp [e]))
      refine q F1 _ _ (ad.grows S.keep) ⟨rfl, alter F1 F1 s1 h' s1.toks (.own2 ds (es ++ [d])) [a, b] ad Sub.rfl (fun _ _ e => .inl e) ?_ hch ?_ (fun c hc => .inl hc)⟩
      · intro c o e
        refine (hch c fun hm => ?_).trans (ad.sup c o e)
        rcases List.mem_cons.mp hm with rfl | hm
        · rw [ad.off hF ho] at e; cases e
        · rw [List.mem_singleton.mp hm, ad.off hF2 ho2] at e; cases e
      · refine .own2 hne (ad.off hF ho) hK (ad.off hF2 ho2) hK2 ⟨n, (hs.2 a hne).trans (ad.ext _ _ ho)⟩ (r.mono ad.sub) ?_ ((r2.mono ad.sub).append (.one rv))
        obtain ⟨n', hn'⟩ := hp
        exact ⟨n', by rw [hn']; simp⟩

/-- the last row is left for good -/
theorem St.seal {env : Env} {x : Str} {ds es : List D} (S : St W sc env K F ρ s) (hx : ρ.lookup x = some (.own2 ds es)) :
    ∃ F', Grow K F F' ∧ St W sc env K F' ((x, .own (ds ++ [.lst es])) :: ρ) s := by
  obtain ⟨v, fp, rd, er, alter⟩ := S.alter hx
  cases er with
  | @own2 a b vs ws ds es hne hF hK hF2 hK2 ow r ow2 r2 =>
    obtain ⟨n2, ho2⟩ := id ow2
    have ho2' := ho2
    generalize ({ cls := .type "list", data := .seq ws.toArray n2 } : Obj) = ob at ho2'
    let F3 : FH := fun c => if c = b then some { cls := .type "list", data := .seq ws.toArray n2 } else F c
    have hsub : Sub F F3 := fun c o e => by
      show (if c = b then _ else F c) = some o
      by_cases hc : c = b
      · subst hc; rw [hF2] at e; cases e
      · rw [if_neg hc]; exact e
    have hsup : Sub F3 s.heap.get? := fun c o e => by
      have e' : (if c = b then some { cls := .type "list", data := .seq ws.toArray n2 } else F c) = some o := e
      by_cases hc : c = b
      · subst hc; rw [if_pos rfl] at e'; rw [← e']; exact ho2
      · rw [if_neg hc] at e'; exact S.froz c o e'
    have hnew : ∀ c o, F3 c = some o → F c = some o ∨ c = b := fun c o e => by
      have e' : (if c = b then some { cls := .type "list", data := .seq ws.toArray n2 } else F c) = some o := e
      by_cases hc : c = b
      · exact .inr hc
      · rw [if_neg hc] at e'; exact .inl e'
    have hb3 : F3 b = some { cls := .type "list", data := .seq ws.toArray n2 } := by
      show (if b = b then _ else F b) = _
      rw [if_pos rfl]
    refine ⟨F3, ⟨hsub, fun c o e => (hnew c o e).imp id fun h => by rw [h]; exact hK2⟩, ?_⟩
    refine alter F F3 s s.heap s.toks _ [a] S.room0 hsub (fun c o e => (hnew c o e).imp id fun h => by simp [h]) hsup (fun _ _ => rfl) ?_ (fun c hc => .inl (by rw [List.mem_singleton.mp hc]; exact List.mem_cons_self))
    refine .own ?_ hK ow ((r.mono hsub).append (.one (.lst ⟨_, n2, hb3, rfl, rfl, rfl⟩ (r2.mono hsub))))
    show (if a = b then _ else F a) = none
    rw [if_neg hne]; exact hF
theorem xs_seal {ss : List Stmt} {o : Out} (x : Str) {ds es : List D} (hx : ρ.lookup x = some (.own2 ds es)) (h : Execs W sc k ss ((x, .own (ds ++ [.lst es])) :: ρ) o) : Execs W sc k ss ρ o := by
  refine ⟨?_⟩; intro env A K F s Q E R S q
  obtain ⟨F1, g, S1⟩ := S.seal hx
  exact h.out env A K F1 s Q E R S1 fun F2 s2 f g2 h2 => q _ _ _ (g.trans g2) h2

/-- a, b = x.pop(0) -/
theorem x_pop {x : Str} {ts : List (Str × Pos)} {n : Nat} {p apos cpos pos tp : Pos} {e : Expr} {ds rest : List D} (hx : ρ.lookup x = some (.own (.tup ds :: rest))) (hi : Evals W sc k e ρ (.int 0)) (he : methForm (.Name x p) "pop" apos [e] cpos) (htr : ∀ env, starEach [e] env = [(false, eval e env)])
    (hl : ts.length = ds.length) (hc : (ts.all fun t => canStore sc t.1) = true) (hlr : rest.length ≤ 100000)
    (h1 : ∀ env, swapsWithSole [.Tuple (names_ ts) n tp] (.Call (.Attribute (.Name x p) "pop" apos) [e] [] cpos) pos.line env = pure false := by intros; rfl)
    (h2 : ∀ env, env.scope.kind = .function → swappedStores [.Tuple (names_ ts) n tp] (.Call (.Attribute (.Name x p) "pop" apos) [e] [] cpos) env = pure none := by intros; rfl) (hd : (x == ("__debug__" : Str)) = false := by decide) :
    Exec W sc k (.Assign [.Tuple (names_ ts) n tp] (.Call (.Attribute (.Name x p) "pop" apos) [e] [] cpos) pos) ρ (.nxt (boundAll ts ds ((x, .own rest) :: ρ))) := by
  refine ⟨?_⟩; intro env A K F s Q E R S q
  obtain ⟨l, vs, rd, ⟨m, ho⟩, r, hF, hK, chg⟩ := S.own_val hx
  obtain ⟨pl, he⟩ := he env
  have hty : typeOf (.builtin "list.pop") = pure (.type "method_descriptor") := by kernel_rfl
  refine PyProof.Rows.Assign_Tuple (MethodCall_ (pl := pl) (wpAny_Name (rd _ _ _ _ (getMethod_list_of PySem.F.slot_list_pop hty ⟨_, ho, rfl, m, rfl⟩ ?_ ?_)) hd) he) (h1 env) (h2 env S.kind)
  · exact ⟨_, ho, rfl⟩
  · rw [htr]
    show wpAny _ _ (callWith cpos (.builtin "list.pop") [.ref l] [(false, eval e env)] []) _ _ _
    refine PySem.P.pop_at_list (hi.out env A K F s _ E R S fun F1 s1 iv a1 ri => ?_)
    cases ri with
    | int _ u =>
      cases r with
      | @cons v vs _ _ rv r =>
        refine ⟨(v :: vs).toArray, m, 0, u, 0, v, by have := r.length; rw [List.size_toArray, List.length_cons, this, sizeLine_eq]; omega, rfl, a1.ext _ _ ho, by decide, ?_, by simp, ?_⟩
        · simp [seqIndex?]
        · have S1 := chg F1 s1 (s1.heap.update l (Obj.mapSeq fun xs => xs.eraseIdxIfInBounds 0)) s1.toks vs rest a1 (fun b hb => (Heap.SameBut.update ..).2 b hb) ?_ (r.mono a1.sub)
          · refine assign_tup R S1 (rv.mono a1.sub) hl hc fun s2 S2 => q _ _ _ (a1.grows S.keep) ⟨rfl, S2⟩
          · have e : (v :: vs).toArray.eraseIdxIfInBounds 0 = vs.toArray := by simp [Array.eraseIdxIfInBounds_eq]
            refine ⟨if (vs.toArray.size == (v :: vs).toArray.size) = true then m else m + 1, ?_⟩
            refine (Heap.get?_update_self _ (a1.ext _ _ ho) (by rfl)).trans ?_
            simp only [Obj.mapSeq, e]
end
end Mine

-- F12
namespace Mine

section
variable {W : Wd} {sc : Sc} {env : Env} {K K2 F F' : FH} {ρ ρ' : Vars} {s s' : Shared} {k : Nat}

/-! ## more or fewer objects kept -/
theorem St.raise (S : St W sc env K F ρ s) (h1 : Sub K K2) (h2 : Sub K2 s.heap.get?) (hL : K2 env.locals = none) (hC : ∀ x c, env.cells.lookup x = some c → K2 c = K c) (hl : ∀ a o, K2 a = some o → K a = some o ∨ o.cls ≠ .type "list") : St W sc env K2 F ρ s where
  kind := S.kind
  names := S.names
  glob := S.glob
  blt := S.blt
  inj := S.inj
  wr := fun x c h hc => (hC x c hc).trans (S.wr x c h hc)
  has := S.has
  same := S.same
  base := S.base.trans h1
  keep := h2
  froz := S.froz
  offL := ⟨S.offL.1, hL⟩
  offC := S.offC
  vars := by
    obtain ⟨m, val, fp, n, v, p⟩ := S.vars
    refine ⟨m, val, fp, n, fun x e hx => ⟨(v x e hx).1, ?_⟩, p⟩
    have er := (v x e hx).2
    have key : ∀ {a vs}, K a = none → OwnAt s.heap.get? a vs → K2 a = none := fun {a vs} hk ⟨nn, e⟩ => by
      cases e2 : K2 a with
      | none => rfl
      | some o =>
        rcases hl a o e2 with h | h
        · rw [hk] at h; cases h
        · have := h2 a o e2
          rw [e] at this; cases this
          exact absurd rfl h
    generalize fp x = fx at er
    generalize val x = vx at er
    cases er with
    | v r => exact .v r
    | own f k q r => exact .own f (key k q) q r
    | bor q r => exact .bor (q.mono h1) r
    | own2 n f k f2 k2 q r q2 r2 => exact .own2 n f (key k q) f2 (key k2 q2) q r q2 r2
theorem St.lower (S : St W sc env K2 F ρ s) (h1 : Sub K K2) (hb : Sub W.s0.heap.get? K) (hl : ∀ a o, K2 a = some o → K a = some o ∨ o.cls ≠ .type "list") : St W sc env K F ρ s where
  kind := S.kind
  names := S.names
  glob := S.glob
  blt := S.blt
  inj := S.inj
  wr := fun x c h hc => by
    cases e : K c with
    | none => rfl
    | some o => have := S.wr x c h hc; rw [h1 _ _ e] at this; cases this
  has := S.has
  same := S.same
  base := hb
  keep := h1.trans S.keep
  froz := S.froz
  offL := ⟨S.offL.1, by
    cases e : K env.locals with
    | none => rfl
    | some o => have := S.offL.2; rw [h1 _ _ e] at this; cases this⟩
  offC := S.offC
  vars := by
    obtain ⟨m, val, fp, n, v, p⟩ := S.vars
    refine ⟨m, val, fp, n, fun x e hx => ⟨(v x e hx).1, ?_⟩, p⟩
    have er := (v x e hx).2
    have key : ∀ {a}, K2 a = none → K a = none := fun {a} hk => by
      cases e2 : K a with
      | none => rfl
      | some o => rw [h1 _ _ e2] at hk; cases hk
    generalize fp x = fx at er
    generalize val x = vx at er
    cases er with
    | v r => exact .v r
    | own f k q r => exact .own f (key k) q r
    | bor q r =>
      obtain ⟨o, n, e, c, z, d⟩ := q
      refine .bor ⟨o, n, ?_, c, z, d⟩ r
      rcases hl _ _ e with h | h
      · exact h
      · exact absurd c h
    | own2 n f k f2 k2 q r q2 r2 => exact .own2 n f (key k) f2 (key k2) q r q2 r2

/-- objects that the frame knows nothing of may change -/
theorem St.hidden {wr : List Addr} {h' : Heap} (S : St W sc env K F ρ s) (tk : Nat) (hk : ∀ b o, b ∉ wr → s.heap.get? b = some o → h'.get? b = some o)
    (hw : ∀ b ∈ wr, F b = none ∧ K b = none ∧ b ≠ env.locals ∧ (∀ x, env.cells.lookup x ≠ some b) ∧ (∀ vs, ¬ SeqAt s.heap.get? "list" b vs)) : St W sc env K F ρ { s with heap := h', toks := tk } where
  kind := S.kind
  names := S.names
  glob := S.glob
  blt := S.blt
  inj := S.inj
  wr := S.wr
  has := S.has
  same := by obtain ⟨h0, tk0, e0⟩ := S.same; exact ⟨h', tk, by rw [e0]⟩
  base := S.base
  keep := fun b o e => hk b o (fun hb => by rw [(hw b hb).2.1] at e; cases e) (S.keep b o e)
  froz := fun b o e => hk b o (fun hb => by rw [(hw b hb).1] at e; cases e) (S.froz b o e)
  offL := S.offL
  offC := fun x c hc => by
    obtain ⟨h1, v0, o0, h2, h3⟩ := S.offC x c hc
    exact ⟨h1, v0, o0, hk c o0 (fun hb => (hw c hb).2.2.2.1 x hc) h2, h3⟩
  vars := by
    obtain ⟨m, val, fp, n, v, p⟩ := S.vars
    refine ⟨m, val, fp, ?_, fun x e hx => ⟨?_, ?_⟩, p⟩
    · obtain ⟨o, es, ep, e, rest⟩ := n
      exact ⟨o, es, ep, hk _ _ (fun hb => (hw _ hb).2.2.1 rfl) e, rest⟩
    · rcases (v x e hx).1 with h | ⟨k1, c, k2, o0, h2, h3⟩
      · exact .inl h
      · exact .inr ⟨k1, c, k2, o0, hk c o0 (fun hb => (hw c hb).2.2.2.1 x k2) h2, h3⟩
    · have er := (v x e hx).2
      have key : ∀ {b ws}, OwnAt s.heap.get? b ws → OwnAt h'.get? b ws := fun {b ws} q => by
        obtain ⟨nn, e⟩ := id q
        exact ⟨nn, hk b _ (fun hb => (hw b hb).2.2.2.2 _ q.seq) e⟩
      generalize fp x = fx at er
      generalize val x = vx at er
      cases er with
      | v r => exact .v r
      | own f k q r => exact .own f k (key q) r
      | bor q r => exact .bor q r
      | own2 n f k f2 k2 q r q2 r2 => exact .own2 n f k f2 k2 (key q) r (key q2) r2

/-! ## loops over items -/
noncomputable def ItemIs (W : Wd) (F : FH) (h : Heap) (nm : Bool) (d : D) (v : Value) : Prop :=
  Rep W F v d ∨ (nm = false ∧ ∃ T v1 v2 d1 d2, v = .ref T ∧ d = .tup [d1, d2] ∧ IsTup h T #[v1, v2] ∧ Rep W F v1 d1 ∧ Rep W F v2 d2)

structure Walk (W : Wd) (A : Around) (K F h0 : FH) (target : Expr) (nm : Bool) (ds : List D) (I : Addr) (fp nw wr : List Addr) (P Md : Nat → Value → Heap → Prop) (T : Nat → Heap → Prop) : Prop where
  turns : KTurns W.prog W.w A target I fp wr ds.length P Md T
  self : ∀ i (s : Shared) (Q : Value → Shared → Prop) (E : Value → Shared → Prop), T i s.heap → Q (.ref I) s → wpAny (model W.prog W.w) A (pyIter (.ref I)) Q E s
  obj : ∀ i h, T i h → ∀ b ∈ nw, ∃ o, h.get? b = some o ∧ o.cls ≠ .type "list"
  wrn : ∀ b ∈ wr, b ∈ nw
  fpn : ∀ b ∈ fp, b ∈ nw ∨ (∃ o, F b = some o) ∨ (∃ o, K b = some o)
  item : ∀ i v h, i < ds.length → P i v h → ∃ d, ds[i]? = some d ∧ ItemIs W F h nm d v
  new : ∀ b ∈ nw, h0 b = none
  off : ∀ b ∈ nw, F b = none

noncomputable def Iters (W : Wd) (sc : Sc) (k : Nat) (target iter : Expr) (ρ : Vars) (nm : Bool) (ds : List D) : Prop := Hold <|
  ∀ env A K F s (Q : Value → Shared → Prop) (E : Value → Shared → Prop), Room k A → St W sc env K F ρ s →
    (∀ F2 s2 I fp nw wr P Md T, Adv s F s2 F2 → Walk W A K F2 s.heap.get? target nm ds I fp nw wr P Md T → T 0 s2.heap → Q (.ref I) s2) →
    wpAny (model W.prog W.w) A (eval iter env) (fun x s1 => wpAny (model W.prog W.w) A (pyIter x) (fun it s2 => Q it s2) E s1) E s

noncomputable def nameOk : Expr → Bool → Bool
  | .Name _ _, nm => nm
  | _, _ => true

theorem bindN_spec : ∀ (es : List Expr) (ds : List D) (ρ ρ' : Vars), bindN es ds ρ = some ρ' → ∃ ts : List (Str × Pos), es = names_ ts ∧ ts.length = ds.length ∧ boundAll ts ds ρ = ρ'
  | [], ds, ρ, ρ', h => by
    cases ds with
    | nil => exact ⟨[], rfl, rfl, by cases h; rfl⟩
    | cons _ _ => cases h
  | e :: es, ds, ρ, ρ', h => by
    cases ds with
    | nil => cases h
    | cons d ds =>
      cases e with
      | Name x p =>
        obtain ⟨ts, rfl, hl, hb⟩ := bindN_spec es ds _ ρ' h
        refine ⟨(x, p) :: ts, rfl, by rw [List.length_cons, List.length_cons, hl], ?_⟩
        rw [← hb]
        simp [boundAll]
      | _ => cases h
theorem bind_item {target : Expr} {nm : Bool} {d : D} {v : Value} {A : Around} {Q : Unit → Shared → Prop} {E : Value → Shared → Prop} (R : Room k A) (S : St W sc env K F ρ s) (hi : ItemIs W F s.heap nm d v) (hb : bindT target d ρ = some ρ') (hok : targetOk sc target = true) (hnm : nameOk target nm = true)
    (q : ∀ s2, Touch env s s2 → St W sc env K F ρ' s2 → Q () s2) : wpAny (model W.prog W.w) A (assign target env v) Q E s := by
  cases target with
  | Name x p =>
    cases hb
    rcases hi with r | ⟨h, _⟩
    · exact wpAny_assign_Name (S.store_vT S.room0 hok r q)
    · rw [show nm = true from hnm] at h; cases h
  | Tuple es n tp =>
    cases d with
    | tup ds =>
      obtain ⟨ts, rfl, hl, rfl⟩ := bindN_spec es ds ρ ρ' hb
      have hc : (ts.all fun t => canStore sc t.1) = true := by
        have : ((names_ ts).all (nameGood sc)) = true := hok
        rw [List.all_eq_true] at this ⊢
        intro t ht
        exact this (.Name t.1 t.2) (List.mem_map.mpr ⟨t, ht, rfl⟩)
      rcases hi with r | ⟨_, T, v1, v2, e1, e2, rfl, he, ht, r1, r2⟩
      · exact assign_tupT R S r hl hc q
      · cases he
        exact assign_pairT (vs := [v1, v2]) R S ht (.cons r1 (.one r2)) hl hc q
    | _ => cases hb
  | _ => cases hb

inductive Fold (W : Wd) (sc : Sc) (k : Nat) (target : Expr) (body : List Stmt) : List D → Vars → Vars → Prop
  | nil {ρ : Vars} : Fold W sc k target body [] ρ ρ
  | cons {d : D} {ds : List D} {ρ ρ1 ρ2 ρ' : Vars} : bindT target d ρ = some ρ1 → Execs W sc k body ρ1 (.nxt ρ2) → Fold W sc k target body ds ρ2 ρ' → Fold W sc k target body (d :: ds) ρ ρ'

theorem x_for {target iter : Expr} {body : List Stmt} {pos : Pos} {nm : Bool} {ds : List D} (hi : Iters W sc k target iter ρ nm ds) (hok : targetOk sc target = true) (hnm : nameOk target nm = true) (hf : Fold W sc k target body ds ρ ρ')
    (hs : ∀ env x, foldedSetIterable iter env x = pure x := by intros; rfl) : Exec W sc k (.For target iter body [] pos) ρ (.nxt ρ') := by
  refine ⟨?_⟩; intro env A K F s Q E R S q
  refine wpAny_For (hi.out env A K F s _ E R S fun F2 s2 I fp nw wr P Md T ad wk hT => ?_) (hs env)
  have locSome : ∃ o, s.heap.get? env.locals = some o := by
    obtain ⟨m, val, fp, n, _⟩ := S.vars
    obtain ⟨o, _, _, e, _⟩ := ns_some n
    exact ⟨o, e⟩
  have nwL : ∀ b ∈ nw, b ≠ env.locals := fun b hb e => by
    obtain ⟨o, ho⟩ := locSome
    rw [← e, wk.new b hb] at ho; cases ho
  have nwC : ∀ b ∈ nw, ∀ x, env.cells.lookup x ≠ some b := fun b hb x e => by
    obtain ⟨_, v0, o0, h2, _⟩ := S.offC x b e
    rw [wk.new b hb] at h2; cases h2
  have nwK : ∀ b ∈ nw, K b = none := fun b hb => by
    cases e : K b with
    | none => rfl
    | some o => have := S.keep _ _ e; rw [wk.new b hb] at this; cases this
  refine codeAny_forLoop_any (fun m s' => ∃ i F1 ρ1, Fold W sc k target body (ds.drop i) ρ1 ρ' ∧ T i s'.heap ∧ St W sc env K F1 ρ1 s' ∧ Grow K F F1 ∧ Sub F2 F1 ∧ (∀ b ∈ nw, F1 b = none) ∧ i ≤ ds.length ∧ m = ds.length + 1 - i) ?_ (ds.length + 1)
    ⟨0, F2, ρ, by simpa using hf, hT, S.adv ad, ad.grows S.keep, Sub.rfl, wk.off, Nat.zero_le _, rfl⟩
  rintro m s1 ⟨i, F1, ρ1, fo, hT1, S1, g1, f21, off1, hi', rfl⟩
  have hidden : ∀ (h' : Heap) tk, (∀ b o, b ∉ wr → s1.heap.get? b = some o → h'.get? b = some o) → St W sc env K F1 ρ1 { s1 with heap := h', toks := tk } := fun h' tk hk =>
    S1.hidden tk hk fun b hb => ⟨off1 b (wk.wrn b hb), nwK b (wk.wrn b hb), nwL b (wk.wrn b hb), nwC b (wk.wrn b hb), fun vs ⟨o, n, e, c, _⟩ => by
      obtain ⟨o', e', c'⟩ := wk.obj i _ hT1 b (wk.wrn b hb)
      rw [e] at e'; cases e'; exact c' c⟩
  by_cases hlt : i < ds.length
  · refine wk.turns.item i s1 _ _ hlt hT1 fun v h2 tk hMd hk => ?_
    refine wk.turns.go i v _ _ _ hMd fun h3 hP hT3 hk3 => ?_
    have S3 := hidden h3 tk fun b o hb e => hk3 b o hb (hk b o hb e)
    obtain ⟨d, hd, item⟩ := wk.item i v h3 hlt hP
    have hdrop : ds.drop i = d :: ds.drop (i + 1) := by
      rw [List.drop_eq_getElem_cons hlt]
      congr 1
      exact Option.some.inj ((List.getElem?_eq_getElem hlt).symm.trans hd)
    rw [hdrop] at fo
    cases fo with
    | cons hb hx fo =>
      have item' : ItemIs W F1 h3 nm d v := by
        rcases item with r | ⟨h1, T', v1, v2, d1, d2, h2', h3', h4, r1, r2⟩
        · exact .inl (r.mono f21)
        · exact .inr ⟨h1, T', v1, v2, d1, d2, h2', h3', h4, r1.mono f21, r2.mono f21⟩
      refine bind_item R S3 item' hb hok hnm fun s4 t4 S4 => ?_
      have hT4 : T (i + 1) s4.heap := wk.turns.frame _ _ _ hT3 fun b hb o e => by
        rcases wk.fpn b hb with h | ⟨o', h⟩ | ⟨o', h⟩
        · exact t4 b o e (nwL b h) (nwC b h)
        · have e1 := S3.froz b o' (f21 _ _ h)
          have e2 := S4.froz b o' (f21 _ _ h)
          have e' : h3.get? b = some o := e
          have e1' : h3.get? b = some o' := e1
          rw [e'] at e1'; cases e1'; exact e2
        · have e1 := S3.keep b o' h
          have e2 := S4.keep b o' h
          have e' : h3.get? b = some o := e
          have e1' : h3.get? b = some o' := e1
          rw [e'] at e1'; cases e1'; exact e2
      let K2 : FH := fun b => match K b with
        | some o => some o
        | none => if b ∈ nw then s4.heap.get? b else none
      have hKK : Sub K K2 := fun b o e => by show (match K b with | some o => some o | none => _) = _; rw [e]
      have hK2 : ∀ b o, K2 b = some o → K b = some o ∨ (b ∈ nw ∧ s4.heap.get? b = some o) := fun b o e => by
        have e' : (match K b with | some o => some o | none => if b ∈ nw then s4.heap.get? b else none) = some o := e
        cases hKb : K b with
        | some o' => rw [hKb] at e'; exact .inl e'
        | none =>
          rw [hKb] at e'
          dsimp only at e'
          by_cases hb : b ∈ nw
          · rw [if_pos hb] at e'; exact .inr ⟨hb, e'⟩
          · rw [if_neg hb] at e'; cases e'
      have hnot : ∀ b, b ∉ nw → K2 b = K b := fun b hb => by
        show (match K b with | some o => some o | none => if b ∈ nw then s4.heap.get? b else none) = K b
        cases hKb : K b with
        | some o' => rfl
        | none => dsimp only; rw [if_neg hb]
      have hin : ∀ b ∈ nw, K2 b = s4.heap.get? b := fun b hb => by
        show (match K b with | some o => some o | none => if b ∈ nw then s4.heap.get? b else none) = _
        rw [nwK b hb]; dsimp only; rw [if_pos hb]
      have hlist : ∀ a o, K2 a = some o → K a = some o ∨ o.cls ≠ .type "list" := fun a o e => (hK2 a o e).imp id fun ⟨hb, e'⟩ => by
        obtain ⟨o', e2, c⟩ := wk.obj _ _ hT4 a hb
        rw [e'] at e2; cases e2; exact c
      have S5 : St W sc env K2 F1 _ s4 := S4.raise hKK (fun b o e => (hK2 b o e).elim (S4.keep b o) (·.2)) ((hnot _ fun h => nwL _ h rfl).trans S4.offL.2) (fun x c hc => hnot c fun h => nwC c h x hc) hlist
      refine hx.out env A K2 F1 s4 _ _ R S5 fun F6 s6 f g6 ⟨hf6, S6⟩ => ?_
      subst hf6
      refine ⟨ds.length + 1 - (i + 1), by omega, i + 1, F6, _, fo, ?_, S6.lower hKK S.base hlist, ⟨g1.sub.trans g6.sub, fun a o e => ?_⟩, f21.trans g6.sub, ?_, hlt, rfl⟩
      · refine wk.turns.frame _ _ _ hT4 fun b hb o e => ?_
        rcases wk.fpn b hb with h | ⟨o', h⟩ | ⟨o', h⟩
        · exact S6.keep b o ((hin b h).trans e)
        · have e1 := S4.froz b o' (f21 _ _ h)
          rw [e] at e1; cases e1
          exact S6.froz b _ (g6.sub _ _ (f21 _ _ h))
        · have e1 := S4.keep b o' h
          rw [e] at e1; cases e1
          exact S6.keep b _ (hKK _ _ h)
      · rcases g6.new a o e with h | h
        · exact g1.new a o h
        · right
          cases e2 : K a with
          | none => rfl
          | some o' => rw [hKK _ _ e2] at h; cases h
      · intro b hb
        cases e : F6 b with
        | none => rfl
        | some o =>
          rcases g6.new b o e with h | h
          · rw [off1 b hb] at h; cases h
          · obtain ⟨o', e2, _⟩ := wk.obj _ _ hT4 b hb
            rw [hin b hb, e2] at h; cases h
  · have hin : i = ds.length := by omega
    subst hin
    refine wk.turns.done s1 _ _ hT1 fun h2 tk hk => ?_
    have z : ds.drop ds.length = [] := List.drop_eq_nil_of_le (Nat.le_refl _)
    rw [z] at fo
    cases fo
    exact wpAny_execs_nil (q F1 _ _ g1 ⟨rfl, hidden h2 tk hk⟩)
end
end Mine

-- F13
namespace Mine

section
variable {W : Wd} {sc : Sc} {env : Env} {K K2 F F' F1 h0 : FH} {ρ ρ' : Vars} {s s' s1 : Shared} {k : Nat} {A : Around}

/-! ## what there is to walk over -/
theorem size_new (hs : Sub h0 s1.heap.get?) (j : Nat) : h0 (s1.heap.objs.size + j) = none := by
  cases e : h0 (s1.heap.objs.size + j) with
  | none => rfl
  | some o => exact absurd (Heap.lt_size (hs _ _ e)) (Nat.not_lt.mpr (Nat.le_add_right _ _))

theorem walk_list {target : Expr} {a : Addr} {vs : List Value} {ds : List D} (R : Room k A) (h0s : Sub h0 s1.heap.get?) (hF : Sub F1 s1.heap.get?) (hK : Sub K s1.heap.get?) (hq : SeqAt F1 "list" a vs ∨ SeqAt K "list" a vs) (r : RepAll W F1 vs ds) :
    Walk W A K F1 h0 target true ds s1.heap.objs.size [s1.heap.objs.size, a] [s1.heap.objs.size] [s1.heap.objs.size] (fun i v _ => vs.toArray[i]? = some v) (fun i v h => vs.toArray[i]? = some v ∧ (h.IsListIter s1.heap.objs.size a (i + 1) ∧ h.IsList a vs.toArray))
      (fun i h => h.IsListIter s1.heap.objs.size a i ∧ h.IsList a vs.toArray) := by
  have hsome : ∃ o, s1.heap.get? a = some o := hq.elim (fun q => let ⟨o, e⟩ := q.some; ⟨o, hF _ _ e⟩) fun q => let ⟨o, e⟩ := q.some; ⟨o, hK _ _ e⟩
  have hne : a ≠ s1.heap.objs.size := by
    obtain ⟨o, e⟩ := hsome
    exact Nat.ne_of_lt (Heap.lt_size e)
  have hsz : vs.toArray.size = ds.length := by rw [List.size_toArray, r.length]
  have W0 := Walks.list (prog := W.prog) (w := W.w) R.hh s1.heap.objs.size a hne vs.toArray
  refine ⟨by rw [← hsz]; exact KTurns.ofWalks W0 fun i v s Q E st q => letGo_listiter st.1 q, W0.self, fun i h hT b hb => ?_, fun b hb => hb, fun b hb => ?_, fun i v h hi hp => ?_, fun b hb => ?_, fun b hb => ?_⟩
  · rw [List.mem_singleton.mp hb]
    obtain ⟨o, e, c, _⟩ := hT.1
    exact ⟨o, e, by rw [c]; simp⟩
  · rcases List.mem_cons.mp hb with h | h
    · exact .inl (by rw [h]; simp)
    · rw [List.mem_singleton.mp h]; exact .inr (hq.imp (·.some) (·.some))
  · obtain ⟨d, hd, rd⟩ := r.get' (by simpa using hp)
    exact ⟨d, hd, .inl rd⟩
  · rw [List.mem_singleton.mp hb]; exact size_new h0s 0
  · rw [List.mem_singleton.mp hb]; exact size_new hF 0

theorem it_list {target iter : Expr} {ds : List D} (h : Evals W sc k iter ρ (.lst ds)) : Iters W sc k target iter ρ true ds := by
  refine ⟨?_⟩; intro env A K F s Q E R S q
  refine h.out env A K F s _ E R S fun F1 s1 v a1 r => ?_
  cases r with
  | @lst a vs ds sq r =>
    refine wpAny_pyIter_list (sq.mono a1.sup).isList ?_
    have hs := a1.ext
    exact q F1 _ _ _ _ _ _ _ _ (a1.trans (.grow a1.sup (sub_push _ _))) (walk_list R hs a1.sup (S.keep.trans hs) (.inl sq) r) ⟨⟨_, Heap.get?_push_size _ rfl, rfl, rfl⟩, (sq.mono a1.sup).isList.at fun o e => Heap.get?_push_of_some _ e⟩
theorem it_bor {target : Expr} {x : Str} {p : Pos} {ds : List D} (hx : ρ.lookup x = some (.bor ds)) (hd : (x == ("__debug__" : Str)) = false := by decide) : Iters W sc k target (.Name x p) ρ true ds := by
  refine ⟨?_⟩; intro env A K F s Q E R S q
  refine wpAny_Name (S.read hx fun v fp e => ?_) hd
  cases e with
  | @bor a vs ds sq r =>
    refine wpAny_pyIter_list (sq.mono S.keep).isList ?_
    exact q F _ _ _ _ _ _ _ _ (.grow S.froz (sub_push _ _)) (walk_list R Sub.rfl S.froz S.keep (.inr sq) r) ⟨⟨_, Heap.get?_push_size _ rfl, rfl, rfl⟩, (sq.mono S.keep).isList.at fun o e => Heap.get?_push_of_some _ e⟩

theorem it_tup {target iter : Expr} {ds : List D} (h : Evals W sc k iter ρ (.tup ds)) : Iters W sc k target iter ρ true ds := by
  refine ⟨?_⟩; intro env A K F s Q E R S q
  refine h.out env A K F s _ E R S fun F1 s1 v a1 r => ?_
  cases r with
  | @tup a vs ds sq r =>
    refine wpAny_pyIter_tuple (sq.mono a1.sup).isTuple ?_
    have hne : a ≠ s1.heap.objs.size := by
      obtain ⟨o, e⟩ := sq.some
      exact Nat.ne_of_lt (Heap.lt_size (a1.sup _ _ e))
    have hsz : vs.toArray.size = ds.length := by rw [List.size_toArray, r.length]
    have W0 := Walks.tuple (prog := W.prog) (w := W.w) R.hh s1.heap.objs.size a hne vs.toArray
    refine q F1 _ _ [s1.heap.objs.size, a] [s1.heap.objs.size] _ _ _ _ (a1.trans (.grow a1.sup (sub_push _ _))) ⟨by rw [← hsz]; exact KTurns.ofWalks W0 fun i v s Q E st q => letGo_tupleiter st.1 q, W0.self, fun i h hT b hb => ?_, fun b hb => hb, fun b hb => ?_, fun i v h hi hp => ?_, fun b hb => ?_, fun b hb => ?_⟩ ?_
    · rw [List.mem_singleton.mp hb]
      obtain ⟨o, e, c, _⟩ := hT.1
      exact ⟨o, e, by rw [c]; simp⟩
    · rcases List.mem_cons.mp hb with h | h
      · exact .inl (by rw [h]; simp)
      · rw [List.mem_singleton.mp h]; exact .inr (.inl sq.some)
    · obtain ⟨d, hd, rd⟩ := r.get' (by simpa using hp)
      exact ⟨d, hd, .inl rd⟩
    · rw [List.mem_singleton.mp hb]; exact size_new a1.ext 0
    · rw [List.mem_singleton.mp hb]; exact size_new a1.sup 0
    · exact ⟨⟨_, Heap.get?_push_size _ rfl, rfl, rfl⟩, (sq.mono a1.sup).isTuple.at fun o e => Heap.get?_push_of_some _ e⟩

/-- one iterator object and nothing else -/
theorem walk_one {target : Expr} {ds : List D} {P : Nat → Value → Prop} {T : Nat → Heap → Prop} {I : Addr} (W0 : Walks W.prog W.w A I [I] [I] ds.length P T) (hgo : ∀ v, letOwnedTupleGo target (.ref I) v = pure ()) (hobj : ∀ i h, T i h → ∃ o, h.get? I = some o ∧ o.cls ≠ .type "list") (hitem : ∀ i v, i < ds.length → P i v → ∃ d, ds[i]? = some d ∧ Rep W F1 v d)
    (h1 : h0 I = none) (h2 : F1 I = none) : Walk W A K F1 h0 target true ds I [I] [I] [I] (fun i v _ => P i v) (fun i v h => P i v ∧ T (i + 1) h) T := by
  refine ⟨KTurns.ofWalks W0 fun i v s Q E st q => wpAny_of_eq (hgo v) q, W0.self, fun i h hT b hb => ?_, fun b hb => hb, fun b hb => .inl hb, fun i v h hi hp => ?_, fun b hb => ?_, fun b hb => ?_⟩
  · rw [List.mem_singleton.mp hb]; exact hobj i h hT
  · obtain ⟨d, hd, rd⟩ := hitem i v hi hp
    exact ⟨d, hd, .inl rd⟩
  · rw [List.mem_singleton.mp hb]; exact h1
  · rw [List.mem_singleton.mp hb]; exact h2

noncomputable abbrev signs (x : Str) : List D := x.cps.toList.map fun c => D.str ⟨#[c]⟩
theorem it_str {x : Str} {p : Pos} {iter : Expr} {y : Str} (h : EvR W sc k iter ρ (.str y)) (ha : y.cps.all (· < 128) = true) : Iters W sc k (.Name x p) iter ρ true (signs y) := by
  refine ⟨?_⟩; intro env A K F s Q E R S q
  refine h.out env A K F s _ E R S fun F1 s1 v a1 r => ?_
  obtain ⟨t, rfl⟩ := r.str
  refine wpAny_pyIter_ascii ha ?_
  have W0 := Walks.strAscii (prog := W.prog) (w := W.w) R.hh s1.heap.objs.size y t
  have e : y.cps.size = (signs y).length := by simp [signs]
  refine q F1 _ _ _ _ _ _ _ _ (a1.trans (.grow a1.sup (sub_push _ _))) (walk_one (by rw [← e]; exact W0) (fun _ => rfl) (fun i h hT => ?_) (fun i v hi hp => ?_) (size_new a1.ext 0) (size_new a1.sup 0)) ?_
  · obtain ⟨o, e, c, _⟩ := hT
    exact ⟨o, e, by rw [c]; simp⟩
  · obtain ⟨c, u, hc, rfl⟩ := hp
    exact ⟨.str ⟨#[c]⟩, by simp [signs, hc], .str _ _⟩
  · exact ⟨_, Heap.get?_push_size _ rfl, rfl, rfl⟩
noncomputable abbrev octets (b : Array UInt8) : List D := b.toList.map fun c => D.int (c.toNat : Int)
theorem it_byt {x : Str} {p : Pos} {iter : Expr} {b : Array UInt8} (h : EvR W sc k iter ρ (.byt b)) : Iters W sc k (.Name x p) iter ρ true (octets b) := by
  refine ⟨?_⟩; intro env A K F s Q E R S q
  refine h.out env A K F s _ E R S fun F1 s1 v a1 r => ?_
  obtain ⟨t, rfl⟩ := r.byt
  refine KBw.pyIter_bytes ?_
  have W0 := KBw.walks (prog := W.prog) (w := W.w) R.hh s1.heap.objs.size b t
  have e : b.size = (octets b).length := by simp [octets]
  refine q F1 _ _ _ _ _ _ _ _ (a1.trans (.grow a1.sup (sub_push _ _))) (walk_one (by rw [← e]; exact W0) (fun _ => rfl) (fun i h hT => ?_) (fun i v hi hp => ?_) (size_new a1.ext 0) (size_new a1.sup 0)) ?_
  · obtain ⟨o, e, c, _⟩ := hT
    exact ⟨o, e, by rw [c]; simp⟩
  · obtain ⟨c, u, hc, rfl⟩ := hp
    exact ⟨.int (c.toNat : Int), by simp [octets, hc], .int _ _⟩
  · exact ⟨_, Heap.get?_push_size _ rfl, rfl, rfl⟩

/-! ## calls that make iterables -/
theorem call_typ {x : Str} {T : String} {p pos : Pos} {args : List Expr} {es : List Ent} (O : W.Ok) (ha : EvArgs W sc k ρ args es) (hne : es ≠ []) (hx : W.mg x = none)
    (hk : sc.names.lookup x = some .globalImplicit) (hv : bootBuiltins x = some (.type T)) {Q : Value → Shared → Prop} {E : Value → Shared → Prop} (R : Room k A) (S : St W sc env K F ρ s)
    (h : ∀ F1 s1 vs, Adv s F s1 F1 → ArgsR W F1 s1.heap.get? vs es → wpAny (model W.prog W.w) A (call (.type T) vs) Q E s1) (hn : x ≠ "__name__" := by decide) (hd : (x == ("__debug__" : Str)) = false := by decide) : wpAny (model W.prog W.w) A (eval (.Call (.Name x p) args [] pos) env) Q E s := by
  refine Call_Name rfl (wpAny_Name (S.builtin O hk hx hn hv ?_) hd)
  cases ha with
  | nil => exact absurd rfl hne
  | cons h1 hr hs => exact PyProof.Rows.callWith_type1 (ev_args (.cons h1 hr hs) env A K F s _ E pos R S fun F1 s1 vs a1 r1 => h F1 s1 vs a1 r1) (hs _ _) (ev_args_plain hr env pos)

theorem range_small {a b : Int} (h1 : -1000000 ≤ a) (h2 : a ≤ 1000000) (h3 : -1000000 ≤ b) (h4 : b ≤ 1000000) : Builtin.Range.small a b 1 = true := by
  have hz : 0 ≤ Builtin.Range.rangeSize a b 1 ∧ Builtin.Range.rangeSize a b 1 ≤ 2000000 := by
    unfold Builtin.Range.rangeSize
    simp only [show (1 : Int) > 0 from by decide, if_true, Int.ediv_one]
    split <;> omega
  unfold Builtin.Range.small Builtin.Range.rangeFitsLong
  simp only [Bool.and_eq_true, Bool.or_eq_true, decide_eq_true_eq, show (1 : Int) > 0 from by decide, if_true]
  refine ⟨⟨⟨⟨?_, ?_⟩, ?_⟩, ?_⟩, .inr ?_⟩ <;> omega

theorem walk_range {x : Str} {p : Pos} {a b : Int} {n : Nat} (R : Room k A) (hn : Builtin.Range.rangeSize a b 1 = n) (hF : Sub F1 s1.heap.get?) (h0s : Sub h0 s1.heap.get?) {r : Addr} {t u v : Tok} {Q : Value → Shared → Prop} {E : Value → Shared → Prop} (hr : IsRange s1.heap r a b 1 t u v) (hsm : Builtin.Range.small a b 1 = true)
    (q : ∀ s2 I fp nw wr P Md T, Adv s1 F1 s2 F1 → Walk W A K F1 h0 (.Name x p) true ((List.range n).map fun i : Nat => D.int (a + (i : Nat))) I fp nw wr P Md T → T 0 s2.heap → Q (.ref I) s2) : wpAny (model W.prog W.w) A (pyIter (.ref r)) Q E s1 := by
  refine wpAny_pyIter_range hr hsm ?_
  rw [hn]
  have W0 := Walks.range (prog := W.prog) (w := W.w) R.hh s1.heap.objs.size a 1 n
  have e : n = ((List.range n).map fun i : Nat => D.int (a + (i : Nat))).length := by simp
  refine q _ _ _ _ _ _ _ _ (.grow hF (sub_push _ _)) (walk_one (by rw [← e]; exact W0) (fun _ => rfl) (fun i h hT => ?_) (fun i v hi hp => ?_) (size_new h0s 0) (size_new hF 0)) ?_
  · exact ⟨_, hT, by simp⟩
  · obtain ⟨t, rfl⟩ := hp
    refine ⟨.int (a + i), ?_, ?_⟩
    · rw [← e] at hi
      simp [hi]
    · rw [Int.mul_one]; exact .int _ _
  · show IsRangeIter _ _ _ _ _
    simp only [Int.ofNat_zero, Int.zero_mul, Int.add_zero, Int.sub_zero]
    exact Heap.get?_push_size _ rfl

theorem it_range1 {x fn : Str} {p p' pos : Pos} {e : Expr} {n : Nat} (O : W.Ok) (h : Evals W sc k e ρ (.int n)) (hst : ∀ rest env, starEach (e :: rest) env = (false, eval e env) :: starEach rest env) (hl : n ≤ 1000000) (hx : W.mg fn = none) (hk : sc.names.lookup fn = some .globalImplicit) (hv : bootBuiltins fn = some (.type "range"))
    (hn : fn ≠ "__name__" := by decide) (hd : (fn == ("__debug__" : Str)) = false := by decide) : Iters W sc k (.Name x p) (.Call (.Name fn p') [e] [] pos) ρ true ((List.range n).map fun i : Nat => D.int (i : Nat)) := by
  refine ⟨?_⟩; intro env A K F s Q E R S q
  refine call_typ O (.cons (eva_v h) .nil hst) (by simp) hx hk hv R S (fun F1 s1 vs a1 ra => ?_) hn hd
  obtain ⟨v, rfl, r⟩ := ra.one
  obtain ⟨t, rfl⟩ := r.int
  refine call_range_1 ?_
  have a2 := Adv.grow (n := s1.toks + 1 + 1) a1.sup (sub_push s1.heap { cls := .type "range", data := .fields #[.int 0 s1.toks, .int n t, .int 1 (s1.toks + 1)] })
  refine walk_range (x := x) (p := p) (K := K) R (a := 0) (b := n) (n := n) ?_ a2.sup (a1.ext.trans a2.ext) (Heap.get?_push_size _ rfl) (range_small (by omega) (by omega) (by omega) (by omega)) fun s2 I fp nw wr P Md T a3 wk hT => ?_
  · unfold Builtin.Range.rangeSize
    simp only [show (1 : Int) > 0 from by decide, if_true, Int.ediv_one]
    split <;> omega
  · refine q F1 s2 I fp nw wr P Md T ((a1.trans a2).trans a3) ?_ hT
    simpa using wk
theorem it_range2 {x fn : Str} {p p' pos : Pos} {e1 e2 : Expr} {a n : Nat} (O : W.Ok) (h1 : Evals W sc k e1 ρ (.int a)) (h2 : Evals W sc k e2 ρ (.int ((a + n : Nat) : Int))) (hst1 : ∀ rest env, starEach (e1 :: rest) env = (false, eval e1 env) :: starEach rest env) (hst2 : ∀ rest env, starEach (e2 :: rest) env = (false, eval e2 env) :: starEach rest env)
    (hl : a + n ≤ 1000000) (hx : W.mg fn = none) (hk : sc.names.lookup fn = some .globalImplicit) (hv : bootBuiltins fn = some (.type "range"))
    (hn : fn ≠ "__name__" := by decide) (hd : (fn == ("__debug__" : Str)) = false := by decide) : Iters W sc k (.Name x p) (.Call (.Name fn p') [e1, e2] [] pos) ρ true ((List.range n).map fun i : Nat => D.int (a + (i : Nat))) := by
  refine ⟨?_⟩; intro env A K F s Q E R S q
  refine call_typ O (.cons (eva_v h1) (.cons (eva_v h2) .nil hst2) hst1) (by simp) hx hk hv R S (fun F1 s1 vs a1 ra => ?_) hn hd
  obtain ⟨v, v', rfl, r, r'⟩ := ra.two
  obtain ⟨t, rfl⟩ := r.int
  obtain ⟨u, rfl⟩ := r'.int
  refine call_range_2 ?_
  have a2 := Adv.grow (n := s1.toks + 1) a1.sup (sub_push s1.heap { cls := .type "range", data := .fields #[.int a t, .int ((a + n : Nat) : Int) u, .int 1 s1.toks] })
  refine walk_range (x := x) (p := p) (K := K) R (a := a) (b := ((a + n : Nat) : Int)) (n := n) ?_ a2.sup (a1.ext.trans a2.ext) (Heap.get?_push_size _ rfl) (range_small (by omega) (by omega) (by omega) (by omega)) fun s2 I fp nw wr P Md T a3 wk hT => ?_
  · unfold Builtin.Range.rangeSize
    simp only [show (1 : Int) > 0 from by decide, if_true, Int.ediv_one]
    split <;> omega
  · exact q F1 s2 I fp nw wr P Md T ((a1.trans a2).trans a3) wk hT

theorem ArgR.lst {h : FH} {v : Value} {ds : List D} (r : ArgR W F h v (.v (.lst ds))) : ∃ a vs, v = .ref a ∧ SeqAt F "list" a vs ∧ RepAll W F vs ds := by
  cases r with
  | v r => cases r with
    | lst q r => exact ⟨_, _, rfl, q, r⟩

/-- reversed(items) -/
theorem it_rev {x fn : Str} {p p' pos : Pos} {e : Expr} {ds : List D} (O : W.Ok) (h : Evals W sc k e ρ (.lst ds)) (hst : ∀ rest env, starEach (e :: rest) env = (false, eval e env) :: starEach rest env) (hx : W.mg fn = none) (hk : sc.names.lookup fn = some .globalImplicit) (hv : bootBuiltins fn = some (.type "reversed"))
    (hn : fn ≠ "__name__" := by decide) (hd : (fn == ("__debug__" : Str)) = false := by decide) : Iters W sc k (.Name x p) (.Call (.Name fn p') [e] [] pos) ρ true ds.reverse := by
  refine ⟨?_⟩; intro env A K F s Q E R S q
  refine call_typ O (.cons (eva_v h) .nil hst) (by simp) hx hk hv R S (fun F1 s1 vs a1 ra => ?_) hn hd
  obtain ⟨v, rfl, r⟩ := ra.one
  obtain ⟨a, vs, rfl, sq, r⟩ := r.lst
  refine call_reversed_list (sq.mono a1.sup).isList ?_
  have hs := a1.sup.trans (sub_push s1.heap (revObj a ((vs.toArray.size : Int) - 1)))
  have hI : Heap.IsRevIter (s1.heap.push (revObj a ((vs.toArray.size : Int) - 1))) s1.heap.objs.size a ((vs.toArray.size : Int) - 1) := ⟨_, Heap.get?_push_size _ rfl, rfl, rfl⟩
  refine wpAny_pyIter_revIter hI ?_
  have hne : a ≠ s1.heap.objs.size := by
    obtain ⟨o, e⟩ := sq.some
    exact Nat.ne_of_lt (Heap.lt_size (a1.sup _ _ e))
  have hsz : vs.toArray.size = ds.reverse.length := by rw [List.size_toArray, r.length, List.length_reverse]
  have W0 := Walks.listRev (prog := W.prog) (w := W.w) R.hh s1.heap.objs.size a hne vs.toArray
  refine q F1 _ _ [s1.heap.objs.size, a] [s1.heap.objs.size] _ _ _ _ (a1.trans (.grow a1.sup (sub_push _ _))) ⟨by rw [← hsz]; exact KTurns.ofWalks W0 fun i v s Q E st q => wpAny_of_eq (by rfl) q, W0.self, fun i h hT b hb => ?_, fun b hb => hb, fun b hb => ?_, fun i v h hi hp => ?_, fun b hb => ?_, fun b hb => ?_⟩ ?_
  · rw [List.mem_singleton.mp hb]
    obtain ⟨o, e, c, _⟩ := hT.2.1
    exact ⟨o, e, by rw [c]; simp⟩
  · rcases List.mem_cons.mp hb with h | h
    · exact .inl (by rw [h]; simp)
    · rw [List.mem_singleton.mp h]; exact .inr (.inl sq.some)
  · have hl := r.length
    obtain ⟨d, hd, rd⟩ := r.get' (k := vs.length - 1 - i) (by simpa using hp)
    refine ⟨d, ?_, .inl rd⟩
    rw [List.length_reverse] at hi
    rw [List.getElem?_reverse hi, ← hl]; exact hd
  · rw [List.mem_singleton.mp hb]; exact size_new a1.ext 0
  · rw [List.mem_singleton.mp hb]; exact size_new a1.sup 0
  · exact ⟨Nat.zero_le _, by simpa using hI, (sq.mono hs).isList⟩
end
end Mine

-- F14
namespace Mine

section
variable {W : Wd} {sc : Sc} {env : Env} {K K2 F F' F1 h0 : FH} {ρ ρ' : Vars} {s s' s1 : Shared} {k : Nat} {A : Around}

theorem not_list {T : String} (h : (T == "list") = false) : Value.type T ≠ .type "list" := by
  intro e; injection e with e; subst e; simp at h

/-- enumerate(items) -/
theorem it_enum {fn : Str} {elts : List Expr} {n : Nat} {tp p' pos : Pos} {e : Expr} {ds : List D} (O : W.Ok) (h : Evals W sc k e ρ (.lst ds)) (hst : ∀ rest env, starEach (e :: rest) env = (false, eval e env) :: starEach rest env) (hx : W.mg fn = none) (hk : sc.names.lookup fn = some .globalImplicit) (hv : bootBuiltins fn = some (.type "enumerate"))
    (hn : fn ≠ "__name__" := by decide) (hd : (fn == ("__debug__" : Str)) = false := by decide) : Iters W sc k (.Tuple elts n tp) (.Call (.Name fn p') [e] [] pos) ρ false (ds.mapIdx fun i d => D.tup [.int i, d]) := by
  refine ⟨?_⟩; intro env A K F s Q E R S q
  refine call_typ O (.cons (eva_v h) .nil hst) (by simp) hx hk hv R S (fun F1 s1 vs a1 ra => ?_) hn hd
  obtain ⟨v, rfl, r⟩ := ra.one
  obtain ⟨a, vs, rfl, sq, r⟩ := r.lst
  have hl : s1.heap.IsList a vs.toArray := (sq.mono a1.sup).isList
  have hlt : a < s1.heap.objs.size := by
    obtain ⟨o, e⟩ := sq.some
    exact Heap.lt_size (a1.sup _ _ e)
  refine call_enumerate_list hl fun h' hE hI hsz hkp => ?_
  refine wpAny_pyIter_enum hE ?_
  have hsz2 : vs.toArray.size = (ds.mapIdx fun i d => D.tup [.int i, d]).length := by rw [List.size_toArray, r.length, List.length_mapIdx]
  have W0 := (WalksT.enumerate (prog := W.prog) (w := W.w) R.hh (s1.heap.objs.size + 1) s1.heap.objs.size a (Nat.succ_ne_self _) (ktu_ne 1 hlt) (Nat.ne_of_lt hlt) vs.toArray).toU
  refine q F1 _ _ _ [s1.heap.objs.size + 1, s1.heap.objs.size] _ _ _ _ (a1.trans (.grow a1.sup hkp)) ⟨by rw [← hsz2]; exact KTurns.ofWalksU W0, W0.self, fun i h hT b hb => ?_, fun b hb => hb, fun b hb => ?_, fun i v h hi hp => ?_, fun b hb => ?_, fun b hb => ?_⟩ ?_
  · obtain ⟨⟨old, he⟩, ⟨oi, hoi, hic, _⟩, _⟩ := hT
    rcases List.mem_cons.mp hb with rfl | hb
    · exact ⟨_, he, not_list rfl⟩
    · rw [List.mem_singleton.mp hb]
      exact ⟨oi, hoi, by rw [hic]; exact not_list rfl⟩
  · have hb' : b = s1.heap.objs.size + 1 ∨ b = s1.heap.objs.size ∨ b = a := by simpa using hb
    rcases hb' with rfl | rfl | rfl
    · exact .inl (by simp)
    · exact .inl (by simp)
    · exact .inr (.inl sq.some)
  · obtain ⟨T, vals, rfl, ⟨t, x, hx, rfl⟩, hT⟩ := hp
    obtain ⟨d, hd, rd⟩ := r.get' (k := i) (v := x) (by simpa using hx)
    refine ⟨.tup [.int i, d], by rw [List.getElem?_mapIdx, hd]; rfl, .inr ⟨rfl, T, _, _, .int i, d, rfl, rfl, hT, .int _ _, rd⟩⟩
  · have hb' : b = s1.heap.objs.size + 1 ∨ b = s1.heap.objs.size := by simpa using hb
    rcases hb' with rfl | rfl
    · exact size_new a1.ext 1
    · exact size_new a1.ext 0
  · have hb' : b = s1.heap.objs.size + 1 ∨ b = s1.heap.objs.size := by simpa using hb
    rcases hb' with rfl | rfl
    · exact size_new a1.sup 1
    · exact size_new a1.sup 0
  · exact ⟨⟨.none, hE⟩, hI, hl.at fun o e => hkp a o e⟩

/-- zip(xs, ys) -/
theorem it_zip {fn : Str} {elts : List Expr} {n : Nat} {tp p' pos : Pos} {e1 e2 : Expr} {xs ys : List D} (O : W.Ok) (h1 : Evals W sc k e1 ρ (.lst xs)) (h2 : Evals W sc k e2 ρ (.lst ys)) (hst1 : ∀ rest env, starEach (e1 :: rest) env = (false, eval e1 env) :: starEach rest env) (hst2 : ∀ rest env, starEach (e2 :: rest) env = (false, eval e2 env) :: starEach rest env)
    (hx : W.mg fn = none) (hk : sc.names.lookup fn = some .globalImplicit) (hv : bootBuiltins fn = some (.type "zip"))
    (hn : fn ≠ "__name__" := by decide) (hd : (fn == ("__debug__" : Str)) = false := by decide) : Iters W sc k (.Tuple elts n tp) (.Call (.Name fn p') [e1, e2] [] pos) ρ false (List.zipWith (fun a b => D.tup [a, b]) xs ys) := by
  refine ⟨?_⟩; intro env A K F s Q E R S q
  refine call_typ O (.cons (eva_v h1) (.cons (eva_v h2) .nil hst2) hst1) (by simp) hx hk hv R S (fun F1 s1 vs a1 ra => ?_) hn hd
  obtain ⟨v, v', rfl, r, r'⟩ := ra.two
  obtain ⟨l1, vs, rfl, sq1, r1⟩ := r.lst
  obtain ⟨l2, ws, rfl, sq2, r2⟩ := r'.lst
  have hl1 : s1.heap.IsList l1 vs.toArray := (sq1.mono a1.sup).isList
  have hl2 : s1.heap.IsList l2 ws.toArray := (sq2.mono a1.sup).isList
  have hlt1 : l1 < s1.heap.objs.size := by
    obtain ⟨o, e⟩ := sq1.some
    exact Heap.lt_size (a1.sup _ _ e)
  have hlt2 : l2 < s1.heap.objs.size := by
    obtain ⟨o, e⟩ := sq2.some
    exact Heap.lt_size (a1.sup _ _ e)
  have Da : ZipApart (s1.heap.objs.size + 4) (s1.heap.objs.size + 2) (s1.heap.objs.size + 3) s1.heap.objs.size (s1.heap.objs.size + 1) l1 l2 := ktu_apart _ _ _ hlt1 hlt2
  refine call_zip_2 hl1 hl2 fun h' hz hTI hTO hi1 hi2 hsz hkp => ?_
  refine wpAny_pyIter_zip hz ?_
  have hsz2 : min vs.toArray.size ws.toArray.size = (List.zipWith (fun a b => D.tup [a, b]) xs ys).length := by rw [List.size_toArray, List.size_toArray, r1.length, r2.length, List.length_zipWith]
  have W0 := (WalksT.zip2 (prog := W.prog) (w := W.w) R.hh _ _ _ _ _ _ _ Da vs.toArray ws.toArray).toU
  refine q F1 _ _ _ [s1.heap.objs.size + 4, s1.heap.objs.size + 2, s1.heap.objs.size + 3, s1.heap.objs.size, s1.heap.objs.size + 1] _ _ _ _ (a1.trans (.grow a1.sup hkp)) ⟨by rw [← hsz2]; exact KTurns.ofWalksU W0, W0.self, fun i h hT b hb => ?_, fun b hb => ?_, fun b hb => ?_, fun i v h hi hp => ?_, fun b hb => ?_, fun b hb => ?_⟩ ?_
  · obtain ⟨hz, hTI, ⟨a, b', hTO⟩, ⟨o1, ho1, hc1, _⟩, ⟨o2, ho2, hc2, _⟩, _⟩ := hT
    have hb' : b = s1.heap.objs.size + 4 ∨ b = s1.heap.objs.size + 2 ∨ b = s1.heap.objs.size + 3 ∨ b = s1.heap.objs.size ∨ b = s1.heap.objs.size + 1 := by simpa using hb
    rcases hb' with rfl | rfl | rfl | rfl | rfl
    · exact ⟨_, hz, not_list rfl⟩
    · exact ⟨_, hTI, not_list rfl⟩
    · exact ⟨_, hTO, not_list rfl⟩
    · exact ⟨_, ho1, by rw [hc1]; exact not_list rfl⟩
    · exact ⟨_, ho2, by rw [hc2]; exact not_list rfl⟩
  · have hb' : b = s1.heap.objs.size + 4 ∨ b = s1.heap.objs.size + 3 ∨ b = s1.heap.objs.size ∨ b = s1.heap.objs.size + 1 := by simpa using hb
    rcases hb' with rfl | rfl | rfl | rfl <;> simp
  · have hb' : b = s1.heap.objs.size + 4 ∨ b = s1.heap.objs.size + 2 ∨ b = s1.heap.objs.size + 3 ∨ b = s1.heap.objs.size ∨ b = s1.heap.objs.size + 1 ∨ b = l1 ∨ b = l2 := by simpa using hb
    rcases hb' with rfl | rfl | rfl | rfl | rfl | rfl | rfl
    · exact .inl (by simp)
    · exact .inl (by simp)
    · exact .inl (by simp)
    · exact .inl (by simp)
    · exact .inl (by simp)
    · exact .inr (.inl sq1.some)
    · exact .inr (.inl sq2.some)
  · obtain ⟨T, vals, rfl, ⟨x, y, hx, hy, rfl⟩, hT⟩ := hp
    obtain ⟨d, hd, rd⟩ := r1.get' (k := i) (v := x) (by simpa using hx)
    obtain ⟨e, he, re⟩ := r2.get' (k := i) (v := y) (by simpa using hy)
    exact ⟨.tup [d, e], by rw [List.getElem?_zipWith, hd, he], .inr ⟨rfl, T, _, _, d, e, rfl, rfl, hT, rd, re⟩⟩
  · have hb' : b = s1.heap.objs.size + 4 ∨ b = s1.heap.objs.size + 2 ∨ b = s1.heap.objs.size + 3 ∨ b = s1.heap.objs.size ∨ b = s1.heap.objs.size + 1 := by simpa using hb
    rcases hb' with rfl | rfl | rfl | rfl | rfl
    · exact size_new a1.ext 4
    · exact size_new a1.ext 2
    · exact size_new a1.ext 3
    · exact size_new a1.ext 0
    · exact size_new a1.ext 1
  · have hb' : b = s1.heap.objs.size + 4 ∨ b = s1.heap.objs.size + 2 ∨ b = s1.heap.objs.size + 3 ∨ b = s1.heap.objs.size ∨ b = s1.heap.objs.size + 1 := by simpa using hb
    rcases hb' with rfl | rfl | rfl | rfl | rfl
    · exact size_new a1.sup 4
    · exact size_new a1.sup 2
    · exact size_new a1.sup 3
    · exact size_new a1.sup 0
    · exact size_new a1.sup 1
  · exact ⟨hz, hTI, ⟨_, _, hTO⟩, hi1, hi2, hl1.at fun o e => hkp l1 o e, hl2.at fun o e => hkp l2 o e⟩
end
end Mine

-- F15
namespace Mine

/-! ## calls of the program's own functions -/
noncomputable def FnAt (W : Wd) (name : Str) (params : Arguments) (body : List Stmt) (scope : Scope) : Prop :=
  ∃ a o pm code doc, W.mg name = some (.ref a) ∧ W.s0.heap.get? a = some o ∧ o.data = .func (docDef name params body scope pm code doc) ∧ W.s0.heap.CodeRec code name

structure Bare0 (W : Wd) (F : FH) (s : Shared) : Prop where
  same : ∃ h tk, s = { W.s0 with heap := h, toks := tk }
  base : Sub W.s0.heap.get? s.heap.get?
  froz : Sub F s.heap.get?

noncomputable def Calls (W : Wd) (k : Nat) (name : Str) (es : List Ent) (d : D) : Prop := Hold <|
  ∀ A F s a vs (Q : Value → Shared → Prop) (E : Value → Shared → Prop), Room k A → W.mg name = some (.ref a) → Bare0 W F s → ArgsR W F s.heap.get? vs es → (∀ F' s' v, Adv s F s' F' → Rep W F' v d → Q v s') →
    wpAny (model W.prog W.w) A (call (.ref a) vs) Q E s

section
variable {W : Wd} {sc : Sc} {env : Env} {K F F' : FH} {ρ ρ' : Vars} {s s' s1 : Shared} {k : Nat} {A : Around}

theorem ev_call {x : Str} {p pos : Pos} {args : List Expr} {es : List Ent} {r : D} {params : Arguments} {body : List Stmt} {scope : Scope} (O : W.Ok) (fn : FnAt W x params body scope) (hk : sc.names.lookup x = some .globalImplicit) (ha : EvArgs W sc k ρ args es) (h : Calls W k x es r) (hne : es ≠ [])
    (hd : (x == ("__debug__" : Str)) = false := by decide) : Evals W sc k (.Call (.Name x p) args [] pos) ρ r := by
  refine ⟨?_⟩; intro env A K F s Q E R S q
  obtain ⟨a, o, pm, code, doc, hx, ho, hdat, _⟩ := fn
  refine Call_Name rfl (wpAny_Name (S.glob' O hk hx ?_) hd)
  cases ha with
  | nil => exact absurd rfl hne
  | cons h1 hr hs =>
    refine PyProof.Rows.callWith_def hdat (ev_args (.cons h1 hr hs) env A K F s _ E pos R S fun F1 s1 vs a1 r1 => ⟨(S.adv a1).top _ _ ho, ?_⟩) (hs _ _)
    exact h.out A F1 s1 a vs _ E R hx ⟨(S.adv a1).same, (S.adv a1).top, a1.sup⟩ r1 fun F2 s2 v a2 r2 => q _ _ _ (a1.trans a2) r2

theorem bindL_not {kindOf : Str → Option NameKind} : ∀ (b : List (Str × Value)) (m : Str → Option Value) {x : Str}, x ∉ b.map (·.1) → bindL kindOf b m x = m x
  | [], _, _, _ => rfl
  | (n, v) :: r, m, x, h => by
    unfold bindL
    rw [bindL_not r _ (fun hm => h (List.mem_cons_of_mem _ hm))]
    have hn : x ≠ n := fun e => h (by simp [e])
    split
    · exact if_neg hn
    · rfl
theorem bindL_mem {kindOf : Str → Option NameKind} : ∀ (b : List (Str × Value)) (m : Str → Option Value) {x : Str} {v : Value}, (b.map (·.1)).Nodup → (x, v) ∈ b → kindOf x = some .local → bindL kindOf b m x = some v
  | (n, w) :: r, m, x, v, hn, hm, hk => by
    rw [List.map_cons, List.nodup_cons] at hn
    unfold bindL
    rcases List.mem_cons.mp hm with e | hm
    · cases e
      rw [bindL_not r _ hn.1, if_pos hk, if_pos rfl]
    · exact bindL_mem r _ hn.2 hm hk
theorem bindC_not {kindOf : Str → Option NameKind} : ∀ (b : List (Str × Value)) (m : Str → Option Value) {x : Str}, x ∉ b.map (·.1) → bindC kindOf b m x = m x
  | [], _, _, _ => rfl
  | (n, v) :: r, m, x, h => by
    unfold bindC
    rw [bindC_not r _ (fun hm => h (List.mem_cons_of_mem _ hm))]
    have hn : x ≠ n := fun e => h (by simp [e])
    split
    · rfl
    · exact if_neg hn
theorem bindC_mem {kindOf : Str → Option NameKind} : ∀ (b : List (Str × Value)) (m : Str → Option Value) {x : Str} {v : Value}, (b.map (·.1)).Nodup → (x, v) ∈ b → kindOf x = some .cell → bindC kindOf b m x = some v
  | (n, w) :: r, m, x, v, hn, hm, hk => by
    rw [List.map_cons, List.nodup_cons] at hn
    unfold bindC
    rcases List.mem_cons.mp hm with e | hm
    · cases e
      rw [bindC_not r _ hn.1, if_neg (by rw [hk]; decide), if_pos rfl]
    · exact bindC_mem r _ hn.2 hm hk

theorem cells_look : ∀ (names : List (Str × NameKind)) (h : Heap) (acc : List (Str × Addr)) {x : Str} {c : Addr}, (cellsFrom h.objs.size names acc).lookup x = some c →
    (h.objs.size ≤ c ∧ (pushCells h names).IsCell c none ∧ (x, NameKind.cell) ∈ names) ∨ (acc.lookup x = some c ∧ (x, NameKind.cell) ∉ names)
  | [], _, _, _, _, e => .inr ⟨e, by simp⟩
  | (n, kd) :: r, h, acc, x, c, e => by
    unfold cellsFrom at e
    unfold pushCells
    split at e
    · rename_i hk
      rw [if_pos hk]
      have hk' : kd = .cell := by simpa using hk
      subst hk'
      have e' : (cellsFrom (h.push { cls := .type "cell", data := .cell none }).objs.size r ((n, h.objs.size) :: acc)).lookup x = some c := by rw [Heap.size_push]; exact e
      rcases cells_look r _ _ e' with ⟨h1, h2, h3⟩ | ⟨h1, h2⟩
      · exact .inl ⟨by rw [Heap.size_push] at h1; exact Nat.le_of_succ_le h1, h2, List.mem_cons_of_mem _ h3⟩
      · rw [List.lookup_cons] at h1
        cases hb : x == n with
        | true =>
          rw [hb] at h1; cases h1
          have hxn := beq_iff_eq.mp hb
          subst hxn
          refine .inl ⟨Nat.le_refl _, ?_, List.mem_cons_self⟩
          exact ⟨_, pushCells_keeps r _ _ _ (Heap.get?_push_size _ rfl), rfl⟩
        | false =>
          rw [hb] at h1
          refine .inr ⟨h1, fun hm => ?_⟩
          rcases List.mem_cons.mp hm with e2 | hm
          · cases e2; simp at hb
          · exact h2 hm
    · rename_i hk
      rw [if_neg hk]
      rcases cells_look r _ _ e with ⟨h1, h2, h3⟩ | ⟨h1, h2⟩
      · exact .inl ⟨h1, h2, List.mem_cons_of_mem _ h3⟩
      · refine .inr ⟨h1, fun hm => ?_⟩
        rcases List.mem_cons.mp hm with e2 | hm
        · cases e2; simp at hk
        · exact h2 hm
theorem cells_some : ∀ (names : List (Str × NameKind)) (n : Nat) (acc : List (Str × Addr)) {x : Str}, ((x, NameKind.cell) ∈ names ∨ ∃ c, acc.lookup x = some c) → ∃ c, (cellsFrom n names acc).lookup x = some c
  | [], _, _, _, h => by
    rcases h with h | h
    · cases h
    · exact h
  | (m, kd) :: r, n, acc, x, h => by
    unfold cellsFrom
    have key : (∃ c, acc.lookup x = some c) → ∃ c, ((m, n) :: acc).lookup x = some c := fun ⟨c, hc⟩ => by
      rw [List.lookup_cons]
      cases x == m with
      | true => exact ⟨_, rfl⟩
      | false => exact ⟨_, hc⟩
    split
    · refine cells_some r _ _ ?_
      rcases h with h | h
      · rcases List.mem_cons.mp h with e | h
        · cases e; exact .inr ⟨n, by simp [List.lookup_cons]⟩
        · exact .inl h
      · exact .inr (key h)
    · rename_i hk
      refine cells_some r _ _ ?_
      rcases h with h | h
      · rcases List.mem_cons.mp h with e | h
        · cases e; simp at hk
        · exact .inl h
      · exact .inr h
theorem cells_inj : ∀ (names : List (Str × NameKind)) (n : Nat) (acc : List (Str × Addr)), (∀ x y c, acc.lookup x = some c → acc.lookup y = some c → x = y) → (∀ x c, acc.lookup x = some c → c < n) →
    ∀ x y c, (cellsFrom n names acc).lookup x = some c → (cellsFrom n names acc).lookup y = some c → x = y
  | [], _, _, hi, _, x, y, c, h1, h2 => hi x y c h1 h2
  | (m, kd) :: r, n, acc, hi, hlt, x, y, c, h1, h2 => by
    unfold cellsFrom at h1 h2
    split at h1
    · rename_i hk
      rw [if_pos hk] at h2
      refine cells_inj r (n + 1) _ ?_ ?_ x y c h1 h2
      · intro x y c h1 h2
        rw [List.lookup_cons] at h1 h2
        cases hb : x == m with
        | true =>
          rw [hb] at h1; cases h1
          cases hb2 : y == m with
          | true => rw [beq_iff_eq.mp hb, beq_iff_eq.mp hb2]
          | false => rw [hb2] at h2; exact absurd (hlt y n h2) (Nat.lt_irrefl _)
        | false =>
          rw [hb] at h1
          cases hb2 : y == m with
          | true => rw [hb2] at h2; cases h2; exact absurd (hlt x n h1) (Nat.lt_irrefl _)
          | false => rw [hb2] at h2; exact hi x y c h1 h2
      · intro x c h1
        rw [List.lookup_cons] at h1
        cases hb : x == m with
        | true => rw [hb] at h1; cases h1; exact Nat.lt_succ_self _
        | false => rw [hb] at h1; exact Nat.lt_succ_of_lt (hlt x c h1)
    · rename_i hk
      rw [if_neg hk] at h2
      exact cells_inj r n acc hi hlt x y c h1 h2

theorem lookup_mem_kind : ∀ {l : List (Str × NameKind)} {x : Str} {kd : NameKind}, l.lookup x = some kd → (x, kd) ∈ l := fun h => mem_of_lookup h

noncomputable def fnSc (scope : Scope) : Sc := ⟨scope.names, fun _ => true⟩

theorem zip_mem_get {α β : Type} : ∀ {l : List α} {r : List β} {a : α} {b : β}, (a, b) ∈ l.zip r → ∃ i : Nat, l[i]? = some a ∧ r[i]? = some b
  | _ :: _, _ :: _, _, _, h => by
    rcases List.mem_cons.mp h with e | h
    · cases e; exact ⟨0, rfl, rfl⟩
    · obtain ⟨i, h1, h2⟩ := zip_mem_get h
      exact ⟨i + 1, h1, h2⟩
theorem ArgsR.at {h : FH} : ∀ {vs : List Value} {es : List Ent}, ArgsR W F h vs es → ∀ {i : Nat} {e : Ent}, es[i]? = some e → ∃ v, vs[i]? = some v ∧ ArgR W F h v e
  | _, _, .nil, _, _, h => by cases h
  | _, _, .cons a r, 0, _, h => by cases h; exact ⟨_, rfl, a⟩
  | _, _, .cons a r, i + 1, _, h => r.at (i := i) h
theorem get_zip_mem {α β : Type} : ∀ {l : List α} {r : List β} {i : Nat} {a : α} {b : β}, l[i]? = some a → r[i]? = some b → (a, b) ∈ l.zip r
  | _ :: _, _ :: _, 0, _, _, h1, h2 => by cases h1; cases h2; exact List.mem_cons_self
  | _ :: _, _ :: _, i + 1, _, _, h1, h2 => List.mem_cons_of_mem _ (get_zip_mem (i := i) h1 h2)

theorem calls_of {name : Str} {params : Arguments} {body : List Stmt} {scope : Scope} {ps : List Str} {es : List Ent} {d : D} (O : W.Ok) (fn : FnAt W name params body scope)
    (hb : ∀ pm code doc vs, vs.length = es.length → bindArgs (docDef name params body scope pm code doc) ⟨vs, []⟩ = pure (ps.zip vs))
    (hps : ps.Nodup) (hlen : ps.length = es.length) (hpk : ∀ x ∈ ps, scope.names.lookup x = some .local ∨ scope.names.lookup x = some .cell)
    (hx : Execs W (fnSc scope) k body (ps.zip es) (.ret d))
    (hco : scope.isCoroutine = false := by rfl) (hgen : scope.isGenerator = false := by rfl) (hk : scope.kind = .function := by rfl) : Calls W (k + 1) name es d := by
  refine ⟨?_⟩; intro A F s a vs Q E R ha B ra q
  obtain ⟨a', o, pm, code, doc, hx', ho, hdat, hcode⟩ := fn
  rw [ha] at hx'; cases hx'
  have hvl := ra.length
  have hbind := hb pm code doc vs hvl
  have hmemk : ∀ x ∈ ps.zip vs, x.1 ∈ ps := fun x hx => List.of_mem_zip (a := x.1) (b := x.2) hx |>.1
  refine wpAny_call (codeAny_call_cells (by have := R.dep; unfold recursionLimit; omega) (B.base _ _ ho) hdat (O.lim.keeps B.base) (hcode.keeps B.base) rfl hbind rfl ?_ (fun s1 x => ?_) hco hgen hk)
  · intro x hx
    rcases hpk x.1 (hmemk x hx) with h | h
    · exact .inl h
    · refine .inr ⟨h, ?_⟩
      obtain ⟨c, hc⟩ := cells_some scope.names (s.heap.objs.size + 1) [] (.inl (lookup_mem_kind h))
      show ((cellsFrom (s.heap.objs.size + 1) scope.names []).lookup x.1).isSome = true
      rw [hc]; rfl
  · generalize henv : callEnvC (docDef name params body scope pm code doc) s.heap.objs.size a = env at x
    have e1 : env.scope = scope := by rw [← henv]; rfl
    have e2 : env.locals = s.heap.objs.size := by rw [← henv]; rfl
    have e3 : env.globals = mainGlobals := by rw [← henv]; rfl
    have e4 : env.builtins = builtinsNs := by rw [← henv]; rfl
    have e5 : env.cells = cellsFrom (s.heap.objs.size + 1) scope.names [] := by rw [← henv]; rfl
    have hext : Sub s.heap.get? s1.heap.get? := x.toInCall.keep
    have newK : ∀ c, s.heap.objs.size ≤ c → s.heap.get? c = none := fun c hc => by
      cases e : s.heap.get? c with
      | none => rfl
      | some o => exact absurd (Heap.lt_size e) (Nat.not_lt.mpr hc)
    have newF : ∀ c, s.heap.objs.size ≤ c → F c = none := fun c hc => by
      cases e : F c with
      | none => rfl
      | some o => exact absurd (Heap.lt_size (B.froz _ _ e)) (Nat.not_lt.mpr hc)
    have cellge : ∀ x c, env.cells.lookup x = some c → s.heap.objs.size ≤ c := fun y c hc => by
      have := x.above y c (mem_of_lookup hc)
      rw [e2] at this
      exact Nat.le_of_lt this
    have S : St W (fnSc scope) env s.heap.get? F (ps.zip es) s1 := by
      refine ⟨by rw [e1]; exact hk, by rw [e1]; rfl, e3, e4, fun y z c h1 h2 => name_of_addr x.apart (mem_of_lookup h1) (mem_of_lookup h2), fun y c _ hc => newK c (cellge y c hc), fun y hy => ?_, ?_, B.base, hext, B.froz.trans hext, ⟨newF _ (by rw [e2]; exact Nat.le_refl _), newK _ (by rw [e2]; exact Nat.le_refl _)⟩, fun y c hc => ⟨newF c (cellge y c hc), _, x.cell y c hc⟩, ?_⟩
      · rw [e5]
        refine cells_some _ _ _ (.inl (lookup_mem_kind ?_))
        have hy' : env.scope.names.lookup y = some .cell := hy
        rw [e1] at hy'; exact hy'
      · obtain ⟨h, tk, e⟩ := x.toInCall.same
        obtain ⟨h', tk', e'⟩ := B.same
        exact ⟨h, tk, by rw [e, e']⟩
      · refine ⟨_, fun y => ((ps.zip vs).lookup y).getD .none, fun _ => [], x.toInCall.ns, fun y e hy => ?_, fun _ _ _ h => (nomatch h), fun _ _ h => (nomatch h)⟩
        obtain ⟨i, hi1, hi2⟩ := zip_mem_get (mem_of_lookup hy)
        obtain ⟨v, hv, rv⟩ := ra.at hi2
        have hm : (y, v) ∈ ps.zip vs := get_zip_mem hi1 hv
        have hnd : ((ps.zip vs).map (·.1)).Nodup := by
          rw [List.map_fst_zip (by rw [hlen, hvl]; exact Nat.le_refl _)]; exact hps
        have hlook : (ps.zip vs).lookup y = some v := by
          obtain ⟨j, hj⟩ : ∃ v', (ps.zip vs).lookup y = some v' := by
            cases e : (ps.zip vs).lookup y with
            | some v' => exact ⟨v', rfl⟩
            | none =>
              have := List.lookup_eq_none_iff.mp e (y, v) hm
              simp at this
          have hm2 := mem_of_lookup hj
          rw [hj]
          have : ∀ {l : List (Str × Value)} {y : Str} {v v' : Value}, (l.map (·.1)).Nodup → (y, v) ∈ l → (y, v') ∈ l → v = v' := by
            intro l
            induction l with
            | nil => intro y v v' _ h; cases h
            | cons p l ih =>
              intro y v v' hn h1 h2
              rw [List.map_cons, List.nodup_cons] at hn
              rcases List.mem_cons.mp h1 with h1 | h1 <;> rcases List.mem_cons.mp h2 with h2 | h2
              · rw [← h1] at h2; cases h2; rfl
              · exact absurd (List.mem_map.mpr ⟨_, h2, by rw [← h1]⟩) hn.1
              · exact absurd (List.mem_map.mpr ⟨_, h1, by rw [← h2]⟩) hn.1
              · exact ih hn.2 h1 h2
          rw [this hnd hm2 hm]
        dsimp only
        rw [hlook]
        have hkd : ∀ z, env.kindOf z = scope.names.lookup z := fun z => by rw [← e1]; rfl
        refine ⟨?_, ?_⟩
        · rcases hpk y (List.mem_of_getElem? hi1) with h | h
          · exact .inl ⟨(hkd y).trans h, bindL_mem _ _ hnd hm ((hkd y).trans h)⟩
          · obtain ⟨c, hc⟩ := cells_some scope.names (s.heap.objs.size + 1) [] (.inl (lookup_mem_kind h))
            rw [← e5] at hc
            refine .inr ⟨(hkd y).trans h, c, hc, ?_⟩
            have := x.cell y c hc
            rw [bindC_mem _ _ hnd hm ((hkd y).trans h)] at this
            exact this
        · cases rv with
          | v r => exact .v r
          | bor q r => exact .bor q r
    have R' : Room k (A.deeper env) := ⟨R.hh, by have := R.dep; show A.depth + 1 + k < 900; omega, by have := R.uni; show A.units + 3 + 10 * k < 9000; omega⟩
    refine hx.out env (A.deeper env) s.heap.get? F s1 _ _ R' S fun F2 s2 f g ⟨v, hf, rv, bare⟩ => ?_
    subst hf
    refine q F2 s2 v ⟨?_, bare.keep, g.sub, g.new, bare.froz⟩ rv
    obtain ⟨h, tk, e⟩ := bare.same
    obtain ⟨h', tk', e'⟩ := B.same
    exact ⟨h, tk, by rw [e, e']⟩
end
end Mine

-- F16
namespace Mine

section
variable {W : Wd} {sc : Sc} {env : Env} {K K2 F F' : FH} {ρ ρ' : Vars} {s s' s1 : Shared} {k : Nat} {A : Around}

/-! ## lists lent to an inner frame -/
noncomputable def lendE : Ent → Ent
  | .own ds => .bor ds
  | e => e
noncomputable def lend (ρ : Vars) : Vars := ρ.map fun p => (p.1, lendE p.2)
noncomputable def isOwn2 : Ent → Bool
  | .own2 _ _ => true
  | _ => false
noncomputable def noOwn2 (ρ : Vars) : Bool := ρ.all fun p => !isOwn2 p.2
theorem lend_lookup : ∀ {ρ : Vars} {x : Str} {e : Ent}, (lend ρ).lookup x = some e → ∃ e0, ρ.lookup x = some e0 ∧ e = lendE e0
  | (y, e0) :: r, x, e, h => by
    have h' : ((y, lendE e0) :: lend r).lookup x = some e := h
    rw [List.lookup_cons] at h' ⊢
    cases hb : x == y with
    | true => rw [hb] at h'; cases h'; exact ⟨e0, rfl, rfl⟩
    | false => rw [hb] at h'; exact lend_lookup h'
theorem lend_of : ∀ {ρ : Vars} {x : Str} {e : Ent}, ρ.lookup x = some e → (lend ρ).lookup x = some (lendE e)
  | (y, e0) :: r, x, e, h => by
    show ((y, lendE e0) :: lend r).lookup x = _
    rw [List.lookup_cons] at h ⊢
    cases hb : x == y with
    | true => rw [hb] at h; cases h; rfl
    | false => rw [hb] at h; exact lend_of h

noncomputable def isListObj (o : Obj) : Bool := match o.cls, o.data with
  | .type T, .seq _ _ => T == "list"
  | _, _ => false
noncomputable def withLists (K h : FH) : FH := fun a => match K a with
  | some o => some o
  | none => match h a with
    | some o => if isListObj o then some o else none
    | none => none
theorem withLists_sub {h : FH} : Sub K (withLists K h) := fun a o e => by unfold withLists; rw [e]
theorem withLists_inv {h : FH} {a : Addr} {o : Obj} (e : withLists K h a = some o) : K a = some o ∨ (h a = some o ∧ isListObj o = true) := by
  unfold withLists at e
  cases hk : K a with
  | some o' => rw [hk] at e; exact .inl e
  | none =>
    rw [hk] at e
    dsimp only at e
    cases hh : h a with
    | none => rw [hh] at e; cases e
    | some o' =>
      rw [hh] at e
      dsimp only at e
      by_cases hl : isListObj o' = true
      · rw [if_pos hl] at e; cases e; exact .inr ⟨rfl, hl⟩
      · rw [if_neg hl] at e; cases e
theorem withLists_own {h : FH} (hs : Sub K h) {a : Addr} {vs : List Value} (q : OwnAt h a vs) : SeqAt (withLists K h) "list" a vs := by
  obtain ⟨n, e⟩ := q
  refine ⟨{ cls := .type "list", data := .seq vs.toArray n }, n, ?_, rfl, rfl, rfl⟩
  unfold withLists
  cases hk : K a with
  | some o' => have := hs _ _ hk; rw [e] at this; cases this; rfl
  | none => dsimp only; rw [e]; rfl
theorem St.lent (S : St W sc env K F ρ s) (hn : noOwn2 ρ = true) : St W sc env (withLists K s.heap.get?) F (lend ρ) s := by
  have hsub : Sub (withLists K s.heap.get?) s.heap.get? := fun a o e => (withLists_inv e).elim (S.keep a o) (·.1)
  have off : ∀ a, K a = none → (∀ o, s.heap.get? a = some o → isListObj o = false) → withLists K s.heap.get? a = none := fun a h1 h2 => by
    cases e : withLists K s.heap.get? a with
    | none => rfl
    | some o =>
      rcases withLists_inv e with h | ⟨h, hl⟩
      · rw [h1] at h; cases h
      · rw [h2 o h] at hl; cases hl
  have nl : ∀ o : Obj, (∀ xs n, o.data ≠ .seq xs n) → isListObj o = false := fun o h => by
    unfold isListObj
    split
    · rename_i e; exact absurd e (h _ _)
    · rfl
  obtain ⟨m, val, fp, n, v, p⟩ := S.vars
  obtain ⟨oL, es, ep, hoL, hdL⟩ := ns_some n
  refine ⟨S.kind, S.names, S.glob, S.blt, S.inj, fun x c h hc => off c (S.wr x c h hc) fun o ho => nl o fun xs n e => ?_, S.has, S.same, S.base.trans withLists_sub, hsub, S.froz, ⟨S.offL.1, off _ S.offL.2 fun o ho => nl o fun xs n e => ?_⟩, S.offC, m, val, fun _ => [], n, fun x e hx => ?_, fun _ _ _ h => (nomatch h), fun _ _ h => (nomatch h)⟩
  · obtain ⟨_, v0, o0, h2, h3⟩ := S.offC x c hc
    rw [h2] at ho; cases ho; rw [h3] at e; cases e
  · rw [hoL] at ho; cases ho; rw [hdL] at e; cases e
  · obtain ⟨e0, h0, rfl⟩ := lend_lookup hx
    have hno : isOwn2 e0 = false := by
      have := List.all_eq_true.mp hn _ (mem_of_lookup h0)
      simpa using this
    obtain ⟨at_, er⟩ := v x e0 h0
    refine ⟨at_, ?_⟩
    generalize fp x = fx at er
    generalize val x = vx at er
    cases er with
    | v r => exact .v r
    | own f k q r => exact .bor (withLists_own S.keep q) r
    | bor q r => exact .bor (q.mono withLists_sub) r
    | own2 => cases hno

/-! ## the frame of a comprehension -/
noncomputable def isCellIn (names : List (Str × NameKind)) (x : Str) : Bool := names.any fun p => p.1 == x && p.2 == .cell
theorem isCellIn_mem {names : List (Str × NameKind)} {x : Str} (h : isCellIn names x = true) : (x, NameKind.cell) ∈ names := by
  obtain ⟨⟨n, kd⟩, hm, he⟩ := List.any_eq_true.mp h
  simp only [Bool.and_eq_true, beq_iff_eq] at he
  obtain ⟨rfl, rfl⟩ := he
  exact hm
noncomputable def compNames (names : List (Str × NameKind)) (sc : Sc) : List (Str × NameKind) := names.map fun p => (p.1, if (p.2 == .free && sc.names.lookup p.1 == some .cell) then .cell else p.2)
noncomputable def compSc (scope : Scope) (sc : Sc) : Sc := ⟨compNames scope.names sc, isCellIn scope.names⟩
theorem compNames_lookup {sc : Sc} : ∀ {names : List (Str × NameKind)} {x : Str}, (compNames names sc).lookup x = (names.lookup x).map fun kd => if (kd == .free && sc.names.lookup x == some .cell) then .cell else kd
  | [], x => rfl
  | (n, kd) :: r, x => by
    show List.lookup x ((n, _) :: compNames r sc) = _
    rw [List.lookup_cons, List.lookup_cons]
    cases hb : x == n with
    | true => rw [beq_iff_eq.mp hb]; rfl
    | false => exact compNames_lookup
theorem relabel_names {scope : Scope} (hk : env.scope.kind = .function) (hn : env.scope.names = sc.names) : (relabel scope env).names = compNames scope.names sc := by
  unfold relabel compNames
  apply List.map_congr_left
  rintro ⟨n, kd⟩ _
  show (if (kd == NameKind.free && env.scope.kind == .function && env.scope.names.lookup n == some .cell) = true then (n, NameKind.cell) else (n, kd)) = _
  rw [hk, hn]
  simp only [beq_self_eq_true, Bool.and_true]
  split <;> rfl

noncomputable def compVars (scope : Scope) (sc : Sc) (ρ : Vars) : Vars := scope.names.filterMap fun p =>
  if (p.2 == .free && sc.names.lookup p.1 == some .cell && scope.names.lookup p.1 == some .free) = true then
    match ρ.lookup p.1 with
    | some (.v d) => some (p.1, .v d)
    | some (.bor ds) => some (p.1, .bor ds)
    | some (.own ds) => some (p.1, .bor ds)
    | _ => none
  else none
theorem compVars_inv {scope : Scope} {x : Str} {e : Ent} (h : (compVars scope sc ρ).lookup x = some e) : sc.names.lookup x = some .cell ∧ scope.names.lookup x = some .free ∧ ∃ e0, ρ.lookup x = some e0 ∧ e = lendE e0 ∧ isOwn2 e0 = false := by
  obtain ⟨⟨y, kd⟩, hm, he⟩ := List.mem_filterMap.mp (mem_of_lookup h)
  dsimp only at he
  split at he
  · rename_i hc
    simp only [Bool.and_eq_true, beq_iff_eq] at hc
    obtain ⟨⟨_, h1⟩, h2⟩ := hc
    split at he
    · rename_i d hl; cases he; exact ⟨h1, h2, _, hl, rfl, rfl⟩
    · rename_i d hl; cases he; exact ⟨h1, h2, _, hl, rfl, rfl⟩
    · rename_i d hl; cases he; exact ⟨h1, h2, _, hl, rfl, rfl⟩
    · cases he
  · cases he

theorem newEnv_comp {M : Model} {E : Value → Shared → Prop} {scope : Scope} {globals : Addr} {cl : List (Str × Addr)} {qual : Str} {Q : Env → Shared → Prop}
    (h : Q (newEnv scope s.heap.objs.size globals (cellsFrom (s.heap.objs.size + 1) scope.names cl) qual none .none (some env) builtinsNs) { s with heap := pushCells (s.heap.push { cls := .type "dict", data := .dict #[] }) scope.names }) :
    wpAny M A (newFunctionEnv scope globals cl [] qual none .none (some env)) Q E s := by
  simp only [newFunctionEnv, Option.isSome_some, if_true]
  refine wpAny_bind (wpAny_alloc ?_)
  refine wpAny_bind (wpAny_layCells _ (fun name kind cells => by cases hkc : kind == NameKind.cell <;> simp [hkc]) _ _ _ _ ?_)
  rw [show ({ s with heap := s.heap.push { cls := .type "dict", data := .dict #[] } } : Shared).heap.objs.size = s.heap.objs.size + 1 from Heap.size_push ..]
  exact wpAny_bind (wpAny_pure (wpAny_pure h))

theorem closure_of (f : Str × NameKind → List (Str × Addr) → Sem (ForInStep (List (Str × Addr)))) (hf : ∀ name kind cs, f (name, kind) cs = if (kind == NameKind.free) = true then (do let c ← cellOf env name; pure (.yield ((name, c) :: cs))) else pure (.yield cs)) :
    ∀ (names : List (Str × NameKind)) (acc : List (Str × Addr)), (∀ x, (x, NameKind.free) ∈ names → ∃ c, env.cells.lookup x = some c) → (∀ x c, acc.lookup x = some c → env.cells.lookup x = some c) →
    ∃ cl, (forIn (m := Sem) names acc f) = pure cl ∧ (∀ x c, cl.lookup x = some c → env.cells.lookup x = some c) ∧ (∀ x, ((x, NameKind.free) ∈ names ∨ ∃ c, acc.lookup x = some c) → ∃ c, cl.lookup x = some c) := by
  intro names
  induction names with
  | nil => intro acc h ha; exact ⟨acc, rfl, ha, fun x h => h.elim (fun h => (nomatch h)) id⟩
  | cons p r ih =>
    intro acc h ha
    obtain ⟨n, kd⟩ := p
    rw [List.forIn_cons, hf]
    by_cases hk : (kd == NameKind.free) = true
    · have hk' : kd = .free := by simpa using hk
      subst hk'
      obtain ⟨c, hc⟩ := h n List.mem_cons_self
      obtain ⟨cl, e, h1, h2⟩ := ih ((n, c) :: acc) (fun x hx => h x (List.mem_cons_of_mem _ hx)) fun x c' hx => by
        rw [List.lookup_cons] at hx
        cases hb : x == n with
        | true => rw [hb] at hx; cases hx; rw [beq_iff_eq.mp hb]; exact hc
        | false => rw [hb] at hx; exact ha x c' hx
      refine ⟨cl, ?_, h1, fun x hx => h2 x ?_⟩
      · have e0 : cellOf env n = pure c := by unfold cellOf; rw [hc]
        rw [if_pos hk, e0]
        exact e
      · rcases hx with hx | ⟨c', hx⟩
        · rcases List.mem_cons.mp hx with e | hx
          · cases e; exact .inr ⟨c, by simp⟩
          · exact .inl hx
        · right
          rw [List.lookup_cons]
          cases x == n with
          | true => exact ⟨_, rfl⟩
          | false => exact ⟨_, hx⟩
    · obtain ⟨cl, e, h1, h2⟩ := ih acc (fun x hx => h x (List.mem_cons_of_mem _ hx)) ha
      refine ⟨cl, ?_, h1, fun x hx => h2 x ?_⟩
      · rw [if_neg hk]
        exact e
      · rcases hx with hx | hx
        · rcases List.mem_cons.mp hx with e | hx
          · cases e; simp at hk
          · exact .inl hx
        · exact .inr hx
theorem closureFor_of {scope : Scope} (h : ∀ x, (x, NameKind.free) ∈ scope.names → ∃ c, env.cells.lookup x = some c) :
    ∃ cl, closureFor scope env = pure cl ∧ (∀ x c, cl.lookup x = some c → env.cells.lookup x = some c) ∧ (∀ x, (x, NameKind.free) ∈ scope.names → ∃ c, cl.lookup x = some c) := by
  obtain ⟨cl, e, h1, h2⟩ := closure_of (env := env) (fun p cs => if (p.2 == NameKind.free) = true then (do let c ← cellOf env p.1; pure (.yield ((p.1, c) :: cs))) else pure (.yield cs)) (fun _ _ _ => rfl) scope.names [] h (fun x c hx => by cases hx)
  refine ⟨cl, ?_, h1, fun x hx => h2 x (.inl hx)⟩
  unfold closureFor
  refine Eq.trans ?_ (congrArg (fun t : Sem (List (Str × Addr)) => t >>= pure) e)
  refine congrArg (fun f => forIn (m := Sem) scope.names ([] : List (Str × Addr)) f >>= pure) ?_
  funext p cs
  obtain ⟨name, kind⟩ := p
  cases hkc : kind == NameKind.free <;> simp [hkc]

/-- the same frame, other variables told of -/
theorem St.revars (S : St W sc env K F ρ s) (hρ : ∀ x e, ρ'.lookup x = some e → ∃ v, (∃ c, env.kindOf x = some .cell ∧ env.cells.lookup x = some c ∧ s.heap.IsCell c (some v)) ∧ ERep W K F s.heap.get? e v []) : St W sc env K F ρ' s where
  kind := S.kind
  names := S.names
  glob := S.glob
  blt := S.blt
  inj := S.inj
  wr := S.wr
  has := S.has
  same := S.same
  base := S.base
  keep := S.keep
  froz := S.froz
  offL := S.offL
  offC := S.offC
  vars := by
    have H : ∀ x, ∃ v, ∀ e, ρ'.lookup x = some e → (∃ c, env.kindOf x = some .cell ∧ env.cells.lookup x = some c ∧ s.heap.IsCell c (some v)) ∧ ERep W K F s.heap.get? e v [] := fun x => by
      cases hl : ρ'.lookup x with
      | none => exact ⟨.none, fun e he => by cases he⟩
      | some e => obtain ⟨v, hv⟩ := hρ x e hl; exact ⟨v, fun e' he => by cases he; exact hv⟩
    obtain ⟨m, val, fp, n, v, p⟩ := S.vars
    refine ⟨m, fun x => Classical.choose (H x), fun _ => [], n, fun x e hx => ?_, fun _ _ _ h => (nomatch h), fun _ _ h => (nomatch h)⟩
    obtain ⟨⟨c, h1, h2, h3⟩, h4⟩ := Classical.choose_spec (H x) e hx
    exact ⟨.inr ⟨h1, c, h2, h3⟩, h4⟩
end
end Mine

-- F17
namespace Mine

noncomputable def testsTree (ifs : List Expr) (env : Env) : Sem Bool := forIn ifs true fun c r => if r = true then do let ok ← isTrue c env (eval c env); pure (ForInStep.yield ok) else pure (ForInStep.yield r)

theorem comp_loop {prog : Program} {w : World} {A : Around} {R : Result → Shared → Prop} {elt target iter : Expr} {ifs : List Expr} {scope : Scope} {pos : Pos} {it acc : Value} {env : Env} (I : Nat → Shared → Prop)
    (turn : ∀ n s, I n s → ∀ E', (∀ e s', notedBy (model prog w) A env (fun e s' => R (.error e) s') e s' = E' e s') → wpAny (model prog w) A (pyNext it) (fun r s₁ => match r with
      | none => R (.ok .next) s₁
      | some v => wpAny (model prog w) A (letOwnedTupleGo target it v) (fun _ s₁' => wpAny (model prog w) A (assign target env v) (fun _ s₂ =>
          wpAny (model prog w) A (testsTree ifs env) (fun ok s₃ => if ok = true then wpAny (model prog w) A (eval elt env) (fun x s₄ =>
              wpAny (model prog w) A (call (.builtin "list.append") [acc, x]) (fun _ s₅ => ∃ m, m < n ∧ I m s₅) E' s₄) E' s₃ else ∃ m, m < n ∧ I m s₃) E' s₂) E' s₁') E' s₁) E' s)
    (n : Nat) (s : Shared) (h : I n s) : codeAny (model prog w) A (.compLoop (.ListComp elt [⟨target, iter, ifs, 0⟩] scope pos) 0 it acc env) R s := by
  refine codeAny_loop rfl I (fun n s hI => ?_) n h
  show wpAny _ A ((compTurn (.ListComp elt [⟨target, iter, ifs, 0⟩] scope pos) 0 it acc env).onRaise (fun x => do noteFrame x env; theTreesLotGoes x)) _ _ s
  refine wpAny_noted ?_
  rw [compTurn_list]
  refine wpAny_bind (wpAny_standAt (wpAny_bind (wpAny_mono (turn n s hI _ fun _ _ => rfl) (fun r s₁ h₁ => ?_) fun _ _ h' => h')))
  cases r with
  | none => exact wpAny_pure h₁
  | some v =>
    refine wpAny_bind (wpAny_mono h₁ (fun _ s₁' h₁' => ?_) fun _ _ h' => h')
    refine wpAny_bind (wpAny_mono h₁' (fun _ s₂ h₂ => wpAny_bind (wpAny_mono h₂ (fun ok s₃ h₃ => ?_) fun _ _ h' => h')) fun _ _ h' => h')
    cases ok with
    | false => exact wpAny_pure ⟨rfl, h₃⟩
    | true =>
      exact wpAny_bind (wpAny_bind (wpAny_mono h₃ (fun x s₄ h₄ => wpAny_bind (wpAny_mono h₄ (fun _ s₅ h₅ => wpAny_pure (wpAny_pure ⟨rfl, h₅⟩)) fun _ _ h' => h')) fun _ _ h' => h'))

section
variable {W : Wd} {sc : Sc} {env : Env} {K K2 F F' : FH} {ρ ρ' : Vars} {s s' s1 : Shared} {k : Nat} {A : Around}

noncomputable def TestAll (W : Wd) (sc : Sc) (k : Nat) (ρ : Vars) : List Expr → Bool → Prop
  | [], b => b = true
  | [c], b => Tests W sc k c ρ b
  | _, _ => False
theorem tests_run {ifs : List Expr} {b : Bool} {Q : Bool → Shared → Prop} {E : Value → Shared → Prop} (h : TestAll W sc k ρ ifs b) (R : Room k A) (S : St W sc env K F ρ s) (q : ∀ F' s', Adv s F s' F' → Q b s') : wpAny (model W.prog W.w) A (testsTree ifs env) Q E s := by
  match ifs, h with
  | [], h =>
    have hb : b = true := h
    subst hb
    exact wpAny_tests_nil (q _ _ S.room0)
  | [c], h => exact wpAny_tests_one (h.out env A K F s Q E R S q)

inductive CompIs (W : Wd) (sc : Sc) (k : Nat) (target : Expr) (ifs : List Expr) (elt : Expr) (ρ : Vars) : List D → List D → Prop
  | nil : CompIs W sc k target ifs elt ρ [] []
  | yes {d e : D} {ds es : List D} {ρ1 : Vars} : bindT target d ρ = some ρ1 → TestAll W sc k ρ1 ifs true → Evals W sc k elt ρ1 e → CompIs W sc k target ifs elt ρ ds es → CompIs W sc k target ifs elt ρ (d :: ds) (e :: es)
  | no {d : D} {ds es : List D} {ρ1 : Vars} : bindT target d ρ = some ρ1 → TestAll W sc k ρ1 ifs false → CompIs W sc k target ifs elt ρ ds es → CompIs W sc k target ifs elt ρ (d :: ds) es
theorem CompIs.length {target elt : Expr} {ifs : List Expr} {ds es : List D} (h : CompIs W sc k target ifs elt ρ ds es) : es.length ≤ ds.length := by
  induction h with
  | nil => exact Nat.le_refl _
  | yes _ _ _ _ ih => exact Nat.succ_le_succ ih
  | no _ _ _ ih => exact Nat.le_succ_of_le ih

theorem Adv.patch {h' : Heap} (a : Adv s F s1 F') (tk : Nat) (h1 : Sub s.heap.get? h'.get?) (h2 : Sub F' h'.get?) : Adv s F { s1 with heap := h', toks := tk } F' :=
  ⟨let ⟨h, t, e⟩ := a.same; ⟨h', tk, by rw [e]⟩, h1, a.sub, a.new, h2⟩

theorem comp_core {elt target iter : Expr} {ifs : List Expr} {scope : Scope} {pos : Pos} {nm : Bool} {ds es : List D} {cl : List (Str × Addr)} {RR : Value → Addr → Result → Shared → Prop} {E : Value → Shared → Prop} (R : Room k A) (S : St W sc env K F ρ s)
    (hi : Iters W sc k target iter ρ nm ds) (hcl1 : ∀ x c, cl.lookup x = some c → env.cells.lookup x = some c) (hcl2 : ∀ x, (x, NameKind.free) ∈ scope.names → ∃ c, cl.lookup x = some c) (hkind : scope.kind = .function) (hbad : ∀ x, (x, NameKind.free) ∈ scope.names → (x, NameKind.cell) ∉ scope.names)
    (hbare : noOwn2 ρ = true) (hbare2 : ∀ x e, ρ.lookup x = some e → lendE e = e)
    (hok : targetOk (compSc scope sc) target = true) (hnm : nameOk target nm = true) (hcomp : CompIs W (compSc scope sc) k target ifs elt (compVars scope sc ρ) ds es) (hl : ds.length ≤ 1000000)
    (hRR : ∀ F5 s5 D C m, Adv s F s5 F5 → Rep W F5 (.ref D) (.lst es) → s5.heap.Ns C m → s.heap.get? C = none → F5 C = none → RR (.ref D) C (.ok .next) s5) :
    wpAny (model W.prog W.w) A (eval iter env) (fun x s1 => wpAny (model W.prog W.w) A (pyIter x) (fun it s2 => wpAny (model W.prog W.w) A (newList []) (fun acc s3 => wpAny (model W.prog W.w) A (newFunctionEnv scope env.globals cl [] env.qual none .none (some env)) (fun cenv s4 =>
      codeAny (model W.prog W.w) A (.compStart (.ListComp elt [⟨target, iter, ifs, 0⟩] scope pos) 0 it acc { cenv with scope := relabel scope env }) (RR acc cenv.locals) s4) E s3) E s2) E s1) E s := by
  refine hi.out env A K F s _ E R S fun F2 s2 I fp nw wr P Md T ad wk hT => ?_
  refine wpAny_newObj_type (newEnv_comp ?_)
  dsimp only
  -- the heap at the loop's start
  have hF2new : ∀ a, s2.heap.objs.size ≤ a → F2 a = none := fun a ha => by
    cases e : F2 a with
    | none => rfl
    | some o => exact absurd (Heap.lt_size (ad.sup _ _ e)) (Nat.not_lt.mpr ha)
  have hs2new : ∀ a, s2.heap.objs.size ≤ a → s2.heap.get? a = none := fun a ha => by
    cases e : s2.heap.get? a with
    | none => rfl
    | some o => exact absurd (Heap.lt_size e) (Nat.not_lt.mpr ha)
  have hs0new : ∀ a, s2.heap.get? a = none → s.heap.get? a = none := fun a ha => by
    cases e : s.heap.get? a with
    | none => rfl
    | some o => rw [ad.ext _ _ e] at ha; cases ha
  generalize hH3 : s2.heap.push { cls := .type "list", data := .seq ([] : List Value).toArray } = H3
  have hsz3 : H3.objs.size = s2.heap.objs.size + 1 := by rw [← hH3, Heap.size_push]
  generalize hH4 : H3.push { cls := .type "dict", data := .dict #[] } = H4
  have hsz4 : H4.objs.size = H3.objs.size + 1 := by rw [← hH4, Heap.size_push]
  have ext4 : Sub s2.heap.get? (pushCells H4 scope.names).get? := fun b o e => pushCells_keeps _ _ b o (by rw [← hH4]; exact Heap.get?_push_of_some _ (by rw [← hH3]; exact Heap.get?_push_of_some _ e))
  have hacc4 : (pushCells H4 scope.names).get? s2.heap.objs.size = some { cls := .type "list", data := .seq ([] : List Value).toArray } := pushCells_keeps _ _ _ _ (by rw [← hH4]; exact Heap.get?_push_of_some _ (by rw [← hH3]; exact Heap.get?_push_size _ rfl))
  have hns4 : (pushCells H4 scope.names).Ns H3.objs.size fun _ => none := by
    have := (Heap.Ns.new H3 (.type "dict")).keeps (pushCells_keeps scope.names (H3.push { cls := .type "dict", data := .dict #[] }))
    rw [hH4] at this
    exact this
  generalize hcells : cellsFrom (H3.objs.size + 1) scope.names cl = cells
  generalize hcenv : ({ newEnv scope H3.objs.size env.globals cells env.qual none .none (some env) builtinsNs with scope := relabel scope env } : Env) = cenv
  have hL : (newEnv scope H3.objs.size env.globals cells env.qual none .none (some env) builtinsNs).locals = H3.objs.size := rfl
  rw [hL]
  have c1 : cenv.scope = relabel scope env := by rw [← hcenv]
  have c2 : cenv.locals = H3.objs.size := by rw [← hcenv]; rfl
  have c3 : cenv.globals = mainGlobals := by rw [← hcenv]; exact S.glob
  have c4 : cenv.builtins = builtinsNs := by rw [← hcenv]; exact S.blt
  have c5 : cenv.cells = cells := by rw [← hcenv]; rfl
  have look : ∀ {x c}, cells.lookup x = some c → (H3.objs.size < c ∧ (pushCells H4 scope.names).IsCell c none ∧ (x, NameKind.cell) ∈ scope.names) ∨ (cl.lookup x = some c ∧ (x, NameKind.cell) ∉ scope.names) := fun {x c} h => by
    rw [← hcells, ← hsz4] at h
    rcases cells_look scope.names H4 cl h with ⟨h1, h2, h3⟩ | h1
    · exact .inl ⟨by rw [hsz4] at h1; exact h1, h2, h3⟩
    · exact .inr h1
  have clcell : ∀ {x c}, cl.lookup x = some c → ∃ v, s.heap.IsCell c v := fun {x c} h => (S.offC x c (hcl1 x c h)).2
  have cllt : ∀ {x c}, cl.lookup x = some c → c < s2.heap.objs.size := fun {x c} h => by
    obtain ⟨v, o, ho, _⟩ := clcell h
    exact Heap.lt_size (ad.ext _ _ ho)
  have hlen3 : s2.heap.objs.size < H3.objs.size := by rw [hsz3]; exact Nat.lt_succ_self _
  have cellNe : ∀ b, b ≤ H3.objs.size → s.heap.get? b = none → ∀ x, cenv.cells.lookup x ≠ some b := fun b hb hn x hx => by
    rw [c5] at hx
    rcases look hx with ⟨h1, _⟩ | ⟨h1, _⟩
    · exact absurd h1 (Nat.not_lt.mpr hb)
    · obtain ⟨v, o, ho, _⟩ := clcell h1
      rw [hn] at ho; cases ho
  have nwlt : ∀ b ∈ nw, b < s2.heap.objs.size := fun b hb => by
    obtain ⟨o, ho, _⟩ := wk.obj 0 _ hT b hb
    exact Heap.lt_size ho
  have knames : cenv.scope.names = (compSc scope sc).names := by rw [c1]; exact relabel_names S.kind S.names
  have hcellkind : ∀ x, scope.names.lookup x = some .free → sc.names.lookup x = some .cell → cenv.kindOf x = some .cell := fun x h1 h2 => by
    show cenv.scope.names.lookup x = _
    rw [knames]
    show (compNames scope.names sc).lookup x = _
    rw [compNames_lookup, h1, h2]; rfl
  have S0 : St W (compSc scope sc) cenv s.heap.get? F2 [] { s2 with heap := pushCells H4 scope.names } := by
    refine ⟨by rw [c1]; exact hkind, knames, c3, c4, ?_, fun x c hw hc => ?_, fun x hx => ?_, ?_, S.top, ad.ext.trans ext4, ad.sup.trans ext4, ⟨by rw [c2]; exact hF2new _ (Nat.le_of_lt hlen3), by rw [c2]; exact hs0new _ (hs2new _ (Nat.le_of_lt hlen3))⟩, fun x c hc => ?_, fun _ => none, fun _ => .none, fun _ => [], by rw [c2]; exact hns4, fun x e hx => (nomatch hx), fun _ _ _ h => (nomatch h), fun _ _ h => (nomatch h)⟩
    · rw [c5, ← hcells]
      exact cells_inj _ _ _ (fun x y c h1 h2 => S.inj x y c (hcl1 _ _ h1) (hcl1 _ _ h2)) fun x c h => Nat.lt_succ_of_lt (Nat.lt_trans (cllt h) hlen3)
    · rw [c5] at hc
      rcases look hc with ⟨h1, _⟩ | ⟨_, h2⟩
      · exact hs0new _ (hs2new _ (Nat.le_of_lt (Nat.lt_trans hlen3 h1)))
      · exact absurd (isCellIn_mem hw) h2
    · have hx' : cenv.scope.names.lookup x = some .cell := hx
      rw [knames] at hx'
      have hx2 : (compNames scope.names sc).lookup x = some .cell := hx'
      rw [compNames_lookup] at hx2
      rw [c5, ← hcells]
      refine cells_some _ _ _ ?_
      cases hk : scope.names.lookup x with
      | none => rw [hk] at hx2; cases hx2
      | some kd =>
        rw [hk] at hx2
        by_cases hf : kd = .free
        · subst hf; exact .inr (hcl2 x (lookup_mem_kind hk))
        · have hf' : (kd == NameKind.free) = false := by simpa using hf
          rw [Option.map_some, hf'] at hx2
          simp at hx2
          subst hx2
          exact .inl (lookup_mem_kind hk)
    · obtain ⟨h, tk, e⟩ := ad.same
      obtain ⟨h', tk', e'⟩ := S.same
      exact ⟨_, tk, by rw [e, e']⟩
    · rw [c5] at hc
      rcases look hc with ⟨h1, h2, _⟩ | ⟨h1, _⟩
      · exact ⟨hF2new _ (Nat.le_of_lt (Nat.lt_trans hlen3 h1)), _, h2⟩
      · obtain ⟨v, o, ho, hd⟩ := clcell h1
        exact ⟨ad.off (S.offC x c (hcl1 x c h1)).1 ho, v, o, ext4 _ _ (ad.ext _ _ ho), hd⟩
  -- the variables that the comprehension sees
  have vars : ∀ {F5 : FH} {s5 : Shared} {ρ1 : Vars}, Sub F F5 → St W (compSc scope sc) cenv s.heap.get? F5 ρ1 s5 → St W (compSc scope sc) cenv s.heap.get? F5 (compVars scope sc ρ) s5 := fun {F5 s5 ρ1} hsub S5 => by
    obtain ⟨m, val, fpo, n, hv, _⟩ := S.vars
    refine S5.revars fun x e hx => ?_
    obtain ⟨h1, h2, e0, h3, rfl, hno⟩ := compVars_inv hx
    obtain ⟨at_, er⟩ := hv x e0 h3
    obtain ⟨c', hc'⟩ := hcl2 x (lookup_mem_kind h2)
    have hcs : ∃ c, cells.lookup x = some c := by rw [← hcells]; exact cells_some _ _ _ (.inr ⟨c', hc'⟩)
    refine ⟨val x, ?_, ?_⟩
    · rcases at_ with ⟨k1, _⟩ | ⟨k1, c, k2, k3⟩
      · have : sc.names.lookup x = some .local := by rw [← S.names]; exact k1
        rw [h1] at this; cases this
      · have hkc := hcellkind x h2 h1
        obtain ⟨c0, hc0⟩ := S5.has x hkc
        refine ⟨c0, hkc, hc0, ?_⟩
        have hc0' := hc0
        rw [c5] at hc0'
        rcases look hc0' with ⟨_, _, h5⟩ | ⟨h5, _⟩
        · exfalso
          exact hbad x (lookup_mem_kind h2) h5
        · have := hcl1 x c0 h5
          rw [k2] at this; cases this
          obtain ⟨o, ho, hd⟩ := k3
          exact ⟨o, S5.keep _ _ ho, hd⟩
    · have hle := hbare2 x e0 h3
      rw [hle]
      generalize fpo x = fx at er
      generalize val x = vx at er
      cases er with
      | v r => exact .v (r.mono hsub)
      | own f k q r => cases hle
      | bor q r => exact .bor (q.mono S.keep) (r.mono hsub)
      | own2 => cases hno
  -- the loop
  have nwC : ∀ b ∈ nw, b ≠ H3.objs.size := fun b hb => Nat.ne_of_lt (Nat.lt_trans (nwlt b hb) hlen3)
  have nwCell : ∀ b ∈ nw, ∀ x, cenv.cells.lookup x ≠ some b := fun b hb => cellNe b (Nat.le_of_lt (Nat.lt_trans (nwlt b hb) hlen3)) (wk.new b hb)
  have DC : s2.heap.objs.size ≠ H3.objs.size := Nat.ne_of_lt hlen3
  have DCell : ∀ x, cenv.cells.lookup x ≠ some s2.heap.objs.size := cellNe _ (Nat.le_of_lt hlen3) (hs0new _ (hs2new _ (Nat.le_refl _)))
  have Dnw : s2.heap.objs.size ∉ nw := fun h => absurd (nwlt _ h) (Nat.lt_irrefl _)
  have D0 : s.heap.get? s2.heap.objs.size = none := hs0new _ (hs2new _ (Nat.le_refl _))
  have C0 : s.heap.get? H3.objs.size = none := hs0new _ (hs2new _ (Nat.le_of_lt hlen3))
  have hT4 : T 0 (pushCells H4 scope.names) := wk.turns.frame _ _ _ hT fun b _ o e => ext4 b o e
  have key : ∀ (s4 : Shared), s4 = { s2 with heap := pushCells H4 scope.names } → codeAny (model W.prog W.w) A (.compLoop (.ListComp elt [⟨target, iter, ifs, 0⟩] scope pos) 0 (.ref I) (.ref s2.heap.objs.size) cenv) (RR (.ref s2.heap.objs.size) H3.objs.size) s4 := by
    intro s4 hs4
    refine comp_loop (fun m s' => ∃ i F1 vs done rest, CompIs W (compSc scope sc) k target ifs elt (compVars scope sc ρ) (ds.drop i) rest ∧ es = done ++ rest ∧ T i s'.heap ∧ St W (compSc scope sc) cenv s.heap.get? F1 (compVars scope sc ρ) s' ∧ Adv s F s' F1 ∧ Sub F2 F1 ∧
      OwnAt s'.heap.get? s2.heap.objs.size vs ∧ RepAll W F1 vs done ∧ F1 s2.heap.objs.size = none ∧ (∀ b ∈ nw, F1 b = none) ∧ i ≤ ds.length ∧ vs.length ≤ i ∧ m = ds.length + 1 - i) ?_ (ds.length + 1) s4 ?_
    · rintro m s5 ⟨i, F1, vs, done, rest, hc, hes, hT5, S5, ad5, f21, own5, r5, offD, offN, hi5, hvl, rfl⟩ E' hE'
      have hidden : ∀ (h' : Heap) tk, (∀ b o, b ∉ wr → s5.heap.get? b = some o → h'.get? b = some o) → St W (compSc scope sc) cenv s.heap.get? F1 (compVars scope sc ρ) { s5 with heap := h', toks := tk } := fun h' tk hk =>
        S5.hidden tk hk fun b hb => ⟨offN b (wk.wrn b hb), wk.new b (wk.wrn b hb), by rw [c2]; exact nwC b (wk.wrn b hb), nwCell b (wk.wrn b hb), fun vs ⟨o, n, e, c, _⟩ => by
          obtain ⟨o', e', c'⟩ := wk.obj i _ hT5 b (wk.wrn b hb)
          rw [e] at e'; cases e'; exact c' c⟩
      have Dwr : s2.heap.objs.size ∉ wr := fun h => Dnw (wk.wrn _ h)
      by_cases hlt : i < ds.length
      · refine wk.turns.item i s5 _ _ hlt hT5 fun v h6 tk hMd hk => ?_
        refine wk.turns.go i v _ _ _ hMd fun h7 hP hT7 hk7 => ?_
        have S7 := hidden h7 tk fun b o hb e => hk7 b o hb (hk b o hb e)
        obtain ⟨d, hd, item⟩ := wk.item i v h7 hlt hP
        have hdrop : ds.drop i = d :: ds.drop (i + 1) := by
          rw [List.drop_eq_getElem_cons hlt]
          congr 1
          exact Option.some.inj ((List.getElem?_eq_getElem hlt).symm.trans hd)
        rw [hdrop] at hc
        have item' : ItemIs W F1 h7 nm d v := by
          rcases item with r | ⟨h1, T', v1, v2, d1, d2, h2', h3', h4, r1, r2⟩
          · exact .inl (r.mono f21)
          · exact .inr ⟨h1, T', v1, v2, d1, d2, h2', h3', h4, r1.mono f21, r2.mono f21⟩
        have ad7 : Adv s F { s5 with heap := h7, toks := tk } F1 := ad5.patch tk S7.keep S7.froz
        obtain ⟨nD, eD⟩ := own5
        have own7 : h7.get? s2.heap.objs.size = some { cls := .type "list", data := .seq vs.toArray nD } := hk7 _ _ Dwr (hk _ _ Dwr eD)
        have after : ∀ {s8 : Shared} {ρ1 : Vars}, Touch cenv { s5 with heap := h7, toks := tk } s8 → St W (compSc scope sc) cenv s.heap.get? F1 ρ1 s8 → T (i + 1) s8.heap ∧ s8.heap.get? s2.heap.objs.size = some { cls := .type "list", data := .seq vs.toArray nD } := fun {s8 ρ1} t8 S8 => by
          refine ⟨wk.turns.frame _ _ _ hT7 fun b hb o e => ?_, t8 _ _ own7 (by rw [c2]; exact DC) DCell⟩
          rcases wk.fpn b hb with h | ⟨o', h⟩ | ⟨o', h⟩
          · exact t8 b o e (by rw [c2]; exact nwC b h) (nwCell b h)
          · have e1 : h7.get? b = some o' := S7.froz b o' (f21 _ _ h)
            rw [e] at e1; cases e1
            exact S8.froz b _ (f21 _ _ h)
          · have e1 : h7.get? b = some o' := S7.keep b o' (S.keep _ _ h)
            rw [e] at e1; cases e1
            exact S8.keep b _ (S.keep _ _ h)
        cases hc with
        | yes hb ht he hc =>
          rename_i e es' ρ1
          refine bind_item R S7 item' hb hok hnm fun s8 t8 S8 => ?_
          obtain ⟨hT8, own8⟩ := after t8 S8
          refine tests_run ht R S8 fun F9 s9 ad9 => ?_
          rw [if_pos rfl]
          refine he.out cenv A _ F9 s9 _ _ R (S8.adv ad9) fun F10 s10 v10 ad10 r10 => ?_
          have adx := ad9.trans ad10
          have S10 := S8.adv adx
          have ownx : s10.heap.get? s2.heap.objs.size = some { cls := .type "list", data := .seq vs.toArray nD } := adx.ext _ _ own8
          refine wpAny_list_append_plain (items := vs.toArray) ⟨nD, ownx⟩ (fun h11 hp hs => ?_) (by rw [List.size_toArray, sizeLine_eq]; omega)
          have offDx : F10 s2.heap.objs.size = none := adx.off offD own8
          have offNx : ∀ b ∈ nw, F10 b = none := fun b hb => by
            obtain ⟨o, ho, _⟩ := wk.obj _ _ hT8 b hb
            exact adx.off (offN b hb) ho
          have keepK : Sub s.heap.get? h11.get? := fun b o e => (hs.2 b (fun h => by rw [h, D0] at e; cases e)).trans (S10.keep b o e)
          have keepF : Sub F10 h11.get? := fun b o e => (hs.2 b (fun h => by rw [h, offDx] at e; cases e)).trans (S10.froz b o e)
          have S11 : St W (compSc scope sc) cenv s.heap.get? F10 [] { s10 with heap := h11 } := by
            have hw := (S10.weaken (ρ' := []) (fun p hp => (nomatch hp)))
            refine ⟨hw.kind, hw.names, hw.glob, hw.blt, hw.inj, hw.wr, hw.has, ?_, hw.base, keepK, keepF, hw.offL, fun x c hx => ?_, ?_⟩
            · obtain ⟨h0, tk0, e0⟩ := hw.same; exact ⟨h11, tk0, by rw [e0]⟩
            · obtain ⟨h1, v0, o0, h2, h3⟩ := hw.offC x c hx
              exact ⟨h1, v0, o0, (hs.2 c (fun h => DCell x (by rw [hx, h]))).trans h2, h3⟩
            · obtain ⟨m, val, fp, n, _⟩ := hw.vars
              refine ⟨m, val, fun _ => [], n.sameBut hs (by rw [c2]; exact DC.symm), fun x e hx => (nomatch hx), fun _ _ _ h => (nomatch h), fun _ _ h => (nomatch h)⟩
          have ad8 : Adv s F s8 F1 := ⟨by obtain ⟨h0, tk0, e0⟩ := S8.same; obtain ⟨h', tk', e'⟩ := S.same; exact ⟨h0, tk0, by rw [e0, e']⟩, S8.keep, ad5.sub, ad5.new, S8.froz⟩
          have ad10' := ad8.trans adx
          refine ⟨ds.length + 1 - (i + 1), by omega, i + 1, F10, vs ++ [v10], done ++ [e], es', hc, by rw [hes]; simp, ?_, vars ad10'.sub S11, ad10'.patch _ keepK keepF, f21.trans adx.sub, ?_, (r5.mono adx.sub).append (.one r10), offDx, offNx, hlt, by rw [List.length_append, List.length_singleton]; exact Nat.succ_le_succ hvl, rfl⟩
          · refine wk.turns.frame _ _ _ hT8 fun b hb o e => (hs.2 b fun h => ?_).trans (adx.ext _ _ e)
            rcases wk.fpn b hb with h' | ⟨o', h'⟩ | ⟨o', h'⟩
            · exact Dnw (h ▸ h')
            · have := adx.sub _ _ (f21 _ _ h'); rw [h, offDx] at this; cases this
            · have := S.keep _ _ h'; rw [h, D0] at this; cases this
          · obtain ⟨n', hn'⟩ := hp
            exact ⟨n', by rw [hn']; simp⟩
        | no hb ht hc =>
          rename_i ρ1
          refine bind_item R S7 item' hb hok hnm fun s8 t8 S8 => ?_
          obtain ⟨hT8, own8⟩ := after t8 S8
          refine tests_run ht R S8 fun F9 s9 ad9 => ?_
          rw [if_neg (by simp)]
          have S9 := S8.adv ad9
          have ad8 : Adv s F s8 F1 := ⟨by obtain ⟨h0, tk0, e0⟩ := S8.same; obtain ⟨h', tk', e'⟩ := S.same; exact ⟨h0, tk0, by rw [e0, e']⟩, S8.keep, ad5.sub, ad5.new, S8.froz⟩
          refine ⟨ds.length + 1 - (i + 1), by omega, i + 1, F9, vs, done, rest, hc, hes, wk.turns.frame _ _ _ hT8 fun b hb o e => ad9.ext _ _ e, vars (ad8.trans ad9).sub S9, ad8.trans ad9, f21.trans ad9.sub, ⟨nD, ad9.ext _ _ own8⟩, r5.mono ad9.sub, ad9.off offD own8, fun b hb => ?_, hlt, Nat.le_succ_of_le hvl, rfl⟩
          obtain ⟨o, ho, _⟩ := wk.obj _ _ hT8 b hb
          exact ad9.off (offN b hb) ho
      · have hin : i = ds.length := by omega
        subst hin
        refine wk.turns.done s5 _ _ hT5 fun h6 tk hk => ?_
        have z : ds.drop ds.length = [] := List.drop_eq_nil_of_le (Nat.le_refl _)
        rw [z] at hc
        cases hc
        rw [List.append_nil] at hes
        subst hes
        have S6 := hidden h6 tk hk
        have ad6 : Adv s F { s5 with heap := h6, toks := tk } F1 := ad5.patch tk S6.keep S6.froz
        obtain ⟨nD, eD⟩ := own5
        have own6 : h6.get? s2.heap.objs.size = some { cls := .type "list", data := .seq vs.toArray nD } := hk _ _ Dwr eD
        let FD : FH := fun c => if c = s2.heap.objs.size then some { cls := .type "list", data := .seq vs.toArray nD } else F1 c
        have hFD : Sub F1 FD := fun c o e => by
          show (if c = s2.heap.objs.size then _ else F1 c) = some o
          by_cases hc : c = s2.heap.objs.size
          · subst hc; rw [offD] at e; cases e
          · rw [if_neg hc]; exact e
        have hFDi : ∀ c o, FD c = some o → F1 c = some o ∨ (c = s2.heap.objs.size ∧ o = { cls := .type "list", data := .seq vs.toArray nD }) := fun c o e => by
          have e' : (if c = s2.heap.objs.size then some { cls := .type "list", data := .seq vs.toArray nD } else F1 c) = some o := e
          by_cases hc : c = s2.heap.objs.size
          · rw [if_pos hc] at e'; cases e'; exact .inr ⟨hc, rfl⟩
          · rw [if_neg hc] at e'; exact .inl e'
        obtain ⟨mm, _, _, nn, _⟩ := S6.vars
        rw [c2] at nn
        refine hRR FD _ _ _ mm ⟨ad6.same, ad6.ext, ad6.sub.trans hFD, fun a o e => ?_, fun a o e => ?_⟩ (.lst ⟨{ cls := .type "list", data := .seq vs.toArray nD }, nD, ?_, rfl, rfl, rfl⟩ (r5.mono hFD)) nn C0 ?_
        · rcases hFDi a o e with h | ⟨h, _⟩
          · exact ad6.new a o h
          · exact .inr (by rw [h]; exact D0)
        · rcases hFDi a o e with h | ⟨h, h2⟩
          · exact ad6.sup a o h
          · rw [h, h2]; exact own6
        · show (if s2.heap.objs.size = s2.heap.objs.size then _ else _) = _
          rw [if_pos rfl]
        · show (if H3.objs.size = s2.heap.objs.size then _ else F1 H3.objs.size) = none
          rw [if_neg (fun h => DC h.symm)]
          have := S6.offL.1
          rw [c2] at this
          exact this
    · subst hs4
      exact ⟨0, F2, [], [], es, by simpa using hcomp, rfl, hT4, vars ad.sub S0, ⟨by obtain ⟨h0, tk0, e0⟩ := ad.same; exact ⟨_, tk0, by rw [e0]⟩, ad.ext.trans ext4, ad.sub, ad.new, ad.sup.trans ext4⟩, Sub.rfl, ⟨_, hacc4⟩, .nil, hF2new _ (Nat.le_refl _), wk.off, Nat.zero_le _, Nat.le_refl _, rfl⟩
  exact codeAny_compStart_list (key _ rfl) (wk.self 0 _ _ _ hT4 (key _ rfl))
end
end Mine

-- F18
namespace Mine
section
variable {W : Wd} {sc : Sc} {env : Env} {K K2 F F' : FH} {ρ ρ' : Vars} {s s' s1 : Shared} {k : Nat} {A : Around}

noncomputable def compOk (scope : Scope) (sc : Sc) : Bool :=
  scope.kind == .function && scope.names.all fun p => (p.2 != .free || (sc.names.lookup p.1 == some .cell && !isCellIn scope.names p.1)) && (p.2 != .local || scope.names.lookup p.1 == some .local)
theorem compOk_inv {scope : Scope} (h : compOk scope sc = true) : scope.kind = .function ∧ (∀ x, (x, NameKind.free) ∈ scope.names → sc.names.lookup x = some .cell ∧ (x, NameKind.cell) ∉ scope.names) ∧ (∀ x ∈ scope.names, x.2 = .local → scope.names.lookup x.1 = some .local) := by
  unfold compOk at h
  rw [Bool.and_eq_true] at h
  obtain ⟨h1, h2⟩ := h
  refine ⟨beq_iff_eq.mp h1, fun x hx => ?_, fun p hp hl => ?_⟩
  · have := List.all_eq_true.mp h2 _ hx
    simp only [Bool.and_eq_true, bne_self_eq_false, Bool.false_or, beq_iff_eq, Bool.not_eq_true'] at this
    refine ⟨this.1.1, fun hc => ?_⟩
    have hin : isCellIn scope.names x = true := List.any_eq_true.mpr ⟨_, hc, by simp⟩
    rw [hin] at this
    exact absurd this.1.2 (by simp)
  · have := List.all_eq_true.mp h2 _ hp
    simp only [Bool.and_eq_true, hl, bne_self_eq_false, Bool.false_or, beq_iff_eq] at this
    exact this.2
theorem lend_noOwn2 (h : noOwn2 ρ = true) : noOwn2 (lend ρ) = true := by
  unfold noOwn2 lend at *
  rw [List.all_map]
  refine List.all_eq_true.mpr fun p hp => ?_
  have := List.all_eq_true.mp h p hp
  cases hp2 : p.2 with
  | own2 a b => rw [hp2] at this; cases this
  | _ => simp [Function.comp, hp2, lendE, isOwn2]
theorem lend_bare {x : Str} {e : Ent} (h : (lend ρ).lookup x = some e) : lendE e = e := by
  obtain ⟨e0, _, rfl⟩ := lend_lookup h
  cases e0 <;> rfl

theorem comp_any {elt target iter : Expr} {ifs : List Expr} {scope : Scope} {pos pos2 : Pos} {nm : Bool} {ds es : List D} {use : Option (Value → Sem Unit)} {Q : Value → Shared → Prop} {E : Value → Shared → Prop} (R : Room k A) (S : St W sc env K F ρ s)
    (hi : Iters W sc k target iter (lend ρ) nm ds) (hc : compOk scope sc = true) (hn2 : noOwn2 ρ = true) (hok : targetOk (compSc scope sc) target = true) (hnm : nameOk target nm = true) (hcomp : CompIs W (compSc scope sc) k target ifs elt (compVars scope sc (lend ρ)) ds es) (hl : ds.length ≤ 1000000)
    (hs : ∀ x, foldedSetIterable iter env x = pure x)
    (h : ∀ F5 s5 D C m, Adv s F s5 F5 → Rep W F5 (.ref D) (.lst es) → s5.heap.Ns C m → s.heap.get? C = none → F5 C = none → compPost (model W.prog W.w) A E use Q (.ref D) C (.ok .next) s5) :
    wpAny (model W.prog W.w) A (comprehension (.ListComp elt [⟨target, iter, ifs, 0⟩] scope pos) scope env pos2 (newList []) false (eval iter env) use) Q E s := by
  obtain ⟨h1, h2, h3⟩ := compOk_inv hc
  obtain ⟨cl, e, c1, c2⟩ := closureFor_of (env := env) (scope := scope) fun x hx => S.has x (by
    show env.scope.names.lookup x = _
    rw [S.names]; exact (h2 x hx).1)
  refine wpAny_comprehension_free rfl hs e h1 h3 ?_
  exact comp_core R (S.lent hn2) hi c1 c2 h1 (fun x hx => (h2 x hx).2) (lend_noOwn2 hn2) (fun x e hx => lend_bare hx) hok hnm hcomp hl h

theorem ev_comp {elt target iter : Expr} {ifs : List Expr} {scope : Scope} {pos : Pos} {nm : Bool} {ds es : List D}
    (hi : Iters W sc k target iter (lend ρ) nm ds) (hc : compOk scope sc = true) (hn2 : noOwn2 ρ = true) (hok : targetOk (compSc scope sc) target = true) (hnm : nameOk target nm = true) (hcomp : CompIs W (compSc scope sc) k target ifs elt (compVars scope sc (lend ρ)) ds es) (hl : ds.length ≤ 1000000)
    (hs : ∀ env x, foldedSetIterable iter env x = pure x := by intros; rfl) : Evals W sc k (.ListComp elt [⟨target, iter, ifs, 0⟩] scope pos) ρ (.lst es) := by
  refine ⟨?_⟩; intro env A K F s Q E R S q
  rw [eval_ListComp]
  refine comp_any (use := none) R S hi hc hn2 hok hnm hcomp hl (hs env) fun F5 s5 D C m ad r n hC hF => ?_
  refine ⟨m, n, fun h' hs' => q F5 _ _ (ad.patch s5.toks (fun b o e => ?_) fun b o e => ?_) r⟩
  · exact (hs'.2 b (fun h => by rw [h, hC] at e; cases e)).trans (ad.ext b o e)
  · exact (hs'.2 b (fun h => by rw [h, hF] at e; cases e)).trans (ad.sup b o e)

theorem x_comp {elt target iter : Expr} {ifs : List Expr} {scope : Scope} {pos spos py : Pos} {y : Str} {nm : Bool} {ds es : List D}
    (hi : Iters W sc k target iter (lend ρ) nm ds) (hc : compOk scope sc = true) (hn2 : noOwn2 ρ = true) (hok : targetOk (compSc scope sc) target = true) (hnm : nameOk target nm = true) (hcomp : CompIs W (compSc scope sc) k target ifs elt (compVars scope sc (lend ρ)) ds es) (hl : ds.length ≤ 1000000)
    (hy : canStore sc y = true) (hsw : ∀ env, env.scope.kind = .function → env.scope.names = sc.names → swapsWith (.ListComp elt [⟨target, iter, ifs, 0⟩] scope pos) (some (.Name y py)) spos.line env = pure true)
    (hs : ∀ env x, foldedSetIterable iter env x = pure x := by intros; rfl) : Exec W sc k (.Assign [.Name y py] (.ListComp elt [⟨target, iter, ifs, 0⟩] scope pos) spos) ρ (.nxt ((y, .v (.lst es)) :: ρ)) := by
  refine ⟨?_⟩; intro env A K F s Q E R S q
  rw [exec_Assign_Name_used _ _ _ _ (hsw env S.kind S.names)]
  refine wpAny_bind (wpAny_standAt (wpAny_bind ?_))
  show wpAny _ A (do let _ ← comprehension (.ListComp elt [⟨target, iter, ifs, 0⟩] scope pos) scope env _ (newList []) false (eval iter env) (some (assign (.Name y py) env))) _ _ s
  refine wpAny_bind (wpAny_mono (comp_any (use := some (assign (.Name y py) env)) (Q := fun _ s' => Q .next s') R S hi hc hn2 hok hnm hcomp hl (hs env) fun F5 s5 D C m ad r n hC hF => ?_) (fun _ s' hq => wpAny_pure (wpAny_pure hq)) fun _ _ e => e)
  show wpAny _ A (assign (.Name y py) env (.ref D)) _ _ _
  have S5 := S.adv ad
  have hCL : C ≠ env.locals := by
    obtain ⟨m', val, fp, n', _⟩ := S.vars
    obtain ⟨o, _, _, e, _⟩ := ns_some n'
    rintro rfl
    rw [hC] at e; cases e
  have hCc : ∀ x, env.cells.lookup x ≠ some C := fun x hx => by
    obtain ⟨_, v0, o0, h2, _⟩ := S.offC x C hx
    rw [hC] at h2; cases h2
  have hCK : K C = none := by
    cases e : K C with
    | none => rfl
    | some o => have := S.keep _ _ e; rw [hC] at this; cases this
  refine wpAny_assign_Name (S5.store_vT S5.room0 hy r fun s6 t6 S6 => ?_)
  obtain ⟨oC, es', ep, eC, dC, rest⟩ := n
  have nC6 : s6.heap.get? C = some oC := t6 C oC eC hCL hCc
  refine ⟨m, ⟨oC, es', ep, nC6, dC, rest⟩, fun h' hs' => q F5 _ _ (ad.grows S.keep) ⟨rfl, ?_⟩⟩
  refine S6.hidden (wr := [C]) s6.toks (fun b o hb e => (hs'.2 b (fun h => hb (by simp [h]))).trans e) fun b hb => ?_
  rw [List.mem_singleton.mp hb]
  refine ⟨hF, hCK, hCL, hCc, fun vs ⟨o, n, e, c, _, d⟩ => ?_⟩
  rw [nC6] at e; cases e; rw [dC] at d; cases d

/-! the usual shapes of a comprehension -/
theorem comp_map {target elt : Expr} {ds : List D} (f : D → D) (h : ∀ d ∈ ds, ∃ ρ1, bindT target d ρ = some ρ1 ∧ Evals W sc k elt ρ1 (f d)) : CompIs W sc k target [] elt ρ ds (ds.map f) := by
  induction ds with
  | nil => exact .nil
  | cons d ds ih =>
    obtain ⟨ρ1, h1, h2⟩ := h d List.mem_cons_self
    exact .yes h1 rfl h2 (ih fun d hd => h d (List.mem_cons_of_mem _ hd))
theorem comp_filter {target elt c : Expr} {ds : List D} (p : D → Bool) (f : D → D) (h : ∀ d ∈ ds, ∃ ρ1, bindT target d ρ = some ρ1 ∧ Tests W sc k c ρ1 (p d) ∧ (p d = true → Evals W sc k elt ρ1 (f d))) : CompIs W sc k target [c] elt ρ ds ((ds.filter p).map f) := by
  induction ds with
  | nil => exact .nil
  | cons d ds ih =>
    obtain ⟨ρ1, h1, h2, h3⟩ := h d List.mem_cons_self
    have ih' := ih fun d hd => h d (List.mem_cons_of_mem _ hd)
    cases hp : p d with
    | true =>
      rw [List.filter_cons, if_pos hp]
      exact .yes h1 (by rw [← hp]; exact h2) (h3 hp) ih'
    | false =>
      rw [List.filter_cons, if_neg (by rw [hp]; simp)]
      exact .no h1 (by rw [← hp]; exact h2) ih'
end
end Mine

-- G1
namespace Mine

noncomputable abbrev FnRec := Str × Arguments × List Stmt × Scope
noncomputable def fnDef (i : Nat) : FnRec := match PySem.Challenge.pw_kl0351_01.main.body[i]? with
  | some (.FunctionDef n a b _ _ _ sc _ _ _) => (n, a, b, sc)
  | _ => ("", { posonlyargs := [], args := [], vararg := none, kwonlyargs := [], kw_defaults := [], kwarg := none, defaults := [] }, [], { kind := .function, names := [], isGenerator := false, isCoroutine := false, more := [] })
noncomputable def HasFn (W : Wd) (i : Nat) : Prop := FnAt W (fnDef i).1 (fnDef i).2.1 (fnDef i).2.2.1 (fnDef i).2.2.2

section
variable {W : Wd} {k : Nat}

theorem c_side (O : W.Ok) (fn : HasFn W 75) {a b c : Int} (ha : a.natAbs < 100) (hb : b.natAbs < 100) (hc : c.natAbs < 100) : Calls W (k + 1) "_law_side" [.v (.lst [.int a, .int b, .int c])] (.int (((b - a) * (c - a) * (c - b)).fdiv 2)) := by
  refine calls_of (ps := ["turn"]) O fn ?_ (by decide) rfl ?_ ?_
  · intro pm code doc vs hl
    match vs, hl with
    | [v], _ => rfl
  · intro x hx
    rw [List.mem_singleton.mp hx]
    left; rfl
  · refine xs_cons (x_unpackL (ts := [("a", _), ("b", _), ("c", _)]) (ds := [.int a, .int b, .int c]) (ev_name rfl) rfl rfl) ?_
    refine xs_ret (x_ret ?_)
    refine ev_bin (.of (ev_bin (.of (ev_bin (.of (ev_bin (.of (ev_name rfl)) (.of (ev_name rfl)) bin_sub)) (.of (ev_bin (.of (ev_name rfl)) (.of (ev_name rfl)) bin_sub)) (bin_mul ?_))) (.of (ev_bin (.of (ev_name rfl)) (.of (ev_name rfl)) bin_sub)) (bin_mul ?_))) (.of ev_int) (bin_div ?_ ?_)
    · left; omega
    · right; omega
    · decide
    · decide
end
end Mine

-- G2
namespace Mine

section
variable {W : Wd} {sc : Sc} {ρ ρ' : Vars} {k : Nat}
theorem xs_if_ret {test : Expr} {body orelse rest : List Stmt} {pos : Pos} {b : Bool} {d : D} (h : Tests W sc k test ρ b) (hb : b = true) (h1 : Execs W sc k body ρ (.ret d)) : Execs W sc k (.If test body orelse pos :: rest) ρ (.ret d) :=
  xs_ret (x_if h (fun _ => h1) fun e => by rw [hb] at e; cases e)
theorem xs_if_else {test : Expr} {body orelse rest : List Stmt} {pos : Pos} {b : Bool} {d : D} (h : Tests W sc k test ρ b) (hb : b = false) (h1 : Execs W sc k orelse ρ (.ret d)) : Execs W sc k (.If test body orelse pos :: rest) ρ (.ret d) :=
  xs_ret (x_if h (fun e => by rw [hb] at e; cases e) fun _ => h1)
theorem xs_if_skip {test : Expr} {body rest : List Stmt} {pos : Pos} {b : Bool} {o : Out} (h : Tests W sc k test ρ b) (hb : b = false) (h2 : Execs W sc k rest ρ o) : Execs W sc k (.If test body [] pos :: rest) ρ o :=
  xs_cons (x_if h (fun e => by rw [hb] at e; cases e) fun _ => xs_nil) h2
theorem xs_if_go {test : Expr} {body orelse rest : List Stmt} {pos : Pos} {b : Bool} {o : Out} (h : Tests W sc k test ρ b) (hb : b = true) (h1 : Execs W sc k body ρ (.nxt ρ')) (h2 : Execs W sc k rest ρ' o) : Execs W sc k (.If test body orelse pos :: rest) ρ o :=
  xs_cons (x_if h (fun _ => h1) fun e => by rw [hb] at e; cases e) h2
theorem name_v {x : Str} {pos : Pos} {d : D} (hx : ρ.lookup x = some (.v d)) (hd : (x == ("__debug__" : Str)) = false := by decide) : EvR W sc k (.Name x pos) ρ d := .of (ev_name hx hd)
end

section
variable {W : Wd} {k : Nat}

/-! ## the project's own functions -/
noncomputable def substCost (a b : Str) : Int := if a == b then 0 else if Txt.lower a == Txt.lower b then 1 else 2
theorem c_subst (O : W.Ok) (fn : HasFn W 62) {t u : Tok} (h1 : W.mg "_CASE_COST" = some (.int 1 t)) (h2 : W.mg "_MOVE_COST" = some (.int 2 u)) {a b : Str} (ha : Builtin.Str.tooLong (Txt.lower a).length = false) (hb : Builtin.Str.tooLong (Txt.lower b).length = false) :
    Calls W (k + 1) "_substitution_cost" [.v (.str a), .v (.str b)] (.int (substCost a b)) := by
  refine calls_of (ps := ["ch_a", "ch_b"]) O fn ?_ (by decide) rfl ?_ ?_
  · intro pm code doc vs hl
    match vs, hl with
    | [v, w], _ => rfl
  · intro x hx
    rcases List.mem_cons.mp hx with rfl | hx
    · left; rfl
    · rw [List.mem_singleton.mp hx]; left; rfl
  · unfold substCost
    by_cases h : (a == b) = true
    · rw [if_pos h]
      exact xs_if_ret (t_cmp (name_v rfl) (name_v rfl) cmp_eq_str) h (xs_ret (x_ret ev_int))
    · rw [if_neg h]
      refine xs_if_skip (t_cmp (name_v rfl) (name_v rfl) cmp_eq_str) (by simpa using h) ?_
      by_cases h' : (Txt.lower a == Txt.lower b) = true
      · rw [if_pos h']
        refine xs_if_ret (t_cmp (.of (ev_meth (fun _ => ⟨_, rfl⟩) (fun q => PySem.GM.lower q) (name_v rfl) .nil (m_lower ha))) (.of (ev_meth (fun _ => ⟨_, rfl⟩) (fun q => PySem.GM.lower q) (name_v rfl) .nil (m_lower hb))) cmp_eq_str) h' (xs_ret (x_ret (ev_const O rfl h1 fun F => .int _ _)))
      · rw [if_neg h']
        refine xs_if_skip (t_cmp (.of (ev_meth (fun _ => ⟨_, rfl⟩) (fun q => PySem.GM.lower q) (name_v rfl) .nil (m_lower ha))) (.of (ev_meth (fun _ => ⟨_, rfl⟩) (fun q => PySem.GM.lower q) (name_v rfl) .nil (m_lower hb))) cmp_eq_str) (by simpa using h') ?_
        exact xs_ret (x_ret (ev_const O rfl h2 fun F => .int _ _))
end
end Mine

-- G3
namespace Mine

section
variable {W : Wd} {k : Nat}
theorem str_len_app (a b : Str) : (a ++ b).length = a.length + b.length := by
  show (a.cps ++ b.cps).size = _
  rw [Array.size_append]; rfl

noncomputable def euro : Str := "euro"
noncomputable def appendMod (c m : Str) : Str :=
  if m == euro then
    if Txt.contains c "." then
      if ([("ISO8859-15" : Str), "UTF-8"].any (· == (Txt.partition c ".").2.2)) then c else c ++ "@" ++ m
    else c ++ ".ISO8859-15"
  else c ++ "@" ++ m
theorem c_append (O : W.Ok) (fn : HasFn W 3) {c m : Str} (hc : c.length ≤ 100000) (hm : m.length ≤ 100000) (he : (m == euro) = true → Txt.contains c "." = true → ((Txt.partition c ".").2.2 == ("ISO8859-1" : Str)) = false) :
    Calls W (k + 1) "_append_modifier" [.v (.str c), .v (.str m)] (.str (appendMod c m)) := by
  refine calls_of (ps := ["code", "modifier"]) O fn ?_ (by decide) rfl ?_ ?_
  · intro pm code doc vs hl
    match vs, hl with
    | [v, w], _ => rfl
  · intro x hx
    rcases List.mem_cons.mp hx with rfl | hx
    · left; rfl
    · rw [List.mem_singleton.mp hx]; left; rfl
  · have l1 : (c ++ ("@" : Str)).length = c.length + 1 := by rw [str_len_app]; rfl
    unfold appendMod
    by_cases h : (m == euro) = true
    · rw [if_pos h]
      have he' := he h
      by_cases h2 : Txt.contains c "." = true
      · rw [if_pos h2]
        have he'' := he' h2
        have tupE : ∀ {ρ : Vars} {n : Nat} {p1 p2 tp : Pos} {m1 m2 : Nat}, Evals W (fnSc (fnDef 3).2.2.2) k (.Tuple [.Constant (.str "ISO8859-15") m1 p1, .Constant (.str "UTF-8") m2 p2] n tp) ρ (.tup ([("ISO8859-15" : Str), "UTF-8"].map D.str)) := ev_tup (.cons ev_str (.cons ev_str .nil (fun _ _ => rfl)) (fun _ _ => rfl)) (by decide)
        by_cases h3 : ([("ISO8859-15" : Str), "UTF-8"].any (· == (Txt.partition c ".").2.2)) = true
        · rw [if_pos h3]
          refine xs_if_ret (t_cmp (name_v rfl) (.of ev_str) cmp_eq_str) h ?_
          refine xs_if_skip (t_cmp (.of ev_str) (name_v rfl) cmp_notin_str) (by rw [h2]; rfl) ?_
          refine xs_cons (x_unpack (ts := [("_", _), ("_", _), ("encoding", _)]) (ds := [.str (Txt.partition c ".").1, .str (Txt.partition c ".").2.1, .str (Txt.partition c ".").2.2]) (ev_meth (fun _ => ⟨_, rfl⟩) (fun q => PySem.GM.partition q) (name_v rfl) (.cons (eva_v ev_str) .nil (fun _ _ => rfl)) (m_partition (by rfl) (by omega))) rfl rfl) ?_
          exact xs_if_ret (t_cmp (name_v rfl) (.of tupE) (cmp_in_tup _)) h3 (xs_ret (x_ret (ev_name rfl)))
        · rw [if_neg h3]
          refine xs_if_go (t_cmp (name_v rfl) (.of ev_str) cmp_eq_str) h (ρ' := [("code", .v (.str c)), ("modifier", .v (.str m))]) ?_ ?_
          · refine xs_if_skip (t_cmp (.of ev_str) (name_v rfl) cmp_notin_str) (by rw [h2]; rfl) ?_
            refine xs_cons (x_unpack (ts := [("_", _), ("_", _), ("encoding", _)]) (ds := [.str (Txt.partition c ".").1, .str (Txt.partition c ".").2.1, .str (Txt.partition c ".").2.2]) (ev_meth (fun _ => ⟨_, rfl⟩) (fun q => PySem.GM.partition q) (name_v rfl) (.cons (eva_v ev_str) .nil (fun _ _ => rfl)) (m_partition (by rfl) (by omega))) rfl rfl) ?_
            refine xs_if_skip (t_cmp (name_v rfl) (.of tupE) (cmp_in_tup _)) (Bool.eq_false_iff.mpr h3) ?_
            refine xs_if_skip (t_cmp (name_v rfl) (.of ev_str) cmp_eq_str) he'' ?_
            refine xs_out xs_nil ?_
            intro p hp
            rcases List.mem_cons.mp hp with rfl | hp
            · rfl
            · rw [List.mem_singleton.mp hp]; rfl
          · exact xs_ret (x_ret (ev_bin (.of (ev_bin (name_v rfl) (.of ev_str) (bin_cat (by show _ + 1 ≤ _; omega)))) (name_v rfl) (bin_cat (by rw [l1]; omega))))
      · rw [if_neg h2]
        refine xs_if_ret (t_cmp (name_v rfl) (.of ev_str) cmp_eq_str) h ?_
        refine xs_if_ret (t_cmp (.of ev_str) (name_v rfl) cmp_notin_str) (by simpa using h2) ?_
        exact xs_ret (x_ret (ev_bin (name_v rfl) (.of ev_str) (bin_cat (by show _ + 11 ≤ _; omega))))
    · rw [if_neg h]
      refine xs_if_skip (t_cmp (name_v rfl) (.of ev_str) cmp_eq_str) (Bool.eq_false_iff.mpr h) ?_
      exact xs_ret (x_ret (ev_bin (.of (ev_bin (name_v rfl) (.of ev_str) (bin_cat (by show _ + 1 ≤ _; omega)))) (name_v rfl) (bin_cat (by rw [l1]; omega))))

noncomputable def buildName (l e : Option Str) : Str := match e with
  | none => l.getD "C"
  | some e => (l.getD "C") ++ "." ++ e
noncomputable def optD : Option Str → D
  | none => .none
  | some x => .str x
theorem c_build (O : W.Ok) (fn : HasFn W 4) {l e : Option Str} (hl : ∀ x, l = some x → x.length ≤ 100000) (hm : ∀ x, e = some x → x.length ≤ 100000) :
    Calls W (k + 1) "_build_localename" [.v (.tup [optD l, optD e])] (.str (buildName l e)) := by
  refine calls_of (ps := ["localetuple"]) O fn ?_ (by decide) rfl ?_ ?_
  · intro pm code doc vs hl
    match vs, hl with
    | [v], _ => rfl
  · intro x hx
    rw [List.mem_singleton.mp hx]; left; rfl
  · refine xs_ret (x_try ?_)
    refine xs_cons (x_unpack (ts := [("language", _), ("encoding", _)]) (ds := [optD l, optD e]) (ev_name rfl) rfl rfl) ?_
    have hrest : ∀ x : Str, x.length ≤ 100000 → x = l.getD "C" → ∀ ρ : Vars, ρ.lookup ("language" : Str) = some (.v (.str x)) → ρ.lookup ("encoding" : Str) = some (.v (optD e)) → Execs W (fnSc (fnDef 4).2.2.2) k (match (fnDef 4).2.2.1 with | [.Try b _ _ _ _] => b.drop 2 | _ => []) ρ (.ret (.str (buildName l e))) := by
      intro x hx hxl ρ h1 h2
      cases e with
      | none =>
        refine xs_if_ret (t_cmp (name_v h2) (.of ev_none) (cmp_is_none rfl)) rfl (xs_ret (x_ret ?_))
        unfold buildName
        rw [← hxl]
        exact ev_name h1
      | some y =>
        refine xs_if_else (t_cmp (name_v h2) (.of ev_none) (cmp_is_none rfl)) rfl (xs_ret (x_ret ?_))
        unfold buildName
        rw [← hxl]
        have hy := hm y rfl
        have l1 : (x ++ ("." : Str)).length = x.length + 1 := by rw [str_len_app]; rfl
        exact ev_bin (.of (ev_bin (name_v h1) (.of ev_str) (bin_cat (by show _ + 1 ≤ _; omega)))) (name_v h2) (bin_cat (by rw [l1]; omega))
    cases l with
    | none =>
      refine xs_if_go (t_cmp (name_v rfl) (.of ev_none) (cmp_is_none rfl)) rfl (xs_cons (x_set ev_str rfl) xs_nil) ?_
      exact hrest "C" (by decide) rfl _ rfl rfl
    | some x =>
      refine xs_if_skip (t_cmp (name_v rfl) (.of ev_none) (cmp_is_none rfl)) rfl ?_
      exact hrest x (hl x rfl) rfl _ rfl rfl
end
end Mine

-- G4
namespace Mine

section
variable {W : Wd} {sc : Sc} {ρ ρ' : Vars} {k : Nat}
/-- octets[i:j] -/
theorem xs_ex {P : Vars → Prop} {st : Stmt} {rest : List Stmt} {o : Out} (h1 : ∃ ρ', Exec W sc k st ρ (.nxt ρ') ∧ P ρ') (h2 : ∀ ρ', P ρ' → Execs W sc k rest ρ' o) : Execs W sc k (st :: rest) ρ o :=
  let ⟨ρ', h, p⟩ := h1; xs_cons h (h2 ρ' p)
theorem ev_bslice {value e1 e2 : Expr} {p pos : Pos} {b : Array UInt8} {i j : Int} (h0 : EvR W sc k value ρ (.byt b)) (h1 : EvR W sc k e1 ρ (.int i)) (h2 : EvR W sc k e2 ρ (.int j)) (hl : b.size ≤ 1000000) :
    Evals W sc k (.Subscript value (.Slice (some e1) (some e2) none p) pos) ρ (.byt (KBy.picked b (some i) (some j))) := by
  refine ⟨?_⟩; intro env A K F s Q E R S q
  refine Subscript_ (h0.out env A K F s _ E R S fun F1 s1 v1 a1 r1 => ?_)
  obtain ⟨t, rfl⟩ := r1.byt
  refine wpAny_Slice ?_
  show wpAny _ A (eval e1 env) _ E s1
  refine h1.out env A K F1 s1 _ E R (S.adv a1) fun F2 s2 v2 a2 r2 => ?_
  obtain ⟨u, rfl⟩ := r2.int
  show wpAny _ A (eval e2 env) _ E s2
  refine h2.out env A K F2 s2 _ E R ((S.adv a1).adv a2) fun F3 s3 v3 a3 r3 => ?_
  obtain ⟨u', rfl⟩ := r3.int
  refine wpAny_pure ?_
  refine tail_of_ItemOn (ops := [_, _]) ⟨"bytes", _, FB.slot_bytes_getitem.lookup, typeIs_bytes _ _ _, getItem_meets (typeIs_bytes _ _ _) (by decide) FB.slot_bytes_getitem FB.entry_bytes_getitem (FB.args_bytes_getitem_2 _ _) (KBc.meets_slice2 b t _ (isPart_int (t := u)) (isPart_int (t := u')))
    ⟨Heap.IsSliceOf.new _ _ _ _, Nat.le_trans (KBc.size_picked_le b _ _) (by rw [sizeLine_eq]; omega), fun t' kk => ?_⟩⟩ (by rfl) fun _ => letGo_byt
  exact q _ _ _ (((a1.trans a2).trans a3).trans (.grow a3.sup (sub_push _ _))) (.byt _ _)
end

section
variable {W : Wd} {k : Nat}
noncomputable def AP : List UInt8 := [65, 66, 67, 68, 69, 70, 71, 72, 73, 74, 75, 76, 77, 78, 79, 80]
noncomputable def apN : Nat → Nat → List UInt8 → List UInt8
  | 0, _, val => val
  | f + 1, n, val => if n = 0 then val else apN f (n / 16) ([UInt8.ofNat (65 + n % 16)] ++ val)
theorem ap_pick : ∀ m : Nat, m < 16 → KBy.picked AP.toArray (some (m : Int)) (some ((m : Int) + 1)) = [UInt8.ofNat (65 + m)].toArray := by decide +kernel
theorem apN_len : ∀ (f n : Nat) (val : List UInt8), (apN f n val).length ≤ f + val.length
  | 0, _, val => by simp [apN]
  | f + 1, n, val => by
    unfold apN
    split
    · omega
    · have := apN_len f (n / 16) ([UInt8.ofNat (65 + n % 16)] ++ val)
      rw [List.length_append, List.length_singleton] at this
      omega
theorem c_ap (O : W.Ok) (fn : HasFn W 9) (b1 : W.mg "int" = none) (b2 : W.mg "abs" = none) (b3 : W.mg "divmod" = none) {i : Int} (hi : i.natAbs < 16 ^ 8) : Calls W (k + 1) "Int2AP" [.v (.int i)] (.byt (apN 8 i.natAbs []).toArray) := by
  refine calls_of (ps := ["num"]) O fn ?_ (by decide) rfl ?_ ?_
  · intro pm code doc vs hl
    match vs, hl with
    | [v], _ => rfl
  · intro x hx
    rw [List.mem_singleton.mp hx]; left; rfl
  · have habs : (if i < 0 then -i else i) = ((i.natAbs : Nat) : Int) := by split <;> omega
    refine xs_cons (x_set ev_byt rfl) (xs_cons (x_set ev_byt rfl) (xs_cons (x_set (ev_typ O (.cons (eva_v (ev_blt O (.cons (eva_v (ev_name rfl)) .nil (fun _ _ => rfl)) blt_abs (by simp) b2 rfl rfl)) .nil (fun _ _ => rfl)) typ_int (by simp) b1 rfl rfl) rfl) ?_))
    rw [habs]
    have loop : ∀ (f n : Nat) (val : List UInt8) (ρ : Vars), n < 16 ^ f → val.length + f ≤ 1000 → ρ.lookup ("num" : Str) = some (.v (.int (n : Nat))) → ρ.lookup ("val" : Str) = some (.v (.byt val.toArray)) → ρ.lookup ("AP" : Str) = some (.v (.byt AP.toArray)) →
        ∃ m ρ', Loops W (fnSc (fnDef 9).2.2.2) k (match (fnDef 9).2.2.1 with | [_, _, _, .While t _ _ _, _] => t | _ => default) (match (fnDef 9).2.2.1 with | [_, _, _, .While _ b _ _, _] => b | _ => []) m ρ ρ' ∧ ρ'.lookup ("val" : Str) = some (.v (.byt (apN f n val).toArray)) := by
      intro f
      induction f with
      | zero =>
        intro n val ρ hn hlen h1 h2 h3
        have h0 : n = 0 := by simpa using hn
        subst h0
        exact ⟨0, ρ, .done (t_val (name_v h1) truth_int), h2⟩
      | succ f ih =>
        intro n val ρ hn hlen h1 h2 h3
        by_cases h0 : n = 0
        · subst h0
          exact ⟨0, ρ, .done (t_val (name_v h1) truth_int), by simpa [apN] using h2⟩
        · have hdiv : ((n : Int).fdiv 16) = ((n / 16 : Nat) : Int) := by rw [Int.fdiv_eq_ediv_of_nonneg _ (by decide)]; rfl
          have hmod : ((n : Int).fmod 16) = ((n % 16 : Nat) : Int) := by rw [Int.fmod_eq_emod_of_nonneg _ (by decide)]; rfl
          obtain ⟨m, ρ', hL, hv⟩ := ih (n / 16) ([UInt8.ofNat (65 + n % 16)] ++ val) (("val", .v (.byt ([UInt8.ofNat (65 + n % 16)] ++ val).toArray)) :: ("mod", .v (.int ((n % 16 : Nat) : Int))) :: ("num", .v (.int ((n / 16 : Nat) : Int))) :: ρ) (by rw [Nat.pow_succ] at hn; omega) (by simp; omega) rfl rfl h3
          refine ⟨m + 1, ρ', .turn (ρ1 := (("val", .v (.byt ([UInt8.ofNat (65 + n % 16)] ++ val).toArray)) :: ("mod", .v (.int ((n % 16 : Nat) : Int))) :: ("num", .v (.int ((n / 16 : Nat) : Int))) :: ρ)) ?_ ?_ hL, ?_⟩
          · have : ((n : Int) != 0) = true := by simpa using h0
            rw [← this]
            exact t_val (name_v h1) truth_int
          · refine xs_cons (x_unpack (ts := [("num", _), ("mod", _)]) (ds := [.int ((n / 16 : Nat) : Int), .int ((n % 16 : Nat) : Int)]) ?_ rfl rfl) (xs_cons (x_set ?_ rfl) xs_nil)
            · rw [← hdiv, ← hmod]
              exact ev_blt O (.cons (eva_v (ev_name h1)) (.cons (eva_v ev_int) .nil (fun _ _ => rfl)) (fun _ _ => rfl)) (blt_divmod (by decide) (by decide)) (by simp) b3 rfl rfl
            · have hp := ap_pick (n % 16) (Nat.mod_lt _ (by decide))
              refine ev_bin (d1 := .byt [UInt8.ofNat (65 + n % 16)].toArray) ?_ (name_v (d := .byt val.toArray) (by exact h2)) (bin_bytes (by simp; omega))
              rw [← hp]
              exact .of (ev_bslice (name_v (by exact h3)) (name_v rfl) (.of (ev_bin (name_v rfl) (.of ev_int) bin_add)) (by decide))
          · rw [hv, apN, if_neg h0]
    refine xs_ex (P := fun ρ' => ρ'.lookup ("val" : Str) = some (.v (.byt (apN 8 i.natAbs []).toArray))) ?_ fun ρ' hv => xs_ret (x_ret (ev_name hv))
    refine Exists.elim (loop 8 i.natAbs [] _ hi (by simp) ?_ ?_ ?_) fun m ⟨ρ', hL, hv⟩ => ⟨ρ', x_while hL, hv⟩
    · rfl
    · rfl
    · rfl
end
end Mine

-- G5
namespace Mine

section
variable {W : Wd} {sc : Sc} {ρ ρ' : Vars} {k : Nat}
theorem x_for_ind {target iter : Expr} {body : List Stmt} {pos : Pos} {nm : Bool} {ds : List D} (Inv : List D → Vars → Prop) (hi : Iters W sc k target iter ρ nm ds) (hok : targetOk sc target = true) (hnm : nameOk target nm = true) (h0 : Inv ds ρ)
    (step : ∀ d rest ρ1, Inv (d :: rest) ρ1 → ∃ ρ2 ρ3, bindT target d ρ1 = some ρ2 ∧ Execs W sc k body ρ2 (.nxt ρ3) ∧ Inv rest ρ3)
    (hs : ∀ env x, foldedSetIterable iter env x = pure x := by intros; rfl) : ∃ ρ', Exec W sc k (.For target iter body [] pos) ρ (.nxt ρ') ∧ Inv [] ρ' := by
  have key : ∀ (l : List D) (ρ1 : Vars), Inv l ρ1 → ∃ ρ', Fold W sc k target body l ρ1 ρ' ∧ Inv [] ρ' := by
    intro l
    induction l with
    | nil => intro ρ1 h; exact ⟨ρ1, .nil, h⟩
    | cons d l ih =>
      intro ρ1 h
      obtain ⟨ρ2, ρ3, h1, h2, h3⟩ := step d l ρ1 h
      obtain ⟨ρ', h4, h5⟩ := ih ρ3 h3
      exact ⟨ρ', .cons h1 h2 h4, h5⟩
  obtain ⟨ρ', hf, hI⟩ := key ds ρ h0
  exact ⟨ρ', x_for hi hok hnm hf hs, hI⟩
theorem x_while_ind {test : Expr} {body : List Stmt} {pos : Pos} (Inv : Nat → Vars → Prop) (Post : Vars → Prop) {n : Nat} (h0 : Inv n ρ)
    (step : ∀ n ρ1, Inv n ρ1 → (Tests W sc k test ρ1 false ∧ Post ρ1) ∨ (Tests W sc k test ρ1 true ∧ ∃ ρ2 m, m < n ∧ Execs W sc k body ρ1 (.nxt ρ2) ∧ Inv m ρ2)) : ∃ ρ', Exec W sc k (.While test body [] pos) ρ (.nxt ρ') ∧ Post ρ' := by
  have key : ∀ (n : Nat) (ρ1 : Vars), Inv n ρ1 → ∃ m ρ', Loops W sc k test body m ρ1 ρ' ∧ Post ρ' := by
    intro n
    induction n using Nat.strongRecOn with
    | ind n ih =>
      intro ρ1 h
      rcases step n ρ1 h with ⟨h1, h2⟩ | ⟨h1, ρ2, m, hm, h2, h3⟩
      · exact ⟨0, ρ1, .done h1, h2⟩
      · obtain ⟨j, ρ', h4, h5⟩ := ih m hm ρ2 h3
        exact ⟨j + 1, ρ', .turn h1 h2 h4, h5⟩
  obtain ⟨m, ρ', hL, hP⟩ := key n ρ h0
  exact ⟨ρ', x_while hL, hP⟩
end

/-! ## plain forms -/
noncomputable abbrev tx (l : List Nat) : Str := ⟨l.toArray⟩
noncomputable abbrev natD (n : Nat) : D := D.int (n : Int)
noncomputable def intsD (l : List Nat) : D := .lst (l.map natD)
noncomputable def turnsD (u v : List Nat) : D := .tab [(23, intsD u), (49, intsD v)]
noncomputable def stepP (u v : List Nat) (c s : Nat) : Nat := (if c = 46 then u else v).getD s 0
noncomputable def movedP (u v : List Nat) : List Nat → Nat → Nat
  | [], s => s
  | c :: w, s => movedP u v w (stepP u v c s)
structure TurnOk (u : List Nat) : Prop where
  len : u.length = 3
  lt : ∀ s, u.getD s 0 < 3
theorem signs_tx (w : List Nat) : signs (tx w) = w.map fun c => D.str ⟨#[c]⟩ := by simp [signs]
theorem tx_dot {c : Nat} : ((⟨#[c]⟩ : Str) == (".": Str)) = decide (c = 46) := by
  rw [Bool.eq_iff_iff, beq_iff_eq, decide_eq_true_eq]
  have e : (".": Str) = ⟨#[46]⟩ := by decide
  rw [e]
  constructor
  · intro h; injection h with h; simpa using h
  · rintro rfl; rfl

section
variable {W : Wd} {sc : Sc} {ρ ρ' : Vars} {k : Nat}
theorem seqIndex_of {i n : Nat} (h : i < n) : seqIndex? (i : Int) n = some i := by
  unfold seqIndex?
  have h1 : ¬ ((i : Int) < 0) := by omega
  simp only [h1, if_false]
  split
  · simp
  · rename_i hh
    exfalso
    apply hh
    simp
    omega
theorem item_nats {l : List Nat} {i : Nat} (hi : i < l.length) (hl : i ≤ 1000) : ItemOk W (intsD l) (i : Int) (.int (l.getD i 0 : Nat)) := by
  refine item_lst (j := i) ?_ ?_ (by omega) (by omega)
  · rw [List.length_map]; exact seqIndex_of hi
  · rw [List.getElem?_map, List.getD_eq_getElem?_getD, List.getElem?_eq_getElem hi]; rfl

/-- turns[number][state] -/
theorem ev_turn {x : Str} {p p1 p2 : Pos} {e1 e2 : Expr} {u v : List Nat} (hu : TurnOk u) (hv : TurnOk v) {c s : Nat} (h : ρ.lookup x = some (.v (turnsD u v))) (h1 : EvR W sc k e1 ρ (.int (if c = 46 then 23 else 49))) (h2 : EvR W sc k e2 ρ (.int (s : Nat))) (hs : s < 3)
    (hs1 : ∀ o u, subscripted e1 false o (.int (if c = 46 then 23 else 49) u) = operate [o, .int (if c = 46 then 23 else 49) u] (getItem o (.int (if c = 46 then 23 else 49) u)) := by intros; with_unfolding_all rfl)
    (hs2 : ∀ o u, subscripted e2 false o (.int (s : Nat) u) = operate [o, .int (s : Nat) u] (getItem o (.int (s : Nat) u)) := by intros; with_unfolding_all rfl)
    (hd : (x == ("__debug__" : Str)) = false := by decide) : Evals W sc k (.Subscript (.Subscript (.Name x p) e1 p1) e2 p2) ρ (.int (stepP u v c s : Nat)) := by
  have hr : (([(23, intsD u), (49, intsD v)] : List (Int × D)).lookup (if c = 46 then 23 else 49)) = some (intsD (if c = 46 then u else v)) := by
    split <;> rfl
  have hlen : s < (if c = 46 then u else v).length := by split <;> simp [hu.len, hv.len, hs]
  exact ev_item (.of (ev_item (name_v h hd) h1 (item_tab hr) hs1)) h2 (item_nats hlen (by omega)) hs2

theorem c_moved (O : W.Ok) (fn : HasFn W 69) {u v w : List Nat} {s : Nat} (hu : TurnOk u) (hv : TurnOk v) (hs : s < 3) (ha : ∀ c ∈ w, c < 128) : Calls W (k + 1) "_law_moved" [.v (.int (s : Nat)), .v (.str (tx w)), .v (turnsD u v)] (.int (movedP u v w s : Nat)) := by
  refine calls_of (ps := ["state", "word", "turns"]) O fn ?_ (by decide) rfl ?_ ?_
  · intro pm code doc vs hl
    match vs, hl with
    | [v, w, x], _ => rfl
  · intro x hx
    have hx' : x = "state" ∨ x = "word" ∨ x = "turns" := by simpa using hx
    rcases hx' with rfl | rfl | rfl <;> (left; rfl)
  · refine xs_ex (x_for_ind (fun rest ρ => ∃ w' s', rest = (w'.map fun c => D.str ⟨#[c]⟩) ∧ movedP u v w' s' = movedP u v w s ∧ s' < 3 ∧ ρ.lookup ("state" : Str) = some (.v (.int (s' : Nat))) ∧ ρ.lookup ("turns" : Str) = some (.v (turnsD u v))) (ds := signs (tx w)) (it_str (name_v rfl) (by simpa using ha)) rfl rfl ?_ ?_) ?_
    · exact ⟨w, s, signs_tx w, rfl, hs, rfl, rfl⟩
    · rintro d rest ρ1 ⟨w', s', e, hm, hs', h1, h2⟩
      cases w' with
      | nil => cases e
      | cons c w' =>
        rw [List.map_cons] at e
        injection e with e1 e2
        subst e1
        refine ⟨_, _, rfl, xs_cons (x_set (ev_turn (c := c) hu hv (by exact h2) (.of (ev_if (b := decide (c = 46)) ?_ ?_ ?_)) (name_v (by exact h1)) hs') rfl) xs_nil, w', stepP u v c s', e2, hm, ?_, rfl, by exact h2⟩
        · rw [← tx_dot]
          exact t_cmp (name_v rfl) (.of ev_str) cmp_eq_str
        · intro h
          rw [if_pos (by simpa using h)]
          exact ev_int
        · intro h
          rw [if_neg (by simpa using h)]
          exact ev_int
        · unfold stepP; split
          · exact hu.lt _
          · exact hv.lt _
    · rintro ρ' ⟨w', s', e, hm, _, h1, _⟩
      cases w' with
      | nil =>
        rw [← hm]
        exact xs_ret (x_ret (ev_name h1))
      | cons c w' => cases e
end
end Mine

-- G6
namespace Mine

/-! ## texts as lists of signs -/
theorem tx_len (l : List Nat) : (tx l).length = l.length := by show l.toArray.size = _; simp
theorem tx_app (a b : List Nat) : tx a ++ tx b = tx (a ++ b) := by
  show (⟨a.toArray ++ b.toArray⟩ : Str) = ⟨(a ++ b).toArray⟩
  simp
theorem tx_inj {a b : List Nat} (h : tx a = tx b) : a = b := by
  injection h with h
  simpa using congrArg Array.toList h
theorem dot_tx : (".": Str) = tx [46] := by decide
theorem at_tx : ("@": Str) = tx [64] := by decide
theorem C_tx : ("C": Str) = tx [67] := by decide
theorem nil_tx : ("": Str) = tx [] := by decide
theorem slice_take {l : List Nat} {j : Nat} (hj : j ≤ l.length) : Txt.slice (tx l) none (some (j : Int)) = tx (l.take j) := by
  have hlen : (tx l).length = l.length := tx_len l
  have e1 : Builtin.Str.strSliceIndices none (some (j : Int)) 1 (tx l).length = (List.range (j - 0)).map (fun k => 0 + k) := by
    rw [StrLaws.sliceIdx_none_lo]
    exact StrLaws.strSliceIndices_plain (a := 0) (Nat.zero_le _) (by rw [hlen]; exact hj)
  have e2 : (Builtin.Str.strSliceIndices none (some (j : Int)) 1 (tx l).length).filterMap ((tx l).cps[·]?) = (l.drop 0).take (j - 0) := by
    rw [StrLaws.sliceIdx_none_lo]
    have := StrLaws.sliced_plain (tx l) (a := 0) (b := j) (Nat.zero_le _) (by rw [hlen]; exact hj)
    simpa using this
  unfold Txt.slice
  split
  · rename_i h
    rw [e1] at h
    simp [hlen] at h
    subst h
    rw [List.take_length]
  · rw [e2]; simp
theorem slice_last {l : List Nat} (h : l ≠ []) : Txt.slice (tx l) none (some (-1)) = tx l.dropLast := by
  have hp : 0 < l.length := List.length_pos_iff.mpr h
  have hlen : (tx l).length = l.length := tx_len l
  have e : Builtin.Str.strSliceIndices none (some (-1)) 1 (tx l).length = Builtin.Str.strSliceIndices none (some ((l.length - 1 : Nat) : Int)) 1 (tx l).length := by
    rw [StrLaws.sliceIdx_neg_hi none _ (by decide) (by rw [hlen]; omega), hlen]
    congr 2
    omega
  have e' : Txt.slice (tx l) none (some (-1)) = Txt.slice (tx l) none (some ((l.length - 1 : Nat) : Int)) := by
    unfold Txt.slice
    rw [e]
  rw [e', slice_take (by omega), List.dropLast_eq_take]
theorem char_last {l : List Nat} {c : Nat} : Txt.charAt (tx (l ++ [c])) (-1) = some c := by
  unfold Txt.charAt
  refine StrLaws.at_neg (by decide) ?_ ?_
  · rw [tx_len]; simp; omega
  · rw [tx_len]
    have : ((-1 : Int) + ((l ++ [c]).length : Nat)).toNat = l.length := by rw [List.length_append, List.length_singleton]; omega
    rw [this]
    simp

noncomputable def grownP (w : List Nat) : List Nat := match w with
  | [] => []
  | c :: _ => if c = 46 then 67 :: w else w
/-- what is told of a text grown on from t -/
noncomputable def grownOn (t w : List Nat) : List Nat := if t = [] then grownP w else t ++ w
noncomputable def SignsOk (w : List Nat) : Prop := ∀ c ∈ w, c = 46 ∨ c = 64
theorem build_dot (t : List Nat) : buildName (if ((tx t).length != 0) = true then some (tx t) else none) (some "") = tx (grownOn t [46]) := by
  unfold buildName grownOn grownP
  cases t with
  | nil => decide
  | cons c t =>
    have e : ((tx (c :: t)).length != 0) = true := by rw [tx_len]; simp
    rw [if_pos e, if_neg (by simp)]
    show tx (c :: t) ++ (".": Str) ++ ("": Str) = _
    rw [dot_tx, nil_tx, tx_app, tx_app]
    simp
theorem append_at (t : List Nat) : appendMod (tx t) "" = tx (grownOn t [64]) := by
  unfold appendMod grownOn grownP
  rw [if_neg (by decide)]
  rw [at_tx, nil_tx, tx_app, tx_app]
  cases t <;> simp
theorem grownOn_cons {t : List Nat} {c : Nat} {w : List Nat} (hc : c = 46 ∨ c = 64) : grownOn (grownOn t [c]) w = grownOn t (c :: w) := by
  unfold grownOn grownP
  cases t with
  | nil => rcases hc with rfl | rfl <;> simp
  | cons => simp

section
variable {W : Wd} {sc : Sc} {ρ ρ' : Vars} {k : Nat}
/-- text or None -/
theorem ev_orNone {x : Str} {p pos p2 : Pos} {n : Nat} {t : List Nat} (h : ρ.lookup x = some (.v (.str (tx t)))) (hl : t.length ≤ 100000) (hd : (x == ("__debug__" : Str)) = false := by decide) :
    Evals W sc k (.BoolOp .Or [.Name x p, .Constant .none n p2] pos) ρ (optD (if ((tx t).length != 0) = true then some (tx t) else none)) := by
  have := ev_or (W := W) (sc := sc) (k := k) (ρ := ρ) (pos := pos) (y := .Constant .none n p2) (ev_name (pos := p) h hd) (truth_str (by rw [tx_len]; omega)) (fun _ => ev_none)
  split
  · rename_i hb; rw [if_pos hb] at this; exact this
  · rename_i hb; rw [if_neg hb] at this; exact this

theorem euro_no {t : Str} : ((("" : Str)) == euro) = true → Txt.contains t "." = true → ((Txt.partition t ".").2.2 == ("ISO8859-1" : Str)) = false := fun h => by exact absurd h (by decide)

theorem c_grown (O : W.Ok) (fn : HasFn W 70) (fb : HasFn W 4) (fa : HasFn W 3) {w : List Nat} (hw : SignsOk w) (hl : w.length ≤ 1000) : Calls W (k + 2) "_law_grown" [.v (.str (tx w))] (.str (tx (grownP w))) := by
  refine calls_of (ps := ["word"]) O fn ?_ (by decide) rfl ?_ ?_
  · intro pm code doc vs hl
    match vs, hl with
    | [v], _ => rfl
  · intro x hx
    rw [List.mem_singleton.mp hx]; left; rfl
  · refine xs_cons (x_set ev_str rfl) ?_
    refine xs_ex (x_for_ind (fun rest ρ => ∃ t w', rest = (w'.map fun c => D.str ⟨#[c]⟩) ∧ SignsOk w' ∧ ((t = [] ∧ w'.length ≤ 1000) ∨ (t ≠ [] ∧ t.length + w'.length ≤ 1001)) ∧ grownOn t w' = grownP w ∧ ρ.lookup ("text" : Str) = some (.v (.str (tx t)))) (ds := signs (tx w)) (it_str (name_v rfl) ?_) rfl rfl ?_ ?_) ?_
    · rw [List.all_toArray]
      exact List.all_eq_true.mpr fun c hc => by rcases hw c hc with rfl | rfl <;> rfl
    · exact ⟨[], w, signs_tx w, hw, .inl ⟨rfl, hl⟩, by simp [grownOn], rfl⟩
    · rintro d rest ρ1 ⟨t, w', e, hs, hlen, hg, h1⟩
      cases w' with
      | nil => cases e
      | cons c w' =>
        rw [List.map_cons] at e
        injection e with e1 e2
        subst e1
        have hc := hs c List.mem_cons_self
        rw [List.length_cons] at hlen
        have htl : t.length ≤ 1001 := by rcases hlen with ⟨h, _⟩ | ⟨_, h⟩
                                         · rw [h]; simp
                                         · omega
        refine ⟨_, _, rfl, xs_cons (x_set (d := .str (tx (grownOn t [c]))) (ev_if (b := decide (c = 46)) ?_ ?_ ?_) rfl) xs_nil, grownOn t [c], w', e2, fun c hc => hs c (List.mem_cons_of_mem _ hc), ?_, by rw [grownOn_cons hc]; exact hg, rfl⟩
        · rw [← tx_dot]
          exact t_cmp (name_v rfl) (.of ev_str) cmp_eq_str
        · intro h
          have h' : c = 46 := by simpa using h
          subst h'
          rw [← build_dot]
          refine ev_call O fb rfl (.cons (eva_v (ev_tup (ds := [_, optD (some "")]) (.cons (ev_orNone (by exact h1) (by omega)) (.cons ev_str .nil (fun _ _ => rfl)) (fun _ _ => rfl)) (by show 2 ≤ _; decide))) .nil (fun _ _ => rfl)) (c_build O fb ?_ ?_) (by simp)
          · intro x hx
            split at hx
            · cases hx; rw [tx_len]; omega
            · cases hx
          · intro x hx; cases hx; decide
        · intro h
          have h' : c = 64 := hc.resolve_left (by simpa using h)
          subst h'
          rw [← append_at]
          exact ev_call O fa rfl (.cons (eva_v (ev_name (by exact h1))) (.cons (eva_v ev_str) .nil (fun _ _ => rfl)) (fun _ _ => rfl)) (c_append O fa (by rw [tx_len]; omega) (by decide) euro_no) (by simp)
        · unfold grownOn
          rcases hlen with ⟨ht, hlen⟩ | ⟨ht, hlen⟩
          · rw [if_pos ht]
            right
            show (if c = 46 then 67 :: [c] else [c]) ≠ [] ∧ (if c = 46 then 67 :: [c] else [c]).length + _ ≤ _
            split <;> simp <;> omega
          · rw [if_neg ht]
            right
            simp
            omega
    · rintro ρ' ⟨t, w', e, _, _, hg, h1⟩
      cases w' with
      | nil =>
        have : grownOn t [] = t := by unfold grownOn grownP; cases t <;> simp
        rw [this] at hg
        rw [← hg]
        exact xs_ret (x_ret (ev_name h1))
      | cons c w' => cases e
end
end Mine

-- G7
namespace Mine

noncomputable def joinedP (full : List Nat) : List Nat := match full with
  | [] => [67]
  | c :: r => if c = 64 then c :: r else 67 :: c :: r
theorem joined_nil {x : List Nat} (hx : SignsOk x) : buildName (if ((tx (grownP x)).length != 0) = true then some (tx (grownP x)) else none) none = tx (joinedP x) := by
  cases x with
  | nil => decide
  | cons c x =>
    have e : ((tx (grownP (c :: x))).length != 0) = true := by
      rw [tx_len]; unfold grownP; dsimp only; split <;> simp
    rw [if_pos e]
    show tx (grownP (c :: x)) = _
    unfold grownP joinedP
    rcases hx c List.mem_cons_self with rfl | rfl <;> rfl
theorem joined_dot {x b : List Nat} (hx : SignsOk x) : buildName (if ((tx (grownP x)).length != 0) = true then some (tx (grownP x)) else none) (some (tx b)) = tx (joinedP (x ++ 46 :: b)) := by
  cases x with
  | nil =>
    show ("C" : Str) ++ ("." : Str) ++ tx b = _
    rw [C_tx, dot_tx, tx_app, tx_app]
    rfl
  | cons c x =>
    have e : ((tx (grownP (c :: x))).length != 0) = true := by
      rw [tx_len]; unfold grownP; dsimp only; split <;> simp
    rw [if_pos e]
    show tx (grownP (c :: x)) ++ ("." : Str) ++ tx b = _
    rw [dot_tx, tx_app, tx_app]
    unfold grownP joinedP
    rcases hx c List.mem_cons_self with rfl | rfl <;> simp
theorem joined_at {x b : List Nat} (hx : SignsOk x) (hb : SignsOk b) : appendMod (tx (grownP x)) (tx b) = tx (joinedP (x ++ 64 :: b)) ∧ (tx b == euro) = false := by
  have he : (tx b == euro) = false := by
    rw [beq_eq_false_iff_ne]
    intro h
    have e : euro = tx [101, 117, 114, 111] := by decide
    rw [e] at h
    have := tx_inj h
    subst this
    rcases hb 101 (by simp) with h | h <;> cases h
  refine ⟨?_, he⟩
  unfold appendMod
  rw [if_neg (by rw [he]; simp), at_tx, tx_app, tx_app]
  cases x with
  | nil => rfl
  | cons c x =>
    unfold grownP joinedP
    rcases hx c List.mem_cons_self with rfl | rfl <;> simp
theorem SignsOk.app {a b : List Nat} (ha : SignsOk a) (hb : SignsOk b) : SignsOk (a ++ b) := fun c hc => (List.mem_append.mp hc).elim (ha c) (hb c)
theorem SignsOk.left {a b : List Nat} (h : SignsOk (a ++ b)) : SignsOk a := fun c hc => h c (List.mem_append_left _ hc)

section
variable {W : Wd} {sc : Sc} {ρ ρ' : Vars} {k : Nat}
theorem ev_tcat {e1 e2 : Expr} {pos : Pos} {a b : List Nat} (h1 : EvR W sc k e1 ρ (.str (tx a))) (h2 : EvR W sc k e2 ρ (.str (tx b))) (hl : a.length + b.length ≤ 1000000) : Evals W sc k (.BinOp e1 .Add e2 pos) ρ (.str (tx (a ++ b))) := by
  rw [← tx_app]
  exact ev_bin h1 h2 (bin_cat (by rw [tx_len, tx_len]; exact hl))

theorem grownP_len (w : List Nat) : (grownP w).length ≤ w.length + 1 := by
  unfold grownP
  split
  · simp
  · split <;> simp
theorem ev_orN {e : Expr} {pos p2 : Pos} {n : Nat} {t : List Nat} (h : Evals W sc k e ρ (.str (tx t))) (hl : t.length ≤ 100000) :
    Evals W sc k (.BoolOp .Or [e, .Constant .none n p2] pos) ρ (optD (if ((tx t).length != 0) = true then some (tx t) else none)) := by
  have := ev_or (W := W) (sc := sc) (k := k) (ρ := ρ) (pos := pos) (y := .Constant .none n p2) h (truth_str (by rw [tx_len]; omega)) (fun _ => ev_none)
  split
  · rename_i hb; rw [if_pos hb] at this; exact this
  · rename_i hb; rw [if_neg hb] at this; exact this
theorem ev_cutlast {value e : Expr} {p pos : Pos} {l : List Nat} {c : Nat} (h1 : EvR W sc k value ρ (.str (tx (l ++ [c])))) (h2 : EvR W sc k e ρ (.int (-1))) (hl : l.length ≤ 1000) : Evals W sc k (.Subscript value (.Slice none (some e) none p) pos) ρ (.str (tx l)) := by
  have e1 := ev_cut (p := p) (pos := pos) h1 h2 (by rw [tx_len, List.length_append, List.length_singleton]; omega)
  rw [slice_last (by simp), List.dropLast_concat] at e1
  exact e1
theorem c_joined (O : W.Ok) (fn : HasFn W 71) (fg : HasFn W 70) (fb : HasFn W 4) (fa : HasFn W 3) {a m b : List Nat} (ha : SignsOk a) (hm : SignsOk m) (hb : SignsOk b) (la : a.length ≤ 300) (lm : m.length ≤ 300) (lb : b.length ≤ 300) :
    Calls W (k + 3) "_law_joined" [.v (.str (tx a)), .v (.str (tx m)), .v (.str (tx b))] (.str (tx (joinedP (a ++ m ++ b)))) := by
  refine calls_of (ps := ["ahead", "between", "behind"]) O fn ?_ (by decide) rfl ?_ ?_
  · intro pm code doc vs hl
    match vs, hl with
    | [v, w, x], _ => rfl
  · intro x hx
    have hx' : x = "ahead" ∨ x = "between" ∨ x = "behind" := by simpa using hx
    rcases hx' with rfl | rfl | rfl <;> (left; rfl)
  · rcases List.eq_nil_or_concat m with rfl | ⟨m', c, rfl⟩
    · refine xs_if_ret (t_cmp (name_v rfl) (.of ev_str) cmp_eq_str) (by decide) (xs_ret (x_ret ?_))
      rw [List.append_nil]
      rw [← joined_nil (ha.app hb)]
      have gl : (grownP (a ++ b)).length ≤ 1000 := by
        have := grownP_len (a ++ b)
        rw [List.length_append] at this
        omega
      refine ev_call O fb rfl (.cons (eva_v (ev_tup (ds := [optD (if ((tx (grownP (a ++ b))).length != 0) = true then some (tx (grownP (a ++ b))) else none), optD none]) (.cons ?_ (.cons ev_none .nil (fun _ _ => rfl)) (fun _ _ => rfl)) (by show 2 ≤ _; decide))) .nil (fun _ _ => rfl)) (c_build O fb ?_ ?_) (by simp)
      · exact ev_orN (ev_call O fg rfl (.cons (eva_v (ev_tcat (name_v rfl) (name_v rfl) (by omega))) .nil (fun _ _ => rfl)) (c_grown O fg fb fa (ha.app hb) (by rw [List.length_append]; omega)) (by simp)) (by omega)
      · intro x hx
        split at hx
        · cases hx; rw [tx_len]; omega
        · cases hx
      · intro x hx; cases hx
    · rw [List.concat_eq_append] at hm lm ⊢
      have hc := hm c (by simp)
      have hm' := hm.left
      rw [List.length_append, List.length_singleton] at lm
      have hne : ((tx (m' ++ [c])) == ("" : Str)) = false := by
        rw [nil_tx, beq_eq_false_iff_ne]
        intro h
        have := tx_inj h
        simp at this
      have gl : (grownP (a ++ m')).length ≤ 1000 := by
        have := grownP_len (a ++ m')
        rw [List.length_append] at this
        omega
      refine xs_if_skip (t_cmp (name_v rfl) (.of ev_str) cmp_eq_str) hne ?_
      refine xs_cons (x_set (d := .str (tx (grownP (a ++ m')))) ?_ rfl) ?_
      · exact ev_call O fg rfl (.cons (eva_v (ev_tcat (name_v rfl) (.of (ev_cutlast (name_v rfl) (.of (ev_neg ev_int)) (by omega))) (by omega))) .nil (fun _ _ => rfl)) (c_grown O fg fb fa (ha.app hm') (by rw [List.length_append]; omega)) (by simp)
      · have e2 : Txt.item (tx (m' ++ [c])) (-1) = ⟨#[c]⟩ := by unfold Txt.item; rw [char_last]; rfl
        refine xs_ret (x_ret (ev_if (b := decide (c = 46)) ?_ ?_ ?_))
        · rw [← tx_dot, ← e2]
          exact t_cmp (.of (ev_item (name_v rfl) (.of (ev_neg ev_int)) (item_sign (char_last) (by omega) (by omega)))) (.of ev_str) cmp_eq_str
        · intro h
          have h' : c = 46 := by simpa using h
          subst h'
          have : a ++ (m' ++ [46]) ++ b = (a ++ m') ++ 46 :: b := by simp
          rw [this, ← joined_dot (ha.app hm')]
          refine ev_call O fb rfl (.cons (eva_v (ev_tup (ds := [_, optD (some (tx b))]) (.cons (ev_orNone rfl (by omega)) (.cons (ev_name rfl) .nil (fun _ _ => rfl)) (fun _ _ => rfl)) (by show 2 ≤ _; decide))) .nil (fun _ _ => rfl)) (c_build O fb ?_ ?_) (by simp)
          · intro x hx
            split at hx
            · cases hx; rw [tx_len]; omega
            · cases hx
          · intro x hx; cases hx; rw [tx_len]; omega
        · intro h
          have h' : c = 64 := hc.resolve_left (by simpa using h)
          subst h'
          have : a ++ (m' ++ [64]) ++ b = (a ++ m') ++ 64 :: b := by simp
          obtain ⟨j1, j2⟩ := joined_at (ha.app hm') hb
          rw [this, ← j1]
          exact ev_call O fa rfl (.cons (eva_v (ev_name rfl)) (.cons (eva_v (ev_name rfl)) .nil (fun _ _ => rfl)) (fun _ _ => rfl)) (c_append O fa (by rw [tx_len]; omega) (by rw [tx_len]; omega) (fun h => by rw [j2] at h; cases h)) (by simp)
end
end Mine

-- G8
namespace Mine

noncomputable def numP (c : Nat) : Nat := if c = 46 then 23 else 49
noncomputable def costP (a s : Nat) : Nat := (([[0, 1, 2], [1, 0, 2], [2, 2, 0]] : List (List Nat)).getD a []).getD s 0
noncomputable def walkW (u v : List Nat) (p : Nat) : List Nat → Nat → Nat → Nat × Nat
  | [], s, w => (s, w)
  | c :: r, s, w => if c = 67 then walkW u v p r s w else walkW u v p r (stepP u v c s) (w * numP c % p)
noncomputable def worthP (u v : List Nat) (a p : Nat) (t : List Nat) : Nat := let r := walkW u v p t 0 1; r.2 * costP a r.1 % p
theorem cost_is : ∀ a : Nat, a < 3 → ∀ s : Nat, s < 3 → substCost (Txt.item "xXy" a) (Txt.item "xXy" s) = (costP a s : Nat) ∧ Txt.charAt "xXy" a = some (([120, 88, 121] : List Nat).getD a 0) ∧ Builtin.Str.tooLong (Txt.lower (Txt.item "xXy" a)).length = false := by decide +kernel
theorem tx_C {c : Nat} : ((⟨#[c]⟩ : Str) != ("C" : Str)) = !decide (c = 67) := by
  show (!((⟨#[c]⟩ : Str) == ("C" : Str))) = _
  congr 1
  rw [Bool.eq_iff_iff, beq_iff_eq, decide_eq_true_eq]
  rw [C_tx]
  constructor
  · intro h; injection h with h; simpa using h
  · rintro rfl; rfl

/-- the table of token types, as far as it is asked for -/
noncomputable def TokAt (W : Wd) : Prop := ∃ d f t t', W.mg "EXACT_TOKEN_TYPES" = some (.ref d) ∧ Heap.MapOf (PySem.strKind W.prog W.w) W.s0.heap d f ∧ f "." = some (.int 23 t) ∧ f "@" = some (.int 49 t')

noncomputable def env0 (names : List (Str × NameKind)) : Env := { scope := { kind := .function, names := names, isGenerator := false, isCoroutine := false, more := [] }, locals := 0, globals := 0, cells := [] }
theorem kind_env {env : Env} {names : List (Str × NameKind)} (hn : env.scope.names = names) : env.kindOf = (env0 names).kindOf := by
  funext x
  show env.scope.names.lookup x = names.lookup x
  rw [hn]
theorem block_env {env : Env} {names : List (Str × NameKind)} (hk : env.scope.kind = .function) : env.blockKind = (env0 names).blockKind := by
  unfold Env.blockKind
  rw [hk]
  rfl
theorem swapped_env {env : Env} {names : List (Str × NameKind)} {ts : List Expr} {v : Expr} (hk : env.scope.kind = .function) (hn : env.scope.names = names) : swappedStores ts v env = swappedStores ts v (env0 names) := by
  unfold swappedStores
  rw [kind_env hn, block_env (names := names) hk]
theorem swaps_env {env : Env} {names : List (Str × NameKind)} {v : Expr} {t : Str} {p : Pos} {n : Nat} (hk : env.scope.kind = .function) (hn : env.scope.names = names) : swapsWith v (some (.Name t p)) n env = swapsWith v (some (.Name t p)) n (env0 names) := by
  unfold swapsWith
  rw [kind_env hn, block_env (names := names) hk]

section
variable {W : Wd} {sc : Sc} {ρ ρ' : Vars} {k : Nat}
theorem x_unpackN {ts : List (Str × Pos)} {n : Nat} {tp pos : Pos} {value : Expr} {ds : List D} (h : Evals W sc k value ρ (.tup ds)) (hl : ts.length = ds.length) (hc : (ts.all fun t => canStore sc t.1) = true)
    (h2 : swappedStores [.Tuple (names_ ts) n tp] value (env0 sc.names) = pure none) (h1 : ∀ env, swapsWithSole [.Tuple (names_ ts) n tp] value pos.line env = pure false := by intros; rfl) :
    Exec W sc k (.Assign [.Tuple (names_ ts) n tp] value pos) ρ (.nxt (boundAll ts ds ρ)) := by
  refine ⟨?_⟩; intro env A K F s Q E R S q
  refine PyProof.Rows.Assign_Tuple (h.out env A K F s _ E R S fun F1 s1 v a r => ?_) (h1 env) ((swapped_env S.kind S.names).trans h2)
  exact assign_tup R (S.adv a) r hl hc fun s2 S2 => q _ _ _ (a.grows S.keep) ⟨rfl, S2⟩
theorem x_setN {x : Str} {p pos : Pos} {value : Expr} {d : D} (h : Evals W sc k value ρ d) (hx : canStore sc x = true)
    (hs : swapsWith value (some (.Name x p)) pos.line (env0 sc.names) = pure false) : Exec W sc k (.Assign [.Name x p] value pos) ρ (.nxt ((x, .v d) :: ρ)) := by
  refine ⟨?_⟩; intro env A K F s Q E R S q
  refine wpAny_Assign_Name (h.out env A K F s _ E R S fun F1 s1 v a r => ?_) ((swaps_env S.kind S.names).trans hs)
  exact S.store_v a hx r fun s2 S2 => q _ _ _ (a.grows S.keep) ⟨rfl, S2⟩
theorem mapOf_keeps {h h' : Heap} {d : Addr} {f : Str → Option Value} (m : Heap.MapOf (PySem.strKind W.prog W.w) h d f) (hs : Sub h.get? h'.get?) : Heap.MapOf (PySem.strKind W.prog W.w) h' d f := by
  obtain ⟨o, es, ep, e, r⟩ := m
  exact ⟨o, es, ep, hs _ _ e, r⟩
theorem ev_exact {x : Str} {p p1 pos : Pos} {c : Nat} (O : W.Ok) (hT : TokAt W) (hk : sc.names.lookup ("EXACT_TOKEN_TYPES" : Str) = some .globalImplicit) (hc : c = 46 ∨ c = 64) (hx : ρ.lookup x = some (.v (.str ⟨#[c]⟩))) (hd : (x == ("__debug__" : Str)) = false := by decide) :
    Evals W sc k (.Subscript (.Name "EXACT_TOKEN_TYPES" p) (.Name x p1) pos) ρ (.int (numP c : Nat)) := by
  refine ⟨?_⟩; intro env A K F s Q E R S q
  obtain ⟨d, f, t, t', h1, M, h2, h3⟩ := hT
  refine Subscript_ (wpAny_Name (S.glob' O hk h1 ?_) (by decide))
  refine (ev_name hx hd).out env A K F s _ E R S fun F1 s1 v1 a1 r1 => ?_
  cases r1 with
  | str _ u =>
    have M1 := mapOf_keeps M ((S.adv a1).top)
    have hf : ∃ t2, f ⟨#[c]⟩ = some (.int (numP c : Nat) t2) := by
      rcases hc with rfl | rfl
      · exact ⟨t, h2⟩
      · exact ⟨t', h3⟩
    obtain ⟨t2, hf⟩ := hf
    refine tail_any M1.typeIs slot_dict_getitem.lookup (wpAny_getItem_of (by simp [PySem.strKind, Value.isStrOf]) M1 hf ?_) (by rfl)
    exact q _ _ _ (a1.trans (.tok a1.sup _)) (.int _ _)

theorem c_worth (O : W.Ok) (hT : TokAt W) (fn : HasFn W 72) (fs : HasFn W 62) {t1 t2 : Tok} (m1 : W.mg "_CASE_COST" = some (.int 1 t1)) (m2 : W.mg "_MOVE_COST" = some (.int 2 t2)) {u v full : List Nat} {a p : Nat} (hu : TurnOk u) (hv : TurnOk v) (hw : SignsOk full) (hl : full.length ≤ 1000) (ha : a < 3) (hp0 : 0 < p) (hp : p < 100) :
    Calls W (k + 2) "_law_worth" [.v (.str (tx (joinedP full))), .v (turnsD u v), .v (.int (a : Nat)), .v (.int (p : Nat))] (.int (worthP u v a p (joinedP full) : Nat)) := by
  have ht : ∀ c ∈ joinedP full, c = 46 ∨ c = 64 ∨ c = 67 := by
    intro c hc
    unfold joinedP at hc
    split at hc
    · simp at hc; exact .inr (.inr hc)
    · split at hc
      · exact (hw c hc).imp id .inl
      · rcases List.mem_cons.mp hc with rfl | hc
        · exact .inr (.inr rfl)
        · exact (hw c hc).imp id .inl
  have hfirst : ∃ c r, joinedP full = c :: r ∧ (c = 67 ∨ c = 64) := by
    unfold joinedP
    split
    · exact ⟨67, [], rfl, .inl rfl⟩
    · split
      · rename_i h; exact ⟨_, _, rfl, .inr h⟩
      · exact ⟨67, _, rfl, .inl rfl⟩
  have htl : (joinedP full).length ≤ 1001 := by
    unfold joinedP
    split
    · simp
    · rw [List.length_cons] at hl
      split <;> simp <;> omega
  generalize joinedP full = t at ht hfirst htl
  refine calls_of (ps := ["text", "turns", "aim", "prime"]) O fn ?_ (by decide) rfl ?_ ?_
  · intro pm code doc vs hl
    match vs, hl with
    | [v, w, x, y], _ => rfl
  · intro x hx
    have hx' : x = "text" ∨ x = "turns" ∨ x = "aim" ∨ x = "prime" := by simpa using hx
    rcases hx' with rfl | rfl | rfl | rfl <;> (left; rfl)
  · have e1 : Txt.slice (tx t) none (some ((1 : Nat) : Int)) = tx (t.take 1) := by
      refine slice_take ?_
      obtain ⟨c, r, h, _⟩ := hfirst
      rw [h]; simp
    have hin : ([("C" : Str), "@"].any (· == Txt.slice (tx t) none (some 1))) = true := by
      have e1' : Txt.slice (tx t) none (some 1) = tx (t.take 1) := e1
      rw [e1']
      obtain ⟨c, r, h, hc⟩ := hfirst
      rw [h]
      rcases hc with rfl | rfl <;> (simp only [List.take_succ_cons, List.take_zero]; decide)
    refine xs_if_skip (t_cmp (.of (ev_cut (name_v rfl) (.of ev_int) (by rw [tx_len]; omega))) (.of (ev_tup (ds := ([("C" : Str), "@"]).map D.str) (.cons ev_str (.cons ev_str .nil (fun _ _ => rfl)) (fun _ _ => rfl)) (by decide))) (cmp_notin_tup _)) (by rw [hin]; rfl) ?_
    refine xs_cons (x_unpackN (ts := [("state", _), ("worth", _)]) (ds := [.int 0, .int 1]) (ev_tup (.cons ev_int (.cons ev_int .nil (fun _ _ => rfl)) (fun _ _ => rfl))) rfl rfl rfl) ?_
    refine xs_ex (x_for_ind (fun rest ρ => ∃ t' s' w', rest = (t'.map fun c => D.str ⟨#[c]⟩) ∧ (∀ c ∈ t', c = 46 ∨ c = 64 ∨ c = 67) ∧ walkW u v p t' s' w' = walkW u v p t 0 1 ∧ s' < 3 ∧ w' < 100 ∧ ρ.lookup ("state" : Str) = some (.v (.int (s' : Nat))) ∧ ρ.lookup ("worth" : Str) = some (.v (.int (w' : Nat))) ∧ ρ.lookup ("turns" : Str) = some (.v (turnsD u v)) ∧ ρ.lookup ("aim" : Str) = some (.v (.int (a : Nat))) ∧ ρ.lookup ("prime" : Str) = some (.v (.int (p : Nat)))) (ds := signs (tx t)) (it_str (name_v rfl) ?_) rfl rfl ?_ ?_) ?_
    · rw [List.all_toArray]
      exact List.all_eq_true.mpr fun c hc => by rcases ht c hc with rfl | rfl | rfl <;> rfl
    · exact ⟨t, 0, 1, signs_tx t, ht, rfl, by decide, by decide, rfl, rfl, rfl, rfl, rfl⟩
    · rintro d rest ρ1 ⟨t', s', w', e, hs, hm, hs3, hw1, h1, h2, h3, h4, h5⟩
      cases t' with
      | nil => cases e
      | cons c t' =>
        rw [List.map_cons] at e
        injection e with e1 e2
        subst e1
        have hc := hs c List.mem_cons_self
        have hs' : ∀ c ∈ t', c = 46 ∨ c = 64 ∨ c = 67 := fun c hc => hs c (List.mem_cons_of_mem _ hc)
        by_cases h67 : c = 67
        · refine ⟨_, _, rfl, xs_if_skip (t_cmp (name_v rfl) (.of ev_str) cmp_ne_str) (by rw [tx_C]; simp [h67]) xs_nil, t', s', w', e2, hs', ?_, hs3, hw1, by exact h1, by exact h2, by exact h3, by exact h4, by exact h5⟩
          rw [← hm]
          conv => rhs; unfold walkW
          rw [if_pos h67]
        · have hc' : c = 46 ∨ c = 64 := by rcases hc with h | h | h; exact .inl h; exact .inr h; exact absurd h h67
          refine ⟨_, _, rfl, xs_if_go (t_cmp (name_v rfl) (.of ev_str) cmp_ne_str) (by rw [tx_C]; simp [h67]) (xs_cons (x_set (ev_exact O hT rfl hc' rfl) rfl) (xs_cons (x_swap2 (d := .int (stepP u v c s' : Nat)) (e := .int ((w' * numP c % p : Nat) : Int)) (ev_tup (ds := [_, _]) (.cons ?_ (.cons ?_ .nil (fun _ _ => rfl)) (fun _ _ => rfl)) (by show 2 ≤ _; decide)) rfl rfl (fun _ => rfl) (fun env h1 h2 => (swapped_env h1 h2).trans rfl)) xs_nil)) xs_nil, t', stepP u v c s', w' * numP c % p, e2, hs', ?_, ?_, ?_, rfl, rfl, by exact h3, by exact h4, by exact h5⟩
          · refine ev_turn hu hv (by exact h3) (name_v ?_) (name_v (by exact h1)) hs3
            have : (numP c : Nat) = (if c = 46 then (23 : Int) else 49) := by unfold numP; split <;> rfl
            rw [← this]; rfl
          · have e : ((w' * numP c % p : Nat) : Int) = ((w' : Int) * (numP c : Nat)).fmod (p : Nat) := by
              rw [Int.fmod_eq_emod_of_nonneg _ (by omega)]; push_cast; rfl
            rw [e]
            have hn : numP c ≤ 49 := by unfold numP; split <;> omega
            exact ev_bin (.of (ev_bin (name_v (by exact h2)) (name_v rfl) (bin_mul (by left; omega)))) (name_v (by exact h5)) (bin_mod (by omega))
          · rw [← hm]
            conv => rhs; unfold walkW
            rw [if_neg h67]
          · unfold stepP; split
            · exact hu.lt _
            · exact hv.lt _
          · exact Nat.lt_trans (Nat.mod_lt _ hp0) hp
    · rintro ρ' ⟨t', s', w', e, _, hm, hs3, hw1, h1, h2, h3, h4, h5⟩
      cases t' with
      | cons c t' => cases e
      | nil =>
        have hm' : walkW u v p t 0 1 = (s', w') := by rw [← hm]; rfl
        unfold worthP
        rw [hm']
        obtain ⟨c1, c2, c3⟩ := cost_is a ha s' hs3
        obtain ⟨_, c5, c6⟩ := cost_is s' hs3 s' hs3
        have e : ((w' * costP a s' % p : Nat) : Int) = ((w' : Int) * (costP a s' : Nat)).fmod (p : Nat) := by
          rw [Int.fmod_eq_emod_of_nonneg _ (by omega)]; push_cast; rfl
        show Execs _ _ _ _ _ (.ret (.int ((w' * costP a s' % p : Nat) : Int)))
        rw [e, ← c1]
        refine xs_ret (x_ret (ev_bin (.of (ev_bin (name_v h2) (.of (ev_call O fs rfl (.cons (eva_v (ev_item (.of ev_str) (name_v h4) (item_sign c2 (by omega) (by omega)))) (.cons (eva_v (ev_item (.of ev_str) (name_v h1) (item_sign c5 (by omega) (by omega)))) .nil (fun _ _ => rfl)) (fun _ _ => rfl)) (c_subst O fs m1 m2 c3 c6) (by simp))) (bin_mul (by left; omega)))) (name_v h5) (bin_mod (by omega))))
end
end Mine

-- G9
namespace Mine

noncomputable def Has (ρ l : Vars) : Prop := ∀ p ∈ l, ρ.lookup p.1 = some p.2
theorem Has.nil {ρ : Vars} : Has ρ [] := fun p hp => (nomatch hp)
theorem Has.cons {ρ l : Vars} {x : Str} {e : Ent} (h : ρ.lookup x = some e) (r : Has ρ l) : Has ρ ((x, e) :: l) := fun p hp => by
  rcases List.mem_cons.mp hp with rfl | hp
  · exact h
  · exact r p hp
theorem Has.get {ρ l : Vars} {x : Str} {e : Ent} (h : Has ρ l) (hm : (x, e) ∈ l) : ρ.lookup x = some e := h _ hm

section
variable {W : Wd} {sc : Sc} {ρ ρ' : Vars} {k : Nat}
theorem xs_has {l : Vars} {ss : List Stmt} {o : Out} (h : Has ρ l) (hx : Execs W sc k ss l o) : Execs W sc k ss ρ o := xs_weak hx h
end

section
variable {W : Wd} {sc : Sc} {ρ ρ' : Vars} {k : Nat}
theorem comp_zip {target elt : Expr} {f : Int → Int → Int} : ∀ {xs ys : List Int}, (∀ a b, a ∈ xs → b ∈ ys → ∃ ρ1, bindT target (.tup [.int a, .int b]) ρ = some ρ1 ∧ Evals W sc k elt ρ1 (.int (f a b))) →
    CompIs W sc k target [] elt ρ (List.zipWith (fun a b => D.tup [a, b]) (xs.map D.int) (ys.map D.int)) ((List.zipWith f xs ys).map D.int)
  | [], _, _ => by simpa using CompIs.nil
  | _ :: _, [], _ => by simpa using CompIs.nil
  | x :: xs, y :: ys, h => by
    obtain ⟨ρ1, h1, h2⟩ := h x y List.mem_cons_self List.mem_cons_self
    exact .yes h1 rfl h2 (comp_zip fun a b ha hb => h a b (List.mem_cons_of_mem _ ha) (List.mem_cons_of_mem _ hb))
/-- the elements of a comprehension, one by one -/
theorem comp_list {α : Type} {target elt : Expr} (g f : α → D) {l : List α} (h : ∀ a ∈ l, ∃ ρ1, bindT target (g a) ρ = some ρ1 ∧ Evals W sc k elt ρ1 (f a)) : CompIs W sc k target [] elt ρ (l.map g) (l.map f) := by
  induction l with
  | nil => exact .nil
  | cons d ds ih =>
    obtain ⟨ρ1, h1, h2⟩ := h d List.mem_cons_self
    exact .yes h1 rfl h2 (ih fun d hd => h d (List.mem_cons_of_mem _ hd))
theorem comp_if {α : Type} {target elt c : Expr} (g f : α → D) (p : α → Bool) {l : List α} (h : ∀ a ∈ l, ∃ ρ1, bindT target (g a) ρ = some ρ1 ∧ Tests W sc k c ρ1 (p a) ∧ (p a = true → Evals W sc k elt ρ1 (f a))) : CompIs W sc k target [c] elt ρ (l.map g) ((l.filter p).map f) := by
  induction l with
  | nil => exact .nil
  | cons d ds ih =>
    obtain ⟨ρ1, h1, h2, h3⟩ := h d List.mem_cons_self
    have ih' := ih fun d hd => h d (List.mem_cons_of_mem _ hd)
    cases hp : p d with
    | true =>
      rw [List.filter_cons, if_pos hp]
      exact .yes h1 (by rw [← hp]; exact h2) (h3 hp) ih'
    | false =>
      rw [List.filter_cons, if_neg (by rw [hp]; simp)]
      exact .no h1 (by rw [← hp]; exact h2) ih'
end

/-! ## vectors -/
noncomputable abbrev vecD (l : List Int) : D := .lst (l.map D.int)
noncomputable def Small (l : List Int) : Prop := ∀ x ∈ l, 0 ≤ x ∧ x < 100
theorem Small.getD {l : List Int} (h : Small l) (i : Nat) : 0 ≤ l.getD i 0 ∧ l.getD i 0 < 100 := by
  rw [List.getD_eq_getElem?_getD]
  cases e : l[i]? with
  | none => simp
  | some x => exact h x (List.mem_of_getElem? e)
theorem item_vec {W : Wd} {l : List Int} {i : Nat} (hi : i < l.length) (hl : i ≤ 1000) : ItemOk W (vecD l) (i : Int) (.int (l.getD i 0)) := by
  refine item_lst (j := i) ?_ ?_ (by omega) (by omega)
  · rw [List.length_map]; exact seqIndex_of hi
  · rw [List.getElem?_map, List.getD_eq_getElem?_getD, List.getElem?_eq_getElem hi]; rfl

noncomputable def freeStep (p : Nat) (vec : List Int) (lead : Nat) (known : List Int) : List Int := List.zipWith (fun a b => (a * known.getD lead 0 - b * vec.getD lead 0) % (p : Int)) vec known
noncomputable def freeP (p : Nat) (vec : List Int) : List (Nat × List Int) → List Int
  | [] => vec
  | (l, kn) :: r => freeP p (freeStep p vec l kn) r
noncomputable abbrev baseD (b : Nat × List Int) : D := .tup [.int (b.1 : Nat), vecD b.2]
noncomputable def BaseOk (n : Nat) (base : List (Nat × List Int)) : Prop := ∀ b ∈ base, b.1 < n ∧ b.2.length = n ∧ Small b.2
theorem freeStep_len {p : Nat} {vec : List Int} {l : Nat} {kn : List Int} (h : kn.length = vec.length) : (freeStep p vec l kn).length = vec.length := by
  unfold freeStep; rw [List.length_zipWith, h, Nat.min_self]
theorem freeStep_small {p : Nat} {vec : List Int} {l : Nat} {kn : List Int} (h0 : 0 < p) (h1 : p < 100) : Small (freeStep p vec l kn) := by
  intro x hx
  unfold freeStep at hx
  obtain ⟨i, hi⟩ := List.mem_iff_getElem?.mp hx
  rw [List.getElem?_zipWith] at hi
  split at hi
  · cases hi
    have h2 := Int.emod_nonneg (a := ‹Int› * kn.getD l 0 - ‹Int› * vec.getD l 0) (b := (p : Int)) (by omega)
    refine ⟨Int.emod_nonneg _ (by omega), ?_⟩
    have := Int.emod_lt_of_pos (‹Int› * kn.getD l 0 - ‹Int› * vec.getD l 0) (b := (p : Int)) (by omega)
    refine Int.lt_trans (Int.emod_lt_of_pos _ (by omega)) (by omega)
  · cases hi

section
variable {W : Wd} {k : Nat}
theorem c_free (O : W.Ok) (fn : HasFn W 66) (hz : W.mg "zip" = none) {n p : Nat} {vec : List Int} {base : List (Nat × List Int)} (hv : vec.length = n) (hs : Small vec) (hb : BaseOk n base) (hn : n ≤ 1000) (hp0 : 0 < p) (hp : p < 100) :
    Calls W (k + 1) "_law_free" [.v (vecD vec), .bor (base.map baseD), .v (.int (p : Nat))] (vecD (freeP p vec base)) := by
  refine calls_of (ps := ["vector", "base", "prime"]) O fn ?_ (by decide) rfl ?_ ?_
  · intro pm code doc vs hl
    match vs, hl with
    | [v, w, x], _ => rfl
  · intro x hx
    have hx' : x = "vector" ∨ x = "base" ∨ x = "prime" := by simpa using hx
    rcases hx' with rfl | rfl | rfl
    · right; rfl
    · left; rfl
    · right; rfl
  · refine xs_ex (x_for_ind (fun rest ρ => ∃ b' v', rest = b'.map baseD ∧ BaseOk n b' ∧ v'.length = n ∧ Small v' ∧ freeP p v' b' = freeP p vec base ∧ Has ρ [("vector", .v (vecD v')), ("prime", .v (.int (p : Nat)))]) (ds := base.map baseD) (it_bor rfl) rfl rfl ?_ ?_) ?_
    · exact ⟨base, vec, rfl, hb, hv, hs, rfl, .cons rfl (.cons rfl .nil)⟩
    · rintro d rest ρ1 ⟨b', v', e, hb', hv', hs', hf, hh⟩
      cases b' with
      | nil => cases e
      | cons b b' =>
        obtain ⟨lead, kn⟩ := b
        rw [List.map_cons] at e
        injection e with e1 e2
        subst e1
        obtain ⟨g1, g2, g3⟩ := hb' (lead, kn) List.mem_cons_self
        dsimp only at g1 g2 g3
        refine ⟨_, _, rfl, xs_has (l := [("lead", .v (.int (lead : Nat))), ("known", .v (vecD kn)), ("vector", .v (vecD v')), ("prime", .v (.int (p : Nat)))]) ?_ (xs_cons (x_setN (d := vecD (freeStep p v' lead kn)) (ev_comp (nm := false) (it_zip O (ev_name rfl) (ev_name rfl) (fun _ _ => rfl) (fun _ _ => rfl) hz rfl rfl) rfl rfl rfl rfl ?_ ?_) rfl rfl) xs_nil), b', freeStep p v' lead kn, e2, fun b hb => hb' b (List.mem_cons_of_mem _ hb), by rw [freeStep_len (g2.trans hv'.symm)]; exact hv', freeStep_small hp0 hp, hf, .cons rfl (.cons rfl .nil)⟩
        · exact .cons rfl (.cons rfl (.cons (hh.get (by simp)) (.cons (hh.get (by simp)) .nil)))
        · refine comp_zip fun a b ha hb => ⟨_, rfl, ?_⟩
          have ba := hs' a ha
          have bb := g3 b hb
          have b1 := g3.getD lead
          have b2 := hs'.getD lead
          rw [← Int.fmod_eq_emod_of_nonneg _ (show (0 : Int) ≤ (p : Nat) by omega)]
          exact ev_bin (.of (ev_bin (.of (ev_bin (name_v rfl) (.of (ev_item (name_v rfl) (name_v rfl) (item_vec (by omega) (by omega)))) (bin_mul (by left; omega)))) (.of (ev_bin (name_v rfl) (.of (ev_item (name_v rfl) (name_v rfl) (item_vec (by omega) (by omega)))) (bin_mul (by left; omega)))) bin_sub)) (name_v rfl) (bin_mod (by omega))
        · rw [List.length_zipWith, List.length_map, List.length_map]; omega
    · rintro ρ' ⟨b', v', e, _, _, _, hf, hh⟩
      cases b' with
      | nil =>
        rw [← hf]
        exact xs_ret (x_ret (ev_name (hh.get (x := "vector") (by simp [freeP]))))
      | cons c w' => cases e
end
end Mine

-- G10
namespace Mine

theorem count_tx (l : List Nat) (c : Nat) : Txt.count (tx l) ⟨#[c]⟩ = (l.count c : Nat) := by
  rw [count_cnt]
  show cnt c l.toArray.toList = _
  induction l with
  | nil => rfl
  | cons x l ih =>
    have ih' : cnt c l = (l.count c : Nat) := by simpa using ih
    show cnt c (x :: l) = _
    rw [cnt_cons, ih', List.count_cons]
    by_cases h : x = c
    · simp [h]; omega
    · have h' : ¬ c = x := fun e => h e.symm
      simp [h, h']

noncomputable abbrev rowD (r : List Nat × Nat) : D := .tup [.str (tx r.1), .int (r.2 : Nat)]
noncomputable abbrev colD (c : List Nat × List Int) : D := .tup [.str (tx c.1), vecD c.2]
noncomputable def dueCell (p : Nat) (t : List Nat) (x : Int) : Int := (23 ^ t.count 46 * 49 ^ t.count 64 * x) % (p : Int)
noncomputable def dueP (u v : List Nat) (p : Nat) (rows : List (List Nat × Nat)) (m : List Nat) (cols : List (List Nat × List Int)) : List (List Int) :=
  rows.map fun r => cols.map fun c => dueCell p (r.1 ++ m ++ c.1) (c.2.getD (movedP u v m r.2) 0)
noncomputable abbrev tabD (t : List (List Int)) : D := .lst (t.map vecD)
structure RowsOk (rows : List (List Nat × Nat)) : Prop where
  sig : ∀ r ∈ rows, SignsOk r.1
  lt : ∀ r ∈ rows, r.2 < 3
  len : ∀ r ∈ rows, r.1.length ≤ 4
structure ColsOk (cols : List (List Nat × List Int)) : Prop where
  sig : ∀ r ∈ cols, SignsOk r.1
  vl : ∀ r ∈ cols, r.2.length = 3
  sm : ∀ r ∈ cols, Small r.2
  len : ∀ r ∈ cols, r.1.length ≤ 4
theorem count_two {t : List Nat} (ht : SignsOk t) : t.count 46 + t.count 64 = t.length := by
  induction t with
  | nil => rfl
  | cons c t ih =>
    have ih' := ih fun c hc => ht c (List.mem_cons_of_mem _ hc)
    rcases ht c List.mem_cons_self with rfl | rfl <;> simp [List.count_cons] <;> omega

theorem moved_lt {u v : List Nat} (hu : TurnOk u) (hv : TurnOk v) : ∀ (w : List Nat) {s : Nat}, s < 3 → movedP u v w s < 3
  | [], _, h => h
  | c :: w, s, h => moved_lt hu hv w (by unfold stepP; split; exact hu.lt _; exact hv.lt _)

noncomputable abbrev dueL1 (m u v : List Nat) (p : Nat) (cols : List (List Nat × List Int)) (done : List (List Int)) : Vars := [("table", .own (done.map vecD)), ("between", .v (.str (tx m))), ("turns", .v (turnsD u v)), ("columns", .v (.lst (cols.map colD))), ("prime", .v (.int (p : Nat)))]
noncomputable abbrev dueL2 (m u v : List Nat) (p : Nat) (cols : List (List Nat × List Int)) (st : Nat) (a : List Nat) (done : List (List Int)) (es : List Int) : Vars := [("table", .own2 (done.map vecD) (es.map D.int)), ("last", .v (.int (movedP u v m st : Nat))), ("ahead", .v (.str (tx a))), ("between", .v (.str (tx m))), ("turns", .v (turnsD u v)), ("columns", .v (.lst (cols.map colD))), ("prime", .v (.int (p : Nat)))]
theorem xs_outH {W : Wd} {sc : Sc} {k : Nat} {ρ ρ1 ρ' : Vars} {ss : List Stmt} (h : Execs W sc k ss ρ (.nxt ρ1)) (hw : Has ρ1 ρ') : Execs W sc k ss ρ (.nxt ρ') := xs_out h hw
section
variable {W : Wd} {k : Nat}
theorem c_due (O : W.Ok) (fn : HasFn W 73) (fm : HasFn W 69) {u v m : List Nat} {p : Nat} {rows : List (List Nat × Nat)} {cols : List (List Nat × List Int)} (hu : TurnOk u) (hv : TurnOk v) (hr : RowsOk rows) (hc : ColsOk cols) (hm : SignsOk m) (hml : m.length ≤ 4) (hp0 : 0 < p) (hp : p < 100) (lr : rows.length ≤ 1000) (lc : cols.length ≤ 1000) :
    Calls W (k + 2) "_law_due" [.v (.tup [.lst (rows.map rowD), .str (tx m), .lst (cols.map colD)]), .v (turnsD u v), .v (.int (p : Nat))] (tabD (dueP u v p rows m cols)) := by
  refine calls_of (ps := ["job", "turns", "prime"]) O fn ?_ (by decide) rfl ?_ ?_
  · intro pm code doc vs hl
    match vs, hl with
    | [v, w, x], _ => rfl
  · intro x hx
    have hx' : x = "job" ∨ x = "turns" ∨ x = "prime" := by simpa using hx
    rcases hx' with rfl | rfl | rfl <;> (left; rfl)
  · refine xs_cons (x_unpack (ts := [("rows", _), ("between", _), ("columns", _)]) (ds := [.lst (rows.map rowD), .str (tx m), .lst (cols.map colD)]) (ev_name rfl) rfl rfl) ?_
    refine xs_cons (x_own (ds := []) .nil rfl) ?_
    refine xs_ex (x_for_ind (fun rest ρ => ∃ r' done, rest = r'.map rowD ∧ RowsOk r' ∧ done.length + r'.length ≤ 1000 ∧ done ++ dueP u v p r' m cols = dueP u v p rows m cols ∧
      Has ρ (dueL1 m u v p cols done)) (ds := rows.map rowD) (it_list (ev_name rfl)) rfl rfl ?_ ?_) ?_
    · exact ⟨rows, [], rfl, hr, by simpa using lr, rfl, .cons rfl (.cons rfl (.cons rfl (.cons rfl (.cons rfl .nil))))⟩
    · rintro d rest ρ1 ⟨r', done, e, hr', hl, hf, hh⟩
      cases r' with
      | nil => cases e
      | cons r r' =>
        obtain ⟨a, st⟩ := r
        rw [List.map_cons] at e
        injection e with e1 e2
        subst e1
        have ha := hr'.sig _ List.mem_cons_self
        have hst := hr'.lt _ List.mem_cons_self
        have hal := hr'.len _ List.mem_cons_self
        dsimp only at ha hst hal
        rw [List.length_cons] at hl
        have hlast := moved_lt hu hv m hst
        refine ⟨_, dueL1 m u v p cols (done ++ [cols.map fun c => dueCell p (a ++ m ++ c.1) (c.2.getD (movedP u v m st) 0)]), rfl,
          xs_has (l := [("state", .v (.int (st : Nat))), ("ahead", .v (.str (tx a))), ("table", .own (done.map vecD)), ("between", .v (.str (tx m))), ("turns", .v (turnsD u v)), ("columns", .v (.lst (cols.map colD))), ("prime", .v (.int (p : Nat)))]) ?_ ?_, r', done ++ [cols.map fun c => dueCell p (a ++ m ++ c.1) (c.2.getD (movedP u v m st) 0)], e2, ⟨fun r h => hr'.sig r (List.mem_cons_of_mem _ h), fun r h => hr'.lt r (List.mem_cons_of_mem _ h), fun r h => hr'.len r (List.mem_cons_of_mem _ h)⟩, by rw [List.length_append, List.length_singleton]; omega, by rw [← hf]; simp [dueP], ?_⟩
        · exact .cons rfl (.cons rfl (.cons (hh.get (by simp)) (.cons (hh.get (by simp)) (.cons (hh.get (by simp)) (.cons (hh.get (by simp)) (.cons (hh.get (by simp)) .nil))))))
        · refine xs_cons (x_set (ev_call O fm rfl (.cons (eva_v (ev_name rfl)) (.cons (eva_v (ev_name rfl)) (.cons (eva_v (ev_name rfl)) .nil (fun _ _ => rfl)) (fun _ _ => rfl)) (fun _ _ => rfl)) (c_moved O fm hu hv hst (fun c hc => by rcases hm c hc with rfl | rfl <;> decide)) (by simp)) rfl) ?_
          refine xs_cons (x_newrow rfl ⟨fun _ => rfl, fun _ => rfl, rfl, fun _ => rfl⟩ (by rw [List.length_map]; omega)) ?_
          refine xs_ex (x_for_ind (fun rest ρ => ∃ c' es, rest = c'.map colD ∧ ColsOk c' ∧ es.length + c'.length ≤ 1000 ∧ es ++ (c'.map fun c => dueCell p (a ++ m ++ c.1) (c.2.getD (movedP u v m st) 0)) = (cols.map fun c => dueCell p (a ++ m ++ c.1) (c.2.getD (movedP u v m st) 0)) ∧
            Has ρ (dueL2 m u v p cols st a done es)) (ds := cols.map colD) (it_list (ev_name rfl)) rfl rfl ?_ ?_) ?_
          · exact ⟨cols, [], rfl, hc, by simpa using lc, rfl, .cons rfl (.cons rfl (.cons rfl (.cons rfl (.cons rfl (.cons rfl (.cons rfl .nil))))))⟩
          · rintro d rest ρ2 ⟨c', es, e, hc', hl2, hf2, hh2⟩
            cases c' with
            | nil => cases e
            | cons c c' =>
              obtain ⟨b, vec⟩ := c
              rw [List.map_cons] at e
              injection e with e1 e2
              subst e1
              have hb := hc'.sig _ List.mem_cons_self
              have hvl := hc'.vl _ List.mem_cons_self
              have hsm := hc'.sm _ List.mem_cons_self
              have hbl := hc'.len _ List.mem_cons_self
              dsimp only at hb hvl hsm hbl
              rw [List.length_cons] at hl2
              refine ⟨_, dueL2 m u v p cols st a done (es ++ [dueCell p (a ++ m ++ b) (vec.getD (movedP u v m st) 0)]), rfl,
                xs_has (l := [("vector", .v (vecD vec)), ("behind", .v (.str (tx b))), ("table", .own2 (done.map vecD) (es.map D.int)), ("last", .v (.int (movedP u v m st : Nat))), ("ahead", .v (.str (tx a))), ("between", .v (.str (tx m))), ("turns", .v (turnsD u v)), ("columns", .v (.lst (cols.map colD))), ("prime", .v (.int (p : Nat)))]) ?_ ?_, c', es ++ [dueCell p (a ++ m ++ b) (vec.getD (movedP u v m st) 0)], e2, ⟨fun r h => hc'.sig r (List.mem_cons_of_mem _ h), fun r h => hc'.vl r (List.mem_cons_of_mem _ h), fun r h => hc'.sm r (List.mem_cons_of_mem _ h), fun r h => hc'.len r (List.mem_cons_of_mem _ h)⟩, by rw [List.length_append, List.length_singleton]; omega, by rw [← hf2]; simp, ?_⟩
              · exact .cons rfl (.cons rfl (.cons (hh2.get (by simp)) (.cons (hh2.get (by simp)) (.cons (hh2.get (by simp)) (.cons (hh2.get (by simp)) (.cons (hh2.get (by simp)) (.cons (hh2.get (by simp)) (.cons (hh2.get (by simp)) .nil))))))))
              · have hsg : SignsOk (a ++ m ++ b) := (ha.app hm).app hb
                have hcnt := count_two hsg
                have hlen : (a ++ m ++ b).length ≤ 12 := by rw [List.length_append, List.length_append]; omega
                refine xs_cons (x_set (ev_tcat (.of (ev_tcat (name_v rfl) (name_v rfl) (by omega))) (name_v rfl) (by rw [List.length_append]; omega)) rfl) ?_
                refine xs_outH (xs_cons (x_rowapp (d := .int (dueCell p (a ++ m ++ b) (vec.getD (movedP u v m st) 0))) rfl (ev_neg ev_int) ?_ ⟨fun _ => rfl, fun _ => rfl, rfl, fun _ => rfl⟩ (by rw [List.length_map]; omega) (by rw [List.length_map]; omega)) xs_nil) (.cons (by rw [List.map_append]; rfl) (.cons rfl (.cons rfl (.cons rfl (.cons rfl (.cons rfl (.cons rfl .nil)))))))
                unfold dueCell
                rw [← Int.fmod_eq_emod_of_nonneg _ (show (0 : Int) ≤ (p : Nat) by omega)]
                have k1 := hsm.getD (movedP u v m st)
                have q1 : Txt.count (tx (a ++ m ++ b)) "." = ((a ++ m ++ b).count 46 : Nat) := by rw [dot_tx]; exact count_tx _ _
                have q2 : Txt.count (tx (a ++ m ++ b)) "@" = ((a ++ m ++ b).count 64 : Nat) := by rw [at_tx]; exact count_tx _ _
                have p1 : (23 : Int) ^ ((a ++ m ++ b).count 46) = 23 ^ (Txt.count (tx (a ++ m ++ b)) ".").toNat := by rw [q1]; rfl
                have p2 : (49 : Int) ^ ((a ++ m ++ b).count 64) = 49 ^ (Txt.count (tx (a ++ m ++ b)) "@").toNat := by rw [q2]; rfl
                have small : ((23 : Int) ^ ((a ++ m ++ b).count 46)).natAbs < 2 ^ 64 := by
                  have : (a ++ m ++ b).count 46 ≤ 12 := by omega
                  generalize (a ++ m ++ b).count 46 = i at this
                  have key : ∀ i : Nat, i < 13 → ((23 : Int) ^ i).natAbs < 2 ^ 64 := by decide
                  exact key i (by omega)
                rw [p1, p2] at *
                exact ev_bin (.of (ev_bin (.of (ev_bin (.of (ev_bin (.of ev_int) (.of (ev_meth (fun _ => ⟨_, rfl⟩) (fun q => PySem.GM.count q) (name_v rfl) (.cons (eva_v ev_str) .nil (fun _ _ => rfl)) m_count)) (bin_pow (by rw [q1]; omega) (by rw [q1]; omega) (by decide)))) (.of (ev_bin (.of ev_int) (.of (ev_meth (fun _ => ⟨_, rfl⟩) (fun q => PySem.GM.count q) (name_v rfl) (.cons (eva_v ev_str) .nil (fun _ _ => rfl)) m_count)) (bin_pow (by rw [q2]; omega) (by rw [q2]; omega) (by decide)))) (bin_mul (by left; exact small)))) (.of (ev_item (name_v rfl) (name_v rfl) (item_vec (by omega) (by omega)))) (bin_mul (by right; omega)))) (name_v rfl) (bin_mod (by omega))
              · exact .cons rfl (.cons rfl (.cons rfl (.cons rfl (.cons rfl (.cons rfl (.cons rfl .nil))))))
          · rintro ρ2 ⟨c', es, e, _, _, hf2, hh2⟩
            cases c' with
            | cons c c' => cases e
            | nil =>
              rw [List.map_nil, List.append_nil] at hf2
              subst hf2
              refine xs_seal "table" (hh2.get List.mem_cons_self) ?_
              refine xs_outH xs_nil (.cons ?_ (.cons (hh2.get (by simp)) (.cons (hh2.get (by simp)) (.cons (hh2.get (by simp)) (.cons (hh2.get (by simp)) .nil)))))
              rw [List.map_append]; rfl
        · exact .cons rfl (.cons rfl (.cons rfl (.cons rfl (.cons rfl .nil))))
    · rintro ρ' ⟨r', done, e, _, _, hf, hh⟩
      cases r' with
      | cons c w' => cases e
      | nil =>
        have hd : done = dueP u v p rows m cols := by rw [← hf]; simp [dueP]
        rw [← hd]
        exact xs_freeze "table" (hh.get (by simp)) (xs_ret (x_ret (ev_name rfl)))
end
end Mine

-- G11
namespace Mine

noncomputable def bitP (mask c : Nat) : Bool := mask / 2 ^ c % 2 == 1
theorem bit_is : ∀ mask : Nat, mask < 16 → ∀ c : Nat, c < 4 → (Builtin.bitAnd ((mask : Int).fdiv (2 ^ ((c : Int).toNat))) 1 != 0) = bitP mask c := by decide +kernel
noncomputable def chosenP (n mask : Nat) : List Nat := (List.range n).filter (bitP mask)
noncomputable def detFold (row found : List Int) (mask : Nat) : List Nat → Int → Int → Int
  | [], _, total => total
  | c :: r, side, total => detFold row found mask r (-side) (total + side * row.getD c 0 * found.getD (mask - 2 ^ c) 0)
noncomputable def detCell (p : Nat) (table : List (List Int)) (n : Nat) (found : List Int) (mask : Nat) : Int :=
  detFold (table.getD ((chosenP n mask).length - 1) []) found mask (chosenP n mask).reverse 1 0 % (p : Int)
noncomputable def detGo (p : Nat) (table : List (List Int)) (n : Nat) : Nat → Nat → List Int → List Int
  | 0, _, found => found
  | j + 1, mask, found => detGo p table n j (mask + 1) (found ++ [detCell p table n found mask])
noncomputable def detP (p : Nat) (table : List (List Int)) : Int := (detGo p table table.length (2 ^ table.length - 1) 1 [1]).getD (2 ^ table.length - 1) 0
theorem detGo_len {p : Nat} {table : List (List Int)} {n : Nat} : ∀ (j mask : Nat) (found : List Int), (detGo p table n j mask found).length = found.length + j
  | 0, _, _ => rfl
  | j + 1, mask, found => by
    unfold detGo
    rw [detGo_len j]
    simp
    omega
structure TableOk (table : List (List Int)) (n : Nat) : Prop where
  len : table.length = n
  row : ∀ r ∈ table, r.length = n ∧ Small r
theorem chosen_pos : ∀ n : Nat, n < 5 → ∀ mask : Nat, mask < 2 ^ n → 0 < mask → 0 < (chosenP n mask).length ∧ (chosenP n mask).length ≤ n := by decide +kernel
theorem chosen_bit : ∀ n : Nat, n < 5 → ∀ mask : Nat, mask < 2 ^ n → ∀ c ∈ chosenP n mask, c < n ∧ 2 ^ c ≤ mask := by decide +kernel
theorem seqIndex_last {n : Nat} (h : 0 < n) : seqIndex? (-1) n = some (n - 1) := by
  unfold seqIndex?
  simp only [show ((-1 : Int) < 0) from by decide, if_true]
  split
  · simp; omega
  · rename_i hh
    exfalso
    apply hh
    simp
    omega

noncomputable abbrev detL1 (table : List (List Int)) (p : Nat) (found : List Int) : Vars := [("found", .own (found.map D.int)), ("table", .v (tabD table)), ("prime", .v (.int (p : Nat)))]
noncomputable abbrev detL2 (table : List (List Int)) (p : Nat) (found : List Int) (mask : Nat) (ch : List Nat) (side total : Int) : Vars :=
  [("side", .v (.int side)), ("total", .v (.int total)), ("chosen", .v (.lst (ch.map natD))), ("mask", .v (.int (mask : Nat))), ("found", .own (found.map D.int)), ("table", .v (tabD table)), ("prime", .v (.int (p : Nat)))]
section
variable {W : Wd} {k : Nat}
theorem c_det (O : W.Ok) (fn : HasFn W 74) (b1 : W.mg "range" = none) (b2 : W.mg "len" = none) (b3 : W.mg "reversed" = none) {p n : Nat} {table : List (List Int)} (ht : TableOk table n) (hn : n < 5) (hp0 : 0 < p) (hp : p < 100) :
    Calls W (k + 1) "_law_det" [.v (tabD table), .v (.int (p : Nat))] (.int (detP p table)) := by
  refine calls_of (ps := ["table", "prime"]) O fn ?_ (by decide) rfl ?_ ?_
  · intro pm code doc vs hl
    match vs, hl with
    | [v, w], _ => rfl
  · intro x hx
    have hx' : x = "table" ∨ x = "prime" := by simpa using hx
    rcases hx' with rfl | rfl <;> (left; rfl)
  · have h2n : 2 ^ n ≤ 16 := by
      have key : ∀ n : Nat, n < 5 → 2 ^ n ≤ 16 := by decide
      exact key n hn
    have h2p : 1 ≤ 2 ^ n := Nat.one_le_two_pow
    refine xs_cons (x_own (ds := [.int 1]) (.cons ev_int .nil (fun _ _ => rfl)) rfl) ?_
    refine xs_ex (x_for_ind (fun rest ρ => ∃ (j mask : Nat) (found : List Int), rest = ((List.range j).map fun i : Nat => D.int ((mask : Int) + (i : Nat))) ∧ mask + j = 2 ^ n ∧ 1 ≤ mask ∧ found.length = mask ∧ Small found ∧ detGo p table n j mask found = detGo p table n (2 ^ n - 1) 1 [1] ∧ Has ρ (detL1 table p found))
      (ds := (List.range (2 ^ n - 1)).map fun i : Nat => D.int (((1 : Nat) : Int) + (i : Nat))) (it_range2 O ev_int ?_ (fun _ _ => rfl) (fun _ _ => rfl) (by omega) b1 rfl rfl) rfl rfl ?_ ?_) ?_
    · have e : ((1 + (2 ^ n - 1) : Nat) : Int) = 2 ^ ((n : Int)).toNat := by
        rw [show 1 + (2 ^ n - 1) = 2 ^ n by omega]; simp
      rw [e]
      have el : ((table.map vecD).length : Int) = (n : Int) := by rw [List.length_map, ht.len]
      rw [← el]
      exact ev_bin (.of ev_int) (.of (ev_blt O (.cons (eva_b (name_v rfl)) .nil (fun _ _ => rfl)) (blt_len (by rw [List.length_map, ht.len]; omega)) (by simp) b2 rfl rfl)) (bin_pow (by omega) (by rw [el]; omega) (by decide))
    · refine ⟨2 ^ n - 1, 1, [1], rfl, by omega, Nat.le_refl _, rfl, fun x hx => by rw [List.mem_singleton.mp hx]; decide, rfl, .cons rfl (.cons rfl (.cons rfl .nil))⟩
    · rintro d rest ρ1 ⟨j, mask, found, e, hj, hm1, hfl, hfs, hg, hh⟩
      cases j with
      | zero => cases e
      | succ j =>
        rw [List.range_succ_eq_map, List.map_cons, List.map_map] at e
        injection e with e1 e2
        have e1' : d = .int (mask : Nat) := by rw [e1]; simp
        subst e1'
        have hmask : mask < 2 ^ n := by omega
        obtain ⟨cp1, cp2⟩ := chosen_pos n hn mask hmask (by omega)
        refine ⟨_, detL1 table p (found ++ [detCell p table n found mask]), rfl, xs_has (l := ("mask", .v (.int (mask : Nat))) :: detL1 table p found) ?_ ?_, j, mask + 1, found ++ [detCell p table n found mask], ?_, by omega, by omega, by rw [List.length_append, hfl]; rfl, ?_, by rw [← hg]; rfl, .cons rfl (.cons rfl (.cons rfl .nil))⟩
        · exact .cons rfl (.cons (hh.get (by simp)) (.cons (hh.get (by simp)) (.cons (hh.get (by simp)) .nil)))
        · refine xs_cons (x_comp (es := (chosenP n mask).map natD) (it_range1 (n := n) O ?_ (fun _ _ => rfl) (by omega) b1 rfl rfl) rfl rfl rfl rfl ?_ (by simp; omega) rfl (fun env h1 h2 => (swaps_env h1 h2).trans rfl)) ?_
          · have el : ((table.map vecD).length : Int) = (n : Int) := by rw [List.length_map, ht.len]
            rw [← el]
            exact ev_blt O (.cons (eva_b (name_v rfl)) .nil (fun _ _ => rfl)) (blt_len (by rw [List.length_map, ht.len]; omega)) (by simp) b2 rfl rfl
          · refine comp_if (l := List.range n) natD natD (bitP mask) fun c hc => ⟨_, rfl, ?_, fun _ => ev_name rfl⟩
            have hc' : c < n := List.mem_range.mp hc
            rw [← bit_is mask (by omega) c (by omega)]
            exact t_val (.of (ev_bin (.of (ev_bin (name_v rfl) (name_v rfl) (bin_shr (by omega)))) (.of ev_int) bin_and)) truth_int
          · have cbit := chosen_bit n hn mask hmask
            have crow : (table.getD ((chosenP n mask).length - 1) []).length = n ∧ Small (table.getD ((chosenP n mask).length - 1) []) := by
              refine ht.row _ ?_
              rw [List.getD_eq_getElem?_getD, List.getElem?_eq_getElem (by rw [ht.len]; omega)]
              exact List.getElem_mem _
            generalize hch : chosenP n mask = ch at cp1 cp2 cbit crow
            generalize hrow : table.getD (ch.length - 1) [] = row at crow
            have hrowD : (table.map vecD)[ch.length - 1]? = some (vecD row) := by
              rw [List.getElem?_map, ← hrow, List.getD_eq_getElem?_getD, List.getElem?_eq_getElem (by rw [ht.len]; omega)]; rfl
            refine xs_cons (x_unpackN (ts := [("side", _), ("total", _)]) (ds := [.int 1, .int 0]) (ev_tup (.cons ev_int (.cons ev_int .nil (fun _ _ => rfl)) (fun _ _ => rfl))) rfl rfl rfl) ?_
            refine xs_ex (x_for_ind (fun rest ρ => ∃ (cs : List Nat) (side total : Int), rest = cs.map natD ∧ (∀ c ∈ cs, c ∈ ch) ∧ side.natAbs = 1 ∧ detFold row found mask cs side total = detFold row found mask ch.reverse 1 0 ∧ Has ρ (detL2 table p found mask ch side total))
              (ds := (ch.map natD).reverse) (it_rev O (ev_name rfl) (fun _ _ => rfl) b3 rfl rfl) rfl rfl ?_ ?_) ?_
            · exact ⟨ch.reverse, 1, 0, by rw [List.map_reverse], fun c hc => by simpa using hc, rfl, rfl, .cons rfl (.cons rfl (.cons rfl (.cons rfl (.cons rfl (.cons rfl (.cons rfl .nil))))))⟩
            · rintro d rest ρ2 ⟨cs, side, total, e, hcs, hside, hfold, hh2⟩
              cases cs with
              | nil => cases e
              | cons c cs =>
                rw [List.map_cons] at e
                injection e with e1 e2
                subst e1
                obtain ⟨cb1, cb2⟩ := cbit c (hcs c List.mem_cons_self)
                refine ⟨_, detL2 table p found mask ch (-side) (total + side * row.getD c 0 * found.getD (mask - 2 ^ c) 0), rfl, xs_has (l := ("c", .v (.int (c : Nat))) :: detL2 table p found mask ch side total) ?_ (xs_outH (xs_cons (x_aug rfl ?_ rfl) (xs_cons (x_set (ev_neg (ev_name rfl)) rfl) xs_nil)) (.cons rfl (.cons rfl (.cons rfl (.cons rfl (.cons rfl (.cons rfl (.cons rfl .nil)))))))), cs, -side, _, e2, fun c hc => hcs c (List.mem_cons_of_mem _ hc), by rw [Int.natAbs_neg]; exact hside, by rw [← hfold]; rfl, .cons rfl (.cons rfl (.cons rfl (.cons rfl (.cons rfl (.cons rfl (.cons rfl .nil))))))⟩
                · exact .cons rfl (.cons (hh2.get (by simp)) (.cons (hh2.get (by simp)) (.cons (hh2.get (by simp)) (.cons (hh2.get (by simp)) (.cons (hh2.get (by simp)) (.cons (hh2.get (by simp)) (.cons (hh2.get (by simp)) .nil)))))))
                · have ek : ((ch.map natD).length : Int) - 1 = ((ch.length - 1 : Nat) : Int) := by rw [List.length_map]; omega
                  have ei : (mask : Int) - 2 ^ ((c : Int)).toNat = ((mask - 2 ^ c : Nat) : Int) := by
                    rw [Int.toNat_natCast]
                    have : ((2 ^ c : Nat) : Int) = (2 : Int) ^ c := by simp
                    omega
                  have fb := hfs.getD (mask - 2 ^ c)
                  have h2c : 1 ≤ 2 ^ c := Nat.one_le_two_pow
                  refine ev_bin (.of (ev_bin (name_v rfl) (.of (ev_item (.of (ev_item (name_v rfl) (i := ((ch.length - 1 : Nat) : Int)) ?_ (item_lst (j := ch.length - 1) (seqIndex_of (by rw [List.length_map, ht.len]; omega)) hrowD (by omega) (by omega)))) (name_v rfl) (item_vec (by omega) (by omega)))) (bin_mul (by left; omega)))) (.of (ev_item (evr_own rfl) (i := ((mask - 2 ^ c : Nat) : Int)) ?_ (item_vec (by omega) (by omega)))) (bin_mul (by right; omega))
                  · rw [← ek]
                    exact .of (ev_bin (.of (ev_blt O (.cons (eva_b (name_v rfl)) .nil (fun _ _ => rfl)) (blt_len (by rw [List.length_map]; omega)) (by simp) b2 rfl rfl)) (.of ev_int) bin_sub)
                  · rw [← ei]
                    exact .of (ev_bin (name_v rfl) (.of (ev_bin (.of ev_int) (name_v rfl) (bin_pow (by omega) (by omega) (by decide)))) bin_sub)
            · rintro ρ2 ⟨cs, side, total, e, hcs, hside, hfold, hh2⟩
              cases cs with
              | cons c cs => cases e
              | nil =>
                have htot : total = detFold row found mask ch.reverse 1 0 := by rw [← hfold]; rfl
                have hcell : detCell p table n found mask = total.fmod (p : Nat) := by
                  unfold detCell
                  rw [hch, hrow, ← htot, Int.fmod_eq_emod_of_nonneg _ (by omega)]
                rw [hcell]
                refine xs_has (l := detL2 table p found mask ch side total) hh2 (xs_outH (xs_cons (x_append rfl (ev_bin (name_v rfl) (name_v rfl) (bin_mod (by omega))) ⟨fun _ => rfl, fun _ => rfl, rfl, fun _ => rfl⟩ (by rw [List.length_map]; omega)) xs_nil) (.cons (by rw [List.map_append]; rfl) (.cons rfl (.cons rfl .nil))))
        · rw [e2]
          refine List.map_congr_left fun i _ => ?_
          simp
          omega
        · intro x hx
          rcases List.mem_append.mp hx with hx | hx
          · exact hfs x hx
          · rw [List.mem_singleton.mp hx]
            unfold detCell
            exact ⟨Int.emod_nonneg _ (by omega), Int.lt_trans (Int.emod_lt_of_pos _ (by omega)) (by omega)⟩
    · rintro ρ' ⟨j, mask, found, e, hj, hm1, hfl, hfs, hg, hh⟩
      cases j with
      | succ j => rw [List.range_succ_eq_map] at e; cases e
      | zero =>
        have hf : found = detGo p table n (2 ^ n - 1) 1 [1] := by rw [← hg]; rfl
        have hlen : found.length = 2 ^ n := by omega
        unfold detP
        rw [ht.len, ← hf]
        refine xs_ret (x_ret (ev_item (evr_own (hh.get List.mem_cons_self)) (.of (ev_neg ev_int)) (item_lst (j := 2 ^ n - 1) ?_ ?_ (by omega) (by omega))))
        · rw [List.length_map, hlen]; exact seqIndex_last (by omega)
        · rw [List.getElem?_map, List.getD_eq_getElem?_getD, List.getElem?_eq_getElem (by omega)]; rfl
end
end Mine

-- G12
namespace Mine

section
variable {W : Wd} {sc : Sc} {ρ ρ' : Vars} {k : Nat}
theorem x_while_ind2 {test : Expr} {body : List Stmt} {pos : Pos} (Inv : Nat → Vars → Prop) (Post : Vars → Prop) {n : Nat} (h0 : Inv n ρ)
    (step : ∀ n ρ1, Inv n ρ1 → ∃ b, Tests W sc k test ρ1 b ∧ (b = false → Post ρ1) ∧ (b = true → ∃ ρ2 m, m < n ∧ Execs W sc k body ρ1 (.nxt ρ2) ∧ Inv m ρ2)) : ∃ ρ', Exec W sc k (.While test body [] pos) ρ (.nxt ρ') ∧ Post ρ' :=
  x_while_ind Inv Post h0 fun n ρ1 h => by
    obtain ⟨b, h1, h2, h3⟩ := step n ρ1 h
    cases b with
    | false => exact .inl ⟨h1, h2 rfl⟩
    | true => exact .inr ⟨h1, h3 rfl⟩
end
noncomputable abbrev Row := List Nat × Nat
noncomputable def addP (u v : List Nat) (r : Row) (found : List Row) (c : Nat) : List Row :=
  if found.any (fun q => q.2 == stepP u v c r.2) then found else found ++ [(r.1 ++ [c], stepP u v c r.2)]
noncomputable def reachGo (u v : List Nat) : Nat → Nat → List Row → List Row
  | 0, _, found => found
  | f + 1, k, found => match found[k]? with
    | some r => reachGo u v f (k + 1) ([46, 64].foldl (addP u v r) found)
    | none => found
noncomputable def reachP (u v : List Nat) : List Row := reachGo u v 3 0 [([], 0)]

structure FoundOk (found : List Row) : Prop where
  sig : ∀ r ∈ found, SignsOk r.1
  lt : ∀ r ∈ found, r.2 < 3
  one : ∀ a, (found.map (·.2)).count a ≤ 1
  len : ∀ (i : Nat) (r : Row), found[i]? = some r → r.1.length ≤ i
theorem len3 : ∀ l : List Nat, (∀ x ∈ l, x < 3) → l.length = l.count 0 + l.count 1 + l.count 2
  | [], _ => rfl
  | x :: l, h => by
    have ih := len3 l fun y hy => h y (List.mem_cons_of_mem _ hy)
    have hx := h x List.mem_cons_self
    have : x = 0 ∨ x = 1 ∨ x = 2 := by omega
    rcases this with rfl | rfl | rfl <;> simp [List.count_cons] <;> omega
theorem FoundOk.le3 {found : List Row} (h : FoundOk found) : found.length ≤ 3 := by
  have e := len3 (found.map (·.2)) fun x hx => by
    obtain ⟨r, hr, rfl⟩ := List.mem_map.mp hx
    exact h.lt r hr
  rw [List.length_map] at e
  have h0 := h.one 0
  have h1 := h.one 1
  have h2 := h.one 2
  omega
theorem FoundOk.add {u v : List Nat} (hu : TurnOk u) (hv : TurnOk v) {found : List Row} (h : FoundOk found) {r : Row} {k : Nat} (hr : SignsOk r.1) (hrl : r.1.length ≤ k) (hk : k < found.length) {c : Nat} (hc : c = 46 ∨ c = 64) : FoundOk (addP u v r found c) ∧ found.length ≤ (addP u v r found c).length := by
  unfold addP
  split
  · exact ⟨h, Nat.le_refl _⟩
  · rename_i hn
    refine ⟨⟨fun q hq => ?_, fun q hq => ?_, fun a => ?_, fun i q hq => ?_⟩, by rw [List.length_append]; omega⟩
    · rcases List.mem_append.mp hq with hq | hq
      · exact h.sig q hq
      · rw [List.mem_singleton.mp hq]
        exact hr.app fun x hx => by rw [List.mem_singleton.mp hx]; exact hc
    · rcases List.mem_append.mp hq with hq | hq
      · exact h.lt q hq
      · rw [List.mem_singleton.mp hq]
        show stepP u v c r.2 < 3
        unfold stepP
        split
        · exact hu.lt _
        · exact hv.lt _
    · rw [List.map_append, List.count_append]
      have h1 := h.one a
      by_cases ha : a = stepP u v c r.2
      · have h0 : (found.map (·.2)).count a = 0 := by
          rw [List.count_eq_zero]
          intro hm
          obtain ⟨q, hq, hqe⟩ := List.mem_map.mp hm
          exact hn (List.any_eq_true.mpr ⟨q, hq, by rw [← ha]; simpa using hqe⟩)
        rw [h0]
        simp [List.count_cons]
        split <;> omega
      · have : List.count a (List.map (fun x : Row => x.2) [(r.1 ++ [c], stepP u v c r.2)]) = 0 := by
          rw [List.count_eq_zero]
          intro hm
          simp at hm
          exact ha hm
        omega
    · rcases Nat.lt_or_ge i found.length with hi | hi
      · rw [List.getElem?_append_left hi] at hq
        exact h.len i q hq
      · rw [List.getElem?_append_right hi] at hq
        have : i - found.length = 0 := by
          rcases Nat.eq_zero_or_pos (i - found.length) with h | h
          · exact h
          · rw [List.getElem?_eq_none (by show 1 ≤ _; omega)] at hq; cases hq
        rw [this] at hq
        cases hq
        rw [List.length_append, List.length_singleton]
        omega

noncomputable abbrev signD (c : Nat) : D := .tup [.str (tx [c]), .int (if c = 46 then 23 else 49)]
noncomputable abbrev reL1 (u v : List Nat) (k : Nat) (found : List Row) : Vars := [("found", .own (found.map rowD)), ("k_v", .v (.int (k : Nat))), ("turns", .v (turnsD u v))]
noncomputable abbrev reL2 (u v : List Nat) (k : Nat) (r : Row) (found : List Row) : Vars := [("word", .v (.str (tx r.1))), ("state", .v (.int (r.2 : Nat))), ("found", .own (found.map rowD)), ("k_v", .v (.int (k : Nat))), ("turns", .v (turnsD u v))]
section
variable {W : Wd} {k : Nat}
theorem c_reached (O : W.Ok) (fn : HasFn W 65) (b2 : W.mg "len" = none) {u v : List Nat} (hu : TurnOk u) (hv : TurnOk v) : Calls W (k + 1) "_law_reached" [.v (turnsD u v)] (.lst ((reachP u v).map rowD)) ∧ FoundOk (reachP u v) := by
  have pure_ok : ∀ (f k : Nat) (found : List Row), FoundOk found → FoundOk (reachGo u v f k found) := by
    intro f
    induction f with
    | zero => intro k found h; exact h
    | succ f ih =>
      intro k found h
      unfold reachGo
      cases e : found[k]? with
      | none => exact h
      | some r =>
        have hk : k < found.length := by
          rcases Nat.lt_or_ge k found.length with h | h
          · exact h
          · rw [List.getElem?_eq_none h] at e; cases e
        have hr := h.sig r (List.mem_of_getElem? e)
        have hl := h.len k r e
        obtain ⟨h1, l1⟩ := h.add hu hv hr hl hk (c := 46) (.inl rfl)
        obtain ⟨h2, _⟩ := h1.add hu hv hr hl (Nat.lt_of_lt_of_le hk l1) (c := 64) (.inr rfl)
        exact ih _ _ h2
  have h0 : FoundOk [([], 0)] := ⟨fun r hr => by rw [List.mem_singleton.mp hr]; exact fun c hc => (nomatch hc), fun r hr => by rw [List.mem_singleton.mp hr]; decide, fun a => by simp [List.count_cons]; split <;> omega, fun i r hr => by
    cases i with
    | zero => cases hr; exact Nat.le_refl _
    | succ i => cases hr⟩
  refine ⟨?_, pure_ok _ _ _ h0⟩
  refine calls_of (ps := ["turns"]) O fn ?_ (by decide) rfl ?_ ?_
  · intro pm code doc vs hl
    match vs, hl with
    | [v], _ => rfl
  · intro x hx
    rw [List.mem_singleton.mp hx]; left; rfl
  · refine xs_cons (x_own (ds := [rowD ([], 0)]) (.cons (ev_tup (ds := [.str (tx []), .int 0]) (.cons ev_str (.cons ev_int .nil (fun _ _ => rfl)) (fun _ _ => rfl))) .nil (fun _ _ => rfl)) rfl) ?_
    refine xs_cons (x_set ev_int rfl) ?_
    refine xs_ex (x_while_ind2 (fun f ρ => ∃ (k : Nat) (found : List Row), k + f = 3 ∧ FoundOk found ∧ reachGo u v f k found = reachP u v ∧ Has ρ (reL1 u v k found)) (fun ρ => Has ρ [("found", .own ((reachP u v).map rowD))]) (n := 3) ?_ ?_) ?_
    · exact ⟨0, [([], 0)], rfl, h0, rfl, .cons rfl (.cons rfl (.cons rfl .nil))⟩
    · rintro f ρ1 ⟨k', found, hkf, hfo, hre, hh⟩
      have le3 := hfo.le3
      refine ⟨decide ((k' : Int) < ((found.map rowD).length : Int)), t_cmp (name_v (hh.get (by simp))) (.of (ev_blt O (.cons (eva_b (evr_own (hh.get List.mem_cons_self))) .nil (fun _ _ => rfl)) (blt_len (by rw [List.length_map]; omega)) (by simp) b2 rfl rfl)) cmp_lt_int, fun hb => ?_, fun hb => ?_⟩
      · have hge : ¬ k' < found.length := by rw [List.length_map] at hb; simpa using hb
        have : reachGo u v f k' found = found := by
          cases f with
          | zero => rfl
          | succ f =>
            unfold reachGo
            rw [List.getElem?_eq_none (by omega)]
        rw [← hre, this]
        exact .cons (hh.get List.mem_cons_self) .nil
      · have hlt : k' < found.length := by rw [List.length_map] at hb; simpa using hb
        cases f with
        | zero => omega
        | succ f =>
          obtain ⟨r, hr⟩ : ∃ r, found[k']? = some r := ⟨_, List.getElem?_eq_getElem hlt⟩
          have hrs := hfo.sig r (List.mem_of_getElem? hr)
          have hrl := hfo.len k' r hr
          have hrt := hfo.lt r (List.mem_of_getElem? hr)
          obtain ⟨w, st⟩ := r
          dsimp only at hrs hrl hrt
          refine ⟨reL1 u v (k' + 1) ([46, 64].foldl (addP u v (w, st)) found), f, Nat.lt_succ_self _, xs_has hh ?_, k' + 1, _, by omega, ?_, ?_, .cons rfl (.cons rfl (.cons rfl .nil))⟩
          · refine xs_cons (x_unpack (ts := [("word", _), ("state", _)]) (ds := [.str (tx w), .int (st : Nat)]) (ev_item (evr_own rfl) (name_v rfl) (item_lst (j := k') (seqIndex_of (by rw [List.length_map]; exact hlt)) (by rw [List.getElem?_map, hr]; rfl) (by omega) (by omega))) rfl rfl) ?_
            refine xs_ex (x_for_ind (fun rest ρ => ∃ (cs : List Nat) (fd : List Row), rest = cs.map signD ∧ SignsOk cs ∧ FoundOk fd ∧ k' < fd.length ∧ cs.foldl (addP u v (w, st)) fd = [46, 64].foldl (addP u v (w, st)) found ∧ Has ρ (reL2 u v k' (w, st) fd))
              (ds := [46, 64].map signD) (it_tup (ev_tup (.cons (ev_tup (.cons ev_str (.cons ev_int .nil (fun _ _ => rfl)) (fun _ _ => rfl)) (by show 2 ≤ _; decide)) (.cons (ev_tup (.cons ev_str (.cons ev_int .nil (fun _ _ => rfl)) (fun _ _ => rfl)) (by show 2 ≤ _; decide)) .nil (fun _ _ => rfl)) (fun _ _ => rfl)) (by show 2 ≤ _; decide))) rfl rfl ?_ ?_) ?_
            · exact ⟨[46, 64], found, rfl, fun c hc => by simpa using hc, hfo, hlt, rfl, .cons rfl (.cons rfl (.cons rfl (.cons rfl (.cons rfl .nil))))⟩
            · rintro d rest ρ2 ⟨cs, fd, e, hcs, hfd, hkl, hfold, hh2⟩
              cases cs with
              | nil => cases e
              | cons c cs =>
                rw [List.map_cons] at e
                injection e with e1 e2
                subst e1
                have hc := hcs c List.mem_cons_self
                have fd3 := hfd.le3
                obtain ⟨a1, a2⟩ := hfd.add hu hv (r := (w, st)) hrs hrl hkl hc
                refine ⟨_, reL2 u v k' (w, st) (addP u v (w, st) fd c), rfl, xs_has (l := ("number", .v (.int (if c = 46 then 23 else 49))) :: ("sign", .v (.str (tx [c]))) :: reL2 u v k' (w, st) fd) ?_ ?_, cs, addP u v (w, st) fd c, e2, fun c hc => hcs c (List.mem_cons_of_mem _ hc), a1, Nat.lt_of_lt_of_le hkl a2, hfold, .cons rfl (.cons rfl (.cons rfl (.cons rfl (.cons rfl .nil))))⟩
                · exact .cons rfl (.cons rfl (.cons (hh2.get (by simp)) (.cons (hh2.get (by simp)) (.cons (hh2.get (by simp)) (.cons (hh2.get (by simp)) (.cons (hh2.get (by simp)) .nil))))))
                · have test : (!(fd.map fun q => (q.2 : Int)).any (· == ((stepP u v c st : Nat) : Int))) = !(fd.any fun q => q.2 == stepP u v c st) := by
                    rw [List.any_map]
                    congr 2
                    funext q
                    simp only [Function.comp]
                    rw [Bool.eq_iff_iff, beq_iff_eq, beq_iff_eq]
                    omega
                  unfold addP
                  by_cases hin : (fd.any fun q => q.2 == stepP u v c st) = true
                  · rw [if_pos hin]
                    refine xs_if_skip (t_cmp (.of (ev_turn hu hv rfl (name_v rfl) (name_v rfl) hrt)) (.of (ev_comp (nm := true) (es := (fd.map fun q => (q.2 : Int)).map D.int) (it_bor rfl) rfl rfl rfl rfl ?_ (by rw [List.length_map]; omega))) (cmp_notin_ints _)) ?_ (xs_outH xs_nil (.cons rfl (.cons rfl (.cons rfl (.cons rfl (.cons rfl .nil))))))
                    · rw [List.map_map]
                      exact comp_list rowD _ fun q hq => ⟨_, rfl, ev_name rfl⟩
                    · rw [test, hin]; rfl
                  · rw [if_neg hin]
                    refine xs_if_go (t_cmp (.of (ev_turn hu hv rfl (name_v rfl) (name_v rfl) hrt)) (.of (ev_comp (nm := true) (es := (fd.map fun q => (q.2 : Int)).map D.int) (it_bor rfl) rfl rfl rfl rfl ?_ (by rw [List.length_map]; omega))) (cmp_notin_ints _)) ?_ (xs_outH (xs_cons (x_append (d := rowD (w ++ [c], stepP u v c st)) rfl (ev_tup (.cons (ev_tcat (name_v rfl) (name_v rfl) (by simp; omega)) (.cons (ev_turn hu hv rfl (name_v rfl) (name_v rfl) hrt) .nil (fun _ _ => rfl)) (fun _ _ => rfl)) (by show 2 ≤ _; decide)) ⟨fun _ => rfl, fun _ => rfl, rfl, fun _ => rfl⟩ (by rw [List.length_map]; omega)) xs_nil) (.cons rfl (.cons rfl (.cons (by rw [List.map_append]; rfl) (.cons rfl (.cons rfl .nil)))))) xs_nil
                    · rw [List.map_map]
                      exact comp_list rowD _ fun q hq => ⟨_, rfl, ev_name rfl⟩
                    · rw [test, Bool.eq_false_iff.mpr hin]; rfl
            · rintro ρ2 ⟨cs, fd, e, hcs, hfd, hkl, hfold, hh2⟩
              cases cs with
              | cons c cs => cases e
              | nil =>
                rw [← hfold]
                exact xs_has hh2 (xs_outH (xs_cons (x_aug rfl ev_int rfl) xs_nil) (.cons rfl (.cons rfl (.cons rfl .nil))))
          · obtain ⟨h1, l1⟩ := hfo.add hu hv (r := (w, st)) hrs hrl hlt (c := 46) (.inl rfl)
            obtain ⟨h2, _⟩ := h1.add hu hv (r := (w, st)) hrs hrl (Nat.lt_of_lt_of_le hlt l1) (c := 64) (.inr rfl)
            exact h2
          · rw [← hre]
            conv => rhs; unfold reachGo
            rw [hr]
    · rintro ρ' hh
      exact xs_freeze "found" (hh.get List.mem_cons_self) (xs_ret (x_ret (ev_name rfl)))
end
end Mine

-- G13
namespace Mine

section
variable {W : Wd} {sc : Sc} {ρ ρ' : Vars} {k : Nat}
/-- {i: x, j: y} -/
theorem ev_dict2 {k1 k2 v1 v2 : Expr} {pos : Pos} {i j : Int} {d1 d2 : D} (hk1 : Evals W sc k k1 ρ (.int i)) (hk2 : Evals W sc k k2 ρ (.int j)) (hv1 : Evals W sc k v1 ρ d1) (hv2 : Evals W sc k v2 ρ d2) (hij : i ≠ j)
    (hp : ∀ env, (evalEachOpt [some k1, some k2] env).zip ((evalEach [v1, v2] env).map fun v => (do let x ← v; standAt pos; pure x)) = ([(eval k1 env, (do let x ← eval v1 env; standAt pos; pure x)), (eval k2 env, (do let x ← eval v2 env; standAt pos; pure x))] : List (Sem Value × Sem Value)).map fun p => (some p.1, p.2)) :
    Evals W sc k (.Dict [some k1, some k2] [v1, v2] pos) ρ (.tab [(i, d1), (j, d2)]) := by
  refine ⟨?_⟩; intro env A K F s Q E R S q
  refine wpAny_Dict_pairs (knd := intKind W.prog W.w) (hp env) (by simp) (by simp) ?_
  have a0 := Adv.grow (n := s.toks) S.froz (sub_push s.heap { cls := .type "dict", data := .dict #[] })
  refine evalPairs_cons (hk1.out env A K F _ _ E R (S.adv a0) fun F1 s1 w1 a1 r1 => ?_)
  refine wpAny_bind (hv1.out env A K F1 s1 _ E R ((S.adv a0).adv a1) fun F2 s2 x1 a2 r2 => wpAny_bind (wpAny_standAt (wpAny_pure ?_)))
  refine evalPairs_cons (hk2.out env A K F2 s2 _ E R (((S.adv a0).adv a1).adv a2) fun F3 s3 w2 a3 r3 => ?_)
  refine wpAny_bind (hv2.out env A K F3 s3 _ E R ((((S.adv a0).adv a1).adv a2).adv a3) fun F4 s4 x2 a4 r4 => wpAny_bind (wpAny_standAt (wpAny_pure ?_)))
  refine evalPairs_nil ?_
  cases r1 with
  | int _ t1 =>
    cases r3 with
    | int _ t3 =>
      have ad := (((a0.trans a1).trans a2).trans a3).trans a4
      have ad1 := ((a1.trans a2).trans a3).trans a4
      have hnew : s.heap.get? s.heap.objs.size = none := get_size_none _
      have hobj : (s.heap.push { cls := .type "dict", data := .dict #[] }).get? s.heap.objs.size = some { cls := .type "dict", data := .dict #[] } := Heap.get?_push_size _ rfl
      have hF0 : F s.heap.objs.size = none := by
        cases e : F s.heap.objs.size with
        | none => rfl
        | some o => have := S.froz _ _ e; rw [hnew] at this; cases this
      have hF4 : F4 s.heap.objs.size = none := ad1.off hF0 hobj
      have hdict : Heap.DictOf (intKind W.prog W.w) s4.heap s.heap.objs.size [] := by
        obtain ⟨o, es, ep, e, r⟩ := Heap.DictOf.new (knd := intKind W.prog W.w) s.heap
        exact ⟨o, es, ep, ad1.ext _ _ e, r⟩
      refine ⟨[(i, x1), (j, x2)], ⟨by simp [intKind, Value.isInt], rfl, by simp [intKind, Value.isInt], rfl, trivial⟩, hdict, fun h' hd hs => ?_⟩
      have hm : merged [] [(i, x1), (j, x2)] = [(i, x1), (j, x2)] := by
        simp [merged, stored, hij]
      rw [hm] at hd
      obtain ⟨o, es, ep, e, hx⟩ := hd
      let F5 : FH := fun c => if c = s.heap.objs.size then some o else F4 c
      have hsub : Sub F4 F5 := fun c o' e => by
        show (if c = s.heap.objs.size then some o else F4 c) = some o'
        by_cases hc : c = s.heap.objs.size
        · subst hc; rw [hF4] at e; cases e
        · rw [if_neg hc]; exact e
      have hinv : ∀ c o', F5 c = some o' → F4 c = some o' ∨ (c = s.heap.objs.size ∧ o' = o) := fun c o' e => by
        have e' : (if c = s.heap.objs.size then some o else F4 c) = some o' := e
        by_cases hc : c = s.heap.objs.size
        · rw [if_pos hc] at e'; cases e'; exact .inr ⟨hc, rfl⟩
        · rw [if_neg hc] at e'; exact .inl e'
      have h5 : F5 s.heap.objs.size = some o := by
        show (if s.heap.objs.size = s.heap.objs.size then some o else _) = _
        rw [if_pos rfl]
      refine q F5 _ _ ⟨let ⟨h, t, e⟩ := ad.same; ⟨h', _, by rw [e]⟩, fun b ob eb => ?_, ad.sub.trans hsub, fun b ob eb => ?_, fun b ob eb => ?_⟩ ?_
      · exact (hs.2 b (fun h => by rw [h, hnew] at eb; cases eb)).trans (ad.ext _ _ eb)
      · rcases hinv b ob eb with h | ⟨h, _⟩
        · exact ad.new b ob h
        · exact .inr (by rw [h]; exact hnew)
      · rcases hinv b ob eb with h | ⟨h, h2⟩
        · exact (hs.2 b (fun h' => by rw [h', hF4] at h; cases h)).trans (ad.sup _ _ h)
        · rw [h, h2]; exact e
      · refine .tab (ks := [i, j]) (vs := [x1, x2]) (ds := [d1, d2]) ⟨o, es, ep, h5, hx⟩ rfl (.cons ?_ (.one (r4.mono hsub)))
        exact ((r2.mono a3.sub).mono a4.sub).mono hsub
end
end Mine

-- G14
namespace Mine

noncomputable def cellsP : Nat → List Int → List Nat → List Nat
  | _, [], cs => cs
  | j, x :: l, cs => cellsP (j + 1) l (cs.set (j % 5) (cs.getD (j % 5) 0 + (x % 1000000).toNat))
theorem cellsP_len : ∀ (l : List Int) (j : Nat) (cs : List Nat), (cellsP j l cs).length = cs.length
  | [], _, _ => rfl
  | x :: l, j, cs => by
    unfold cellsP
    rw [cellsP_len l, List.length_set]
noncomputable def primeP (c : Nat) : Nat := ([3, 5, 11, 13] : List Nat).getD (c % 4) 0
noncomputable def turnP (c : Nat) : List Nat := (List.range 3).map fun k => c / 3 ^ k % 3
noncomputable def bitW (c k : Nat) : Int := Builtin.bitAnd ((c : Int).fdiv (2 ^ ((k : Int).toNat))) 1
noncomputable def wordP (c : Nat) : List Nat := (List.range 4).map fun k => if bitW c k = 0 then 46 else 64
theorem turnP_ok (c : Nat) : TurnOk (turnP c) := ⟨by simp [turnP], fun s => by
  unfold turnP
  rw [List.getD_eq_getElem?_getD, List.getElem?_map]
  cases (List.range 3)[s]? with
  | none => simp
  | some x => exact Nat.mod_lt _ (by decide)⟩
theorem bit_or (x : Int) (hx : 0 ≤ x) : Builtin.bitAnd x 1 = 0 ∨ Builtin.bitAnd x 1 = 1 := by
  obtain ⟨n, rfl⟩ := Int.eq_ofNat_of_zero_le hx
  have e : Builtin.bitAnd (n : Int) 1 = ((n &&& 1 : Nat) : Int) := by
    unfold Builtin.bitAnd
    simp
  rw [e, Nat.and_one_is_mod]
  have := Nat.mod_two_eq_zero_or_one n
  omega
theorem wordP_ok (c : Nat) : SignsOk (wordP c) ∧ (wordP c).length = 4 := by
  refine ⟨fun x hx => ?_, by simp [wordP]⟩
  obtain ⟨k, _, rfl⟩ := List.mem_map.mp hx
  split
  · exact .inl rfl
  · exact .inr rfl
theorem join_word : ∀ a b c d : Bool, JoinOk "" ([a, b, c, d].map fun x => tx [if x then 46 else 64]) = true ∧ Txt.join "" ([a, b, c, d].map fun x => tx [if x then 46 else 64]) = tx ([a, b, c, d].map fun x => if x then 46 else 64) := by decide +kernel
theorem sign_at : Txt.charAt ".@" 0 = some 46 ∧ Txt.charAt ".@" 1 = some 64 ∧ Txt.item ".@" 0 = tx [46] ∧ Txt.item ".@" 1 = tx [64] := by decide +kernel

theorem EvR.to {W : Wd} {sc : Sc} {k : Nat} {e : Expr} {ρ : Vars} {i j : Int} (h : EvR W sc k e ρ (.int i)) (he : i = j) : EvR W sc k e ρ (.int j) := he ▸ h
section
variable {W : Wd} {k : Nat}
set_option maxHeartbeats 8000000 in
theorem c_machine (O : W.Ok) (fn : HasFn W 64) (b1 : W.mg "range" = none) (b2 : W.mg "enumerate" = none) {l : List Int} (hl : l.length ≤ 1000) :
    ∃ p u v a w, (p = 3 ∨ p = 5 ∨ p = 11 ∨ p = 13) ∧ TurnOk u ∧ TurnOk v ∧ a < 3 ∧ SignsOk w ∧ w.length = 4 ∧ Calls W (k + 1) "_law_machine" [.bor (l.map D.int)] (.tup [.int (p : Nat), turnsD u v, .int (a : Nat), .str (tx w)]) := by
  have hlen := cellsP_len (l.take 15) 0 [8, 34, 42, 12, 26]
  generalize hcs : cellsP 0 (l.take 15) [8, 34, 42, 12, 26] = cs at hlen
  have hlen5 : cs.length = 5 := hlen
  refine ⟨primeP (cs.getD 0 0), turnP (cs.getD 1 0), turnP (cs.getD 2 0), cs.getD 3 0 % 3, wordP (cs.getD 4 0), ?_, turnP_ok _, turnP_ok _, Nat.mod_lt _ (by decide), (wordP_ok _).1, (wordP_ok _).2, ?_⟩
  · unfold primeP
    have := Nat.mod_lt (cs.getD 0 0) (show 0 < 4 by decide)
    have : cs.getD 0 0 % 4 = 0 ∨ cs.getD 0 0 % 4 = 1 ∨ cs.getD 0 0 % 4 = 2 ∨ cs.getD 0 0 % 4 = 3 := by omega
    rcases this with h | h | h | h <;> rw [h] <;> simp
  refine calls_of (ps := ["script"]) O fn ?_ (by decide) rfl ?_ ?_
  · intro pm code doc vs hl
    match vs, hl with
    | [v], _ => rfl
  · intro x hx
    rw [List.mem_singleton.mp hx]; left; rfl
  · refine xs_cons (x_own (ds := [8, 34, 42, 12, 26].map natD) (.cons ev_int (.cons ev_int (.cons ev_int (.cons ev_int (.cons ev_int .nil (fun _ _ => rfl)) (fun _ _ => rfl)) (fun _ _ => rfl)) (fun _ _ => rfl)) (fun _ _ => rfl)) rfl) ?_
    refine xs_ex (x_for_ind (fun rest ρ => ∃ (j : Nat) (l' : List Int) (c : List Nat), rest = ((l'.map D.int).mapIdx fun i d => D.tup [.int ((i + j : Nat) : Int), d]) ∧ c.length = 5 ∧ cellsP j l' c = cs ∧ Has ρ [("cells", .own (c.map natD))])
      (ds := ((l.map D.int).take 15).mapIdx fun i d => D.tup [.int (i : Nat), d]) (it_enum O (ev_part (evr_bor rfl) (.of ev_int) (by rw [List.length_map]; omega)) (fun _ _ => rfl) b2 rfl rfl) rfl rfl ?_ ?_) ?_
    · exact ⟨0, l.take 15, [8, 34, 42, 12, 26], by rw [List.map_take]; rfl, rfl, hcs, .cons rfl .nil⟩
    · rintro d rest ρ1 ⟨j, l', c, e, hc, hf, hh⟩
      cases l' with
      | nil => cases e
      | cons x l' =>
        rw [List.map_cons, List.mapIdx_cons] at e
        injection e with e1 e2
        subst e1
        have h5 : j % 5 < 5 := Nat.mod_lt _ (by decide)
        refine ⟨_, [("cells", .own ((c.set (j % 5) (c.getD (j % 5) 0 + (x % 1000000).toNat)).map natD))], rfl, xs_has (l := [("number", .v (.int x)), ("place", .v (.int ((0 + j : Nat) : Int))), ("cells", .own (c.map natD))]) (.cons rfl (.cons rfl (.cons (hh.get (by simp)) .nil))) (xs_outH (xs_cons (x_augset (a := ((c.getD (j % 5) 0 : Nat) : Int)) (b := x.fmod 1000000) (j := j % 5) rfl ?_ (ev_bin (name_v rfl) (.of ev_int) (bin_mod (by decide))) ?_ (by rw [List.length_map]; omega)) xs_nil) (.cons ?_ .nil)), j + 1, l', _, ?_, by rw [List.length_set]; exact hc, hf, .cons rfl .nil⟩
        · have e : ((j % 5 : Nat) : Int) = ((0 + j : Nat) : Int).fmod 5 := by
            rw [Int.fmod_eq_emod_of_nonneg _ (by decide)]; simp
          rw [e]
          exact ev_bin (name_v rfl) (.of ev_int) (bin_mod (by decide))
        · rw [List.getElem?_map, List.getD_eq_getElem?_getD, List.getElem?_eq_getElem (by omega)]; rfl
        · have e : x.fmod 1000000 = (((x % 1000000).toNat : Nat) : Int) := by
            rw [Int.fmod_eq_emod_of_nonneg _ (by decide), Int.toNat_of_nonneg (Int.emod_nonneg _ (by decide))]
          rw [e]
          show List.lookup _ ((_, _) :: _) = _
          rw [List.lookup_cons_self, List.map_set]
          simp [natD]
        · rw [e2]
          congr 1
          funext i d
          congr 3
          omega
    · rintro ρ' ⟨j, l', c, e, hc, hf, hh⟩
      cases l' with
      | cons c w' => rw [List.map_cons, List.mapIdx_cons] at e; cases e
      | nil =>
        have hcc : c = cs := hf
        subst hcc
        refine xs_has hh ?_
        have item : ∀ (i : Nat), i < 5 → ItemOk W (.lst (c.map natD)) (i : Int) (.int (c.getD i 0 : Nat)) := fun i hi => item_nats (by omega) (by omega)
        have t3 : ∀ (i : Nat), i < 3 → ((3 : Int) ^ i).natAbs < 2 ^ 64 ∧ (3 : Int) ^ i ≠ 0 := by decide
        have td : ∀ (x i : Nat), ((x : Int).fdiv (3 ^ ((i : Int)).toNat)).fmod 3 = ((x / 3 ^ i % 3 : Nat) : Int) := fun x i => by
          rw [Int.toNat_natCast, Int.fmod_eq_emod_of_nonneg _ (by decide), Int.fdiv_eq_ediv_of_nonneg _ (Int.le_of_lt (Int.pow_pos (by decide)))]
          push_cast
          rfl
        refine xs_cons (x_set (d := turnsD (turnP (c.getD 1 0)) (turnP (c.getD 2 0))) (ev_dict2 (d1 := intsD (turnP (c.getD 1 0))) (d2 := intsD (turnP (c.getD 2 0))) ev_int ev_int ?_ ?_ (by decide) (fun _ => rfl)) rfl) ?_
        · refine ev_comp (es := (turnP _).map natD) (it_range1 (n := 3) O ev_int (fun _ _ => rfl) (by decide) b1 rfl rfl) rfl rfl rfl rfl ?_ (by decide)
          unfold turnP
          rw [List.map_map]
          refine comp_list natD _ fun i hi => ⟨_, rfl, ?_⟩
          have hi' : i < 3 := List.mem_range.mp hi
          show Evals _ _ _ _ _ (.int ((c.getD 1 0 / 3 ^ i % 3 : Nat) : Int))
          rw [← td]
          exact ev_bin (.of (ev_bin (.of (ev_item (evr_bor rfl) (.of ev_int) (item 1 (by decide)))) (.of (ev_bin (.of ev_int) (name_v rfl) (bin_pow (by omega) (by omega) (by decide)))) (bin_div (by rw [Int.toNat_natCast]; exact (t3 i hi').2) (by rw [Int.toNat_natCast]; exact (t3 i hi').1)))) (.of ev_int) (bin_mod (by decide))
        · refine ev_comp (es := (turnP _).map natD) (it_range1 (n := 3) O ev_int (fun _ _ => rfl) (by decide) b1 rfl rfl) rfl rfl rfl rfl ?_ (by decide)
          unfold turnP
          rw [List.map_map]
          refine comp_list natD _ fun i hi => ⟨_, rfl, ?_⟩
          have hi' : i < 3 := List.mem_range.mp hi
          show Evals _ _ _ _ _ (.int ((c.getD 2 0 / 3 ^ i % 3 : Nat) : Int))
          rw [← td]
          exact ev_bin (.of (ev_bin (.of (ev_item (evr_bor rfl) (.of ev_int) (item 2 (by decide)))) (.of (ev_bin (.of ev_int) (name_v rfl) (bin_pow (by omega) (by omega) (by decide)))) (bin_div (by rw [Int.toNat_natCast]; exact (t3 i hi').2) (by rw [Int.toNat_natCast]; exact (t3 i hi').1)))) (.of ev_int) (bin_mod (by decide))
        · obtain ⟨sa0, sa1, si0, si1⟩ := sign_at
          have hw : ∃ a b e d : Bool, wordP (c.getD 4 0) = [a, b, e, d].map (fun x => if x then 46 else 64) := by
            refine ⟨decide (bitW (c.getD 4 0) 0 = 0), decide (bitW (c.getD 4 0) 1 = 0), decide (bitW (c.getD 4 0) 2 = 0), decide (bitW (c.getD 4 0) 3 = 0), ?_⟩
            unfold wordP
            simp [List.range_succ]
          obtain ⟨j1, j2⟩ : JoinOk "" ((wordP (c.getD 4 0)).map fun x => tx [x]) = true ∧ Txt.join "" ((wordP (c.getD 4 0)).map fun x => tx [x]) = tx (wordP (c.getD 4 0)) := by
            obtain ⟨a, b, e, d, h⟩ := hw
            rw [h]
            have := join_word a b e d
            simpa [List.map_map] using this
          refine xs_cons (x_set (d := .str (tx (wordP (c.getD 4 0)))) ?_ rfl) ?_
          · rw [← j2]
            refine ev_meth (fun _ => ⟨_, rfl⟩) (fun q => PySem.GM.join q) (.of ev_str) (.cons (eva_b (.of (ev_comp (es := ((wordP (c.getD 4 0)).map fun x => tx [x]).map D.str) (it_range1 (n := 4) O ev_int (fun _ _ => rfl) (by decide) b1 rfl rfl) rfl rfl rfl rfl ?_ (by decide)))) .nil (fun _ _ => rfl)) (m_join j1)
            unfold wordP
            rw [List.map_map, List.map_map]
            refine comp_list natD _ fun i hi => ⟨_, rfl, ?_⟩
            show Evals _ _ _ _ _ (.str (tx [if bitW (c.getD 4 0) i = 0 then 46 else 64]))
            have hb := bit_or (((c.getD 4 0 : Nat) : Int).fdiv (2 ^ ((i : Int)).toNat)) (Int.fdiv_nonneg (by omega) (Int.le_of_lt (Int.pow_pos (by decide))))
            rcases hb with hb | hb
            · have hb' : bitW (c.getD 4 0) i = 0 := hb
              rw [if_pos hb', ← si0]
              refine ev_item (.of ev_str) (i := 0) ?_ (item_sign sa0 (by decide) (by decide))
              exact .to (.of (ev_bin (.of (ev_bin (.of (ev_item (evr_bor rfl) (.of ev_int) (item 4 (by decide)))) (name_v rfl) (bin_shr (by omega)))) (.of ev_int) bin_and)) hb
            · have hb' : bitW (c.getD 4 0) i = 1 := hb
              rw [if_neg (by rw [hb']; decide), ← si1]
              refine ev_item (.of ev_str) (i := 1) ?_ (item_sign sa1 (by decide) (by decide))
              exact .to (.of (ev_bin (.of (ev_bin (.of (ev_item (evr_bor rfl) (.of ev_int) (item 4 (by decide)))) (name_v rfl) (bin_shr (by omega)))) (.of ev_int) bin_and)) hb
          · refine xs_ret (x_ret (ev_tup (ds := [_, _, _, _]) (.cons (ev_item (d := .tup ([3, 5, 11, 13].map natD)) (i := ((c.getD 0 0 % 4 : Nat) : Int)) (.of (ev_tup (.cons ev_int (.cons ev_int (.cons ev_int (.cons ev_int .nil (fun _ _ => rfl)) (fun _ _ => rfl)) (fun _ _ => rfl)) (fun _ _ => rfl)) (by decide))) ?_ ?_) (.cons (ev_name rfl) (.cons ?_ (.cons (ev_name rfl) .nil (fun _ _ => rfl)) (fun _ _ => rfl)) (fun _ _ => rfl)) (fun _ _ => rfl)) (by show 4 ≤ _; decide)))
            · have e : ((c.getD 0 0 % 4 : Nat) : Int) = ((c.getD 0 0 : Nat) : Int).fmod 4 := by rw [Int.fmod_eq_emod_of_nonneg _ (by decide)]; rfl
              rw [e]
              exact .of (ev_bin (.of (ev_item (evr_own rfl) (.of ev_int) (item 0 (by decide)))) (.of ev_int) (bin_mod (by decide)))
            · have h4 : c.getD 0 0 % 4 < 4 := Nat.mod_lt _ (by decide)
              refine item_tup (j := c.getD 0 0 % 4) (seqIndex_of h4) ?_ (by omega) (by omega)
              unfold primeP
              generalize c.getD 0 0 % 4 = i at h4
              rcases (by omega : i = 0 ∨ i = 1 ∨ i = 2 ∨ i = 3) with rfl | rfl | rfl | rfl <;> rfl
            · have e : ((c.getD 3 0 % 3 : Nat) : Int) = ((c.getD 3 0 : Nat) : Int).fmod 3 := by rw [Int.fmod_eq_emod_of_nonneg _ (by decide)]; rfl
              rw [e]
              exact ev_bin (.of (ev_item (evr_own rfl) (.of ev_int) (item 3 (by decide)))) (.of ev_int) (bin_mod (by decide))
end
end Mine

-- G15
namespace Mine

noncomputable abbrev Col := List Nat × List Int
noncomputable abbrev Base := Nat × List Int
noncomputable def backP (u v : List Nat) (reached : List Row) (vec : List Int) (c : Nat) : List Int := reached.foldl (fun b r => b.set r.2 (vec.getD (stepP u v c r.2) 0)) [0, 0, 0]
noncomputable def leadsP (n : Nat) (r : List Int) : List Nat := (List.range n).filter fun k => r.getD k 0 != 0
noncomputable def colsGo (u v : List Nat) (reached : List Row) (p : Nat) : Nat → List Col → List Base → List Col → List Col
  | 0, _, _, cols => cols
  | _ + 1, [], _, cols => cols
  | f + 1, q :: rest, base, cols =>
    if freeP p q.2 base = [0, 0, 0] then colsGo u v reached p f rest base cols
    else colsGo u v reached p f (rest ++ [(46 :: q.1, backP u v reached q.2 46), (64 :: q.1, backP u v reached q.2 64)]) (base ++ [((leadsP 3 (freeP p q.2 base)).getD 0 0, freeP p q.2 base)]) (cols ++ [q])
noncomputable def colsP (u v : List Nat) (reached : List Row) (p : Nat) (costs : List Int) : List Col := colsGo u v reached p 7 [([], costs)] [] []

/-! ## vectors freed -/
theorem freeStep_get {p : Nat} {vec kn : List Int} {l i : Nat} (h : kn.length = vec.length) (hi : i < vec.length) : (freeStep p vec l kn).getD i 0 = (vec.getD i 0 * kn.getD l 0 - kn.getD i 0 * vec.getD l 0) % (p : Int) := by
  unfold freeStep
  rw [List.getD_eq_getElem?_getD, List.getElem?_zipWith, List.getElem?_eq_getElem hi, List.getElem?_eq_getElem (by omega)]
  simp only [Option.getD_some]
  rw [List.getD_eq_getElem?_getD (l := vec) (i := i), List.getElem?_eq_getElem hi, List.getD_eq_getElem?_getD (l := kn) (i := i), List.getElem?_eq_getElem (by omega)]
  rfl
theorem freeP_len {p n : Nat} : ∀ (base : List Base) (vec : List Int), vec.length = n → (∀ b ∈ base, b.2.length = n) → (freeP p vec base).length = n
  | [], vec, h, _ => h
  | (l, kn) :: r, vec, h, hb => by
    unfold freeP
    have h1 := hb (l, kn) List.mem_cons_self
    exact freeP_len r _ (by rw [freeStep_len (by rw [h]; exact h1)]; exact h) fun b hm => hb b (List.mem_cons_of_mem _ hm)
theorem freeP_zero {p n i : Nat} (hi : i < n) : ∀ (base : List Base) (vec : List Int), vec.length = n → (∀ b ∈ base, b.2.length = n ∧ b.2.getD i 0 = 0) → vec.getD i 0 = 0 → (freeP p vec base).getD i 0 = 0
  | [], vec, h, _, hz => hz
  | (l, kn) :: r, vec, h, hb, hz => by
    unfold freeP
    obtain ⟨h1, h2⟩ := hb (l, kn) List.mem_cons_self
    dsimp only at h1 h2
    refine freeP_zero hi r _ (by rw [freeStep_len (by rw [h]; exact h1)]; exact h) (fun b hm => hb b (List.mem_cons_of_mem _ hm)) ?_
    rw [freeStep_get (by rw [h]; exact h1) (by rw [h]; exact hi), hz, h2]
    simp
noncomputable def Ladder : List Base → Prop
  | [] => True
  | (l, kn) :: r => (∀ b ∈ r, b.2.getD l 0 = 0) ∧ Ladder r
theorem freeP_lead {p n : Nat} : ∀ (base : List Base) (vec : List Int), vec.length = n → (∀ b ∈ base, b.1 < n ∧ b.2.length = n) → Ladder base → ∀ b ∈ base, (freeP p vec base).getD b.1 0 = 0
  | [], _, _, _, _, _, hm => (nomatch hm)
  | (l, kn) :: r, vec, h, hb, hL, b, hm => by
    obtain ⟨h0, h1⟩ := hb (l, kn) List.mem_cons_self
    dsimp only at h0 h1
    have hl1 : (freeStep p vec l kn).length = n := by rw [freeStep_len (by rw [h]; exact h1)]; exact h
    rcases List.mem_cons.mp hm with rfl | hm
    · unfold freeP
      refine freeP_zero h0 r _ hl1 (fun b hm => ⟨(hb b (List.mem_cons_of_mem _ hm)).2, hL.1 b hm⟩) ?_
      rw [freeStep_get (by rw [h]; exact h1) (by rw [h]; exact h0)]
      have : vec.getD l 0 * kn.getD l 0 - kn.getD l 0 * vec.getD l 0 = 0 := by rw [Int.mul_comm]; omega
      rw [this]
      simp
    · unfold freeP
      exact freeP_lead r _ hl1 (fun b hm => hb b (List.mem_cons_of_mem _ hm)) hL.2 b hm
theorem Ladder.snoc : ∀ {base : List Base} {b : Base}, Ladder base → (∀ q ∈ base, b.2.getD q.1 0 = 0) → Ladder (base ++ [b])
  | [], _, _, _ => ⟨fun _ h => (nomatch h), trivial⟩
  | (l, kn) :: r, b, h, hz => ⟨fun q hq => by
      rcases List.mem_append.mp hq with hq | hq
      · exact h.1 q hq
      · rw [List.mem_singleton.mp hq]; exact hz (l, kn) List.mem_cons_self, Ladder.snoc h.2 fun q hq => hz q (List.mem_cons_of_mem _ hq)⟩
theorem freeP_small {p : Nat} (h0 : 0 < p) (h1 : p < 100) : ∀ (base : List Base) (vec : List Int), Small vec → Small (freeP p vec base)
  | [], _, h => h
  | (l, kn) :: r, vec, h => by unfold freeP; exact freeP_small h0 h1 r _ (freeStep_small h0 h1)
theorem leads_ne {n : Nat} {r : List Int} (hl : r.length = n) (hr : ∃ i, i < n ∧ r.getD i 0 ≠ 0) : (leadsP n r).getD 0 0 < n ∧ r.getD ((leadsP n r).getD 0 0) 0 ≠ 0 ∧ ∃ x y, leadsP n r = x :: y := by
  have hne : leadsP n r ≠ [] := by
    obtain ⟨i, hi, hz⟩ := hr
    intro h
    have : i ∈ leadsP n r := List.mem_filter.mpr ⟨List.mem_range.mpr hi, by simpa using hz⟩
    rw [h] at this
    cases this
  cases e : leadsP n r with
  | nil => exact absurd e hne
  | cons x y =>
    have hx : x ∈ leadsP n r := by rw [e]; exact List.mem_cons_self
    obtain ⟨h1, h2⟩ := List.mem_filter.mp hx
    exact ⟨List.mem_range.mp h1, by simpa using h2, x, y, rfl⟩
theorem zero3 {r : List Int} (hl : r.length = 3) : r = [0, 0, 0] ↔ ∀ i, i < 3 → r.getD i 0 = 0 := by
  match r, hl with
  | [a, b, c], _ =>
    constructor
    · intro h i hi
      rw [h]
      rcases (by omega : i = 0 ∨ i = 1 ∨ i = 2) with rfl | rfl | rfl <;> rfl
    · intro h
      have h0 : a = 0 := h 0 (by decide)
      have h1 : b = 0 := h 1 (by decide)
      have h2 : c = 0 := h 2 (by decide)
      rw [h0, h1, h2]

structure LadOk (n : Nat) (base : List Base) : Prop where
  ok : BaseOk n base
  lad : Ladder base
  nz : ∀ b ∈ base, b.2.getD b.1 0 ≠ 0
  one : ∀ a, (base.map (·.1)).count a ≤ 1
theorem LadOk.add {n p : Nat} {base : List Base} (h : LadOk n base) {vec : List Int} (hv : vec.length = n) (hs : Small vec) (h0 : 0 < p) (h1 : p < 100) (hr : ∃ i, i < n ∧ (freeP p vec base).getD i 0 ≠ 0) :
    LadOk n (base ++ [((leadsP n (freeP p vec base)).getD 0 0, freeP p vec base)]) := by
  have hl := freeP_len (p := p) base vec hv fun b hb => (h.ok b hb).2.1
  obtain ⟨l1, l2, _⟩ := leads_ne hl hr
  have hz := freeP_lead (p := p) base vec hv (fun b hb => ⟨(h.ok b hb).1, (h.ok b hb).2.1⟩) h.lad
  refine ⟨fun b hb => ?_, h.lad.snoc hz, fun b hb => ?_, fun a => ?_⟩
  · rcases List.mem_append.mp hb with hb | hb
    · exact h.ok b hb
    · rw [List.mem_singleton.mp hb]; exact ⟨l1, hl, freeP_small h0 h1 base vec hs⟩
  · rcases List.mem_append.mp hb with hb | hb
    · exact h.nz b hb
    · rw [List.mem_singleton.mp hb]; exact l2
  · rw [List.map_append, List.count_append]
    have h1 := h.one a
    by_cases ha : (leadsP n (freeP p vec base)).getD 0 0 = a
    · have : (base.map (·.1)).count a = 0 := by
        rw [List.count_eq_zero]
        intro hm
        obtain ⟨b, hb, hbe⟩ := List.mem_map.mp hm
        have := hz b hb
        rw [hbe, ← ha] at this
        exact l2 this
      rw [this]
      simp [List.count_cons]
      split <;> omega
    · have : List.count a (List.map (fun x : Base => x.1) [((leadsP n (freeP p vec base)).getD 0 0, freeP p vec base)]) = 0 := by
        rw [List.count_eq_zero]
        intro hm
        rw [List.map_cons, List.map_nil, List.mem_singleton] at hm
        exact ha hm.symm
      omega
theorem LadOk.le3 {base : List Base} (h : LadOk 3 base) : base.length ≤ 3 := by
  have e := len3 (base.map (·.1)) fun x hx => by
    obtain ⟨r, hr, rfl⟩ := List.mem_map.mp hx
    exact (h.ok r hr).1
  rw [List.length_map] at e
  have h0 := h.one 0
  have h1 := h.one 1
  have h2 := h.one 2
  omega
theorem backP_ok {u v : List Nat} {vec : List Int} (hs : Small vec) (c : Nat) : ∀ (reached : List Row) (b : List Int), b.length = 3 → Small b → (reached.foldl (fun b r => b.set r.2 (vec.getD (stepP u v c r.2) 0)) b).length = 3 ∧ Small (reached.foldl (fun b r => b.set r.2 (vec.getD (stepP u v c r.2) 0)) b)
  | [], b, h1, h2 => ⟨h1, h2⟩
  | r :: rs, b, h1, h2 => by
    rw [List.foldl_cons]
    refine backP_ok hs c rs _ (by rw [List.length_set]; exact h1) fun x hx => ?_
    rcases List.mem_or_eq_of_mem_set hx with h | h
    · exact h2 x h
    · rw [h]; exact hs.getD _
end Mine

-- G16
namespace Mine

structure ColSt (waiting : List Col) (base : List Base) (cols : List Col) : Prop where
  w : ∀ q ∈ waiting, SignsOk q.1 ∧ q.2.length = 3 ∧ Small q.2 ∧ q.1.length ≤ base.length
  lad : LadOk 3 base
  c : ∀ q ∈ cols, SignsOk q.1 ∧ q.2.length = 3 ∧ Small q.2 ∧ q.1.length ≤ 2
  cl : cols.length = base.length
theorem backP_is {u v : List Nat} {reached : List Row} {vec : List Int} (hs : Small vec) (c : Nat) : (backP u v reached vec c).length = 3 ∧ Small (backP u v reached vec c) :=
  backP_ok hs c reached [0, 0, 0] rfl fun x hx => by simp at hx; rw [hx]; decide
theorem nonzero3 {r : List Int} (hl : r.length = 3) (h : ¬ r = [0, 0, 0]) : ∃ i, i < 3 ∧ r.getD i 0 ≠ 0 := by
  by_cases h0 : r.getD 0 0 = 0
  · by_cases h1 : r.getD 1 0 = 0
    · by_cases h2 : r.getD 2 0 = 0
      · exact absurd ((zero3 hl).mpr fun i hi => by rcases (by omega : i = 0 ∨ i = 1 ∨ i = 2) with rfl | rfl | rfl <;> assumption) h
      · exact ⟨2, by decide, h2⟩
    · exact ⟨1, by decide, h1⟩
  · exact ⟨0, by decide, h0⟩
theorem ColSt.add {p : Nat} {q : Col} {rest : List Col} {base : List Base} {cols : List Col} {u v : List Nat} {reached : List Row} (h : ColSt (q :: rest) base cols) (h0 : 0 < p) (h1 : p < 100) (hn : ¬ freeP p q.2 base = [0, 0, 0]) :
    base.length < 3 ∧ ColSt (rest ++ [(46 :: q.1, backP u v reached q.2 46), (64 :: q.1, backP u v reached q.2 64)]) (base ++ [((leadsP 3 (freeP p q.2 base)).getD 0 0, freeP p q.2 base)]) (cols ++ [q]) := by
  obtain ⟨w1, w2, w3, w4⟩ := h.w q List.mem_cons_self
  have hl := freeP_len (p := p) base q.2 w2 fun b hb => (h.lad.ok b hb).2.1
  have hlad := h.lad.add w2 w3 h0 h1 (nonzero3 hl hn)
  have h3 := hlad.le3
  rw [List.length_append, List.length_singleton] at h3
  refine ⟨h3, ⟨fun x hx => ?_, hlad, fun x hx => ?_, ?_⟩⟩
  · rw [List.length_append, List.length_singleton]
    rcases List.mem_append.mp hx with hx | hx
    · obtain ⟨a, b, c, d⟩ := h.w x (List.mem_cons_of_mem _ hx)
      exact ⟨a, b, c, by omega⟩
    · have hx' : x = (46 :: q.1, backP u v reached q.2 46) ∨ x = (64 :: q.1, backP u v reached q.2 64) := by simpa using hx
      rcases hx' with rfl | rfl
      · exact ⟨fun c hc => by rcases List.mem_cons.mp hc with rfl | hc; exact .inl rfl; exact w1 c hc, (backP_is w3 46).1, (backP_is w3 46).2, by show _ + 1 ≤ _; omega⟩
      · exact ⟨fun c hc => by rcases List.mem_cons.mp hc with rfl | hc; exact .inr rfl; exact w1 c hc, (backP_is w3 64).1, (backP_is w3 64).2, by show _ + 1 ≤ _; omega⟩
  · rcases List.mem_append.mp hx with hx | hx
    · exact h.c x hx
    · rw [List.mem_singleton.mp hx]; exact ⟨w1, w2, w3, by omega⟩
  · rw [List.length_append, List.length_append, h.cl]; rfl
theorem ColSt.drop {q : Col} {rest : List Col} {base : List Base} {cols : List Col} (h : ColSt (q :: rest) base cols) : ColSt rest base cols := ⟨fun x hx => h.w x (List.mem_cons_of_mem _ hx), h.lad, h.c, h.cl⟩
theorem colsGo_ok {u v : List Nat} {reached : List Row} {p : Nat} (h0 : 0 < p) (h1 : p < 100) : ∀ (f : Nat) (waiting : List Col) (base : List Base) (cols : List Col), ColSt waiting base cols → ∃ w b, ColSt w b (colsGo u v reached p f waiting base cols)
  | 0, w, b, c, h => ⟨w, b, h⟩
  | f + 1, [], b, c, h => ⟨[], b, h⟩
  | f + 1, q :: rest, b, c, h => by
    unfold colsGo
    split
    · exact colsGo_ok h0 h1 f _ _ _ h.drop
    · rename_i hn
      exact colsGo_ok h0 h1 f _ _ _ (h.add h0 h1 hn).2

theorem strOk_signs {w : List Nat} (hw : SignsOk w) : PyData.strOk (tx w) = true := by
  unfold PyData.strOk
  simp only [List.all_toArray]
  refine List.all_eq_true.mpr fun c hc => ?_
  rcases hw c hc with rfl | rfl <;> decide
theorem kqd_col {q : Col} (hq : SignsOk q.1) : kqdOk 8 (toDat (colD q)) = true := by
  simp [toDat, toDats, kqdOk, toDats_map, strOk_signs hq]
theorem kqd_cols {l : List Col} (h : ∀ q ∈ l, SignsOk q.1) : ∀ d ∈ toDats (l.map colD), kqdOk 8 d = true := by
  intro d hd
  rw [toDats_map, List.map_map] at hd
  obtain ⟨q, hq, rfl⟩ := List.mem_map.mp hd
  exact kqd_col (h q hq)

noncomputable abbrev colL1 (u v : List Nat) (reached : List Row) (p : Nat) (waiting : List Col) (base : List Base) (cols : List Col) : Vars :=
  [("waiting", .own (waiting.map colD)), ("base", .own (base.map baseD)), ("columns", .own (cols.map colD)), ("turns", .v (turnsD u v)), ("reached", .v (.lst (reached.map rowD))), ("prime", .v (.int (p : Nat)))]
noncomputable abbrev colL2 (u v : List Nat) (reached : List Row) (p : Nat) (q : Col) (waiting : List Col) (base : List Base) (cols : List Col) : Vars :=
  ("word", .v (.str (tx q.1))) :: ("vector", .v (vecD q.2)) :: colL1 u v reached p waiting base cols
noncomputable abbrev colL3 (u v : List Nat) (reached : List Row) (p : Nat) (q : Col) (waiting : List Col) (base : List Base) (cols : List Col) (c : Nat) (b : List Int) : Vars :=
  ("back", .own (b.map D.int)) :: ("sign", .v (.str (tx [c]))) :: ("number", .v (.int (if c = 46 then 23 else 49))) :: colL2 u v reached p q waiting base cols
theorem colL1_of {u v : List Nat} {reached : List Row} {p : Nat} {waiting : List Col} {base : List Base} {cols : List Col} {ρ : Vars} (h : Has ρ (colL1 u v reached p waiting base cols)) : Has ρ (colL1 u v reached p waiting base cols) := h

section
variable {W : Wd} {k : Nat}
set_option maxHeartbeats 8000000 in
theorem c_columns (O : W.Ok) (fn : HasFn W 67) (ff : HasFn W 66) (b1 : W.mg "range" = none) (hz : W.mg "zip" = none) {u v : List Nat} {p : Nat} {costs : List Int} {reached : List Row} (hu : TurnOk u) (hv : TurnOk v) (hr : FoundOk reached) (hcl : costs.length = 3) (hcs : Small costs) (hp0 : 0 < p) (hp : p < 100) :
    Calls W (k + 2) "_law_columns" [.v (turnsD u v), .v (vecD costs), .v (.lst (reached.map rowD)), .v (.int (p : Nat))] (.lst ((colsP u v reached p costs).map colD)) := by
  refine calls_of (ps := ["turns", "costs", "reached", "prime"]) O fn ?_ (by decide) rfl ?_ ?_
  · intro pm code doc vs hl
    match vs, hl with
    | [v, w, x, y], _ => rfl
  · intro x hx
    have hx' : x = "turns" ∨ x = "costs" ∨ x = "reached" ∨ x = "prime" := by simpa using hx
    rcases hx' with rfl | rfl | rfl | rfl <;> (left; rfl)
  · have r3 := hr.le3
    refine xs_cons (x_swap_own3 (ds := []) (gs := []) (us := [colD ([], costs)]) .nil .nil (.cons (ev_tup (ds := [_, _]) (.cons ev_str (.cons (ev_name rfl) .nil (fun _ _ => rfl)) (fun _ _ => rfl)) (by show 2 ≤ _; decide)) .nil (fun _ _ => rfl)) rfl rfl rfl (fun _ => rfl) (fun env h1 h2 => (swapped_env h1 h2).trans rfl) (by decide) (by decide) (by show 1 ≤ _; decide)) ?_
    refine xs_ex (x_while_ind2 (fun f ρ => ∃ (waiting : List Col) (base : List Base) (cols : List Col), f ≤ 7 ∧ waiting.length + 2 * (3 - base.length) ≤ f ∧ ColSt waiting base cols ∧ colsGo u v reached p f waiting base cols = colsP u v reached p costs ∧ Has ρ (colL1 u v reached p waiting base cols)) (fun ρ => Has ρ [("columns", .own ((colsP u v reached p costs).map colD))]) (n := 7) ?_ ?_) ?_
    · exact ⟨[([], costs)], [], [], by decide, by show 1 + 2 * 3 ≤ 7; decide, ⟨fun q hq => by rw [List.mem_singleton.mp hq]; exact ⟨fun c hc => (nomatch hc), hcl, hcs, Nat.le_refl _⟩, ⟨fun _ h => (nomatch h), trivial, fun _ h => (nomatch h), fun _ => by simp⟩, fun _ h => (nomatch h), rfl⟩, rfl, .cons rfl (.cons rfl (.cons rfl (.cons rfl (.cons rfl (.cons rfl .nil)))))⟩
    · rintro f ρ1 ⟨waiting, base, cols, hf7, hf, hst, hgo, hh⟩
      refine ⟨!waiting.isEmpty, t_cmp (evr_own (hh.get List.mem_cons_self)) (.of (ev_lst (ds := []) .nil)) (cmp_ne_lists (kqd_cols fun q hq => (hst.w q hq).1) (fun d hd => (nomatch hd)) (b := waiting.isEmpty) ?_), fun hb => ?_, fun hb => ?_⟩
      · cases waiting with
        | nil => simp
        | cons q r => simp [toDats]
      · have hw : waiting = [] := by simpa using hb
        subst hw
        have : colsGo u v reached p f [] base cols = cols := by cases f <;> rfl
        rw [← hgo, this]
        exact .cons (hh.get (by simp)) .nil
      · cases waiting with
        | nil => simp at hb
        | cons q rest =>
          cases f with
          | zero => simp at hf
          | succ f =>
            obtain ⟨w1, w2, w3, w4⟩ := hst.w q List.mem_cons_self
            rw [List.length_cons] at hf
            have hb3 := hst.lad.le3
            have hfl := freeP_len (p := p) base q.2 w2 fun b hb => (hst.lad.ok b hb).2.1
            have hfs := freeP_small hp0 hp base q.2 w3
            by_cases hzero : freeP p q.2 base = [0, 0, 0]
            · refine ⟨colL1 u v reached p rest base cols, f, Nat.lt_succ_self _, xs_has hh ?_, rest, base, cols, by omega, by omega, hst.drop, ?_, .cons rfl (.cons rfl (.cons rfl (.cons rfl (.cons rfl (.cons rfl .nil)))))⟩
              · refine xs_cons (x_pop (ts := [("word", _), ("vector", _)]) (ds := [.str (tx q.1), vecD q.2]) (rest := rest.map colD) ?_ ?_ ?_ ?_ ?_ ?_ ?_) ?_
                · rfl
                · exact ev_int
                · exact fun _ => ⟨_, rfl⟩
                · exact fun _ => rfl
                · rfl
                · rfl
                · rw [List.length_map]; omega
                refine xs_cons (x_set (d := vecD (freeP p q.2 base)) ?_ ?_) ?_
                · refine ev_call O ff ?_ (.cons ?_ (.cons ?_ (.cons ?_ .nil ?_) ?_) ?_) (c_free O ff hz w2 w3 hst.lad.ok (by decide) hp0 hp) (by simp)
                  · rfl
                  · exact eva_v (ev_name rfl)
                  · exact eva_b (evr_own rfl)
                  · exact eva_v (ev_name rfl)
                  · exact fun _ _ => rfl
                  · exact fun _ _ => rfl
                  · exact fun _ _ => rfl
                · rfl
                refine xs_if_skip (b := !decide (freeP p q.2 base = [0, 0, 0])) ?_ (by simp [hzero]) (xs_outH xs_nil ?_)
                · refine t_cmp (name_v ?_) (.of (ev_lst (ds := [0, 0, 0].map D.int) ?_ (by decide))) (cmp_ne_ints _ _)
                  · rfl
                  · exact .cons ev_int (.cons ev_int (.cons ev_int .nil (fun _ _ => rfl)) (fun _ _ => rfl)) (fun _ _ => rfl)
                · exact .cons rfl (.cons rfl (.cons rfl (.cons rfl (.cons rfl (.cons rfl .nil)))))
              · rw [← hgo]
                conv => rhs; unfold colsGo
                rw [if_pos hzero]
            · obtain ⟨lt3, hst'⟩ := hst.add (u := u) (v := v) (reached := reached) hp0 hp hzero
              obtain ⟨l1, l2, x0, y0, l3⟩ := leads_ne hfl (nonzero3 hfl hzero)
              generalize hfr : freeP p q.2 base = fr at *
              have hgo' : colsGo u v reached p f (rest ++ [(46 :: q.1, backP u v reached q.2 46), (64 :: q.1, backP u v reached q.2 64)]) (base ++ [((leadsP 3 fr).getD 0 0, fr)]) (cols ++ [q]) = colsP u v reached p costs := by
                rw [← hgo]
                conv => rhs; unfold colsGo
                rw [hfr, if_neg hzero]
              generalize hlead : (leadsP 3 fr).getD 0 0 = lead at *
              refine ⟨colL1 u v reached p (rest ++ [(46 :: q.1, backP u v reached q.2 46), (64 :: q.1, backP u v reached q.2 64)]) (base ++ [(lead, fr)]) (cols ++ [q]), f, Nat.lt_succ_self _, xs_has hh ?_, _, _, _, by omega, by rw [List.length_append, List.length_append]; show rest.length + 2 + 2 * (3 - (base.length + 1)) ≤ f; omega, hst', hgo', .cons rfl (.cons rfl (.cons rfl (.cons rfl (.cons rfl (.cons rfl .nil)))))⟩
              refine xs_cons (x_pop (ts := [("word", _), ("vector", _)]) (ds := [.str (tx q.1), vecD q.2]) (rest := rest.map colD) ?_ ?_ ?_ ?_ ?_ ?_ ?_) ?_
              · rfl
              · exact ev_int
              · exact fun _ => ⟨_, rfl⟩
              · exact fun _ => rfl
              · rfl
              · rfl
              · rw [List.length_map]; omega
              refine xs_cons (x_set (d := vecD fr) ?_ ?_) ?_
              · rw [← hfr]
                refine ev_call O ff ?_ (.cons ?_ (.cons ?_ (.cons ?_ .nil ?_) ?_) ?_) (c_free O ff hz w2 w3 hst.lad.ok (by decide) hp0 hp) (by simp)
                · rfl
                · exact eva_v (ev_name rfl)
                · exact eva_b (evr_own rfl)
                · exact eva_v (ev_name rfl)
                · exact fun _ _ => rfl
                · exact fun _ _ => rfl
                · exact fun _ _ => rfl
              · rfl
              refine xs_if_go (b := !decide (fr = [0, 0, 0])) ?_ (by simpa using hzero) ?_ xs_nil
              · refine t_cmp (name_v ?_) (.of (ev_lst (ds := [0, 0, 0].map D.int) ?_ (by decide))) (cmp_ne_ints _ _)
                · rfl
                · exact .cons ev_int (.cons ev_int (.cons ev_int .nil (fun _ _ => rfl)) (fun _ _ => rfl)) (fun _ _ => rfl)
              refine xs_cons (x_append (ds := base.map baseD) (d := baseD (lead, fr)) ?_ (ev_tup (ds := [.int (lead : Nat), vecD fr]) (.cons (ev_item (d := .lst ((leadsP 3 fr).map natD)) (i := 0) (.of (ev_comp (ds := (List.range 3).map natD) (nm := true) ?_ ?_ ?_ ?_ ?_ ?_ (by decide))) ?_ (item_lst (j := 0) (i := 0) ?_ ?_ (by decide) (by decide))) (.cons ?_ .nil ?_) ?_) (by show 2 ≤ _; decide)) ⟨fun _ => rfl, fun _ => rfl, rfl, fun _ => rfl⟩ (by rw [List.length_map]; omega)) ?_
              · rfl
              · exact it_range1 (n := 3) O ev_int (fun _ _ => rfl) (by decide) b1 rfl rfl
              · rfl
              · rfl
              · rfl
              · rfl
              · refine comp_if (l := List.range 3) natD natD (fun k => fr.getD k 0 != 0) fun i hi => ⟨_, rfl, ?_, fun _ => ev_name rfl⟩
                have hi' := List.mem_range.mp hi
                exact t_cmp (.of (ev_item (name_v rfl) (name_v rfl) (item_vec (by omega) (by omega)))) (.of ev_int) cmp_ne_int
              · exact .of ev_int
              · rw [l3, List.length_map]; exact seqIndex_of (i := 0) (by simp)
              · rw [← hlead, l3]; rfl
              · exact ev_name rfl
              · exact fun _ _ => rfl
              · exact fun _ _ => rfl
              refine xs_cons (x_append (ds := cols.map colD) (d := colD q) ?_ (ev_tup (ds := [.str (tx q.1), vecD q.2]) (.cons ?_ (.cons ?_ .nil ?_) ?_) (by show 2 ≤ _; decide)) ⟨fun _ => rfl, fun _ => rfl, rfl, fun _ => rfl⟩ (by rw [List.length_map, hst.cl]; omega)) ?_
              · rfl
              · exact ev_name rfl
              · exact ev_name rfl
              · exact fun _ _ => rfl
              · exact fun _ _ => rfl
              have hseg : Has (("columns", .own (cols.map colD ++ [colD q])) :: ("base", .own (base.map baseD ++ [baseD (lead, fr)])) :: ("rest", .v (vecD fr)) :: boundAll [("word", ⟨0, 0, 0, 0⟩), ("vector", ⟨0, 0, 0, 0⟩)] [.str (tx q.1), vecD q.2] (("waiting", .own (rest.map colD)) :: colL1 u v reached p (q :: rest) base cols)) (colL2 u v reached p q rest (base ++ [(lead, fr)]) (cols ++ [q])) :=
                .cons rfl (.cons rfl (.cons rfl (.cons (by rw [List.map_append]; rfl) (.cons (by rw [List.map_append]; rfl) (.cons rfl (.cons rfl (.cons rfl .nil)))))))
              refine xs_has (l := colL2 u v reached p q rest (base ++ [(lead, fr)]) (cols ++ [q])) hseg ?_
              generalize base ++ [(lead, fr)] = base'
              generalize cols ++ [q] = cols'
              refine xs_ex (x_for_ind (fun more ρ => ∃ (cs : List Nat) (wt : List Col), more = cs.map signD ∧ SignsOk cs ∧ wt ++ cs.map (fun c => (c :: q.1, backP u v reached q.2 c)) = rest ++ [(46 :: q.1, backP u v reached q.2 46), (64 :: q.1, backP u v reached q.2 64)] ∧ Has ρ (colL2 u v reached p q wt base' cols'))
                (nm := true) (ds := [46, 64].map signD) ?_ rfl rfl ?_ ?_) ?_
              · refine it_tup (ev_tup (ds := [46, 64].map signD) (.cons (ev_tup (ds := [_, _]) (.cons ev_str (.cons ev_int .nil (fun _ _ => rfl)) (fun _ _ => rfl)) (by show 2 ≤ _; decide)) (.cons (ev_tup (ds := [_, _]) (.cons ev_str (.cons ev_int .nil (fun _ _ => rfl)) (fun _ _ => rfl)) (by show 2 ≤ _; decide)) .nil (fun _ _ => rfl)) (fun _ _ => rfl)) (by show 2 ≤ _; decide))
              · exact ⟨[46, 64], rest, rfl, fun c hc => by simpa using hc, rfl, .cons rfl (.cons rfl (.cons rfl (.cons rfl (.cons rfl (.cons rfl (.cons rfl (.cons rfl .nil)))))))⟩
              · rintro d more ρ2 ⟨cs, wt, e, hcs, hwt, hh2⟩
                cases cs with
                | nil => cases e
                | cons c cs =>
                  rw [List.map_cons] at e
                  injection e with e1 e2
                  subst e1
                  have hc := hcs c List.mem_cons_self
                  have hwl : wt.length ≤ 1000 := by
                    have := congrArg List.length hwt
                    rw [List.length_append, List.length_append] at this
                    simp at this
                    omega
                  refine ⟨_, colL2 u v reached p q (wt ++ [(c :: q.1, backP u v reached q.2 c)]) base' cols', rfl, xs_has (l := ("number", .v (.int (if c = 46 then 23 else 49))) :: ("sign", .v (.str (tx [c]))) :: colL2 u v reached p q wt base' cols') ?_ ?_, cs, _, e2, fun c hc => hcs c (List.mem_cons_of_mem _ hc), by rw [← hwt]; simp, .cons rfl (.cons rfl (.cons rfl (.cons rfl (.cons rfl (.cons rfl (.cons rfl (.cons rfl .nil)))))))⟩
                  · exact .cons rfl (.cons rfl (.cons (hh2.get (by simp)) (.cons (hh2.get (by simp)) (.cons (hh2.get (by simp)) (.cons (hh2.get (by simp)) (.cons (hh2.get (by simp)) (.cons (hh2.get (by simp)) (.cons (hh2.get (by simp)) (.cons (hh2.get (by simp)) .nil)))))))))
                  · refine xs_cons (x_own (ds := [0, 0, 0].map D.int) (.cons ev_int (.cons ev_int (.cons ev_int .nil (fun _ _ => rfl)) (fun _ _ => rfl)) (fun _ _ => rfl)) rfl (by decide)) ?_
                    refine xs_ex (x_for_ind (fun more ρ => ∃ (r' : List Row) (b : List Int), more = r'.map rowD ∧ (∀ r ∈ r', r.2 < 3) ∧ b.length = 3 ∧ r'.foldl (fun b r => b.set r.2 (q.2.getD (stepP u v c r.2) 0)) b = backP u v reached q.2 c ∧ Has ρ (colL3 u v reached p q wt base' cols' c b))
                      (ds := reached.map rowD) (it_list (ev_name rfl)) rfl rfl ?_ ?_) ?_
                    · exact ⟨reached, [0, 0, 0], rfl, hr.lt, rfl, rfl, .cons rfl (.cons rfl (.cons rfl (.cons rfl (.cons rfl (.cons rfl (.cons rfl (.cons rfl (.cons rfl (.cons rfl (.cons rfl .nil))))))))))⟩
                    · rintro d more ρ3 ⟨r', b, e, hlt, hbl, hfold, hh3⟩
                      cases r' with
                      | nil => cases e
                      | cons r r' =>
                        obtain ⟨w, st⟩ := r
                        rw [List.map_cons] at e
                        injection e with e1 e2
                        subst e1
                        have hst3 : st < 3 := hlt (w, st) List.mem_cons_self
                        have hstep : stepP u v c st < 3 := by unfold stepP; split; exact hu.lt _; exact hv.lt _
                        refine ⟨_, colL3 u v reached p q wt base' cols' c (b.set st (q.2.getD (stepP u v c st) 0)), rfl, xs_has (l := ("state", .v (.int (st : Nat))) :: colL3 u v reached p q wt base' cols' c b) ?_ (xs_outH (xs_cons (x_setitem (ds := b.map D.int) (d := .int (q.2.getD (stepP u v c st) 0)) (j := st) rfl (ev_name rfl) (ev_item (name_v rfl) (.of (ev_turn hu hv rfl (name_v rfl) (name_v rfl) hst3)) (item_vec (by omega) (by omega))) (by rw [List.length_map]; omega) (by rw [List.length_map]; omega)) xs_nil) ?_), r', _, e2, fun r hr => hlt r (List.mem_cons_of_mem _ hr), by rw [List.length_set]; exact hbl, hfold, ?_⟩
                        · exact .cons rfl (.cons (hh3.get (by simp)) (.cons (hh3.get (by simp)) (.cons (hh3.get (by simp)) (.cons (hh3.get (by simp)) (.cons (hh3.get (by simp)) (.cons (hh3.get (by simp)) (.cons (hh3.get (by simp)) (.cons (hh3.get (by simp)) (.cons (hh3.get (by simp)) (.cons (hh3.get (by simp)) (.cons (hh3.get (by simp)) .nil)))))))))))
                        · exact .cons (by rw [List.map_set]; rfl) (.cons rfl (.cons rfl (.cons rfl (.cons rfl (.cons rfl (.cons rfl (.cons rfl (.cons rfl (.cons rfl (.cons rfl .nil))))))))))
                        · exact .cons rfl (.cons rfl (.cons rfl (.cons rfl (.cons rfl (.cons rfl (.cons rfl (.cons rfl (.cons rfl (.cons rfl (.cons rfl .nil))))))))))
                    · rintro ρ3 ⟨r', b, e, hlt, hbl, hfold, hh3⟩
                      cases r' with
                      | cons r r' => cases e
                      | nil =>
                        have hbe : b = backP u v reached q.2 c := hfold
                        rw [← hbe]
                        refine xs_has hh3 (xs_freeze "back" rfl ?_)
                        refine xs_outH (xs_cons (x_append (ds := wt.map colD) (d := colD (c :: q.1, b)) rfl (ev_tup (ds := [.str (tx (c :: q.1)), vecD b]) (.cons ?_ (.cons (ev_name rfl) .nil (fun _ _ => rfl)) (fun _ _ => rfl)) (by show 2 ≤ _; decide)) ⟨fun _ => rfl, fun _ => rfl, rfl, fun _ => rfl⟩ (by rw [List.length_map]; omega)) xs_nil) (.cons rfl (.cons rfl (.cons (by rw [List.map_append]; rfl) (.cons rfl (.cons rfl (.cons rfl (.cons rfl (.cons rfl .nil))))))))
                        exact ev_tcat (a := [c]) (b := q.1) (name_v rfl) (name_v rfl) (by show 1 + _ ≤ _; omega)
              · rintro ρ2 ⟨cs, wt, e, hcs, hwt, hh2⟩
                cases cs with
                | cons c cs => cases e
                | nil =>
                  rw [List.map_nil, List.append_nil] at hwt
                  rw [← hwt]
                  exact xs_has hh2 (xs_outH xs_nil (.cons rfl (.cons rfl (.cons rfl (.cons rfl (.cons rfl (.cons rfl .nil)))))))
    · rintro ρ' hh
      exact xs_freeze "columns" (hh.get List.mem_cons_self) (xs_ret (x_ret (ev_name rfl)))
end
end Mine

-- G17
namespace Mine

theorem cmp_ne_nats {W : Wd} (l : List Nat) : CmpOk W .NotEq (.lst (l.map natD)) (.lst []) (!l.isEmpty) := by
  refine cmp_ne_lists (b := l.isEmpty) ?_ (fun d hd => (nomatch hd)) ?_
  · have : l.map natD = (l.map fun n : Nat => (n : Int)).map D.int := by rw [List.map_map]; rfl
    rw [this]
    exact ints_ok 8 _
  · cases l with
    | nil => simp
    | cons q r => simp [toDats]


noncomputable def rowVec (cols : List Col) (s : Nat) : List Int := cols.map fun c => c.2.getD s 0
noncomputable def rowsGo (p : Nat) (cols : List Col) : List Row → List Base → List Row → List Row
  | [], _, rows => rows
  | r :: rest, base, rows =>
    let fr := freeP p (rowVec cols r.2) base
    if leadsP cols.length fr = [] then rowsGo p cols rest base rows
    else rowsGo p cols rest (base ++ [((leadsP cols.length fr).getD 0 0, fr)]) (rows ++ [r])
noncomputable def rowsP (p : Nat) (cols : List Col) (reached : List Row) : List Row := rowsGo p cols reached [] []

noncomputable abbrev rowL1 (p : Nat) (cols : List Col) (base : List Base) (rows : List Row) : Vars :=
  [("rows", .own (rows.map rowD)), ("base", .own (base.map baseD)), ("columns", .v (.lst (cols.map colD))), ("prime", .v (.int (p : Nat)))]
theorem rowVec_ok {cols : List Col} (h : ∀ q ∈ cols, Small q.2) (s : Nat) : Small (rowVec cols s) := by
  intro x hx
  obtain ⟨q, hq, rfl⟩ := List.mem_map.mp hx
  exact (h q hq).getD s
theorem leads_nil {n : Nat} {r : List Int} (h : ¬ leadsP n r = []) : ∃ i, i < n ∧ r.getD i 0 ≠ 0 := by
  cases e : leadsP n r with
  | nil => exact absurd e h
  | cons x y =>
    have hx : x ∈ leadsP n r := by rw [e]; exact List.mem_cons_self
    obtain ⟨h1, h2⟩ := List.mem_filter.mp hx
    exact ⟨x, List.mem_range.mp h1, by simpa using h2⟩

section
variable {W : Wd} {k : Nat}
set_option maxHeartbeats 8000000 in
theorem c_rows (O : W.Ok) (fn : HasFn W 68) (ff : HasFn W 66) (b1 : W.mg "range" = none) (b2 : W.mg "len" = none) (hz : W.mg "zip" = none) {p : Nat} {cols : List Col} {reached : List Row} (hr : FoundOk reached) (hc : ∀ q ∈ cols, q.2.length = 3 ∧ Small q.2) (hcl : cols.length ≤ 4) (hp0 : 0 < p) (hp : p < 100) :
    Calls W (k + 2) "_law_rows" [.v (.lst (reached.map rowD)), .v (.lst (cols.map colD)), .v (.int (p : Nat))] (.lst ((rowsP p cols reached).map rowD)) := by
  refine calls_of (ps := ["reached", "columns", "prime"]) O fn ?_ (by decide) rfl ?_ ?_
  · intro pm code doc vs hl
    match vs, hl with
    | [v, w, x], _ => rfl
  · intro x hx
    have hx' : x = "reached" ∨ x = "columns" ∨ x = "prime" := by simpa using hx
    rcases hx' with rfl | rfl | rfl <;> (left; rfl)
  · have r3 := hr.le3
    refine xs_cons (x_swap_own2 (ds := []) (gs := []) .nil .nil rfl rfl (fun _ => rfl) (fun env h1 h2 => (swapped_env h1 h2).trans rfl) (by decide) (by decide)) ?_
    refine xs_ex (x_for_ind (fun rest ρ => ∃ (r' : List Row) (base : List Base) (rows : List Row), rest = r'.map rowD ∧ (∀ r ∈ r', r.2 < 3) ∧ LadOk cols.length base ∧ base.length + r'.length ≤ 3 ∧ rows.length = base.length ∧ rowsGo p cols r' base rows = rowsP p cols reached ∧ Has ρ (rowL1 p cols base rows))
      (ds := reached.map rowD) (it_list (ev_name rfl)) rfl rfl ?_ ?_) ?_
    · exact ⟨reached, [], [], rfl, hr.lt, ⟨fun _ h => (nomatch h), trivial, fun _ h => (nomatch h), fun _ => by simp⟩, by simpa using r3, rfl, rfl, .cons rfl (.cons rfl (.cons rfl (.cons rfl .nil)))⟩
    · rintro d rest ρ1 ⟨r', base, rows, e, hlt, hlad, hlen, hrl, hgo, hh⟩
      cases r' with
      | nil => cases e
      | cons r r' =>
        obtain ⟨w, st⟩ := r
        rw [List.map_cons] at e
        injection e with e1 e2
        subst e1
        have hst := hlt (w, st) List.mem_cons_self
        dsimp only at hst
        rw [List.length_cons] at hlen
        have hvs := rowVec_ok (fun q hq => (hc q hq).2) st
        have hvl : (rowVec cols st).length = cols.length := by unfold rowVec; rw [List.length_map]
        have hfl := freeP_len (p := p) base (rowVec cols st) hvl fun b hb => (hlad.ok b hb).2.1
        have hfs := freeP_small hp0 hp base _ hvs
        have hlt' : ∀ r ∈ r', r.2 < 3 := fun r hr => hlt r (List.mem_cons_of_mem _ hr)
        have hadd := fun h => hlad.add hvl hvs hp0 hp h
        have hgo' := hgo
        unfold rowsGo at hgo'
        dsimp only at hgo'
        generalize hfr : freeP p (rowVec cols st) base = fr at hfl hfs hadd hgo'
        have start : ∀ {o : Out}, Execs W (fnSc (fnDef 68).2.2.2) (k + 1) (match (fnDef 68).2.2.1 with | [_, .For _ _ b _ _, _] => b.drop 2 | _ => []) (("leads", .v (.lst ((leadsP cols.length fr).map natD))) :: ("rest", .v (vecD fr)) :: ("state", .v (.int (st : Nat))) :: ("word", .v (.str (tx w))) :: rowL1 p cols base rows) o →
            Execs W (fnSc (fnDef 68).2.2.2) (k + 1) (match (fnDef 68).2.2.1 with | [_, .For _ _ b _ _, _] => b | _ => []) (("state", .v (.int (st : Nat))) :: ("word", .v (.str (tx w))) :: ρ1) o := fun {o} hx => by
          refine xs_has (l := ("state", .v (.int (st : Nat))) :: ("word", .v (.str (tx w))) :: rowL1 p cols base rows) ?_ ?_
          · exact .cons rfl (.cons rfl (.cons (hh.get (by simp)) (.cons (hh.get (by simp)) (.cons (hh.get (by simp)) (.cons (hh.get (by simp)) .nil)))))
          · refine xs_cons (x_set (d := vecD fr) ?_ rfl) ?_
            · rw [← hfr]
              refine ev_call O ff rfl (.cons (eva_v ?_) (.cons (eva_b (evr_own (ds := base.map baseD) rfl)) (.cons (eva_v (ev_name rfl)) .nil (fun _ _ => rfl)) (fun _ _ => rfl)) (fun _ _ => rfl)) (c_free O ff hz hvl hvs hlad.ok (by omega) hp0 hp) (by simp)
              refine ev_comp (nm := true) (ds := cols.map colD) (it_list (ev_name rfl)) rfl rfl rfl rfl ?_ (by rw [List.length_map]; omega)
              unfold rowVec
              rw [List.map_map]
              refine comp_list colD _ fun q hq => ⟨_, rfl, ?_⟩
              exact ev_item (name_v rfl) (name_v rfl) (item_vec (by rw [(hc q hq).1]; exact hst) (by omega))
            · refine xs_cons (x_comp (es := (leadsP cols.length fr).map natD) (it_range1 (n := cols.length) O ?_ (fun _ _ => rfl) (by omega) b1 rfl rfl) rfl rfl rfl rfl ?_ (by simp; omega) rfl (fun env h1 h2 => (swaps_env h1 h2).trans rfl)) hx
              · have el : ((fr.map D.int).length : Int) = (cols.length : Int) := by rw [List.length_map, hfl]
                rw [← el]
                exact ev_blt O (.cons (eva_b (name_v rfl)) .nil (fun _ _ => rfl)) (blt_len (by rw [List.length_map, hfl]; omega)) (by simp) b2 rfl rfl
              · refine comp_if (l := List.range cols.length) natD natD (fun k => fr.getD k 0 != 0) fun i hi => ⟨_, rfl, ?_, fun _ => ev_name rfl⟩
                have hi' := List.mem_range.mp hi
                exact t_cmp (.of (ev_item (name_v rfl) (name_v rfl) (item_vec (by omega) (by omega)))) (.of ev_int) cmp_ne_int
        by_cases hz0 : leadsP cols.length fr = []
        · rw [if_pos hz0] at hgo'
          refine ⟨_, rowL1 p cols base rows, rfl, start ?_, r', base, rows, e2, hlt', hlad, by omega, hrl, hgo', .cons rfl (.cons rfl (.cons rfl (.cons rfl .nil)))⟩
          refine xs_if_skip (t_cmp (name_v rfl) (.of (ev_lst (ds := []) .nil)) (cmp_ne_nats _)) (by rw [hz0]; rfl) (xs_outH xs_nil ?_)
          exact .cons rfl (.cons rfl (.cons rfl (.cons rfl .nil)))
        · rw [if_neg hz0] at hgo'
          obtain ⟨l1, l2, x0, y0, l3⟩ := leads_ne hfl (leads_nil hz0)
          have hadd' := hadd (leads_nil hz0)
          generalize hlead : (leadsP cols.length fr).getD 0 0 = lead at *
          refine ⟨_, rowL1 p cols (base ++ [(lead, fr)]) (rows ++ [(w, st)]), rfl, start ?_, r', base ++ [(lead, fr)], rows ++ [(w, st)], e2, hlt', hadd', by rw [List.length_append, List.length_singleton]; omega, by rw [List.length_append, List.length_append, hrl]; rfl, hgo', .cons rfl (.cons rfl (.cons rfl (.cons rfl .nil)))⟩
          refine xs_if_go (t_cmp (name_v rfl) (.of (ev_lst (ds := []) .nil)) (cmp_ne_nats _)) (by rw [l3]; rfl) ?_ xs_nil
          refine xs_cons (x_append (ds := base.map baseD) (d := baseD (lead, fr)) rfl (ev_tup (ds := [.int (lead : Nat), vecD fr]) (.cons (ev_item (name_v rfl) (.of ev_int) (item_lst (j := 0) (i := 0) ?_ ?_ (by decide) (by decide))) (.cons (ev_name rfl) .nil (fun _ _ => rfl)) (fun _ _ => rfl)) (by show 2 ≤ _; decide)) ⟨fun _ => rfl, fun _ => rfl, rfl, fun _ => rfl⟩ (by rw [List.length_map]; omega)) ?_
          · rw [l3, List.length_map]; exact seqIndex_of (i := 0) (by simp)
          · rw [← hlead, l3]; rfl
          refine xs_outH (xs_cons (x_append (ds := rows.map rowD) (d := rowD (w, st)) rfl (ev_tup (ds := [.str (tx w), .int (st : Nat)]) (.cons (ev_name rfl) (.cons (ev_name rfl) .nil (fun _ _ => rfl)) (fun _ _ => rfl)) (by show 2 ≤ _; decide)) ⟨fun _ => rfl, fun _ => rfl, rfl, fun _ => rfl⟩ (by rw [List.length_map]; omega)) xs_nil) ?_
          exact .cons (by rw [List.map_append]; rfl) (.cons (by rw [List.map_append]; rfl) (.cons rfl (.cons rfl .nil)))
    · rintro ρ' ⟨r', base, rows, e, _, _, _, _, hgo, hh⟩
      cases r' with
      | cons c w' => cases e
      | nil =>
        have : rows = rowsP p cols reached := hgo
        rw [← this]
        exact xs_freeze "rows" (hh.get List.mem_cons_self) (xs_ret (x_ret (ev_name rfl)))
end
end Mine

-- G18
namespace Mine

theorem rowsGo_sub {p : Nat} {cols : List Col} : ∀ (reached : List Row) (base : List Base) (rows : List Row), ∀ r ∈ rowsGo p cols reached base rows, r ∈ rows ∨ r ∈ reached
  | [], _, rows, r, h => .inl h
  | q :: rest, base, rows, r, h => by
    unfold rowsGo at h
    dsimp only at h
    split at h
    · rcases rowsGo_sub rest _ _ r h with h | h
      · exact .inl h
      · exact .inr (List.mem_cons_of_mem _ h)
    · rcases rowsGo_sub rest _ _ r h with h | h
      · rcases List.mem_append.mp h with h | h
        · exact .inl h
        · rw [List.mem_singleton.mp h]; exact .inr List.mem_cons_self
      · exact .inr (List.mem_cons_of_mem _ h)

/-! ## the law's own data -/
noncomputable def seenP (reached : List Row) : List Int := reached.map fun r => (r.2 : Int)
noncomputable def costsP (a : Nat) (reached : List Row) : List Int := (List.range 3).map fun s : Nat => if (seenP reached).any (· == (s : Int)) then (costP a s : Int) else 0
noncomputable abbrev Job := List Row × List Nat × List Col
noncomputable abbrev jobD (j : Job) : D := .tup [.lst (j.1.map rowD), .str (tx j.2.1), .lst (j.2.2.map colD)]
noncomputable def orowP (u v w : List Nat) : Row := (w, movedP u v w 0)
noncomputable def ocolP (u v w : List Nat) (costs : List Int) : Col := (w.reverse, (List.range 3).map fun s : Nat => costs.getD (movedP u v w.reverse s) 0)
noncomputable def jobsP (rows : List Row) (cols : List Col) (w : List Nat) (orow : Row) (ocol : Col) : List Job :=
  [([], cols), ([46], cols), ([64], cols), (w, cols)].map (fun x : List Nat × List Col => (rows, x.1, x.2)) ++ [(rows ++ [orow], [46], cols ++ [ocol])]
structure JobOk (j : Job) : Prop where
  r : RowsOk j.1
  c : ColsOk j.2.2
  m : SignsOk j.2.1
  ml : j.2.1.length ≤ 4
  n : j.1.length = j.2.2.length
  n4 : j.2.2.length < 5
noncomputable def WorthOk (u v : List Nat) (a p : Nat) (j : Job) : Prop := ∀ r ∈ j.1, ∀ c ∈ j.2.2, ((worthP u v a p (joinedP (r.1 ++ j.2.1 ++ c.1)) : Nat) : Int) = dueCell p (r.1 ++ j.2.1 ++ c.1) (c.2.getD (movedP u v j.2.1 r.2) 0)
noncomputable abbrev dueJ (u v : List Nat) (p : Nat) (j : Job) : List (List Int) := dueP u v p j.1 j.2.1 j.2.2
theorem dueJ_ok {u v : List Nat} {p : Nat} {j : Job} (h : JobOk j) (h0 : 0 < p) (h1 : p < 100) : TableOk (dueJ u v p j) j.2.2.length := by
  refine ⟨by unfold dueJ dueP; rw [List.length_map, h.n], fun r hr => ?_⟩
  obtain ⟨q, hq, rfl⟩ := List.mem_map.mp hr
  refine ⟨by rw [List.length_map], fun x hx => ?_⟩
  obtain ⟨c, hc, rfl⟩ := List.mem_map.mp hx
  unfold dueCell
  exact ⟨Int.emod_nonneg _ (by omega), Int.lt_trans (Int.emod_lt_of_pos _ (by omega)) (by omega)⟩
noncomputable abbrev detJ (u v : List Nat) (p : Nat) (j : Job) : Int := detP p (dueJ u v p j)

/-- what the world holds for the law -/
structure Ctx (W : Wd) : Prop where
  ok : W.Ok
  fn : ∀ i ∈ [3, 4, 9, 62, 64, 65, 66, 67, 68, 69, 70, 71, 72, 73, 74, 75, 76], HasFn W i
  free : ∀ x ∈ (["range", "len", "enumerate", "zip", "reversed", "int", "abs", "divmod"] : List Str), W.mg x = none
  tok : TokAt W
  c1 : ∃ t, W.mg "_CASE_COST" = some (.int 1 t)
  c2 : ∃ t, W.mg "_MOVE_COST" = some (.int 2 t)

/-- euro told twice -/
noncomputable def euro2 (t : Str) : Str := appendMod (appendMod t euro) euro
noncomputable def euroDue (t : Str) : Str := t ++ (if Txt.contains t "." then ("@euro@euro" : Str) else ".ISO8859-15")
noncomputable def EuroOk (t : Str) : Prop := (∀ s, s = t ∨ s = appendMod t euro → Txt.contains s "." = true → ((Txt.partition s ".").2.2 == ("ISO8859-1" : Str)) = false) ∧ (appendMod t euro).length ≤ 100000 ∧ euro2 t = euroDue t ∧ PyData.strOk (euroDue t) = true

/-- the plain law -/
structure Plain (p : Nat) (u v : List Nat) (a : Nat) (w : List Nat) (jobs : List Job) (rows : List Row) : Prop where
  jok : ∀ j ∈ jobs, JobOk j
  worth : ∀ j ∈ jobs, WorthOk u v a p j
  dets : ∃ bare point at_ mixed : Int, jobs.map (detJ u v p) = [bare, point, at_, mixed, 0] ∧ bare ≠ 0 ∧ (0 ≤ bare ∧ bare < 16) ∧ (0 ≤ point ∧ point < 16) ∧ (0 ≤ at_ ∧ at_ < 16) ∧ (0 ≤ mixed ∧ mixed < 16) ∧
    (bare ^ 3 * mixed - point ^ (w.count 46) * at_ ^ (4 - w.count 46)) % (p : Int) = 0 ∧
    (rows.length = 3 → (point - bare * 23 ^ 3 * (((u.getD 1 0 - u.getD 0 0 : Int) * (u.getD 2 0 - u.getD 0 0 : Int) * (u.getD 2 0 - u.getD 1 0 : Int)).fdiv 2)) % (p : Int) = 0 ∧ (at_ - bare * 49 ^ 3 * (((v.getD 1 0 - v.getD 0 0 : Int) * (v.getD 2 0 - v.getD 0 0 : Int) * (v.getD 2 0 - v.getD 1 0 : Int)).fdiv 2)) % (p : Int) = 0)
  euro : ∀ k, k ≤ 4 → EuroOk (tx (joinedP (w.take k)))

theorem ap_digits : ∀ a : Nat, a < 16 → 0 < a → ∀ b : Nat, b < 16 → ∀ c : Nat, c < 16 → ∀ d : Nat, d < 16 → apN 8 (4096 * a + 256 * b + 16 * c + d) [] = [UInt8.ofNat (65 + a), UInt8.ofNat (65 + b), UInt8.ofNat (65 + c), UInt8.ofNat (65 + d)] := by
  intro a ha ha0 b hb c hc d hd
  have e1 : (4096 * a + 256 * b + 16 * c + d) / 16 = 256 * a + 16 * b + c := by omega
  have e2 : (4096 * a + 256 * b + 16 * c + d) % 16 = d := by omega
  have e3 : (256 * a + 16 * b + c) / 16 = 16 * a + b := by omega
  have e4 : (256 * a + 16 * b + c) % 16 = c := by omega
  have e5 : (16 * a + b) / 16 = a := by omega
  have e6 : (16 * a + b) % 16 = b := by omega
  have e7 : a / 16 = 0 := by omega
  have e8 : a % 16 = a := by omega
  simp only [apN, e1, e2, e3, e4, e5, e6, e7, e8, if_neg (show ¬ 4096 * a + 256 * b + 16 * c + d = 0 by omega), if_neg (show ¬ 256 * a + 16 * b + c = 0 by omega), if_neg (show ¬ 16 * a + b = 0 by omega), if_neg (show ¬ a = 0 by omega), if_true]
  rfl
theorem octets_digits {a b c d : Nat} (ha : a < 16) (hb : b < 16) (hc : c < 16) (hd : d < 16) : ([UInt8.ofNat (65 + a), UInt8.ofNat (65 + b), UInt8.ofNat (65 + c), UInt8.ofNat (65 + d)] : List UInt8).map (fun x => (x.toNat : Int) - 65) = [(a : Int), b, c, d] := by
  have key : ∀ a : Nat, a < 16 → (((UInt8.ofNat (65 + a)).toNat : Int) - 65) = (a : Int) := by decide
  simp only [List.map_cons, List.map_nil, key a ha, key b hb, key c hc, key d hd]
end Mine

-- G19
namespace Mine

theorem cost_tab : ∀ a : Nat, a < 3 → ∀ s : Nat, s < 3 → (([.tup [.int 0, .int 1, .int 2], .tup [.int 1, .int 0, .int 2], .tup [.int 2, .int 2, .int 0]] : List D)[a]?) = some (.tup (([[0, 1, 2], [1, 0, 2], [2, 2, 0]] : List (List Nat)).getD a [] |>.map natD)) ∧ ((([[0, 1, 2], [1, 0, 2], [2, 2, 0]] : List (List Nat)).getD a [] |>.map natD)[s]?) = some (.int (costP a s : Nat)) ∧ (([[0, 1, 2], [1, 0, 2], [2, 2, 0]] : List (List Nat)).getD a []).length = 3 := by
  intro a ha s hs
  rcases (by omega : a = 0 ∨ a = 1 ∨ a = 2) with rfl | rfl | rfl <;> rcases (by omega : s = 0 ∨ s = 1 ∨ s = 2) with rfl | rfl | rfl <;> exact ⟨rfl, rfl, rfl⟩

noncomputable abbrev lawL1 (u v : List Nat) (a p : Nat) (w : List Nat) (reached : List Row) (costs : List Int) (cols : List Col) (rows : List Row) : Vars :=
  [("prime", .v (.int (p : Nat))), ("turns", .v (turnsD u v)), ("aim", .v (.int (a : Nat))), ("between", .v (.str (tx w))), ("costs", .v (vecD costs)), ("columns", .v (.lst (cols.map colD))), ("rows", .v (.lst (rows.map rowD)))]

section
variable {W : Wd} {k : Nat}
theorem ev_take {sc : Sc} {ρ : Vars} {value e : Expr} {p pos : Pos} {l : List Nat} {j : Nat} (h1 : EvR W sc k value ρ (.str (tx l))) (h2 : EvR W sc k e ρ (.int (j : Nat))) (hj : j ≤ l.length) (hl : l.length ≤ 1000) : Evals W sc k (.Subscript value (.Slice none (some e) none p) pos) ρ (.str (tx (l.take j))) := by
  have e1 := ev_cut (p := p) (pos := pos) h1 h2 (by rw [tx_len]; omega)
  rw [slice_take hj] at e1
  exact e1
theorem Evals.to {sc : Sc} {e : Expr} {ρ : Vars} {i j : Int} (h : Evals W sc k e ρ (.int i)) (he : i = j) : Evals W sc k e ρ (.int j) := he ▸ h
theorem kqd_tab (t : List (List Int)) : kqdOk 8 (toDat (tabD t)) = true := by
  simp [toDat, toDats_map, kqdOk]
theorem pow_small : ∀ x : Nat, x < 16 → ∀ n : Nat, n ≤ 4 → ((x : Int) ^ n).natAbs < 2 ^ 64 := by decide +kernel
set_option maxHeartbeats 16000000 in
/-- the law's last part: the tables and what is asked of them -/
theorem law_tail (C : Ctx W) {p : Nat} {u v : List Nat} {a : Nat} {w : List Nat} {reached : List Row} {costs : List Int} {cols : List Col} {rows : List Row} (hu : TurnOk u) (hv : TurnOk v) (ha : a < 3) (hw : SignsOk w) (hwl : w.length = 4) (hp0 : 0 < p) (hp : p < 100) (hcl : costs.length = 3)
    (hr : RowsOk rows) (hc : ColsOk cols) (hrl : rows.length ≤ 3) (hlc : cols.length ≤ 3)
    (P : Plain p u v a w (jobsP rows cols w (orowP u v w) (ocolP u v w costs)) rows) :
    Execs W (fnSc (fnDef 76).2.2.2) (k + 4) ((fnDef 76).2.2.1.drop 6) (lawL1 u v a p w reached costs cols rows) (.ret (.bool true)) := by
  have O := C.ok
  have F := fun i h => C.fn i h
  match w, hwl with
  | [c0, c1, c2, c3], _ =>
  -- turned
  refine xs_cons (x_set (d := .str (tx [c3, c2, c1, c0])) (ev_turned (name_v rfl) (.of (ev_neg ev_int))) rfl) ?_
  -- one_row
  refine xs_cons (x_set (d := .lst ([orowP u v [c0, c1, c2, c3]].map rowD)) (ev_lst (ds := [_]) (.cons (ev_tup (ds := [_, _]) (.cons (ev_name rfl) (.cons (ev_call O (F 69 (by simp)) rfl (.cons (eva_v ev_int) (.cons (eva_v (ev_name rfl)) (.cons (eva_v (ev_name rfl)) .nil (fun _ _ => rfl)) (fun _ _ => rfl)) (fun _ _ => rfl)) (c_moved (s := 0) O (F 69 (by simp)) hu hv (by decide) (fun c h => by rcases hw c h with rfl | rfl <;> decide)) (by simp)) .nil (fun _ _ => rfl)) (fun _ _ => rfl)) (by show 2 ≤ _; decide)) .nil (fun _ _ => rfl)) (by show 1 ≤ _; decide)) rfl) ?_
  have hwr : SignsOk [c3, c2, c1, c0] := fun c hc => hw c (by simp at hc ⊢; omega)
  -- one_column
  refine xs_cons (x_set (d := .lst ([ocolP u v [c0, c1, c2, c3] costs].map colD)) (ev_lst (ds := [_]) (.cons (ev_tup (ds := [_, _]) (.cons (ev_name rfl) (.cons (ev_comp (nm := true) (es := ((List.range 3).map fun s : Nat => costs.getD (movedP u v [c3, c2, c1, c0] s) 0).map D.int) (it_range1 (n := 3) O ev_int (fun _ _ => rfl) (by decide) (C.free _ (by simp)) rfl rfl) rfl rfl rfl rfl ?_ (by decide)) .nil (fun _ _ => rfl)) (fun _ _ => rfl)) (by show 2 ≤ _; decide)) .nil (fun _ _ => rfl)) (by show 1 ≤ _; decide)) rfl) ?_
  · rw [List.map_map]
    refine comp_list natD _ fun s hs => ⟨_, rfl, ?_⟩
    have hs' := List.mem_range.mp hs
    have hm := moved_lt hu hv [c3, c2, c1, c0] hs'
    exact ev_item (name_v rfl) (.of (ev_call O (F 69 (by simp)) rfl (.cons (eva_v (ev_name rfl)) (.cons (eva_v (ev_name rfl)) (.cons (eva_v (ev_name rfl)) .nil (fun _ _ => rfl)) (fun _ _ => rfl)) (fun _ _ => rfl)) (c_moved O (F 69 (by simp)) hu hv hs' (fun c h => by rcases hwr c h with rfl | rfl <;> decide)) (by simp))) (item_vec (by omega) (by omega))
  generalize horow : orowP u v [c0, c1, c2, c3] = orow at P ⊢
  generalize hocol : ocolP u v [c0, c1, c2, c3] costs = ocol at P ⊢
  -- jobs
  refine xs_cons (x_set (d := .lst ((jobsP rows cols [c0, c1, c2, c3] orow ocol).map jobD)) ?_ rfl) ?_
  · unfold jobsP
    rw [List.map_append]
    refine ev_bin (.of (ev_comp (nm := true) (ds := [[], [46], [64], [c0, c1, c2, c3]].map fun m => D.str (tx m)) (it_tup (ev_tup (ds := [_, _, _, _]) (.cons ev_str (.cons ev_str (.cons ev_str (.cons (ev_name rfl) .nil (fun _ _ => rfl)) (fun _ _ => rfl)) (fun _ _ => rfl)) (fun _ _ => rfl)) (by show 4 ≤ _; decide))) rfl rfl rfl rfl ?_ (by show 4 ≤ _; decide))) (.of (ev_lst (ds := [_]) (.cons (ev_tup (ds := [_, _, _]) (.cons ?_ (.cons ev_str (.cons ?_ .nil (fun _ _ => rfl)) (fun _ _ => rfl)) (fun _ _ => rfl)) (by show 3 ≤ _; decide)) .nil (fun _ _ => rfl)) (by show 1 ≤ _; decide))) (bin_lists (by simp))
    · exact comp_list (l := [[], [46], [64], [c0, c1, c2, c3]]) (fun m => D.str (tx m)) (fun m => jobD (rows, m, cols)) fun m hm => ⟨_, rfl, ev_tup (ds := [_, _, _]) (.cons (ev_name rfl) (.cons (ev_name rfl) (.cons (ev_name rfl) .nil (fun _ _ => rfl)) (fun _ _ => rfl)) (fun _ _ => rfl)) (by show 3 ≤ _; decide)⟩
    · rw [List.map_append]
      exact ev_bin (name_v rfl) (name_v rfl) (bin_lists (by rw [List.length_map]; simp; omega))
    · rw [List.map_append]
      exact ev_bin (name_v rfl) (name_v rfl) (bin_lists (by rw [List.length_map]; simp; omega))
  generalize hjobs : jobsP rows cols [c0, c1, c2, c3] orow ocol = jobs at P ⊢
  have hjl : jobs.length = 5 := by rw [← hjobs]; rfl
  obtain ⟨bare, point, at_, mixed, hdets, hb0, ⟨hb1, hb2⟩, ⟨hp1, hp2⟩, ⟨ha1, ha2⟩, ⟨hm1, hm2⟩, hmix, hmov⟩ := P.dets
  refine xs_has (l := ("jobs", .v (.lst (jobs.map jobD))) :: lawL1 u v a p [c0, c1, c2, c3] reached costs cols rows) (.cons rfl (.cons rfl (.cons rfl (.cons rfl (.cons rfl (.cons rfl (.cons rfl (.cons rfl .nil)))))))) ?_
  -- told
  refine xs_cons (x_comp (nm := true) (ds := jobs.map jobD) (es := jobs.map fun j => tabD (dueJ u v p j)) (it_list (ev_name rfl)) rfl rfl rfl rfl ?_ (by rw [List.length_map]; omega) rfl (fun env h1 h2 => (swaps_env h1 h2).trans rfl)) ?_
  · refine comp_list jobD (fun j => tabD (dueJ u v p j)) fun j hj => ⟨_, rfl, ?_⟩
    have J := P.jok j hj
    have JW := P.worth j hj
    obtain ⟨jr, jm, jc⟩ := j
    have n4 := J.n4
    have nn := J.n
    dsimp only at n4 nn
    unfold dueJ dueP tabD
    rw [List.map_map]
    refine ev_comp (nm := true) (ds := jr.map rowD) (it_list (ev_name rfl)) rfl rfl rfl rfl ?_ (by rw [List.length_map]; omega)
    refine comp_list rowD _ fun r hr' => ⟨_, rfl, ?_⟩
    show Evals _ _ _ _ _ (.lst ((jc.map fun c => dueCell p (r.1 ++ jm ++ c.1) (c.2.getD (movedP u v jm r.2) 0)).map D.int))
    rw [List.map_map]
    refine ev_comp (nm := true) (ds := jc.map colD) (it_list (ev_name rfl)) rfl rfl rfl rfl ?_ (by rw [List.length_map]; omega)
    refine comp_list colD _ fun c hc' => ⟨_, rfl, ?_⟩
    show Evals _ _ _ _ _ (.int (dueCell p (r.1 ++ jm ++ c.1) (c.2.getD (movedP u v jm r.2) 0)))
    have s1 : SignsOk r.1 := J.r.sig r hr'
    have s2 : r.1.length ≤ 4 := J.r.len r hr'
    have s3 : SignsOk c.1 := J.c.sig c hc'
    have s4 : c.1.length ≤ 4 := J.c.len c hc'
    have s5 : SignsOk jm := J.m
    have s6 : jm.length ≤ 4 := J.ml
    have hWW := JW r hr' c hc'
    dsimp only at hWW
    rw [← hWW]
    obtain ⟨t1, m1⟩ := C.c1
    obtain ⟨t2, m2⟩ := C.c2
    exact ev_call O (F 72 (by simp)) rfl (.cons (eva_v (ev_call O (F 71 (by simp)) rfl (.cons (eva_v (ev_name rfl)) (.cons (eva_v (ev_name rfl)) (.cons (eva_v (ev_name rfl)) .nil (fun _ _ => rfl)) (fun _ _ => rfl)) (fun _ _ => rfl)) (c_joined (k := k + 1) (a := r.1) (m := jm) (b := c.1) O (F 71 (by simp)) (F 70 (by simp)) (F 4 (by simp)) (F 3 (by simp)) s1 s5 s3 (by omega) (by omega) (by omega)) (by simp))) (.cons (eva_v (ev_name rfl)) (.cons (eva_v (ev_name rfl)) (.cons (eva_v (ev_name rfl)) .nil (fun _ _ => rfl)) (fun _ _ => rfl)) (fun _ _ => rfl)) (fun _ _ => rfl)) (c_worth (k := k + 2) (full := r.1 ++ jm ++ c.1) O C.tok (F 72 (by simp)) (F 62 (by simp)) m1 m2 hu hv ((s1.app s5).app s3) (by rw [List.length_append, List.length_append]; omega) ha hp0 hp) (by simp)
  -- told as due
  have hk : ∀ d ∈ toDats (jobs.map fun j => tabD (dueJ u v p j)), kqdOk 8 d = true := by
    intro d hd
    rw [toDats_map, List.map_map] at hd
    obtain ⟨q, hq, rfl⟩ := List.mem_map.mp hd
    exact kqd_tab _
  refine xs_if_skip (b := !true) (t_cmp (name_v rfl) (.of (ev_comp (nm := true) (ds := jobs.map jobD) (es := jobs.map fun j => tabD (dueJ u v p j)) (it_list (ev_name rfl)) rfl rfl rfl rfl ?_ (by rw [List.length_map]; omega))) (cmp_ne_lists hk hk (by simp))) rfl ?_
  · refine comp_list jobD (fun j => tabD (dueJ u v p j)) fun j hj => ⟨_, rfl, ?_⟩
    have J := P.jok j hj
    have n4 := J.n4
    have nn := J.n
    exact ev_call O (F 73 (by simp)) rfl (.cons (eva_v (ev_name rfl)) (.cons (eva_v (ev_name rfl)) (.cons (eva_v (ev_name rfl)) .nil (fun _ _ => rfl)) (fun _ _ => rfl)) (fun _ _ => rfl)) (c_due (k := k + 2) O (F 73 (by simp)) (F 69 (by simp)) hu hv J.r J.c J.m J.ml hp0 hp (by omega) (by omega)) (by simp)
  -- the determinants
  refine xs_cons (x_unpackL (ts := [("bare", _), ("point", _), ("at", _), ("mixed", _), ("more", _)]) (ds := [bare, point, at_, mixed, 0].map D.int) ?_ rfl rfl) ?_
  · rw [← hdets, List.map_map]
    refine ev_comp (nm := true) (ds := jobs.map fun j => tabD (dueJ u v p j)) (it_list (ev_name rfl)) rfl rfl rfl rfl ?_ (by rw [List.length_map]; omega)
    refine comp_list (fun j => tabD (dueJ u v p j)) _ fun j hj => ⟨_, rfl, ?_⟩
    have J := P.jok j hj
    exact ev_call O (F 74 (by simp)) rfl (.cons (eva_v (ev_name rfl)) (.cons (eva_v (ev_name rfl)) .nil (fun _ _ => rfl)) (fun _ _ => rfl)) (c_det (k := k + 3) O (F 74 (by simp)) (C.free _ (by simp)) (C.free _ (by simp)) (C.free _ (by simp)) (dueJ_ok J hp0 hp) J.n4 hp0 hp) (by simp)
  obtain ⟨bn, rfl⟩ := Int.eq_ofNat_of_zero_le hb1
  obtain ⟨pn, rfl⟩ := Int.eq_ofNat_of_zero_le hp1
  obtain ⟨an, rfl⟩ := Int.eq_ofNat_of_zero_le ha1
  obtain ⟨mn, rfl⟩ := Int.eq_ofNat_of_zero_le hm1
  have hbn : bn < 16 := by omega
  have hpn : pn < 16 := by omega
  have han : an < 16 := by omega
  have hmn : mn < 16 := by omega
  have hb0' : 0 < bn := by omega
  refine xs_has (l := ("bare", .v (natD bn)) :: ("point", .v (natD pn)) :: ("at", .v (natD an)) :: ("mixed", .v (natD mn)) :: ("more", .v (.int 0)) :: lawL1 u v a p [c0, c1, c2, c3] reached costs cols rows) (.cons rfl (.cons rfl (.cons rfl (.cons rfl (.cons rfl (.cons rfl (.cons rfl (.cons rfl (.cons rfl (.cons rfl (.cons rfl (.cons rfl .nil)))))))))))) ?_
  -- number, letters
  refine xs_cons (x_set (d := .int ((4096 * bn + 256 * pn + 16 * an + mn : Nat) : Int)) ?_ rfl) ?_
  · have e : ((4096 * bn + 256 * pn + 16 * an + mn : Nat) : Int) = 4096 * (bn : Int) + 256 * (pn : Int) + 16 * (an : Int) + (mn : Int) := by push_cast; rfl
    rw [e]
    exact ev_bin (.of (ev_bin (.of (ev_bin (.of (ev_bin (.of ev_int) (name_v rfl) (bin_mul (by left; decide)))) (.of (ev_bin (.of ev_int) (name_v rfl) (bin_mul (by left; decide)))) bin_add)) (.of (ev_bin (.of ev_int) (name_v rfl) (bin_mul (by left; decide)))) bin_add)) (name_v rfl) bin_add
  generalize hN : 4096 * bn + 256 * pn + 16 * an + mn = N
  have hdig : apN 8 N [] = [UInt8.ofNat (65 + bn), UInt8.ofNat (65 + pn), UInt8.ofNat (65 + an), UInt8.ofNat (65 + mn)] := by rw [← hN]; exact ap_digits bn hbn hb0' pn hpn an han mn hmn
  have hNlt : N < 16 ^ 8 := by omega
  refine xs_cons (x_set (d := .byt (apN 8 N []).toArray) ?_ rfl) ?_
  · have e : (-(N : Int)).natAbs = N := by omega
    have := c_ap (k := k + 3) O (F 9 (by simp)) (C.free _ (by simp)) (C.free _ (by simp)) (C.free _ (by simp)) (i := -(N : Int)) (by rw [e]; exact hNlt)
    rw [e] at this
    exact ev_call O (F 9 (by simp)) rfl (.cons (eva_v (ev_neg (ev_name rfl))) .nil (fun _ _ => rfl)) this (by simp)
  refine xs_if_skip (b := (((bn : Int) == 0) || (((0 : Int) != 0) || (((apN 8 N []).toArray.toList != (apN 8 N []).toArray.toList) || ((!decide ((apN 8 N []).map (fun x => (x.toNat : Int) - 65) = [(bn : Int), pn, an, mn])) || false))))) ?_ ?_ ?_
  · refine t_or (t_cmp (name_v rfl) (.of ev_int) cmp_eq_int) fun _ => t_or (t_cmp (name_v rfl) (.of ev_int) cmp_ne_int) fun _ => t_or (t_cmp (.of ?_) (name_v rfl) cmp_ne_byt) fun _ => t_or (t_cmp (.of (ev_comp (nm := true) (ds := octets (apN 8 N []).toArray) (es := ((apN 8 N []).map (fun x => (x.toNat : Int) - 65)).map D.int) (it_byt (name_v rfl)) rfl rfl rfl rfl ?_ ?_)) (.of (ev_lst (ds := [(bn : Int), pn, an, mn].map D.int) (.cons (ev_name rfl) (.cons (ev_name rfl) (.cons (ev_name rfl) (.cons (ev_name rfl) .nil (fun _ _ => rfl)) (fun _ _ => rfl)) (fun _ _ => rfl)) (fun _ _ => rfl)) (by show 4 ≤ _; decide))) (cmp_ne_ints _ _)) fun _ => t_or_nil
    · have := c_ap (k := k + 3) O (F 9 (by simp)) (C.free _ (by simp)) (C.free _ (by simp)) (C.free _ (by simp)) (i := (N : Int)) (by rw [Int.natAbs_natCast]; exact hNlt)
      rw [Int.natAbs_natCast] at this
      exact ev_call O (F 9 (by simp)) rfl (.cons (eva_v (ev_name rfl)) .nil (fun _ _ => rfl)) this (by simp)
    · rw [List.map_map]
      exact comp_list (l := apN 8 N []) (fun c : UInt8 => D.int (c.toNat : Int)) _ fun c hc => ⟨_, rfl, ev_bin (name_v rfl) (.of ev_int) bin_sub⟩
    · rw [hdig]; show 4 ≤ _; decide
  · rw [hdig, octets_digits hbn hpn han hmn]
    have : ((bn : Int) == 0) = false := by rw [beq_eq_false_iff_ne]; omega
    rw [this]
    simp
  refine xs_has (l := ("bare", .v (natD bn)) :: ("point", .v (natD pn)) :: ("at", .v (natD an)) :: ("mixed", .v (natD mn)) :: lawL1 u v a p [c0, c1, c2, c3] reached costs cols rows) (.cons rfl (.cons rfl (.cons rfl (.cons rfl (.cons rfl (.cons rfl (.cons rfl (.cons rfl (.cons rfl (.cons rfl (.cons rfl .nil))))))))))) ?_
  -- fronts
  refine xs_cons (x_comp (nm := true) (es := ((List.range 5).map fun i => tx (joinedP ([c0, c1, c2, c3].take i))).map D.str) (it_range1 (n := 5) O ev_int (fun _ _ => rfl) (by decide) (C.free _ (by simp)) rfl rfl) rfl rfl rfl rfl ?_ (by decide) rfl (fun env h1 h2 => (swaps_env h1 h2).trans rfl)) ?_
  · rw [List.map_map]
    refine comp_list natD _ fun i hi => ⟨_, rfl, ?_⟩
    have hi' := List.mem_range.mp hi
    have hsk : SignsOk ([c0, c1, c2, c3].take i) := fun c hc => hw c (List.mem_of_mem_take hc)
    have hlk : ([c0, c1, c2, c3].take i).length ≤ 4 := by rw [List.length_take]; exact Nat.min_le_right _ _
    have := c_joined (k := k + 1) O (F 71 (by simp)) (F 70 (by simp)) (F 4 (by simp)) (F 3 (by simp)) (a := [c0, c1, c2, c3].take i) (m := []) (b := []) hsk (fun c hc => (nomatch hc)) (fun c hc => (nomatch hc)) (by omega) (by decide) (by decide)
    rw [List.append_nil, List.append_nil] at this
    exact ev_call O (F 71 (by simp)) rfl (.cons (eva_v (ev_take (name_v rfl) (name_v rfl) (by show i ≤ 4; omega) (by show 4 ≤ _; decide))) (.cons (eva_v ev_str) (.cons (eva_v ev_str) .nil (fun _ _ => rfl)) (fun _ _ => rfl)) (fun _ _ => rfl)) this (by simp)
  -- euro
  have heu : ∀ t ∈ ((List.range 5).map fun i => tx (joinedP ([c0, c1, c2, c3].take i))), EuroOk t ∧ t.length ≤ 100 := by
    intro t ht
    obtain ⟨i, hi, rfl⟩ := List.mem_map.mp ht
    have hi' := List.mem_range.mp hi
    refine ⟨P.euro i (by omega), ?_⟩
    rw [tx_len]
    have hlk : ([c0, c1, c2, c3].take i).length ≤ 4 := by rw [List.length_take]; exact Nat.min_le_right _ _
    generalize [c0, c1, c2, c3].take i = f at hlk
    unfold joinedP
    split
    · simp
    · rw [List.length_cons] at hlk; split <;> simp <;> omega
  have hfl5 : ((List.range 5).map fun i => tx (joinedP ([c0, c1, c2, c3].take i))).length = 5 := by simp
  generalize ((List.range 5).map fun i => tx (joinedP ([c0, c1, c2, c3].take i))) = fr at heu hfl5
  have hek : ∀ d ∈ toDats ((fr.map euroDue).map D.str), kqdOk 8 d = true := by
    intro d hd
    rw [toDats_map, List.map_map, List.map_map] at hd
    obtain ⟨t, ht, rfl⟩ := List.mem_map.mp hd
    simpa [toDat, kqdOk] using (heu t ht).1.2.2.2
  refine xs_if_skip (b := !true) (t_cmp (.of (ev_comp (nm := true) (ds := fr.map D.str) (es := (fr.map euroDue).map D.str) (it_list (ev_name rfl)) rfl rfl rfl rfl ?_ (by rw [List.length_map]; omega))) (.of (ev_comp (nm := true) (ds := fr.map D.str) (es := (fr.map euroDue).map D.str) (it_list (ev_name rfl)) rfl rfl rfl rfl ?_ (by rw [List.length_map]; omega))) (cmp_ne_lists hek hek (by simp))) rfl ?_
  · rw [List.map_map]
    refine comp_list D.str _ fun t ht => ⟨_, rfl, ?_⟩
    obtain ⟨⟨e1, e2, e3, _⟩, e4⟩ := heu t ht
    show Evals _ _ _ _ _ (.str (euroDue t))
    rw [← e3]
    exact ev_call O (F 3 (by simp)) rfl (.cons (eva_v (ev_call O (F 3 (by simp)) rfl (.cons (eva_v (ev_name rfl)) (.cons (eva_v ev_str) .nil (fun _ _ => rfl)) (fun _ _ => rfl)) (c_append (k := k + 3) (m := euro) O (F 3 (by simp)) (by omega) (by decide) (fun _ h => e1 t (.inl rfl) h)) (by simp))) (.cons (eva_v ev_str) .nil (fun _ _ => rfl)) (fun _ _ => rfl)) (c_append (k := k + 3) (m := euro) O (F 3 (by simp)) e2 (by decide) (fun _ h => e1 _ (.inr rfl) h)) (by simp)
  · rw [List.map_map]
    refine comp_list D.str _ fun t ht => ⟨_, rfl, ?_⟩
    obtain ⟨_, e4⟩ := heu t ht
    show Evals _ _ _ _ _ (.str (euroDue t))
    unfold euroDue
    refine ev_bin (name_v rfl) (.of (ev_if (t_cmp (.of ev_str) (name_v rfl) cmp_in_str) (fun h => ?_) fun h => ?_)) (bin_cat ?_)
    · rw [if_pos h]; exact ev_str
    · rw [if_neg (by rw [h]; simp)]; exact ev_str
    · have : (if Txt.contains t "." then ("@euro@euro" : Str) else ".ISO8859-15").length ≤ 20 := by split <;> decide
      omega
  -- the word's own table
  have hcnt := count_two hw
  have hc4 : [c0, c1, c2, c3].count 46 ≤ 4 := by
    have : ([c0, c1, c2, c3] : List Nat).length = 4 := rfl
    omega
  have q1 : Txt.count (tx [c0, c1, c2, c3]) "." = ([c0, c1, c2, c3].count 46 : Nat) := by rw [dot_tx]; exact count_tx _ _
  refine xs_cons (x_set (d := .int (([c0, c1, c2, c3].count 46 : Nat) : Int)) ?_ rfl) ?_
  · rw [← q1]
    exact ev_meth (fun _ => ⟨_, rfl⟩) (fun q => PySem.GM.count q) (name_v rfl) (.cons (eva_v ev_str) .nil (fun _ _ => rfl)) m_count
  generalize hpts : [c0, c1, c2, c3].count 46 = pts at hc4 hmix
  have s1 := pow_small pn hpn pts hc4
  have s2 := pow_small an han (4 - pts) (by omega)
  have s3 := pow_small bn hbn 3 (by decide)
  refine xs_if_skip (b := (((bn : Int) ^ 3 * (mn : Int) - (pn : Int) ^ pts * (an : Int) ^ (4 - pts)).fmod (p : Nat) != 0)) ?_ ?_ ?_
  · have e3 : (bn : Int) ^ 3 = (bn : Int) ^ (3 : Int).toNat := rfl
    have ep : (pn : Int) ^ pts = (pn : Int) ^ ((pts : Int)).toNat := by rw [Int.toNat_natCast]
    have ea : (an : Int) ^ (4 - pts) = (an : Int) ^ ((4 : Int) - (pts : Int)).toNat := by congr 1; omega
    rw [e3, ep, ea]
    rw [ep] at s1
    exact t_cmp (.of (ev_bin (.of (ev_bin (.of (ev_bin (.of (ev_bin (name_v rfl) (.of ev_int) (bin_pow (by decide) (by decide) (by omega)))) (name_v rfl) (bin_mul (by right; omega)))) (.of (ev_bin (.of (ev_bin (name_v rfl) (name_v rfl) (bin_pow (by omega) (by omega) (by omega)))) (.of (ev_bin (name_v rfl) (.of (ev_bin (.of ev_int) (name_v rfl) bin_sub)) (bin_pow (by omega) (by omega) (by omega)))) (bin_mul (by left; exact s1)))) bin_sub)) (name_v rfl) (bin_mod (by omega)))) (.of ev_int) cmp_ne_int
  · rw [Int.fmod_eq_emod_of_nonneg _ (by omega), hmix]; rfl
  -- fewer than three rows
  by_cases h3 : rows.length < 3
  · refine xs_if_ret (b := decide (((rows.map rowD).length : Int) < 3)) (t_cmp (.of (ev_blt O (.cons (eva_b (name_v rfl)) .nil (fun _ _ => rfl)) (blt_len (by rw [List.length_map]; omega)) (by simp) (C.free _ (by simp)) rfl rfl)) (.of ev_int) cmp_lt_int) ?_ (xs_ret (x_ret ev_bool))
    rw [List.length_map]; exact decide_eq_true (by omega)
  · refine xs_if_skip (b := decide (((rows.map rowD).length : Int) < 3)) (t_cmp (.of (ev_blt O (.cons (eva_b (name_v rfl)) .nil (fun _ _ => rfl)) (blt_len (by rw [List.length_map]; omega)) (by simp) (C.free _ (by simp)) rfl rfl)) (.of ev_int) cmp_lt_int) ?_ ?_
    · rw [List.length_map]; exact decide_eq_false (by omega)
    · obtain ⟨v1, v2⟩ := hmov (by omega)
      match u, hu, v, hv with
      | u, hu, v, hv =>
      obtain ⟨ul, ult⟩ := hu
      obtain ⟨vl, vlt⟩ := hv
      match u, ul, v, vl with
      | [u0, u1, u2], _, [w0, w1, w2], _ =>
      have b0 : u0 < 3 := ult 0
      have b1 : u1 < 3 := ult 1
      have b2 : u2 < 3 := ult 2
      have d0 : w0 < 3 := vlt 0
      have d1 : w1 < 3 := vlt 1
      have d2 : w2 < 3 := vlt 2
      refine xs_cons (x_set (d := .lst ([0, 0].map D.int)) (ev_lst (ds := [.int 0, .int 0]) (.cons ?_ (.cons ?_ .nil (fun _ _ => rfl)) (fun _ _ => rfl)) (by decide)) rfl) ?_
      · refine (ev_bin (.of (ev_bin (name_v rfl) (.of (ev_bin (.of (ev_bin (name_v rfl) (.of (ev_bin (.of ev_int) (.of ev_int) (bin_pow (by decide) (by decide) (by decide)))) (bin_mul (by left; omega)))) (.of (ev_call O (F 75 (by simp)) rfl (.cons (eva_v (ev_item (d := turnsD [u0, u1, u2] [w0, w1, w2]) (r := intsD [u0, u1, u2]) (name_v rfl) (.of ev_int) (item_tab rfl))) .nil (fun _ _ => rfl)) (c_side (k := k + 3) O (F 75 (by simp)) (a := (u0 : Int)) (b := u1) (c := u2) (by omega) (by omega) (by omega)) (by simp))) (bin_mul (by left; have : (23 : Int) ^ (3 : Int).toNat = 12167 := rfl; rw [this]; omega)))) bin_sub)) (name_v rfl) (bin_mod (by omega))).to ?_
        rw [Int.fmod_eq_emod_of_nonneg _ (by omega)]
        exact v1
      · refine (ev_bin (.of (ev_bin (name_v rfl) (.of (ev_bin (.of (ev_bin (name_v rfl) (.of (ev_bin (.of ev_int) (.of ev_int) (bin_pow (by decide) (by decide) (by decide)))) (bin_mul (by left; omega)))) (.of (ev_call O (F 75 (by simp)) rfl (.cons (eva_v (ev_item (d := turnsD [u0, u1, u2] [w0, w1, w2]) (r := intsD [w0, w1, w2]) (name_v rfl) (.of ev_int) (item_tab rfl))) .nil (fun _ _ => rfl)) (c_side (k := k + 3) O (F 75 (by simp)) (a := (w0 : Int)) (b := w1) (c := w2) (by omega) (by omega) (by omega)) (by simp))) (bin_mul (by left; have : (49 : Int) ^ (3 : Int).toNat = 117649 := rfl; rw [this]; omega)))) bin_sub)) (name_v rfl) (bin_mod (by omega))).to ?_
        rw [Int.fmod_eq_emod_of_nonneg _ (by omega)]
        exact v2
      · exact xs_ret (x_ret (ev_cmp (name_v rfl) (.of (ev_lst (ds := [0, 0].map D.int) (.cons ev_int (.cons ev_int .nil (fun _ _ => rfl)) (fun _ _ => rfl)) (by decide))) (cmp_eq_ints [0, 0] [0, 0])))
end
end Mine

-- G20
namespace Mine

structure MachOk (p : Nat) (u v : List Nat) (a : Nat) (w : List Nat) : Prop where
  pp : p = 3 ∨ p = 5 ∨ p = 11 ∨ p = 13
  tu : TurnOk u
  tv : TurnOk v
  ta : a < 3
  sw : SignsOk w
  wl : w.length = 4
noncomputable abbrev colsM (p : Nat) (u v : List Nat) (a : Nat) : List Col := colsP u v (reachP u v) p (costsP a (reachP u v))
noncomputable abbrev rowsM (p : Nat) (u v : List Nat) (a : Nat) : List Row := rowsP p (colsM p u v a) (reachP u v)
noncomputable abbrev jobsM (p : Nat) (u v : List Nat) (a : Nat) (w : List Nat) : List Job := jobsP (rowsM p u v a) (colsM p u v a) w (orowP u v w) (ocolP u v w (costsP a (reachP u v)))

theorem costsP_ok {a : Nat} {reached : List Row} (ha : a < 3) : (costsP a reached).length = 3 ∧ Small (costsP a reached) := by
  refine ⟨by simp [costsP], fun x hx => ?_⟩
  obtain ⟨s, hs, rfl⟩ := List.mem_map.mp hx
  have hs' := List.mem_range.mp hs
  split
  · have key : ∀ a : Nat, a < 3 → ∀ s : Nat, s < 3 → (0 : Int) ≤ (costP a s : Nat) ∧ ((costP a s : Nat) : Int) < 100 := by decide
    exact key a ha s hs'
  · decide
theorem colsM_ok {p : Nat} {u v : List Nat} {a : Nat} {w : List Nat} (M : MachOk p u v a w) : ∃ wt b, ColSt wt b (colsM p u v a) := by
  obtain ⟨h1, h2⟩ := costsP_ok (reached := reachP u v) M.ta
  have hp0 : 0 < p := by rcases M.pp with h | h | h | h <;> omega
  have hp : p < 100 := by rcases M.pp with h | h | h | h <;> omega
  exact colsGo_ok hp0 hp 7 [([], _)] [] [] ⟨fun q hq => by rw [List.mem_singleton.mp hq]; exact ⟨fun c hc => (nomatch hc), h1, h2, Nat.le_refl _⟩, ⟨fun _ h => (nomatch h), trivial, fun _ h => (nomatch h), fun _ => by simp⟩, fun _ h => (nomatch h), rfl⟩

section
variable {W : Wd} {k : Nat}
set_option maxHeartbeats 16000000 in
theorem c_law (C : Ctx W) (PL : ∀ p u v a w, MachOk p u v a w → FoundOk (reachP u v) → Plain p u v a w (jobsM p u v a w) (rowsM p u v a)) {l : List Int} (hl : l.length ≤ 1000) : Calls W (k + 5) "law" [.bor (l.map D.int)] (.bool true) := by
  have O := C.ok
  have F := fun i h => C.fn i h
  obtain ⟨p, u, v, a, w, hpp, hu, hv, ha, hw, hwl, hmach⟩ := c_machine (k := k + 3) O (F 64 (by simp)) (C.free _ (by simp)) (C.free _ (by simp)) (l := l) hl
  have M : MachOk p u v a w := ⟨hpp, hu, hv, ha, hw, hwl⟩
  have hp0 : 0 < p := by rcases hpp with h | h | h | h <;> omega
  have hp : p < 100 := by rcases hpp with h | h | h | h <;> omega
  obtain ⟨hreach, hfo⟩ := c_reached (k := k + 3) O (F 65 (by simp)) (C.free _ (by simp)) hu hv
  have P := PL p u v a w M hfo
  obtain ⟨hcl, hcs⟩ := costsP_ok (reached := reachP u v) ha
  obtain ⟨wt, b, hst⟩ := colsM_ok M
  have hcols := c_columns (k := k + 2) O (F 67 (by simp)) (F 66 (by simp)) (C.free _ (by simp)) (C.free _ (by simp)) hu hv hfo hcl hcs hp0 hp
  have hcl3 : (colsM p u v a).length ≤ 3 := by rw [hst.cl]; exact hst.lad.le3
  have hrows := c_rows (k := k + 2) O (F 68 (by simp)) (F 66 (by simp)) (C.free _ (by simp)) (C.free _ (by simp)) (C.free _ (by simp)) hfo (fun q hq => ⟨(hst.c q hq).2.1, (hst.c q hq).2.2.1⟩) (by omega) hp0 hp
  have hsub : ∀ r ∈ rowsM p u v a, r ∈ reachP u v := fun r hr => by
    rcases rowsGo_sub _ _ _ r hr with h | h
    · cases h
    · exact h
  refine calls_of (ps := ["script"]) O (F 76 (by simp)) ?_ (by decide) rfl ?_ ?_
  · intro pm code doc vs hl
    match vs, hl with
    | [v], _ => rfl
  · intro x hx
    rw [List.mem_singleton.mp hx]; left; rfl
  · refine xs_cons (x_unpack (ts := [("prime", _), ("turns", _), ("aim", _), ("between", _)]) (ds := [.int (p : Nat), turnsD u v, .int (a : Nat), .str (tx w)]) (ev_call O (F 64 (by simp)) rfl (.cons (eva_b (evr_bor rfl)) .nil (fun _ _ => rfl)) hmach (by simp)) rfl rfl) ?_
    refine xs_cons (x_set (ev_call O (F 65 (by simp)) rfl (.cons (eva_v (ev_name rfl)) .nil (fun _ _ => rfl)) hreach (by simp)) rfl) ?_
    have r3 := hfo.le3
    refine xs_cons (x_setN (d := vecD (seenP (reachP u v))) (ev_comp (nm := true) (ds := (reachP u v).map rowD) (it_list (ev_name rfl)) rfl rfl rfl rfl ?_ (by rw [List.length_map]; omega)) rfl rfl) ?_
    · unfold seenP
      rw [List.map_map]
      exact comp_list rowD _ fun r hr => ⟨_, rfl, ev_name rfl⟩
    refine xs_cons (x_setN (d := vecD (costsP a (reachP u v))) (ev_comp (nm := true) (it_range1 (n := 3) O ev_int (fun _ _ => rfl) (by decide) (C.free _ (by simp)) rfl rfl) rfl rfl rfl rfl ?_ (by decide)) rfl rfl) ?_
    · unfold costsP
      rw [List.map_map]
      refine comp_list natD _ fun s hs => ⟨_, rfl, ?_⟩
      have hs' := List.mem_range.mp hs
      obtain ⟨k1, k2, k3⟩ := cost_tab a ha s hs'
      show Evals _ _ _ _ _ (.int (if (seenP (reachP u v)).any (· == (s : Int)) then ((costP a s : Nat) : Int) else 0))
      refine ev_if (t_cmp (name_v rfl) (name_v (d := vecD (seenP (reachP u v))) rfl) (cmp_in_ints _)) (fun h => ?_) fun h => ?_
      · rw [if_pos h]
        refine ev_item (.of (ev_item (.of (ev_tup (ds := [.tup [.int 0, .int 1, .int 2], .tup [.int 1, .int 0, .int 2], .tup [.int 2, .int 2, .int 0]]) (.cons (ev_tup ?_) (.cons (ev_tup ?_) (.cons (ev_tup ?_) .nil (fun _ _ => rfl)) (fun _ _ => rfl)) (fun _ _ => rfl)) (by show 3 ≤ _; decide))) (name_v rfl) (item_tup (j := a) (seqIndex_of (by show a < 3; exact ha)) k1 (by omega) (by omega)))) (name_v rfl) (item_tup (j := s) (seqIndex_of (by rw [List.length_map, k3]; exact hs')) k2 (by omega) (by omega))
        · exact .cons ev_int (.cons ev_int (.cons ev_int .nil (fun _ _ => rfl)) (fun _ _ => rfl)) (fun _ _ => rfl)
        · exact .cons ev_int (.cons ev_int (.cons ev_int .nil (fun _ _ => rfl)) (fun _ _ => rfl)) (fun _ _ => rfl)
        · exact .cons ev_int (.cons ev_int (.cons ev_int .nil (fun _ _ => rfl)) (fun _ _ => rfl)) (fun _ _ => rfl)
      · rw [if_neg (by rw [h]; simp)]
        exact ev_int
    refine xs_cons (x_set (ev_call O (F 67 (by simp)) rfl (.cons (eva_v (ev_name rfl)) (.cons (eva_v (ev_name rfl)) (.cons (eva_v (ev_name rfl)) (.cons (eva_v (ev_name rfl)) .nil (fun _ _ => rfl)) (fun _ _ => rfl)) (fun _ _ => rfl)) (fun _ _ => rfl)) hcols (by simp)) rfl) ?_
    refine xs_cons (x_set (ev_call O (F 68 (by simp)) rfl (.cons (eva_v (ev_name rfl)) (.cons (eva_v (ev_name rfl)) (.cons (eva_v (ev_name rfl)) .nil (fun _ _ => rfl)) (fun _ _ => rfl)) (fun _ _ => rfl)) hrows (by simp)) rfl) ?_
    refine xs_has (l := lawL1 u v a p w (reachP u v) (costsP a (reachP u v)) (colsM p u v a) (rowsM p u v a)) (.cons rfl (.cons rfl (.cons rfl (.cons rfl (.cons rfl (.cons rfl (.cons rfl .nil))))))) ?_
    have hro : RowsOk (rowsM p u v a) := ⟨fun r hr => hfo.sig r (hsub r hr), fun r hr => hfo.lt r (hsub r hr), fun r hr => by
      obtain ⟨i, hi⟩ := List.mem_iff_getElem?.mp (hsub r hr)
      have := hfo.len i r hi
      have hi3 : i < (reachP u v).length := by
        rcases Nat.lt_or_ge i (reachP u v).length with h | h
        · exact h
        · rw [List.getElem?_eq_none h] at hi; cases hi
      omega⟩
    have hrl : (rowsM p u v a).length ≤ 3 := by
      have key : ∀ (reached : List Row) (base : List Base) (rows : List Row), (rowsGo p (colsM p u v a) reached base rows).length ≤ rows.length + reached.length := by
        intro reached
        induction reached with
        | nil => intro base rows; exact Nat.le_refl _
        | cons q r ih =>
          intro base rows
          unfold rowsGo
          dsimp only
          split
          · have := ih base rows; rw [List.length_cons]; omega
          · have := ih (base ++ [((leadsP (colsM p u v a).length (freeP p (rowVec (colsM p u v a) q.2) base)).getD 0 0, freeP p (rowVec (colsM p u v a) q.2) base)]) (rows ++ [q])
            rw [List.length_append, List.length_singleton] at this
            rw [List.length_cons]; omega
      have h1 : (rowsM p u v a).length ≤ ([] : List Row).length + (reachP u v).length := key (reachP u v) [] []
      have e0 : ([] : List Row).length = 0 := rfl
      omega
    exact law_tail (k := k) C hu hv ha hw hwl hp0 hp hcl hro ⟨fun q hq => (hst.c q hq).1, fun q hq => (hst.c q hq).2.1, fun q hq => (hst.c q hq).2.2.1, fun q hq => by have := (hst.c q hq).2.2.2; omega⟩ hrl hcl3 P
end
end Mine

-- L1
namespace Mine

/-! ## the plain law: numbers that are alike -/
noncomputable def Cg (p x y : Int) : Prop := p ∣ x - y
theorem Cg.refl {p x : Int} : Cg p x x := by unfold Cg; rw [Int.sub_self]; exact Int.dvd_zero _
theorem Cg.of {p x y : Int} (h : x = y) : Cg p x y := h ▸ .refl
theorem Cg.symm {p x y : Int} (h : Cg p x y) : Cg p y x := by
  obtain ⟨k, hk⟩ := h
  exact ⟨-k, by rw [Int.mul_neg, ← hk]; omega⟩
theorem Cg.trans {p x y z : Int} (h : Cg p x y) (g : Cg p y z) : Cg p x z := by
  obtain ⟨k, hk⟩ := h
  obtain ⟨l, hl⟩ := g
  exact ⟨k + l, by rw [Int.mul_add, ← hk, ← hl]; omega⟩
theorem Cg.add {p x y z w : Int} (h : Cg p x y) (g : Cg p z w) : Cg p (x + z) (y + w) := by
  obtain ⟨k, hk⟩ := h
  obtain ⟨l, hl⟩ := g
  exact ⟨k + l, by rw [Int.mul_add, ← hk, ← hl]; omega⟩
theorem Cg.sub {p x y z w : Int} (h : Cg p x y) (g : Cg p z w) : Cg p (x - z) (y - w) := by
  obtain ⟨k, hk⟩ := h
  obtain ⟨l, hl⟩ := g
  exact ⟨k - l, by rw [Int.mul_sub, ← hk, ← hl]; omega⟩
theorem Cg.mul {p x y z w : Int} (h : Cg p x y) (g : Cg p z w) : Cg p (x * z) (y * w) := by
  obtain ⟨k, hk⟩ := h
  obtain ⟨l, hl⟩ := g
  refine ⟨k * z + y * l, ?_⟩
  have e1 : x = y + p * k := by omega
  have e2 : z = w + p * l := by omega
  rw [e1, e2]
  grind
theorem Cg.emod {p x : Int} : Cg p (x % p) x := ⟨-(x / p), by have := Int.emod_add_mul_ediv x p; rw [Int.mul_neg]; omega⟩
theorem Cg.pow {p x y : Int} (h : Cg p x y) : ∀ n : Nat, Cg p (x ^ n) (y ^ n)
  | 0 => by rw [Int.pow_zero, Int.pow_zero]; exact .refl
  | n + 1 => by rw [Int.pow_succ, Int.pow_succ]; exact (h.pow n).mul h
theorem Cg.zero {p x : Int} (h : Cg p x 0) : x % p = 0 := by
  unfold Cg at h
  rw [Int.sub_zero] at h
  exact Int.emod_eq_zero_of_dvd h
theorem Cg.mod {p x y : Int} (h : Cg p x y) : x % p = y % p := by
  obtain ⟨k, hk⟩ := h
  have : x = y + p * k := by omega
  rw [this, Int.add_mul_emod_self_left]

/-! determinants, without remainders -/
noncomputable def detGoU (table : List (List Int)) (n : Nat) : Nat → Nat → List Int → List Int
  | 0, _, found => found
  | j + 1, mask, found => detGoU table n j (mask + 1) (found ++ [detFold (table.getD ((chosenP n mask).length - 1) []) found mask (chosenP n mask).reverse 1 0])
noncomputable def detU (table : List (List Int)) : Int := (detGoU table table.length (2 ^ table.length - 1) 1 [1]).getD (2 ^ table.length - 1) 0
noncomputable def CgL (p : Int) (l m : List Int) : Prop := l.length = m.length ∧ ∀ i, Cg p (l.getD i 0) (m.getD i 0)
theorem CgL.snoc {p : Int} {l m : List Int} {x y : Int} (h : CgL p l m) (g : Cg p x y) : CgL p (l ++ [x]) (m ++ [y]) := by
  refine ⟨by rw [List.length_append, List.length_append, h.1]; rfl, fun i => ?_⟩
  have hl := h.1
  have hi := h.2 i
  simp only [List.getD_eq_getElem?_getD] at hi ⊢
  rcases Nat.lt_or_ge i l.length with h1 | h1
  · rw [List.getElem?_append_left h1, List.getElem?_append_left (by omega)]; exact hi
  · rw [List.getElem?_append_right h1, List.getElem?_append_right (by omega), hl]
    rcases Nat.eq_zero_or_pos (i - m.length) with h2 | h2
    · rw [h2]; exact g
    · rw [List.getElem?_eq_none (by show 1 ≤ _; omega), List.getElem?_eq_none (by show 1 ≤ _; omega)]; exact .refl
theorem detFold_cg {p : Int} {row found found' : List Int} {mask : Nat} (hf : CgL p found found') : ∀ (cs : List Nat) (side total total' : Int), Cg p total total' → Cg p (detFold row found mask cs side total) (detFold row found' mask cs side total')
  | [], _, _, _, h => h
  | c :: cs, side, t, t', h => by
    unfold detFold
    exact detFold_cg hf cs _ _ _ (h.add (Cg.refl.mul (hf.2 _)))
theorem detGo_cg {p : Nat} {table : List (List Int)} {n : Nat} : ∀ (j mask : Nat) (found found' : List Int), CgL p found found' → CgL p (detGo p table n j mask found) (detGoU table n j mask found')
  | 0, _, _, _, h => h
  | j + 1, mask, f, f', h => by
    unfold detGo detGoU
    refine detGo_cg j (mask + 1) _ _ (h.snoc ?_)
    unfold detCell
    exact Cg.emod.trans (detFold_cg h _ _ _ _ .refl)
theorem detP_cg {p : Nat} {table : List (List Int)} : Cg p (detP p table) (detU table) := (detGo_cg _ _ [1] [1] ⟨rfl, fun _ => .refl⟩).2 _
theorem detU0 : detU [] = 1 := rfl
theorem detU1 {a : Int} : detU [[a]] = a := by
  show 0 + 1 * a * 1 = a
  omega
theorem ch2 : chosenP 2 1 = [0] ∧ chosenP 2 2 = [1] ∧ chosenP 2 3 = [0, 1] := by decide
theorem ch3 : chosenP 3 1 = [0] ∧ chosenP 3 2 = [1] ∧ chosenP 3 3 = [0, 1] ∧ chosenP 3 4 = [2] ∧ chosenP 3 5 = [0, 2] ∧ chosenP 3 6 = [1, 2] ∧ chosenP 3 7 = [0, 1, 2] := by decide
theorem ch4 : chosenP 4 1 = [0] ∧ chosenP 4 2 = [1] ∧ chosenP 4 3 = [0, 1] ∧ chosenP 4 4 = [2] ∧ chosenP 4 5 = [0, 2] ∧ chosenP 4 6 = [1, 2] ∧ chosenP 4 7 = [0, 1, 2] ∧ chosenP 4 8 = [3] ∧ chosenP 4 9 = [0, 3] ∧ chosenP 4 10 = [1, 3] ∧ chosenP 4 11 = [0, 1, 3] ∧ chosenP 4 12 = [2, 3] ∧ chosenP 4 13 = [0, 2, 3] ∧ chosenP 4 14 = [1, 2, 3] ∧ chosenP 4 15 = [0, 1, 2, 3] := by decide
theorem detU2 {a b c d : Int} : detU [[a, b], [c, d]] = a * d - b * c := by
  obtain ⟨h1, h2, h3⟩ := ch2
  simp [detU, detGoU, detFold, h1, h2, h3]
  grind
theorem detU3 {a b c d e f g h i : Int} : detU [[a, b, c], [d, e, f], [g, h, i]] = a * (e * i - f * h) - b * (d * i - f * g) + c * (d * h - e * g) := by
  obtain ⟨h1, h2, h3, h4, h5, h6, h7⟩ := ch3
  simp [detU, detGoU, detFold, h1, h2, h3, h4, h5, h6, h7]
  grind
theorem detU4 {a b c d e f g h i j k l m n o q : Int} : detU [[a, b, c, d], [e, f, g, h], [i, j, k, l], [m, n, o, q]] =
    a * (f * (k * q - l * o) - g * (j * q - l * n) + h * (j * o - k * n)) - b * (e * (k * q - l * o) - g * (i * q - l * m) + h * (i * o - k * m)) + c * (e * (j * q - l * n) - f * (i * q - l * m) + h * (i * n - j * m)) - d * (e * (j * o - k * n) - f * (i * o - k * m) + g * (i * n - j * m)) := by
  obtain ⟨h1, h2, h3, h4, h5, h6, h7, h8, h9, h10, h11, h12, h13, h14, h15⟩ := ch4
  simp [detU, detGoU, detFold, h1, h2, h3, h4, h5, h6, h7, h8, h9, h10, h11, h12, h13, h14, h15]
  grind
end Mine

-- L2
namespace Mine

theorem movedP_app {u v : List Nat} : ∀ (a b : List Nat) (s : Nat), movedP u v (a ++ b) s = movedP u v b (movedP u v a s)
  | [], _, _ => rfl
  | c :: a, b, s => movedP_app a b _
noncomputable def weight (t : List Nat) : Int := 23 ^ t.count 46 * 49 ^ t.count 64
theorem weight_app (a b : List Nat) : weight (a ++ b) = weight a * weight b := by
  unfold weight
  rw [List.count_append, List.count_append, Int.pow_add, Int.pow_add]
  grind
theorem weight_cons {c : Nat} {t : List Nat} (hc : c = 46 ∨ c = 64) : weight (c :: t) = (numP c : Nat) * weight t := by
  unfold weight numP
  rcases hc with rfl | rfl
  · rw [List.count_cons_self, List.count_cons_of_ne (by decide), Int.pow_succ]
    simp
    grind
  · rw [List.count_cons_self, List.count_cons_of_ne (by decide), Int.pow_succ]
    simp
    grind
theorem walk_is {u v : List Nat} {p : Nat} : ∀ (t : List Nat) (s w : Nat), SignsOk t → (walkW u v p t s w).1 = movedP u v t s ∧ Cg p ((walkW u v p t s w).2 : Nat) (w * weight t)
  | [], s, w, _ => ⟨rfl, by unfold weight; simp [walkW]; exact .refl⟩
  | c :: t, s, w, h => by
    have hc := h c List.mem_cons_self
    have h67 : c ≠ 67 := by rcases hc with rfl | rfl <;> decide
    unfold walkW
    rw [if_neg h67]
    obtain ⟨h1, h2⟩ := walk_is t (stepP u v c s) (w * numP c % p) fun c hc => h c (List.mem_cons_of_mem _ hc)
    refine ⟨h1, h2.trans ?_⟩
    rw [weight_cons hc]
    have e : (((w * numP c % p : Nat) : Int)) = ((w : Int) * (numP c : Nat)) % (p : Nat) := by push_cast; rfl
    rw [e]
    have := (Cg.emod (p := (p : Int)) (x := (w : Int) * (numP c : Nat))).mul (Cg.refl (x := weight t))
    refine this.trans (Cg.of ?_)
    grind
theorem worth_is {u v full : List Nat} {a p : Nat} (h : SignsOk full) : ((worthP u v a p (joinedP full) : Nat) : Int) = dueCell p full (costP a (movedP u v full 0) : Nat) := by
  have hj : walkW u v p (joinedP full) 0 1 = walkW u v p full 0 1 := by
    unfold joinedP
    split
    · rfl
    · split
      · rfl
      · conv => lhs; unfold walkW
        rw [if_pos rfl]
  obtain ⟨h1, h2⟩ := walk_is (u := u) (v := v) (p := p) full 0 1 h
  unfold worthP dueCell
  rw [hj]
  dsimp only
  rw [h1]
  have e : ((((walkW u v p full 0 1).2 * costP a (movedP u v full 0) % p : Nat)) : Int) = (((walkW u v p full 0 1).2 : Nat) * (costP a (movedP u v full 0) : Nat) : Int) % (p : Nat) := by push_cast; rfl
  rw [e]
  refine Cg.mod ?_
  have := h2.mul (Cg.refl (p := p) (x := ((costP a (movedP u v full 0) : Nat) : Int)))
  refine this.trans (Cg.of ?_)
  unfold weight
  simp

/-! ## what is reached -/
noncomputable def InS (u v : List Nat) (s : Nat) : Prop := ∃ r ∈ reachP u v, r.2 = s
theorem addP_pre {u v : List Nat} {r : Row} {found : List Row} {c : Nat} : ∃ more, addP u v r found c = found ++ more := by
  unfold addP
  split
  · exact ⟨[], by simp⟩
  · exact ⟨_, rfl⟩
theorem addP_in {u v : List Nat} {r : Row} {found : List Row} {c : Nat} : ∃ q ∈ addP u v r found c, q.2 = stepP u v c r.2 := by
  unfold addP
  split
  · rename_i h
    obtain ⟨q, hq, he⟩ := List.any_eq_true.mp h
    exact ⟨q, hq, by simpa using he⟩
  · exact ⟨_, List.mem_append_right _ (List.mem_singleton.mpr rfl), rfl⟩
theorem addP_run {u v : List Nat} {r : Row} {found : List Row} {c : Nat} (h : ∀ q ∈ found, movedP u v q.1 0 = q.2) (hr : movedP u v r.1 0 = r.2) : ∀ q ∈ addP u v r found c, movedP u v q.1 0 = q.2 := by
  intro q hq
  unfold addP at hq
  split at hq
  · exact h q hq
  · rcases List.mem_append.mp hq with hq | hq
    · exact h q hq
    · rw [List.mem_singleton.mp hq, movedP_app, hr]; rfl
structure ReSt (u v : List Nat) (k : Nat) (found : List Row) : Prop where
  ok : FoundOk found
  run : ∀ q ∈ found, movedP u v q.1 0 = q.2
  zero : ∃ q ∈ found, q.2 = 0
  done : ∀ (i : Nat) (r : Row), i < k → found[i]? = some r → ∀ c, c = 46 ∨ c = 64 → ∃ q ∈ found, q.2 = stepP u v c r.2
theorem reachGo_st {u v : List Nat} (hu : TurnOk u) (hv : TurnOk v) : ∀ (f k : Nat) (found : List Row), k + f = 3 → ReSt u v k found → ∃ k', (reachGo u v f k found).length ≤ k' ∧ ReSt u v k' (reachGo u v f k found)
  | 0, k, found, hk, h => ⟨k, by have := h.ok.le3; show found.length ≤ k; omega, h⟩
  | f + 1, k, found, hk, h => by
    unfold reachGo
    cases e : found[k]? with
    | none =>
      refine ⟨k, ?_, h⟩
      rcases Nat.lt_or_ge k found.length with h' | h'
      · rw [List.getElem?_eq_getElem h'] at e; cases e
      · exact h'
    | some r =>
      have hkl : k < found.length := by
        rcases Nat.lt_or_ge k found.length with h | h
        · exact h
        · rw [List.getElem?_eq_none h] at e; cases e
      have hrm := List.mem_of_getElem? e
      have hr := h.ok.sig r hrm
      have hl := h.ok.len k r e
      obtain ⟨a1, l1⟩ := h.ok.add hu hv hr hl hkl (c := 46) (.inl rfl)
      obtain ⟨a2, l2⟩ := a1.add hu hv hr hl (Nat.lt_of_lt_of_le hkl l1) (c := 64) (.inr rfl)
      have hrun := h.run r hrm
      have r1 := addP_run (c := 46) h.run hrun
      have r2 := addP_run (c := 64) r1 hrun
      obtain ⟨m1, e1⟩ := addP_pre (u := u) (v := v) (r := r) (found := found) (c := 46)
      obtain ⟨m2, e2⟩ := addP_pre (u := u) (v := v) (r := r) (found := addP u v r found 46) (c := 64)
      have i1 := addP_in (u := u) (v := v) (r := r) (found := found) (c := 46)
      have i2 := addP_in (u := u) (v := v) (r := r) (found := addP u v r found 46) (c := 64)
      have eall : [46, 64].foldl (addP u v r) found = addP u v r (addP u v r found 46) 64 := rfl
      have sub : ∀ q, q ∈ found → q ∈ addP u v r (addP u v r found 46) 64 := fun q hq => by rw [e2, e1]; simp [hq]
      have sub1 : ∀ q, q ∈ addP u v r found 46 → q ∈ addP u v r (addP u v r found 46) 64 := fun q hq => by rw [e2]; exact List.mem_append_left _ hq
      refine reachGo_st hu hv f (k + 1) _ (by omega) ?_
      rw [eall]
      refine ⟨a2, r2, by obtain ⟨q, hq, h0⟩ := h.zero; exact ⟨q, sub q hq, h0⟩, fun i q hi hq c hc => ?_⟩
      have hq' : found[i]? = some q := by
        rw [e2, e1, List.append_assoc, List.getElem?_append_left (by omega)] at hq; exact hq
      by_cases hik : i = k
      · rw [hik, e] at hq'
        cases hq'
        rcases hc with rfl | rfl
        · obtain ⟨x, hx, hxe⟩ := i1; exact ⟨x, sub1 x hx, hxe⟩
        · exact i2
      · obtain ⟨x, hx, hxe⟩ := h.done i q (by omega) hq' c hc
        exact ⟨x, sub x hx, hxe⟩
theorem reach_facts {u v : List Nat} (hu : TurnOk u) (hv : TurnOk v) : (∀ q ∈ reachP u v, movedP u v q.1 0 = q.2) ∧ InS u v 0 ∧ (∀ s, InS u v s → ∀ c, c = 46 ∨ c = 64 → InS u v (stepP u v c s)) ∧ (∀ s, InS u v s → s < 3) ∧ FoundOk (reachP u v) := by
  have h0 : FoundOk [([], 0)] := ⟨fun r hr => by rw [List.mem_singleton.mp hr]; exact fun c hc => (nomatch hc), fun r hr => by rw [List.mem_singleton.mp hr]; decide, fun a => by simp [List.count_cons]; split <;> omega, fun i r hr => by
    cases i with
    | zero => cases hr; exact Nat.le_refl _
    | succ i => cases hr⟩
  obtain ⟨k, hk, h⟩ := reachGo_st hu hv 3 0 [([], 0)] rfl ⟨h0, fun q hq => by rw [List.mem_singleton.mp hq]; rfl, ⟨_, List.mem_singleton.mpr rfl, rfl⟩, fun i r hi => absurd hi (Nat.not_lt_zero _)⟩
  refine ⟨h.run, h.zero, fun s ⟨r, hr, he⟩ c hc => ?_, fun s ⟨r, hr, he⟩ => he ▸ h.ok.lt r hr, h.ok⟩
  obtain ⟨i, hi⟩ := List.mem_iff_getElem?.mp hr
  have hil : i < (reachP u v).length := by
    rcases Nat.lt_or_ge i (reachP u v).length with h | h
    · exact h
    · rw [List.getElem?_eq_none h] at hi; cases hi
  have := h.done i r (Nat.lt_of_lt_of_le hil hk) hi c hc
  rw [he] at this
  exact this
theorem InS_moved {u v : List Nat} (hu : TurnOk u) (hv : TurnOk v) : ∀ (w : List Nat) (s : Nat), SignsOk w → InS u v s → InS u v (movedP u v w s)
  | [], _, _, h => h
  | c :: w, s, hw, h => InS_moved hu hv w _ (fun c hc => hw c (List.mem_cons_of_mem _ hc)) ((reach_facts hu hv).2.2.1 s h c (hw c List.mem_cons_self))
end Mine

-- L3
namespace Mine

/-! ## units -/
noncomputable def Unit' (p K : Int) : Prop := ∃ y, Cg p (K * y) 1
theorem Unit'.mul {p K L : Int} (h : Unit' p K) (g : Unit' p L) : Unit' p (K * L) := by
  obtain ⟨y, hy⟩ := h
  obtain ⟨z, hz⟩ := g
  exact ⟨y * z, (Cg.of (by grind)).trans ((hy.mul hz).trans (.of (by decide)))⟩
theorem Unit'.one {p : Int} : Unit' p 1 := ⟨1, .of (by decide)⟩
theorem Unit'.cg {p K L : Int} (h : Unit' p K) (g : Cg p K L) : Unit' p L := by
  obtain ⟨y, hy⟩ := h
  exact ⟨y, (g.symm.mul .refl).trans hy⟩
theorem Unit'.of_mul {p K L : Int} (h : Unit' p (K * L)) : Unit' p K := by
  obtain ⟨y, hy⟩ := h
  exact ⟨L * y, (Cg.of (by grind)).trans hy⟩
theorem Unit'.pow {p K : Int} (h : Unit' p K) : ∀ n : Nat, Unit' p (K ^ n)
  | 0 => by rw [Int.pow_zero]; exact .one
  | n + 1 => by rw [Int.pow_succ]; exact (h.pow n).mul h
theorem Unit'.cancel {p K x : Int} (h : Unit' p K) (g : Cg p (K * x) 0) : Cg p x 0 := by
  obtain ⟨y, hy⟩ := h
  have h1 : Cg p (x * (K * y)) (x * 1) := Cg.refl.mul hy
  have h2 : Cg p (x * (K * y)) 0 := (Cg.of (by grind)).trans ((g.mul (Cg.refl (x := y))).trans (.of (by simp)))
  exact (Cg.of (by simp)).trans (h1.symm.trans h2)
noncomputable def isP (p : Nat) : Prop := p = 3 ∨ p = 5 ∨ p = 11 ∨ p = 13
theorem unit_tab : ∀ p ∈ [3, 5, 11, 13], ∀ x : Nat, x < p → 0 < x → ∃ y, y < p ∧ x * y % p = 1 := by decide +kernel
theorem unit_of {p : Nat} (hp : isP p) {x : Int} (h0 : 0 < x) (h1 : x < p) : Unit' p x := by
  obtain ⟨n, rfl⟩ := Int.eq_ofNat_of_zero_le (Int.le_of_lt h0)
  obtain ⟨y, hy, he⟩ := unit_tab p (by unfold isP at hp; simp; omega) n (by omega) (by omega)
  refine ⟨(y : Int), ?_⟩
  have : Cg (p : Int) ((n : Int) * y) (((n : Int) * y) % p) := Cg.emod.symm
  refine this.trans (.of ?_)
  have e : ((n : Int) * y) % p = ((n * y % p : Nat) : Int) := by push_cast; rfl
  rw [e, he]; rfl
theorem Unit'.ne {p : Nat} (hp : isP p) {x : Int} (h : Unit' p x) : ¬ Cg p x 0 := by
  intro hc
  obtain ⟨y, hy⟩ := h
  have h1 : Cg (p : Int) 0 1 := (Cg.of (by simp)).trans (((hc.mul (Cg.refl (x := y))).symm).trans hy)
  obtain ⟨k, hk⟩ := h1
  unfold isP at hp
  have : (p : Int) * k = -1 := by omega
  have h2 : (p : Int) ∣ 1 := ⟨-k, by rw [Int.mul_neg, this]; rfl⟩
  have := Int.le_of_dvd (by decide) h2
  omega

/-! ## sums of columns -/
noncomputable abbrev V := Nat → Int
noncomputable def sumC : List V → (Nat → Int) → Nat → V
  | [], _, _ => fun _ => 0
  | g :: G, c, i => fun s => c i * g s + sumC G c (i + 1) s
noncomputable def Lin (p : Int) (S : Nat → Prop) (G : List V) (x : V) : Prop := ∃ c, ∀ s, S s → Cg p (x s) (sumC G c 0 s)
theorem sumC_ext : ∀ (G : List V) (c d : Nat → Int) (i : Nat) (s : Nat), (∀ k, i ≤ k → k < i + G.length → c k = d k) → sumC G c i s = sumC G d i s
  | [], _, _, _, _, _ => rfl
  | g :: G, c, d, i, s, h => by
    unfold sumC
    rw [h i (Nat.le_refl _) (by rw [List.length_cons]; omega), sumC_ext G c d (i + 1) s fun k h1 h2 => h k (by omega) (by rw [List.length_cons]; omega)]
theorem sumC_add : ∀ (G : List V) (c d : Nat → Int) (i : Nat) (s : Nat), sumC G (fun k => c k + d k) i s = sumC G c i s + sumC G d i s
  | [], _, _, _, _ => rfl
  | g :: G, c, d, i, s => by
    unfold sumC
    rw [sumC_add G c d (i + 1) s]
    grind
theorem sumC_mul : ∀ (G : List V) (c : Nat → Int) (K : Int) (i : Nat) (s : Nat), sumC G (fun k => K * c k) i s = K * sumC G c i s
  | [], _, _, _, _ => by simp [sumC]
  | g :: G, c, K, i, s => by
    unfold sumC
    rw [sumC_mul G c K (i + 1) s]
    grind
theorem sumC_zero : ∀ (G : List V) (i : Nat) (s : Nat), sumC G (fun _ => 0) i s = 0
  | [], _, _ => rfl
  | g :: G, i, s => by unfold sumC; rw [sumC_zero G (i + 1) s]; simp
theorem sumC_app : ∀ (G H : List V) (c : Nat → Int) (i : Nat) (s : Nat), sumC (G ++ H) c i s = sumC G c i s + sumC H c (i + G.length) s
  | [], H, c, i, s => by simp [sumC]
  | g :: G, H, c, i, s => by
    show c i * g s + sumC (G ++ H) c (i + 1) s = (c i * g s + sumC G c (i + 1) s) + sumC H c (i + (g :: G).length) s
    rw [sumC_app G H c (i + 1) s, List.length_cons, show i + 1 + G.length = i + (G.length + 1) by omega]
    omega
theorem Lin.zero {p : Int} {S : Nat → Prop} {G : List V} : Lin p S G fun _ => 0 := ⟨fun _ => 0, fun s _ => .of (sumC_zero G 0 s).symm⟩
theorem Lin.add {p : Int} {S : Nat → Prop} {G : List V} {x y : V} (h : Lin p S G x) (g : Lin p S G y) : Lin p S G fun s => x s + y s := by
  obtain ⟨c, hc⟩ := h
  obtain ⟨d, hd⟩ := g
  exact ⟨fun k => c k + d k, fun s hs => ((hc s hs).add (hd s hs)).trans (.of (sumC_add G c d 0 s).symm)⟩
theorem Lin.smul {p : Int} {S : Nat → Prop} {G : List V} {x : V} (K : Int) (h : Lin p S G x) : Lin p S G fun s => K * x s := by
  obtain ⟨c, hc⟩ := h
  exact ⟨fun k => K * c k, fun s hs => (Cg.refl.mul (hc s hs)).trans (.of (sumC_mul G c K 0 s).symm)⟩
theorem Lin.cg {p : Int} {S : Nat → Prop} {G : List V} {x y : V} (h : Lin p S G x) (g : ∀ s, S s → Cg p (y s) (x s)) : Lin p S G y := by
  obtain ⟨c, hc⟩ := h
  exact ⟨c, fun s hs => (g s hs).trans (hc s hs)⟩
theorem Lin.more {p : Int} {S : Nat → Prop} {G : List V} {x : V} (H : List V) (h : Lin p S G x) : Lin p S (G ++ H) x := by
  obtain ⟨c, hc⟩ := h
  refine ⟨fun k => if k < G.length then c k else 0, fun s hs => (hc s hs).trans (.of ?_)⟩
  rw [sumC_app, sumC_ext G (fun k => if k < G.length then c k else 0) c 0 s fun k h1 h2 => by rw [if_pos (by omega)], sumC_ext H (fun k => if k < G.length then c k else 0) (fun _ => 0) (0 + G.length) s fun k h1 h2 => by rw [if_neg (by omega)], sumC_zero]
  simp
theorem Lin.last {p : Int} {S : Nat → Prop} {G : List V} {x : V} : Lin p S (G ++ [x]) x := by
  refine ⟨fun k => if k = G.length then 1 else 0, fun s hs => .of ?_⟩
  rw [sumC_app, sumC_ext G (fun k => if k = G.length then 1 else 0) (fun _ => 0) 0 s fun k h1 h2 => by rw [if_neg (by omega)], sumC_zero]
  simp [sumC]
theorem Lin.comb {p : Int} {S : Nat → Prop} {H : List V} : ∀ (G : List V) (c : Nat → Int) (i : Nat), (∀ g ∈ G, Lin p S H g) → Lin p S H (sumC G c i)
  | [], _, _, _ => .zero
  | g :: G, c, i, h => ((h g List.mem_cons_self).smul (c i)).add (Lin.comb G c (i + 1) fun g hg => h g (List.mem_cons_of_mem _ hg))
theorem Lin.trans {p : Int} {S : Nat → Prop} {G H : List V} {x : V} (h : Lin p S G x) (g : ∀ y ∈ G, Lin p S H y) : Lin p S H x := by
  obtain ⟨c, hc⟩ := h
  exact (Lin.comb G c 0 g).cg fun s hs => hc s hs
theorem Lin.mem {p : Int} {S : Nat → Prop} : ∀ {G : List V} {x : V}, x ∈ G → Lin p S G x := by
  intro G x h
  obtain ⟨a, b, rfl⟩ := List.append_of_mem h
  have : a ++ x :: b = (a ++ [x]) ++ b := by simp
  rw [this]
  exact Lin.last.more b
theorem Lin.cancel {p K : Int} {S : Nat → Prop} {G : List V} {x : V} (h : Unit' p K) (g : Lin p S G fun s => K * x s) : Lin p S G x := by
  obtain ⟨y, hy⟩ := h
  refine (g.smul y).cg fun s hs => ?_
  have : Cg p (1 * x s) ((K * y) * x s) := hy.symm.mul .refl
  exact (Cg.of (by simp)).trans (this.trans (.of (by grind)))
end Mine

-- L4
namespace Mine

noncomputable abbrev vf (l : List Int) : V := fun s => l.getD s 0
noncomputable def SmallP (p : Nat) (l : List Int) : Prop := ∀ x ∈ l, 0 ≤ x ∧ x < p
theorem SmallP.getD {p : Nat} (hp : 0 < p) {l : List Int} (h : SmallP p l) (i : Nat) : 0 ≤ l.getD i 0 ∧ l.getD i 0 < p := by
  rw [List.getD_eq_getElem?_getD]
  cases e : l[i]? with
  | none => simp; omega
  | some x => exact h x (List.mem_of_getElem? e)
theorem freeStep_smallP {p : Nat} (hp : 0 < p) {vec : List Int} {l : Nat} {kn : List Int} : SmallP p (freeStep p vec l kn) := by
  intro x hx
  unfold freeStep at hx
  obtain ⟨i, hi⟩ := List.mem_iff_getElem?.mp hx
  rw [List.getElem?_zipWith] at hi
  split at hi
  · cases hi
    exact ⟨Int.emod_nonneg _ (by omega), Int.emod_lt_of_pos _ (by omega)⟩
  · cases hi
theorem freeP_smallP {p : Nat} (hp : 0 < p) : ∀ (base : List Base) (vec : List Int), SmallP p vec → SmallP p (freeP p vec base)
  | [], _, h => h
  | (l, kn) :: r, vec, h => by unfold freeP; exact freeP_smallP hp r _ (freeStep_smallP hp)

theorem free_lin {p n : Nat} : ∀ (base : List Base) (vec : List Int), vec.length = n → (∀ b ∈ base, b.1 < n ∧ b.2.length = n ∧ Unit' p (b.2.getD b.1 0)) →
    ∃ K, Unit' p K ∧ Lin p (· < n) (base.map fun b => vf b.2) fun s => vf (freeP p vec base) s - K * vf vec s
  | [], vec, h, _ => ⟨1, .one, (Lin.zero).cg fun s _ => .of (by simp [freeP])⟩
  | (l, kn) :: r, vec, h, hb => by
    obtain ⟨h0, h1, h2⟩ := hb (l, kn) List.mem_cons_self
    dsimp only at h0 h1 h2
    have hl1 : (freeStep p vec l kn).length = n := by rw [freeStep_len (by rw [h]; exact h1)]; exact h
    obtain ⟨K1, hK1, hL1⟩ := free_lin r (freeStep p vec l kn) hl1 fun b hm => hb b (List.mem_cons_of_mem _ hm)
    refine ⟨K1 * kn.getD l 0, hK1.mul h2, ?_⟩
    have a : Lin p (· < n) (((l, kn) :: r).map fun b => vf b.2) fun s => vf (freeP p (freeStep p vec l kn) r) s - K1 * vf (freeStep p vec l kn) s :=
      hL1.trans fun y hy => Lin.mem (List.mem_cons_of_mem _ hy)
    have b : Lin p (· < n) (((l, kn) :: r).map fun b => vf b.2) (vf kn) := Lin.mem List.mem_cons_self
    refine (a.add (b.smul (-(K1 * vec.getD l 0)))).cg fun s hs => ?_
    have hs' : s < vec.length := by rw [h]; exact hs
    have e : Cg (p : Int) (vf (freeStep p vec l kn) s) (vf vec s * kn.getD l 0 - kn.getD s 0 * vec.getD l 0) := by
      show Cg _ ((freeStep p vec l kn).getD s 0) _
      rw [freeStep_get (by rw [h]; exact h1) hs']
      exact .emod
    have e2 := (Cg.refl (x := K1)).mul e
    show Cg _ (vf (freeP p vec ((l, kn) :: r)) s - K1 * kn.getD l 0 * vf vec s) (vf (freeP p (freeStep p vec l kn) r) s - K1 * vf (freeStep p vec l kn) s + -(K1 * vec.getD l 0) * vf kn s)
    have e3 : Cg (p : Int) (vf (freeP p (freeStep p vec l kn) r) s - K1 * vf (freeStep p vec l kn) s + -(K1 * vec.getD l 0) * vf kn s) (vf (freeP p (freeStep p vec l kn) r) s - K1 * (vf vec s * kn.getD l 0 - kn.getD s 0 * vec.getD l 0) + -(K1 * vec.getD l 0) * vf kn s) := ((Cg.refl).sub e2).add .refl
    refine Cg.trans (Cg.of ?_) e3.symm
    show (freeP p (freeStep p vec l kn) r).getD s 0 - K1 * kn.getD l 0 * vec.getD s 0 = (freeP p (freeStep p vec l kn) r).getD s 0 - K1 * (vec.getD s 0 * kn.getD l 0 - kn.getD s 0 * vec.getD l 0) + -(K1 * vec.getD l 0) * kn.getD s 0
    grind

/-! ## a vector led back -/
theorem set_fold {g : Nat → Int} : ∀ (rs : List Row) (b : List Int) (s : Nat), s < b.length → (b.getD s 0 = g s ∨ ∃ r ∈ rs, r.2 = s) → (rs.foldl (fun b r => b.set r.2 (g r.2)) b).getD s 0 = g s
  | [], b, s, _, h => by
    rcases h with h | ⟨_, h, _⟩
    · exact h
    · cases h
  | r :: rs, b, s, hs, h => by
    rw [List.foldl_cons]
    refine set_fold rs _ s (by rw [List.length_set]; exact hs) ?_
    by_cases hr : r.2 = s
    · left
      subst hr
      rw [List.getD_eq_getElem?_getD, List.getElem?_set_self hs]; rfl
    · rcases h with h | ⟨q, hq, he⟩
      · left
        rw [List.getD_eq_getElem?_getD, List.getElem?_set_ne hr, ← List.getD_eq_getElem?_getD]; exact h
      · rcases List.mem_cons.mp hq with rfl | hq
        · exact absurd he hr
        · exact .inr ⟨q, hq, he⟩
theorem set_fold_off {g : Nat → Int} : ∀ (rs : List Row) (b : List Int) (s : Nat), (∀ r ∈ rs, r.2 ≠ s) → (rs.foldl (fun b r => b.set r.2 (g r.2)) b).getD s 0 = b.getD s 0
  | [], _, _, _ => rfl
  | r :: rs, b, s, h => by
    rw [List.foldl_cons, set_fold_off rs _ s fun q hq => h q (List.mem_cons_of_mem _ hq), List.getD_eq_getElem?_getD, List.getElem?_set_ne (h r List.mem_cons_self), ← List.getD_eq_getElem?_getD]
theorem back_in {u v : List Nat} {vec : List Int} {c s : Nat} (h : InS u v s) (hs : s < 3) : vf (backP u v (reachP u v) vec c) s = vf vec (stepP u v c s) := by
  obtain ⟨r, hr, he⟩ := h
  exact set_fold (g := fun s => vec.getD (stepP u v c s) 0) (reachP u v) [0, 0, 0] s hs (.inr ⟨r, hr, he⟩)
theorem back_off {u v : List Nat} {vec : List Int} {c s : Nat} (h : ¬ InS u v s) (hs : s < 3) : vf (backP u v (reachP u v) vec c) s = 0 := by
  have := set_fold_off (g := fun s => vec.getD (stepP u v c s) 0) (reachP u v) [0, 0, 0] s fun r hr he => h ⟨r, hr, he⟩
  refine this.trans ?_
  rcases (by omega : s = 0 ∨ s = 1 ∨ s = 2) with rfl | rfl | rfl <;> rfl
end Mine

-- L5
namespace Mine

noncomputable def matM (Ls : List Nat) (fs : List V) : List (List Int) := Ls.map fun L => fs.map fun f => f L
theorem Cg.lhs {p x y z : Int} (h : Cg p x (y + z)) : Cg p y (x - z) := by
  obtain ⟨k, hk⟩ := h
  exact ⟨-k, by rw [Int.mul_neg, ← hk]; omega⟩
/-- one column more, freed of the others -/
theorem ext_det {p K : Int} {Ls : List Nat} {fs : List V} {L : Nat} {f r : V} {c : Nat → Int} (hl : Ls.length = fs.length) (hn : Ls.length ≤ 2) (hr : ∀ s, s ∈ Ls ++ [L] → Cg p (r s) (K * f s + sumC fs c 0 s)) (hz : ∀ s ∈ Ls, Cg p (r s) 0) :
    Cg p (K * detU (matM (Ls ++ [L]) (fs ++ [f]))) (r L * detU (matM Ls fs)) := by
  match Ls, fs, hl with
  | [], [], _ =>
    show Cg p (K * detU [[f L]]) (r L * detU [])
    rw [detU1, detU0]
    have := hr L (by simp)
    exact (Cg.of (by simp [sumC])).trans (this.symm.trans (.of (by simp)))
  | [a], [g], _ =>
    show Cg p (K * detU [[g a, f a], [g L, f L]]) (r L * detU [[g a]])
    rw [detU1, detU2]
    have h1 := (hr a (by simp)).lhs
    have h2 := (hr L (by simp)).lhs
    have z1 := hz a (by simp)
    simp only [sumC, Int.add_zero] at h1 h2
    have e1 : Cg p (K * (g a * f L - f a * g L)) (g a * (r L - c 0 * g L) - (r a - c 0 * g a) * g L) :=
      (Cg.of (by grind)).trans ((Cg.refl (x := g a)).mul h2 |>.sub (h1.mul (Cg.refl (x := g L))))
    refine e1.trans ?_
    have e2 : Cg p (g a * r L - r a * g L) (g a * r L - 0 * g L) := (Cg.refl).sub (z1.mul .refl)
    exact (Cg.of (by grind)).trans (e2.trans (.of (by grind)))
  | [a, b], [g, h], _ =>
    show Cg p (K * detU [[g a, h a, f a], [g b, h b, f b], [g L, h L, f L]]) (r L * detU [[g a, h a], [g b, h b]])
    rw [detU2, detU3]
    have h1 := (hr a (by simp)).lhs
    have h2 := (hr b (by simp)).lhs
    have h3 := (hr L (by simp)).lhs
    have z1 := hz a (by simp)
    have z2 := hz b (by simp)
    simp only [sumC, Int.add_zero] at h1 h2 h3
    have e1 : Cg p (K * (g a * (h b * f L - f b * h L) - h a * (g b * f L - f b * g L) + f a * (g b * h L - h b * g L)))
        ((r a - (c 0 * g a + c (0 + 1) * h a)) * (g b * h L - h b * g L) - (r b - (c 0 * g b + c (0 + 1) * h b)) * (g a * h L - h a * g L) + (r L - (c 0 * g L + c (0 + 1) * h L)) * (g a * h b - h a * g b)) :=
      (Cg.of (by grind)).trans (((h1.mul (Cg.refl (x := g b * h L - h b * g L))).sub (h2.mul (Cg.refl (x := g a * h L - h a * g L)))).add (h3.mul (Cg.refl (x := g a * h b - h a * g b))))
    refine e1.trans ?_
    have e2 : Cg p (r a * (g b * h L - h b * g L) - r b * (g a * h L - h a * g L) + r L * (g a * h b - h a * g b)) (0 * (g b * h L - h b * g L) - 0 * (g a * h L - h a * g L) + r L * (g a * h b - h a * g b)) := ((z1.mul .refl).sub (z2.mul .refl)).add .refl
    exact (Cg.of (by grind)).trans (e2.trans (.of (by grind)))

/-! ## the columns -/
structure ColInv (p : Nat) (u v : List Nat) (a : Nat) (waiting : List Col) (base : List Base) (cols : List Col) : Prop where
  bl : ∀ b ∈ base, b.1 < 3 ∧ b.2.length = 3 ∧ SmallP p b.2 ∧ Unit' p (b.2.getD b.1 0)
  boff : ∀ b ∈ base, ∀ s, s < 3 → ¬ InS u v s → b.2.getD s 0 = 0
  lead : ∀ b ∈ base, InS u v b.1
  lad : Ladder base
  bin : ∀ b ∈ base, Lin p (· < 3) (cols.map fun c => vf c.2) (vf b.2)
  len : ∀ x, x ∈ waiting ∨ x ∈ cols → x.2.length = 3
  good : ∀ x, x ∈ waiting ∨ x ∈ cols → ∀ s, InS u v s → vf x.2 s = (costP a (movedP u v x.1 s) : Nat)
  off : ∀ x, x ∈ waiting ∨ x ∈ cols → ∀ s, s < 3 → ¬ InS u v s → vf x.2 s = 0
  sig : ∀ x, x ∈ waiting ∨ x ∈ cols → SignsOk x.1
  cl : ∀ q ∈ cols, ∀ c, c = 46 ∨ c = 64 → (∃ x ∈ waiting, x.2 = backP u v (reachP u v) q.2 c) ∨ Lin p (· < 3) (cols.map fun c => vf c.2) (vf (backP u v (reachP u v) q.2 c))
  co : (∃ x ∈ waiting, x.2 = costsP a (reachP u v)) ∨ Lin p (· < 3) (cols.map fun c => vf c.2) (vf (costsP a (reachP u v)))
  det : Unit' p (detU (matM (base.map (·.1)) (cols.map fun c => vf c.2)))
  n : cols.length = base.length
theorem costP_lt : ∀ a : Nat, a < 3 → ∀ s : Nat, s < 3 → costP a s < 3 := by decide
theorem ColInv.small {p : Nat} {u v : List Nat} {a : Nat} {waiting : List Col} {base : List Base} {cols : List Col} (hp : isP p) (hu : TurnOk u) (hv : TurnOk v) (ha : a < 3) (h : ColInv p u v a waiting base cols) {x : Col} (hx : x ∈ waiting ∨ x ∈ cols) : SmallP p x.2 := by
  intro y hy
  obtain ⟨i, hi⟩ := List.mem_iff_getElem?.mp hy
  have hil : i < x.2.length := by
    rcases Nat.lt_or_ge i x.2.length with h | h
    · exact h
    · rw [List.getElem?_eq_none h] at hi; cases hi
  have hi3 : i < 3 := by have := h.len x hx; omega
  have e : vf x.2 i = y := by show x.2.getD i 0 = y; rw [List.getD_eq_getElem?_getD, hi]; rfl
  have hp3 : 3 ≤ p := by unfold isP at hp; omega
  by_cases hs : InS u v i
  · have := h.good x hx i hs
    have hlt := costP_lt a ha (movedP u v x.1 i) (moved_lt hu hv _ hi3)
    omega
  · have := h.off x hx i hi3 hs
    omega
end Mine

-- L6
namespace Mine

theorem fold_len {g : Nat → Int} : ∀ (rs : List Row) (b : List Int), (rs.foldl (fun b r => b.set r.2 (g r.2)) b).length = b.length
  | [], _ => rfl
  | r :: rs, b => by rw [List.foldl_cons, fold_len rs, List.length_set]
theorem back_len {u v : List Nat} {reached : List Row} {vec : List Int} (c : Nat) : (backP u v reached vec c).length = 3 := fold_len (g := fun s => vec.getD (stepP u v c s) 0) reached [0, 0, 0]
section
variable {p : Nat} {u v : List Nat} {a : Nat} {q : Col} {rest : List Col} {base : List Base} {cols : List Col}
theorem ColInv.line (h : ColInv p u v a (q :: rest) base cols) : ∃ K, Unit' p K ∧ Lin p (· < 3) (cols.map fun c => vf c.2) fun s => vf (freeP p q.2 base) s - K * vf q.2 s := by
  obtain ⟨K, hK, hL⟩ := free_lin (p := p) (n := 3) base q.2 (h.len q (.inl List.mem_cons_self)) fun b hb => ⟨(h.bl b hb).1, (h.bl b hb).2.1, (h.bl b hb).2.2.2⟩
  refine ⟨K, hK, hL.trans fun y hy => ?_⟩
  obtain ⟨b, hb, rfl⟩ := List.mem_map.mp hy
  exact h.bin b hb
theorem ColInv.reject (h : ColInv p u v a (q :: rest) base cols) (hz : freeP p q.2 base = [0, 0, 0]) : ColInv p u v a rest base cols := by
  obtain ⟨K, hK, hL⟩ := h.line
  have hq : Lin p (· < 3) (cols.map fun c => vf c.2) (vf q.2) := by
    refine Lin.cancel hK ((hL.smul (-1)).cg fun s hs => .of ?_)
    rw [hz]
    have e : vf [0, 0, 0] s = 0 := by rcases (by omega : s = 0 ∨ s = 1 ∨ s = 2) with rfl | rfl | rfl <;> rfl
    rw [e]
    omega
  have sub : ∀ x, (x ∈ rest ∨ x ∈ cols) → (x ∈ q :: rest ∨ x ∈ cols) := fun x hx => hx.imp (List.mem_cons_of_mem _) id
  refine ⟨h.bl, h.boff, h.lead, h.lad, h.bin, fun x hx => h.len x (sub x hx), fun x hx => h.good x (sub x hx), fun x hx => h.off x (sub x hx), fun x hx => h.sig x (sub x hx), fun y hy c hc => ?_, ?_, h.det, h.n⟩
  · rcases h.cl y hy c hc with ⟨x, hx, he⟩ | hl
    · rcases List.mem_cons.mp hx with rfl | hx
      · exact .inr (he ▸ hq)
      · exact .inl ⟨x, hx, he⟩
    · exact .inr hl
  · rcases h.co with ⟨x, hx, he⟩ | hl
    · rcases List.mem_cons.mp hx with rfl | hx
      · exact .inr (he ▸ hq)
      · exact .inl ⟨x, hx, he⟩
    · exact .inr hl
theorem ColInv.accept (hp : isP p) (hu : TurnOk u) (hv : TurnOk v) (ha : a < 3) (h : ColInv p u v a (q :: rest) base cols) (hz : ¬ freeP p q.2 base = [0, 0, 0]) (hb2 : base.length ≤ 2) :
    ColInv p u v a (rest ++ [(46 :: q.1, backP u v (reachP u v) q.2 46), (64 :: q.1, backP u v (reachP u v) q.2 64)]) (base ++ [((leadsP 3 (freeP p q.2 base)).getD 0 0, freeP p q.2 base)]) (cols ++ [q]) := by
  obtain ⟨hrun, hS0, hclo, hlt3, hfo⟩ := reach_facts hu hv
  have hp0 : 0 < p := by unfold isP at hp; omega
  have hqlen := h.len q (.inl List.mem_cons_self)
  obtain ⟨K, hK, hL⟩ := h.line
  have hrl := freeP_len (p := p) base q.2 hqlen fun b hb => (h.bl b hb).2.1
  have hlead0 := freeP_lead (p := p) base q.2 hqlen (fun b hb => ⟨(h.bl b hb).1, (h.bl b hb).2.1⟩) h.lad
  have hroff : ∀ s, s < 3 → ¬ InS u v s → (freeP p q.2 base).getD s 0 = 0 := fun s hs hn => freeP_zero hs base q.2 hqlen (fun b hb => ⟨(h.bl b hb).2.1, h.boff b hb s hs hn⟩) (h.off q (.inl List.mem_cons_self) s hs hn)
  have hrs : SmallP p (freeP p q.2 base) := freeP_smallP hp0 base q.2 (h.small hp hu hv ha (.inl List.mem_cons_self))
  obtain ⟨l1, l2, _⟩ := leads_ne hrl (nonzero3 hrl hz)
  generalize hr : freeP p q.2 base = r at *
  generalize hLd : (leadsP 3 r).getD 0 0 = L at *
  have hLS : InS u v L := Classical.byContradiction fun hn => l2 (hroff L l1 hn)
  have hLu : Unit' p (r.getD L 0) := by
    have := hrs.getD hp0 L
    exact unit_of hp (by omega) this.2
  have emap : (cols ++ [q]).map (fun c => vf c.2) = (cols.map fun c => vf c.2) ++ [vf q.2] := by simp
  refine ⟨fun b hb => ?_, fun b hb => ?_, fun b hb => ?_, h.lad.snoc hlead0, fun b hb => ?_, fun x hx => ?_, fun x hx => ?_, fun x hx => ?_, fun x hx => ?_, fun y hy c hc => ?_, ?_, ?_, ?_⟩
  · rcases List.mem_append.mp hb with hb | hb
    · exact h.bl b hb
    · rw [List.mem_singleton.mp hb]; exact ⟨l1, hrl, hrs, hLu⟩
  · rcases List.mem_append.mp hb with hb | hb
    · exact h.boff b hb
    · rw [List.mem_singleton.mp hb]; exact hroff
  · rcases List.mem_append.mp hb with hb | hb
    · exact h.lead b hb
    · rw [List.mem_singleton.mp hb]; exact hLS
  · rw [emap]
    rcases List.mem_append.mp hb with hb | hb
    · exact (h.bin b hb).more _
    · rw [List.mem_singleton.mp hb]
      exact ((hL.more [vf q.2]).add (Lin.last.smul K)).cg fun s hs => .of (by show vf r s = _; omega)
  · have new : x ∈ q :: rest ∨ x ∈ cols → x.2.length = 3 := h.len x
    rcases hx with hx | hx
    · rcases List.mem_append.mp hx with hx | hx
      · exact new (.inl (List.mem_cons_of_mem _ hx))
      · have hx' : x = (46 :: q.1, backP u v (reachP u v) q.2 46) ∨ x = (64 :: q.1, backP u v (reachP u v) q.2 64) := by simpa using hx
        rcases hx' with rfl | rfl
        · exact back_len 46
        · exact back_len 64
    · rcases List.mem_append.mp hx with hx | hx
      · exact new (.inr hx)
      · rw [List.mem_singleton.mp hx]; exact hqlen
  · intro s hs
    rcases hx with hx | hx
    · rcases List.mem_append.mp hx with hx | hx
      · exact h.good x (.inl (List.mem_cons_of_mem _ hx)) s hs
      · have hx' : x = (46 :: q.1, backP u v (reachP u v) q.2 46) ∨ x = (64 :: q.1, backP u v (reachP u v) q.2 64) := by simpa using hx
        rcases hx' with rfl | rfl
        · exact (back_in hs (hlt3 s hs)).trans (h.good q (.inl List.mem_cons_self) _ (hclo s hs 46 (.inl rfl)))
        · exact (back_in hs (hlt3 s hs)).trans (h.good q (.inl List.mem_cons_self) _ (hclo s hs 64 (.inr rfl)))
    · rcases List.mem_append.mp hx with hx | hx
      · exact h.good x (.inr hx) s hs
      · rw [List.mem_singleton.mp hx]; exact h.good q (.inl List.mem_cons_self) s hs
  · intro s hs hn
    rcases hx with hx | hx
    · rcases List.mem_append.mp hx with hx | hx
      · exact h.off x (.inl (List.mem_cons_of_mem _ hx)) s hs hn
      · have hx' : x = (46 :: q.1, backP u v (reachP u v) q.2 46) ∨ x = (64 :: q.1, backP u v (reachP u v) q.2 64) := by simpa using hx
        rcases hx' with rfl | rfl
        · exact back_off hn hs
        · exact back_off hn hs
    · rcases List.mem_append.mp hx with hx | hx
      · exact h.off x (.inr hx) s hs hn
      · rw [List.mem_singleton.mp hx]; exact h.off q (.inl List.mem_cons_self) s hs hn
  · rcases hx with hx | hx
    · rcases List.mem_append.mp hx with hx | hx
      · exact h.sig x (.inl (List.mem_cons_of_mem _ hx))
      · have hs := h.sig q (.inl List.mem_cons_self)
        have hx' : x = (46 :: q.1, backP u v (reachP u v) q.2 46) ∨ x = (64 :: q.1, backP u v (reachP u v) q.2 64) := by simpa using hx
        rcases hx' with rfl | rfl
        · intro c hc; rcases List.mem_cons.mp hc with rfl | hc; exact .inl rfl; exact hs c hc
        · intro c hc; rcases List.mem_cons.mp hc with rfl | hc; exact .inr rfl; exact hs c hc
    · rcases List.mem_append.mp hx with hx | hx
      · exact h.sig x (.inr hx)
      · rw [List.mem_singleton.mp hx]; exact h.sig q (.inl List.mem_cons_self)
  · rw [emap]
    rcases List.mem_append.mp hy with hy | hy
    · rcases h.cl y hy c hc with ⟨x, hx, he⟩ | hl
      · rcases List.mem_cons.mp hx with rfl | hx
        · exact .inr (he ▸ Lin.last)
        · exact .inl ⟨x, List.mem_append_left _ hx, he⟩
      · exact .inr (hl.more _)
    · rw [List.mem_singleton.mp hy]
      left
      rcases hc with rfl | rfl
      · exact ⟨(46 :: q.1, backP u v (reachP u v) q.2 46), by simp, rfl⟩
      · exact ⟨(64 :: q.1, backP u v (reachP u v) q.2 64), by simp, rfl⟩
  · rw [emap]
    rcases h.co with ⟨x, hx, he⟩ | hl
    · rcases List.mem_cons.mp hx with rfl | hx
      · exact .inr (he ▸ Lin.last)
      · exact .inl ⟨x, List.mem_append_left _ hx, he⟩
    · exact .inr (hl.more _)
  · rw [emap, List.map_append]
    obtain ⟨c, hc⟩ := hL
    have hlen : (base.map (·.1)).length = (cols.map fun c => vf c.2).length := by rw [List.length_map, List.length_map, h.n]
    have := ext_det (p := p) (K := K) (Ls := base.map (·.1)) (fs := cols.map fun c => vf c.2) (L := L) (f := vf q.2) (r := vf r) (c := c) hlen (by rw [List.length_map]; exact hb2) (fun s hs => ?_) fun s hs => ?_
    · have hunit : Unit' p (K * detU (matM (base.map (·.1) ++ [L]) ((cols.map fun c => vf c.2) ++ [vf q.2]))) := (hLu.mul h.det).cg this.symm
      rw [Int.mul_comm] at hunit
      exact hunit.of_mul
    · have hs3 : s < 3 := by
        rcases List.mem_append.mp hs with hs | hs
        · obtain ⟨b, hb, rfl⟩ := List.mem_map.mp hs
          exact (h.bl b hb).1
        · rw [List.mem_singleton.mp hs]; exact l1
      have h1 : Cg (p : Int) (vf r s - K * vf q.2 s) (sumC (cols.map fun c => vf c.2) c 0 s) := hc s hs3
      have h2 := h1.add (Cg.refl (x := K * vf q.2 s))
      generalize K * vf q.2 s = y at *
      exact (Cg.of (by omega)).trans (h2.trans (.of (by omega)))
    · obtain ⟨b, hb, rfl⟩ := List.mem_map.mp hs
      exact .of (hlead0 b hb)
  · rw [List.length_append, List.length_append, h.n]; rfl
theorem colsGo_inv (hp : isP p) (hu : TurnOk u) (hv : TurnOk v) (ha : a < 3) : ∀ (f : Nat) (waiting : List Col) (base : List Base) (cols : List Col), waiting.length + 2 * (3 - base.length) ≤ f → ColSt waiting base cols → ColInv p u v a waiting base cols →
    ∃ base', ColSt [] base' (colsGo u v (reachP u v) p f waiting base cols) ∧ ColInv p u v a [] base' (colsGo u v (reachP u v) p f waiting base cols)
  | 0, w, b, c, hf, hs, h => by
    have hw : w = [] := List.length_eq_zero_iff.mp (by omega)
    subst hw
    exact ⟨b, hs, h⟩
  | f + 1, [], b, c, hf, hs, h => ⟨b, hs, h⟩
  | f + 1, q :: rest, b, c, hf, hs, h => by
    have hp0 : 0 < p := by unfold isP at hp; omega
    have hp1 : p < 100 := by unfold isP at hp; omega
    rw [List.length_cons] at hf
    unfold colsGo
    split
    · rename_i hz
      exact colsGo_inv hp hu hv ha f _ _ _ (by omega) hs.drop (h.reject hz)
    · rename_i hz
      obtain ⟨h3, hs'⟩ := hs.add (u := u) (v := v) (reached := reachP u v) hp0 hp1 hz
      refine colsGo_inv hp hu hv ha f _ _ _ ?_ hs' (h.accept hp hu hv ha hz (by omega))
      rw [List.length_append, List.length_append]
      show rest.length + 2 + 2 * (3 - (b.length + 1)) ≤ f
      omega
end
end Mine

-- L7
namespace Mine

section
variable {p : Nat} {u v : List Nat} {a : Nat}
theorem costs_get {reached : List Row} {s : Nat} (hs : s < 3) : vf (costsP a reached) s = if (seenP reached).any (· == (s : Int)) then (costP a s : Int) else 0 := by
  rcases (by omega : s = 0 ∨ s = 1 ∨ s = 2) with rfl | rfl | rfl <;> rfl
theorem seen_iff {s : Nat} : (seenP (reachP u v)).any (· == (s : Int)) = true ↔ InS u v s := by
  unfold seenP InS
  rw [List.any_map, List.any_eq_true]
  constructor
  · rintro ⟨r, hr, he⟩
    refine ⟨r, hr, ?_⟩
    simp only [Function.comp, beq_iff_eq] at he
    omega
  · rintro ⟨r, hr, he⟩
    exact ⟨r, hr, by simp [he]⟩
/-- what is known of the columns in the end -/
structure ColFin (p : Nat) (u v : List Nat) (a : Nat) (cols : List Col) : Prop where
  good : ∀ x ∈ cols, ∀ s, InS u v s → vf x.2 s = (costP a (movedP u v x.1 s) : Nat)
  len : ∀ x ∈ cols, x.2.length = 3
  sig : ∀ x ∈ cols, SignsOk x.1
  wl : ∀ x ∈ cols, x.1.length ≤ 2
  le3 : cols.length ≤ 3
  step : ∀ q ∈ cols, ∀ c, c = 46 ∨ c = 64 → Lin p (InS u v) (cols.map fun c => vf c.2) fun s => vf q.2 (stepP u v c s)
  co : Lin p (InS u v) (cols.map fun c => vf c.2) (vf (costsP a (reachP u v)))
  costs : ∀ s, InS u v s → vf (costsP a (reachP u v)) s = (costP a s : Nat)
  det : ∃ Ls : List Nat, Ls.length = cols.length ∧ (∀ L ∈ Ls, InS u v L) ∧ Unit' p (detU (matM Ls (cols.map fun c => vf c.2)))
  small : ∀ x ∈ cols, SmallP p x.2
theorem Lin.sub {p : Int} {S T : Nat → Prop} {G : List V} {x : V} (h : Lin p S G x) (hs : ∀ s, T s → S s) : Lin p T G x := let ⟨c, hc⟩ := h; ⟨c, fun s h => hc s (hs s h)⟩
theorem cols_fin (hp : isP p) (hu : TurnOk u) (hv : TurnOk v) (ha : a < 3) : ColFin p u v a (colsM p u v a) := by
  obtain ⟨hrun, hS0, hclo, hlt3, hfo⟩ := reach_facts hu hv
  obtain ⟨c1, c2⟩ := costsP_ok (reached := reachP u v) ha
  have hcost : ∀ s, InS u v s → vf (costsP a (reachP u v)) s = (costP a s : Nat) := fun s hs => by
    rw [costs_get (hlt3 s hs), if_pos (seen_iff.mpr hs)]
  have hoff : ∀ s, s < 3 → ¬ InS u v s → vf (costsP a (reachP u v)) s = 0 := fun s hs hn => by
    rw [costs_get hs, if_neg fun h => hn (seen_iff.mp h)]
  obtain ⟨base, hst, hin⟩ := colsGo_inv (p := p) hp hu hv ha 7 [([], costsP a (reachP u v))] [] [] (by show 1 + 2 * 3 ≤ 7; decide)
    ⟨fun q hq => by rw [List.mem_singleton.mp hq]; exact ⟨fun c hc => (nomatch hc), c1, c2, Nat.le_refl _⟩, ⟨fun _ h => (nomatch h), trivial, fun _ h => (nomatch h), fun _ => by simp⟩, fun _ h => (nomatch h), rfl⟩
    ⟨fun _ h => (nomatch h), fun _ h => (nomatch h), fun _ h => (nomatch h), trivial, fun _ h => (nomatch h),
      fun x hx => hx.elim (fun hx => (by rw [List.mem_singleton.mp hx]; exact c1)) (fun hx => (nomatch hx)),
      fun x hx s hs => hx.elim (fun hx => (by rw [List.mem_singleton.mp hx]; exact hcost s hs)) (fun hx => (nomatch hx)),
      fun x hx s hs hn => hx.elim (fun hx => (by rw [List.mem_singleton.mp hx]; exact hoff s hs hn)) (fun hx => (nomatch hx)),
      fun x hx => hx.elim (fun hx => (by rw [List.mem_singleton.mp hx]; exact fun c hc => (nomatch hc))) (fun hx => (nomatch hx)),
      fun _ h => (nomatch h), .inl ⟨_, List.mem_singleton.mpr rfl, rfl⟩, .one, rfl⟩
  refine ⟨fun x hx => hin.good x (.inr hx), fun x hx => hin.len x (.inr hx), fun x hx => hin.sig x (.inr hx), fun x hx => (hst.c x hx).2.2.2, by show (colsGo _ _ _ _ _ _ _ _).length ≤ 3; rw [hst.cl]; exact hst.lad.le3, fun q hq c hc => ?_, ?_, hcost, ⟨base.map (·.1), by rw [List.length_map]; exact hin.n.symm, fun L hL => ?_, hin.det⟩, fun x hx => hin.small hp hu hv ha (.inr hx)⟩
  · rcases hin.cl q hq c hc with ⟨x, hx, _⟩ | h
    · cases hx
    · exact (h.sub fun s hs => hlt3 s hs).cg fun s hs => .of (back_in hs (hlt3 s hs)).symm
  · rcases hin.co with ⟨x, hx, _⟩ | h
    · cases hx
    · exact h.sub fun s hs => hlt3 s hs
  · obtain ⟨b, hb, rfl⟩ := List.mem_map.mp hL
    exact hin.lead b hb

/-- a combination of columns, led on -/
theorem ColFin.lead {cols : List Col} (h : ColFin p u v a cols) (hu : TurnOk u) (hv : TurnOk v) {x : V} {c : Nat} (hc : c = 46 ∨ c = 64) (hx : Lin p (InS u v) (cols.map fun c => vf c.2) x) : Lin p (InS u v) (cols.map fun c => vf c.2) fun s => x (stepP u v c s) := by
  obtain ⟨d, hd⟩ := hx
  have key : ∀ (G : List Col) (i : Nat), (∀ q ∈ G, q ∈ cols) → Lin p (InS u v) (cols.map fun c => vf c.2) fun s => sumC (G.map fun c => vf c.2) d i (stepP u v c s) := by
    intro G
    induction G with
    | nil => intro i _; exact .zero
    | cons q G ih =>
      intro i hG
      exact ((h.step q (hG q List.mem_cons_self) c hc).smul (d i)).add (ih (i + 1) fun q hq => hG q (List.mem_cons_of_mem _ hq))
  exact (key cols 0 fun _ h => h).cg fun s hs => hd _ ((reach_facts hu hv).2.2.1 s hs c hc)
theorem ColFin.leadW {cols : List Col} (h : ColFin p u v a cols) (hu : TurnOk u) (hv : TurnOk v) : ∀ (w : List Nat) {x : V}, SignsOk w → Lin p (InS u v) (cols.map fun c => vf c.2) x → Lin p (InS u v) (cols.map fun c => vf c.2) fun s => x (movedP u v w s)
  | [], x, _, hx => hx
  | c :: w, x, hw, hx => (h.lead hu hv (hw c List.mem_cons_self) (h.leadW hu hv w (fun c hc => hw c (List.mem_cons_of_mem _ hc)) hx))
end
end Mine

-- L8
namespace Mine

theorem D2_cg {p a b c d a' b' c' d' : Int} (h1 : Cg p a a') (h2 : Cg p b b') (h3 : Cg p c c') (h4 : Cg p d d') : Cg p (a * d - b * c) (a' * d' - b' * c') := (h1.mul h4).sub (h2.mul h3)
theorem D3_cg {p a b c d e f g h i a' b' c' d' e' f' g' h' i' : Int} (h1 : Cg p a a') (h2 : Cg p b b') (h3 : Cg p c c') (h4 : Cg p d d') (h5 : Cg p e e') (h6 : Cg p f f') (h7 : Cg p g g') (h8 : Cg p h h') (h9 : Cg p i i') :
    Cg p (a * (e * i - f * h) - b * (d * i - f * g) + c * (d * h - e * g)) (a' * (e' * i' - f' * h') - b' * (d' * i' - f' * g') + c' * (d' * h' - e' * g')) :=
  ((h1.mul (D2_cg h5 h6 h8 h9)).sub (h2.mul (D2_cg h4 h6 h7 h9))).add (h3.mul (D2_cg h4 h5 h7 h8))
theorem D4_cg {p a b c d e f g h i j k l m n o q d' h' l' q' : Int} (h1 : Cg p d d') (h2 : Cg p h h') (h3 : Cg p l l') (h4 : Cg p q q') :
    Cg p (a * (f * (k * q - l * o) - g * (j * q - l * n) + h * (j * o - k * n)) - b * (e * (k * q - l * o) - g * (i * q - l * m) + h * (i * o - k * m)) + c * (e * (j * q - l * n) - f * (i * q - l * m) + h * (i * n - j * m)) - d * (e * (j * o - k * n) - f * (i * o - k * m) + g * (i * n - j * m)))
      (a * (f * (k * q' - l' * o) - g * (j * q' - l' * n) + h' * (j * o - k * n)) - b * (e * (k * q' - l' * o) - g * (i * q' - l' * m) + h' * (i * o - k * m)) + c * (e * (j * q' - l' * n) - f * (i * q' - l' * m) + h' * (i * n - j * m)) - d' * (e * (j * o - k * n) - f * (i * o - k * m) + g * (i * n - j * m))) :=
  (((Cg.refl.mul (D3_cg .refl .refl h2 .refl .refl h3 .refl .refl h4)).sub (Cg.refl.mul (D3_cg .refl .refl h2 .refl .refl h3 .refl .refl h4))).add (Cg.refl.mul (D3_cg .refl .refl h2 .refl .refl h3 .refl .refl h4))).sub (h1.mul .refl)

/-- columns in the span of as many columns -/
theorem det_lin {p : Int} {S : Nat → Prop} (fs gs : List V) (hl : fs.length = gs.length) (h3 : fs.length ≤ 3) (hg : ∀ g ∈ gs, Lin p S fs g) : ∃ lam, ∀ t : List Nat, t.length = fs.length → (∀ s ∈ t, S s) → Cg p (detU (matM t gs)) (lam * detU (matM t fs)) := by
  match fs, gs, hl with
  | [], [], _ =>
    refine ⟨1, fun t ht _ => ?_⟩
    match t, ht with
    | [], _ => exact .of (by show detU [] = 1 * detU []; omega)
  | [f], [g], _ =>
    obtain ⟨c, hc⟩ := hg g (by simp)
    refine ⟨c 0, fun t ht hs => ?_⟩
    match t, ht with
    | [s], _ =>
      show Cg p (detU [[g s]]) (c 0 * detU [[f s]])
      rw [detU1, detU1]
      exact (hc s (hs s (by simp))).trans (.of (by simp [sumC]))
  | [f1, f2], [g1, g2], _ =>
    obtain ⟨c, hc⟩ := hg g1 (by simp)
    obtain ⟨d, hd⟩ := hg g2 (by simp)
    refine ⟨c 0 * d 1 - c 1 * d 0, fun t ht hs => ?_⟩
    match t, ht with
    | [s, r], _ =>
      show Cg p (detU [[g1 s, g2 s], [g1 r, g2 r]]) ((c 0 * d 1 - c 1 * d 0) * detU [[f1 s, f2 s], [f1 r, f2 r]])
      rw [detU2, detU2]
      have hs1 := hs s (by simp)
      have hs2 := hs r (by simp)
      refine (D2_cg (hc s hs1) (hd s hs1) (hc r hs2) (hd r hs2)).trans (.of ?_)
      simp only [sumC, Int.add_zero, Nat.zero_add]
      grind
  | [f1, f2, f3], [g1, g2, g3], _ =>
    obtain ⟨c, hc⟩ := hg g1 (by simp)
    obtain ⟨d, hd⟩ := hg g2 (by simp)
    obtain ⟨e, he⟩ := hg g3 (by simp)
    refine ⟨c 0 * (d 1 * e 2 - d 2 * e 1) - c 1 * (d 0 * e 2 - d 2 * e 0) + c 2 * (d 0 * e 1 - d 1 * e 0), fun t ht hs => ?_⟩
    match t, ht with
    | [s, r, q], _ =>
      show Cg p (detU [[g1 s, g2 s, g3 s], [g1 r, g2 r, g3 r], [g1 q, g2 q, g3 q]]) (_ * detU [[f1 s, f2 s, f3 s], [f1 r, f2 r, f3 r], [f1 q, f2 q, f3 q]])
      rw [detU3, detU3]
      have hs1 := hs s (by simp)
      have hs2 := hs r (by simp)
      have hs3 := hs q (by simp)
      refine (D3_cg (hc s hs1) (hd s hs1) (he s hs1) (hc r hs2) (hd r hs2) (he r hs2) (hc q hs3) (hd q hs3) (he q hs3)).trans (.of ?_)
      simp only [sumC, Int.add_zero, Nat.zero_add]
      grind
  | _ :: _ :: _ :: _ :: _, _, _ => simp at h3

/-- one column more, in the span of the others -/
theorem det_dep {p : Int} {S : Nat → Prop} (fs : List V) (g : V) (h3 : fs.length ≤ 3) (hg : Lin p S fs g) (t : List Nat) (ht : t.length = fs.length + 1) (hs : ∀ s ∈ t, S s) : Cg p (detU (matM t (fs ++ [g]))) 0 := by
  obtain ⟨c, hc⟩ := hg
  match fs, t, ht with
  | [], [s], _ =>
    show Cg p (detU [[g s]]) 0
    rw [detU1]
    exact hc s (hs s (by simp))
  | [f], [s, r], _ =>
    show Cg p (detU [[f s, g s], [f r, g r]]) 0
    rw [detU2]
    refine (D2_cg .refl (hc s (hs s (by simp))) .refl (hc r (hs r (by simp)))).trans (.of ?_)
    simp only [sumC, Int.add_zero, Nat.zero_add]
    grind
  | [f1, f2], [s, r, q], _ =>
    show Cg p (detU [[f1 s, f2 s, g s], [f1 r, f2 r, g r], [f1 q, f2 q, g q]]) 0
    rw [detU3]
    refine (D3_cg .refl .refl (hc s (hs s (by simp))) .refl .refl (hc r (hs r (by simp))) .refl .refl (hc q (hs q (by simp)))).trans (.of ?_)
    simp only [sumC, Int.add_zero, Nat.zero_add]
    grind
  | [f1, f2, f3], [s, r, q, w], _ =>
    show Cg p (detU [[f1 s, f2 s, f3 s, g s], [f1 r, f2 r, f3 r, g r], [f1 q, f2 q, f3 q, g q], [f1 w, f2 w, f3 w, g w]]) 0
    rw [detU4]
    refine (D4_cg (hc s (hs s (by simp))) (hc r (hs r (by simp))) (hc q (hs q (by simp))) (hc w (hs w (by simp)))).trans (.of ?_)
    simp only [sumC, Int.add_zero, Nat.zero_add]
    grind
  | _ :: _ :: _ :: _ :: _, _, _ => simp at h3
end Mine

-- L9
namespace Mine

section
variable {p : Nat} {u v : List Nat} {a : Nat} {cols : List Col}
noncomputable abbrev rV (cols : List Col) (s : Nat) : V := vf (rowVec cols s)
structure RowInv (p : Nat) (cols : List Col) (base : List Base) (rows : List Row) : Prop where
  bl : ∀ b ∈ base, b.1 < cols.length ∧ b.2.length = cols.length ∧ SmallP p b.2 ∧ Unit' p (b.2.getD b.1 0)
  bin : ∀ b ∈ base, Lin p (· < cols.length) (rows.map fun r => rV cols r.2) (vf b.2)
  lad : Ladder base
  one : ∀ x, (base.map (·.1)).count x ≤ 1
  n : rows.length = base.length
theorem rowVec_smallP (h : ∀ c ∈ cols, SmallP p c.2) (hp : 0 < p) (s : Nat) : SmallP p (rowVec cols s) := by
  intro x hx
  obtain ⟨q, hq, rfl⟩ := List.mem_map.mp hx
  exact (h q hq).getD hp s
theorem rowsGo_inv (hp : isP p) (hc : ∀ c ∈ cols, SmallP p c.2) : ∀ (reached : List Row) (base : List Base) (rows : List Row), RowInv p cols base rows →
    ∃ base', RowInv p cols base' (rowsGo p cols reached base rows) ∧ (∀ r ∈ rows, r ∈ rowsGo p cols reached base rows) ∧ ∀ r ∈ reached, Lin p (· < cols.length) ((rowsGo p cols reached base rows).map fun r => rV cols r.2) (rV cols r.2)
  | [], base, rows, h => ⟨base, h, fun _ h => h, fun _ h => (nomatch h)⟩
  | q :: rest, base, rows, h => by
    have hp0 : 0 < p := by unfold isP at hp; omega
    have hvl : (rowVec cols q.2).length = cols.length := by unfold rowVec; rw [List.length_map]
    obtain ⟨K, hK, hL0⟩ := free_lin (p := p) (n := cols.length) base (rowVec cols q.2) hvl fun b hb => ⟨(h.bl b hb).1, (h.bl b hb).2.1, (h.bl b hb).2.2.2⟩
    have hL : Lin p (· < cols.length) (rows.map fun r => rV cols r.2) fun s => vf (freeP p (rowVec cols q.2) base) s - K * vf (rowVec cols q.2) s := hL0.trans fun y hy => by
      obtain ⟨b, hb, rfl⟩ := List.mem_map.mp hy
      exact h.bin b hb
    have hrl := freeP_len (p := p) base (rowVec cols q.2) hvl fun b hb => (h.bl b hb).2.1
    have hlead0 := freeP_lead (p := p) base (rowVec cols q.2) hvl (fun b hb => ⟨(h.bl b hb).1, (h.bl b hb).2.1⟩) h.lad
    have hrs : SmallP p (freeP p (rowVec cols q.2) base) := freeP_smallP hp0 base _ (rowVec_smallP hc hp0 q.2)
    have grow : ∀ {R R' : List Row} {x : V}, (∀ r ∈ R, r ∈ R') → Lin p (· < cols.length) (R.map fun r => rV cols r.2) x → Lin p (· < cols.length) (R'.map fun r => rV cols r.2) x := fun {R R' x} hs hx => hx.trans fun y hy => by
      obtain ⟨r, hr, rfl⟩ := List.mem_map.mp hy
      exact Lin.mem (List.mem_map.mpr ⟨r, hs r hr, rfl⟩)
    unfold rowsGo
    dsimp only
    generalize hr : freeP p (rowVec cols q.2) base = r at *
    split
    · rename_i hz
      obtain ⟨base', h1, h2, h3⟩ := rowsGo_inv hp hc rest base rows h
      refine ⟨base', h1, h2, fun x hx => ?_⟩
      rcases List.mem_cons.mp hx with rfl | hx
      · refine grow h2 (Lin.cancel hK ((hL.smul (-1)).cg fun s hs => .of ?_))
        have e : vf r s = 0 := by
          by_cases h0 : r.getD s 0 = 0
          · exact h0
          · have : s ∈ leadsP cols.length r := List.mem_filter.mpr ⟨List.mem_range.mpr hs, by simpa using h0⟩
            rw [hz] at this
            cases this
        rw [e]
        show K * vf (rowVec cols x.2) s = -1 * (0 - K * vf (rowVec cols x.2) s)
        omega
      · exact h3 x hx
    · rename_i hz
      obtain ⟨l1, l2, _⟩ := leads_ne hrl (leads_nil hz)
      generalize hLd : (leadsP cols.length r).getD 0 0 = L at *
      have hLu : Unit' p (r.getD L 0) := by
        have := hrs.getD hp0 L
        exact unit_of hp (by omega) this.2
      have hnew : RowInv p cols (base ++ [(L, r)]) (rows ++ [q]) := by
        refine ⟨fun b hb => ?_, fun b hb => ?_, h.lad.snoc hlead0, fun x => ?_, by rw [List.length_append, List.length_append, h.n]; rfl⟩
        · rcases List.mem_append.mp hb with hb | hb
          · exact h.bl b hb
          · rw [List.mem_singleton.mp hb]; exact ⟨l1, hrl, hrs, hLu⟩
        · rcases List.mem_append.mp hb with hb | hb
          · exact grow (fun r hr => List.mem_append_left _ hr) (h.bin b hb)
          · rw [List.mem_singleton.mp hb]
            have m1 : Lin p (· < cols.length) ((rows ++ [q]).map fun r => rV cols r.2) (rV cols q.2) := Lin.mem (List.mem_map.mpr ⟨q, by simp, rfl⟩)
            refine ((grow (fun r hr => List.mem_append_left _ hr) hL).add (m1.smul K)).cg fun s hs => .of ?_
            show vf r s = vf r s - K * vf (rowVec cols q.2) s + K * vf (rowVec cols q.2) s
            omega
        · rw [List.map_append, List.count_append]
          have h1 := h.one x
          by_cases ha : L = x
          · have : (base.map (·.1)).count x = 0 := by
              rw [List.count_eq_zero]
              intro hm
              obtain ⟨b, hb, hbe⟩ := List.mem_map.mp hm
              have := hlead0 b hb
              rw [hbe, ← ha] at this
              exact l2 this
            rw [this]
            simp [List.count_cons]
            split <;> omega
          · have : List.count x (List.map (fun b : Base => b.1) [(L, r)]) = 0 := by
              rw [List.count_eq_zero]
              intro hm
              rw [List.map_cons, List.map_nil, List.mem_singleton] at hm
              exact ha hm.symm
            omega
      obtain ⟨base', h1, h2, h3⟩ := rowsGo_inv hp hc rest _ _ hnew
      refine ⟨base', h1, fun x hx => h2 x (List.mem_append_left _ hx), fun x hx => ?_⟩
      rcases List.mem_cons.mp hx with rfl | hx
      · exact Lin.mem (List.mem_map.mpr ⟨x, h2 x (by simp), rfl⟩)
      · exact h3 x hx
theorem le_n {n : Nat} (hn : n ≤ 3) {l : List Nat} (hl : ∀ x ∈ l, x < n) (h1 : ∀ x, l.count x ≤ 1) : l.length ≤ n := by
  have e := len3 l fun x hx => Nat.lt_of_lt_of_le (hl x hx) hn
  have z : ∀ i, n ≤ i → l.count i = 0 := fun i hi => List.count_eq_zero.mpr fun hm => by have := hl i hm; omega
  have a0 := h1 0
  have a1 := h1 1
  have a2 := h1 2
  rcases (by omega : n = 0 ∨ n = 1 ∨ n = 2 ∨ n = 3) with rfl | rfl | rfl | rfl
  · have := z 0 (by omega); have := z 1 (by omega); have := z 2 (by omega); omega
  · have := z 1 (by omega); have := z 2 (by omega); omega
  · have := z 2 (by omega); omega
  · omega
theorem det_turn (cols : List Col) (h3 : cols.length ≤ 3) (t : List Nat) (ht : t.length = cols.length) : detU (matM t (cols.map fun c => vf c.2)) = detU (matM (List.range cols.length) (t.map fun s => rV cols s)) := by
  match cols, t, ht with
  | [], [], _ => rfl
  | [c], [s], _ => rfl
  | [c, d], [s, r], _ =>
    show detU [[vf c.2 s, vf d.2 s], [vf c.2 r, vf d.2 r]] = detU [[vf c.2 s, vf c.2 r], [vf d.2 s, vf d.2 r]]
    rw [detU2, detU2]
    grind
  | [c, d, e], [s, r, q], _ =>
    show detU [[vf c.2 s, vf d.2 s, vf e.2 s], [vf c.2 r, vf d.2 r, vf e.2 r], [vf c.2 q, vf d.2 q, vf e.2 q]] = detU [[vf c.2 s, vf c.2 r, vf c.2 q], [vf d.2 s, vf d.2 r, vf d.2 q], [vf e.2 s, vf e.2 r, vf e.2 q]]
    rw [detU3, detU3]
    grind
  | _ :: _ :: _ :: _ :: _, _, _ => simp at h3
end
end Mine

-- L10
namespace Mine

section
variable {p : Nat} {u v : List Nat} {a : Nat}
theorem rows_fin (hp : isP p) (hu : TurnOk u) (hv : TurnOk v) (ha : a < 3) : (rowsM p u v a).length = (colsM p u v a).length ∧ Unit' p (detU (matM ((rowsM p u v a).map (·.2)) ((colsM p u v a).map fun c => vf c.2))) ∧ (∀ r ∈ rowsM p u v a, r ∈ reachP u v) := by
  have C := cols_fin (a := a) hp hu hv ha
  have hsub : ∀ r ∈ rowsM p u v a, r ∈ reachP u v := fun r hr => by
    rcases rowsGo_sub _ _ _ r hr with h | h
    · cases h
    · exact h
  obtain ⟨base, hinv, _, hall⟩ := rowsGo_inv (cols := colsM p u v a) hp C.small (reachP u v) [] [] ⟨fun _ h => (nomatch h), fun _ h => (nomatch h), trivial, fun _ => by simp, rfl⟩
  have hrows : rowsGo p (colsM p u v a) (reachP u v) [] [] = rowsM p u v a := rfl
  rw [hrows] at hinv hall
  generalize rowsM p u v a = rows at *
  generalize colsM p u v a = cols at *
  obtain ⟨Ls, hLl, hLS, hLu⟩ := C.det
  have hle : rows.length ≤ cols.length := by
    rw [hinv.n, ← List.length_map (f := fun b : Base => b.1)]
    exact le_n C.le3 (fun x hx => by obtain ⟨b, hb, rfl⟩ := List.mem_map.mp hx; exact (hinv.bl b hb).1) hinv.one
  rw [det_turn cols C.le3 Ls hLl] at hLu
  have hg : ∀ g ∈ Ls.map fun s => rV cols s, Lin p (· < cols.length) (rows.map fun r : Row => rV cols r.2) g := fun g hg => by
    obtain ⟨L, hL, rfl⟩ := List.mem_map.mp hg
    obtain ⟨r, hr, he⟩ := hLS L hL
    rw [← he]
    exact hall r hr
  have hrange : ∀ s ∈ List.range cols.length, s < cols.length := fun s hs => List.mem_range.mp hs
  have h3 := C.le3
  have heq : rows.length = cols.length := by
    rcases Nat.lt_or_ge rows.length cols.length with hlt | hge
    · exfalso
      let fs' : List V := (rows.map fun r : Row => rV cols r.2) ++ List.replicate (cols.length - 1 - rows.length) (fun _ => 0)
      have hfl : fs'.length = cols.length - 1 := by
        show ((rows.map fun r : Row => rV cols r.2) ++ List.replicate (cols.length - 1 - rows.length) (fun _ => 0)).length = _
        rw [List.length_append, List.length_map, List.length_replicate]; omega
      obtain ⟨lam, hlam⟩ := det_lin (p := p) (S := (· < cols.length)) (fs' ++ [fun _ => 0]) (Ls.map fun s => rV cols s) (by rw [List.length_append, hfl, List.length_map, hLl]; show cols.length - 1 + 1 = _; omega) (by rw [List.length_append, hfl]; show cols.length - 1 + 1 ≤ 3; omega) fun g hg' => by
        have := ((hg g hg').more (List.replicate (cols.length - 1 - rows.length) (fun _ => 0))).more [fun _ => 0]
        exact this
      have h1 := hlam (List.range cols.length) (by rw [List.length_range, List.length_append, hfl]; show _ = cols.length - 1 + 1; omega) hrange
      have h2 := det_dep (p := p) (S := (· < cols.length)) fs' (fun _ => 0) (by rw [hfl]; omega) .zero (List.range cols.length) (by rw [List.length_range, hfl]; omega) hrange
      exact (hLu.ne hp) (h1.trans ((Cg.refl.mul h2).trans (.of (by simp))))
    · omega
  refine ⟨heq, ?_, hsub⟩
  obtain ⟨lam, hlam⟩ := det_lin (p := p) (S := (· < cols.length)) (rows.map fun r : Row => rV cols r.2) (Ls.map fun s => rV cols s) (by rw [List.length_map, List.length_map, hLl, heq]) (by rw [List.length_map]; omega) hg
  have h1 := hlam (List.range cols.length) (by rw [List.length_range, List.length_map, heq]) hrange
  rw [det_turn cols C.le3 (rows.map (·.2)) (by rw [List.length_map, heq]), List.map_map]
  have := hLu.cg h1
  rw [Int.mul_comm] at this
  exact this.of_mul
end
end Mine

-- L11
namespace Mine

/-! ## scaled tables -/
theorem D4_all {p : Int} {a b c d e f g h i j k l m n o q a' b' c' d' e' f' g' h' i' j' k' l' m' n' o' q' : Int} (h1 : Cg p a a') (h2 : Cg p b b') (h3 : Cg p c c') (h4 : Cg p d d') (h5 : Cg p e e') (h6 : Cg p f f') (h7 : Cg p g g') (h8 : Cg p h h') (h9 : Cg p i i') (h10 : Cg p j j') (h11 : Cg p k k') (h12 : Cg p l l') (h13 : Cg p m m') (h14 : Cg p n n') (h15 : Cg p o o') (h16 : Cg p q q') :
    Cg p (detU [[a, b, c, d], [e, f, g, h], [i, j, k, l], [m, n, o, q]]) (detU [[a', b', c', d'], [e', f', g', h'], [i', j', k', l'], [m', n', o', q']]) := by
  rw [detU4, detU4]
  exact (((h1.mul (D3_cg h6 h7 h8 h10 h11 h12 h14 h15 h16)).sub (h2.mul (D3_cg h5 h7 h8 h9 h11 h12 h13 h15 h16))).add (h3.mul (D3_cg h5 h6 h8 h9 h10 h12 h13 h14 h16))).sub (h4.mul (D3_cg h5 h6 h7 h9 h10 h11 h13 h14 h15))
noncomputable def prodL (l : List Int) : Int := l.foldr (· * ·) 1
/-- lines scaled by R, columns by C, all by k -/
theorem det_scale {p k : Int} {α β : Type} {R : α → Int} {C : β → Int} {x X : α → β → Int} (rs : List α) (cs : List β) (hl : rs.length = cs.length) (h4 : rs.length ≤ 4) (hX : ∀ r ∈ rs, ∀ c ∈ cs, Cg p (X r c) (R r * k * C c * x r c)) :
    Cg p (detU (rs.map fun r => cs.map fun c => X r c)) (prodL (rs.map R) * k ^ rs.length * prodL (cs.map C) * detU (rs.map fun r => cs.map fun c => x r c)) := by
  match rs, cs, hl with
  | [], [], _ => exact .of (by show detU [] = 1 * k ^ 0 * 1 * detU []; rw [detU0]; simp)
  | [r], [c], _ =>
    show Cg p (detU [[X r c]]) (R r * 1 * k ^ 1 * (C c * 1) * detU [[x r c]])
    rw [detU1, detU1]
    exact (hX r (by simp) c (by simp)).trans (.of (by grind))
  | [r, s], [c, d], _ =>
    show Cg p (detU [[X r c, X r d], [X s c, X s d]]) (R r * (R s * 1) * k ^ 2 * (C c * (C d * 1)) * detU [[x r c, x r d], [x s c, x s d]])
    rw [detU2, detU2]
    exact (D2_cg (hX r (by simp) c (by simp)) (hX r (by simp) d (by simp)) (hX s (by simp) c (by simp)) (hX s (by simp) d (by simp))).trans (.of (by grind))
  | [r, s, t], [c, d, e], _ =>
    show Cg p (detU [[X r c, X r d, X r e], [X s c, X s d, X s e], [X t c, X t d, X t e]]) (R r * (R s * (R t * 1)) * k ^ 3 * (C c * (C d * (C e * 1))) * detU [[x r c, x r d, x r e], [x s c, x s d, x s e], [x t c, x t d, x t e]])
    rw [detU3, detU3]
    exact (D3_cg (hX r (by simp) c (by simp)) (hX r (by simp) d (by simp)) (hX r (by simp) e (by simp)) (hX s (by simp) c (by simp)) (hX s (by simp) d (by simp)) (hX s (by simp) e (by simp)) (hX t (by simp) c (by simp)) (hX t (by simp) d (by simp)) (hX t (by simp) e (by simp))).trans (.of (by grind))
  | [r, s, t, w], [c, d, e, f], _ =>
    show Cg p (detU [[X r c, X r d, X r e, X r f], [X s c, X s d, X s e, X s f], [X t c, X t d, X t e, X t f], [X w c, X w d, X w e, X w f]]) (R r * (R s * (R t * (R w * 1))) * k ^ 4 * (C c * (C d * (C e * (C f * 1)))) * detU [[x r c, x r d, x r e, x r f], [x s c, x s d, x s e, x s f], [x t c, x t d, x t e, x t f], [x w c, x w d, x w e, x w f]])
    refine (D4_all (hX r (by simp) c (by simp)) (hX r (by simp) d (by simp)) (hX r (by simp) e (by simp)) (hX r (by simp) f (by simp)) (hX s (by simp) c (by simp)) (hX s (by simp) d (by simp)) (hX s (by simp) e (by simp)) (hX s (by simp) f (by simp)) (hX t (by simp) c (by simp)) (hX t (by simp) d (by simp)) (hX t (by simp) e (by simp)) (hX t (by simp) f (by simp)) (hX w (by simp) c (by simp)) (hX w (by simp) d (by simp)) (hX w (by simp) e (by simp)) (hX w (by simp) f (by simp))).trans (.of ?_)
    rw [detU4, detU4]
    grind
  | _ :: _ :: _ :: _ :: _ :: _, _, _ => simp at h4

/-! ## remainders that a determinant may be -/
theorem detGo_range {p : Nat} (hp : 0 < p) {table : List (List Int)} {n : Nat} : ∀ (j mask : Nat) (found : List Int), ∀ i, found.length ≤ i → i < found.length + j → 0 ≤ (detGo p table n j mask found).getD i 0 ∧ (detGo p table n j mask found).getD i 0 < p
  | 0, _, _, _, h1, h2 => by omega
  | j + 1, mask, found, i, h1, h2 => by
    unfold detGo
    rcases Nat.lt_or_ge i (found.length + 1) with h | h
    · have hi : i = found.length := by omega
      subst hi
      have keep : ∀ (j mask : Nat) (f : List Int) (i : Nat), i < f.length → (detGo p table n j mask f).getD i 0 = f.getD i 0 := by
        intro j
        induction j with
        | zero => intro mask f i _; rfl
        | succ j ih =>
          intro mask f i hi
          unfold detGo
          rw [ih _ _ i (by rw [List.length_append]; omega), List.getD_eq_getElem?_getD, List.getElem?_append_left hi, ← List.getD_eq_getElem?_getD]
      rw [keep _ _ _ _ (by rw [List.length_append]; show _ < _ + 1; omega), List.getD_eq_getElem?_getD, List.getElem?_append_right (Nat.le_refl _), Nat.sub_self]
      show 0 ≤ detCell p table n found mask ∧ detCell p table n found mask < p
      unfold detCell
      exact ⟨Int.emod_nonneg _ (by omega), Int.emod_lt_of_pos _ (by omega)⟩
    · exact detGo_range hp j (mask + 1) _ i (by rw [List.length_append]; exact h) (by rw [List.length_append]; show i < found.length + 1 + j; omega)
theorem detP_range {p : Nat} (hp : 0 < p) {table : List (List Int)} (h : 0 < table.length) : 0 ≤ detP p table ∧ detP p table < p := by
  have : 1 < 2 ^ table.length := Nat.one_lt_two_pow (by omega)
  exact detGo_range hp _ 1 [1] _ (by show 1 ≤ _; omega) (by show _ < 1 + _; omega)
theorem detP_zero {p : Nat} : detP p [] = 1 := rfl
end Mine

-- L12
namespace Mine

section
variable {p : Nat} {u v : List Nat} {a : Nat} {cols : List Col}
noncomputable abbrev Dt (cols : List Col) (t : List Nat) : Int := detU (matM t (cols.map fun c => vf c.2))
theorem D_step (C : ColFin p u v a cols) {c : Nat} (hc : c = 46 ∨ c = 64) : ∃ lam, ∀ t : List Nat, t.length = cols.length → (∀ s ∈ t, InS u v s) → Cg p (Dt cols (t.map (stepP u v c))) (lam * Dt cols t) := by
  obtain ⟨lam, h⟩ := det_lin (p := p) (S := InS u v) (cols.map fun c => vf c.2) (cols.map fun q => fun s => vf q.2 (stepP u v c s)) (by simp) (by rw [List.length_map]; exact C.le3) fun g hg => by
    obtain ⟨q, hq, rfl⟩ := List.mem_map.mp hg
    exact C.step q hq c hc
  refine ⟨lam, fun t ht hs => ?_⟩
  have := h t (by rw [List.length_map]; exact ht) hs
  have e : matM (t.map (stepP u v c)) (cols.map fun c => vf c.2) = matM t (cols.map fun q => fun s => vf q.2 (stepP u v c s)) := by
    unfold matM
    rw [List.map_map]
    refine List.map_congr_left fun s _ => ?_
    simp
  unfold Dt
  rw [e]
  exact this
theorem D_word (hu : TurnOk u) (hv : TurnOk v) {l46 l64 : Int} (h46 : ∀ t : List Nat, t.length = cols.length → (∀ s ∈ t, InS u v s) → Cg p (Dt cols (t.map (stepP u v 46))) (l46 * Dt cols t)) (h64 : ∀ t : List Nat, t.length = cols.length → (∀ s ∈ t, InS u v s) → Cg p (Dt cols (t.map (stepP u v 64))) (l64 * Dt cols t)) :
    ∀ (w : List Nat) (t : List Nat), SignsOk w → t.length = cols.length → (∀ s ∈ t, InS u v s) → Cg p (Dt cols (t.map (movedP u v w))) (l46 ^ w.count 46 * l64 ^ w.count 64 * Dt cols t)
  | [], t, _, _, _ => by
    have : t.map (movedP u v []) = t := by
      have : movedP u v [] = id := by funext s; rfl
      rw [this, List.map_id]
    rw [this]
    exact .of (by simp)
  | c :: w, t, hw, ht, hs => by
    have hc := hw c List.mem_cons_self
    have e : t.map (movedP u v (c :: w)) = (t.map (stepP u v c)).map (movedP u v w) := by rw [List.map_map]; rfl
    rw [e]
    have hs' : ∀ s ∈ t.map (stepP u v c), InS u v s := fun s h => by
      obtain ⟨r, hr, rfl⟩ := List.mem_map.mp h
      exact (reach_facts hu hv).2.2.1 r (hs r hr) c hc
    refine (D_word hu hv h46 h64 w _ (fun c h => hw c (List.mem_cons_of_mem _ h)) (by rw [List.length_map]; exact ht) hs').trans ?_
    rcases hc with rfl | rfl
    · refine (Cg.refl.mul (h46 t ht hs)).trans (.of ?_)
      rw [List.count_cons_self, List.count_cons_of_ne (by decide), Int.pow_succ]
      grind
    · refine (Cg.refl.mul (h64 t ht hs)).trans (.of ?_)
      rw [List.count_cons_self, List.count_cons_of_ne (by decide), Int.pow_succ]
      grind
end
end Mine

-- L13
namespace Mine

section
variable {p : Nat} {u v : List Nat} {a : Nat} {cols : List Col}
theorem weight_unit (hp : isP p) (t : List Nat) : Unit' p (weight t) := by
  have h1 : Unit' p 23 := by
    rcases hp with rfl | rfl | rfl | rfl
    · exact ⟨2, 15, by decide⟩
    · exact ⟨2, 9, by decide⟩
    · exact ⟨1, 2, by decide⟩
    · exact ⟨4, 7, by decide⟩
  have h2 : Unit' p 49 := by
    rcases hp with rfl | rfl | rfl | rfl
    · exact ⟨1, 16, by decide⟩
    · exact ⟨4, 39, by decide⟩
    · exact ⟨9, 40, by decide⟩
    · exact ⟨4, 15, by decide⟩
  exact (h1.pow _).mul (h2.pow _)
theorem prodL_unit {l : List Int} (h : ∀ x ∈ l, Unit' p x) : Unit' p (prodL l) := by
  induction l with
  | nil => exact .one
  | cons x l ih => exact (h x List.mem_cons_self).mul (ih fun y hy => h y (List.mem_cons_of_mem _ hy))
/-- the table of a job, over any lines and columns -/
theorem due_det {rows : List Row} {m : List Nat} (hl : rows.length = cols.length) (h4 : rows.length ≤ 4) :
    Cg p (detP p (dueP u v p rows m cols)) (prodL (rows.map fun r => weight r.1) * weight m ^ rows.length * prodL (cols.map fun c => weight c.1) * Dt cols (rows.map fun r => movedP u v m r.2)) := by
  refine detP_cg.trans ?_
  have := det_scale (p := p) (k := weight m) (R := fun r : Row => weight r.1) (C := fun c : Col => weight c.1) (x := fun r c => c.2.getD (movedP u v m r.2) 0) (X := fun r c => dueCell p (r.1 ++ m ++ c.1) (c.2.getD (movedP u v m r.2) 0)) rows cols hl h4 fun r _ c _ => by
    have e : dueCell p (r.1 ++ m ++ c.1) (c.2.getD (movedP u v m r.2) 0) = (weight (r.1 ++ m ++ c.1) * c.2.getD (movedP u v m r.2) 0) % (p : Int) := rfl
    rw [e]
    refine Cg.emod.trans (.of ?_)
    rw [weight_app, weight_app]
  unfold dueP
  refine this.trans (.of ?_)
  unfold Dt matM
  rw [List.map_map]
  congr 2
  refine List.map_congr_left fun r _ => ?_
  simp [vf]
end
end Mine

-- L14
namespace Mine

theorem cubic {p B P A M l46 l64 : Int} {d n : Nat} (hd : d ≤ 4) (hP : Cg p P (23 ^ n * l46 * B)) (hA : Cg p A (49 ^ n * l64 * B)) (hM : Cg p M ((23 ^ d * 49 ^ (4 - d)) ^ n * (l46 ^ d * l64 ^ (4 - d)) * B)) :
    Cg p (B ^ 3 * M - P ^ d * A ^ (4 - d)) 0 := by
  have h1 := ((Cg.refl (x := B ^ 3)).mul hM).sub ((hP.pow d).mul (hA.pow (4 - d)))
  refine h1.trans (.of ?_)
  have e : ((23 : Int) ^ d * 49 ^ (4 - d)) ^ n = (23 ^ n) ^ d * (49 ^ n) ^ (4 - d) := by
    rw [Int.mul_pow, ← Int.pow_mul, ← Int.pow_mul, ← Int.pow_mul, ← Int.pow_mul, Nat.mul_comm d n, Nat.mul_comm (4 - d) n]
  rw [e]
  generalize (23 : Int) ^ n = x
  generalize (49 : Int) ^ n = y
  rcases (by omega : d = 0 ∨ d = 1 ∨ d = 2 ∨ d = 3 ∨ d = 4) with rfl | rfl | rfl | rfl | rfl
  all_goals
    simp only [Nat.sub_zero, Nat.reduceSub, Int.pow_succ, Int.pow_zero]
    grind
end Mine

-- L15
namespace Mine

noncomputable def sideP (u : List Nat) : Int := ((u.getD 1 0 - u.getD 0 0 : Int) * (u.getD 2 0 - u.getD 0 0 : Int) * (u.getD 2 0 - u.getD 1 0 : Int)).fdiv 2
theorem side_012 {f g h : V} : ∀ x : Nat, x < 3 → ∀ y : Nat, y < 3 → ∀ z : Nat, z < 3 → detU (matM [x, y, z] [f, g, h]) = sideP [x, y, z] * detU (matM [0, 1, 2] [f, g, h]) := by
  intro x hx y hy z hz
  have e : ∀ a b c : Nat, matM [a, b, c] [f, g, h] = [[f a, g a, h a], [f b, g b, h b], [f c, g c, h c]] := fun _ _ _ => rfl
  rw [e, e, detU3, detU3]
  rcases (by omega : x = 0 ∨ x = 1 ∨ x = 2) with rfl | rfl | rfl <;> rcases (by omega : y = 0 ∨ y = 1 ∨ y = 2) with rfl | rfl | rfl <;> rcases (by omega : z = 0 ∨ z = 1 ∨ z = 2) with rfl | rfl | rfl
  all_goals
    simp only [sideP, List.getD_cons_zero, List.getD_cons_succ]
    grind
end Mine
namespace Mine
theorem side_perm0 : ∀ a b c x y z : Fin 3, (x ≠ y ∧ x ≠ z ∧ y ≠ z) →
    sideP [([a.1, b.1, c.1] : List Nat).getD x.1 0, ([a.1, b.1, c.1] : List Nat).getD y.1 0, ([a.1, b.1, c.1] : List Nat).getD z.1 0] = sideP [a.1, b.1, c.1] * sideP [x.1, y.1, z.1] := by decide +kernel
theorem side_perm (a : Nat) (ha : a < 3) (b : Nat) (hb : b < 3) (c : Nat) (hc : c < 3) (x : Nat) (hx : x < 3) (y : Nat) (hy : y < 3) (z : Nat) (hz : z < 3) (h : x ≠ y ∧ x ≠ z ∧ y ≠ z) :
    sideP [([a, b, c] : List Nat).getD x 0, ([a, b, c] : List Nat).getD y 0, ([a, b, c] : List Nat).getD z 0] = sideP [a, b, c] * sideP [x, y, z] :=
  side_perm0 ⟨a, ha⟩ ⟨b, hb⟩ ⟨c, hc⟩ ⟨x, hx⟩ ⟨y, hy⟩ ⟨z, hz⟩ ⟨fun e => h.1 (Fin.mk.inj e), fun e => h.2.1 (Fin.mk.inj e), fun e => h.2.2 (Fin.mk.inj e)⟩
theorem side_det {f g h : V} {u : List Nat} (hu : TurnOk u) {x y z : Nat} (hx : x < 3) (hy : y < 3) (hz : z < 3) (h1 : x ≠ y) (h2 : x ≠ z) (h3 : y ≠ z) :
    detU (matM ([x, y, z].map fun s => u.getD s 0) [f, g, h]) = sideP u * detU (matM [x, y, z] [f, g, h]) := by
  obtain ⟨ul, ult⟩ := hu
  match u, ul with
  | [a, b, c], _ =>
    have := side_perm a (ult 0) b (ult 1) c (ult 2) x hx y hy z hz ⟨h1, h2, h3⟩
    show detU (matM [_, _, _] [f, g, h]) = _
    rw [side_012 _ (ult x) _ (ult y) _ (ult z), this, side_012 x hx y hy z hz]
    grind
end Mine

-- L16
namespace Mine
noncomputable def encOk (s : Str) : Bool := !Txt.contains s "." || !((Txt.partition s ".").2.2 == ("ISO8859-1" : Str))
noncomputable def euroB (w : List Bool) : Bool :=
  let t := tx (joinedP (w.map fun b => if b then 46 else 64))
  encOk t && encOk (appendMod t euro) && decide ((appendMod t euro).length ≤ 100000) && (euro2 t == euroDue t) && PyData.strOk (euroDue t)
noncomputable def wordsB : Nat → List (List Bool)
  | 0 => [[]]
  | n + 1 => [] :: (wordsB n).flatMap fun b => [true :: b, false :: b]
theorem mem_wordsB : ∀ (n : Nat) (b : List Bool), b.length ≤ n → b ∈ wordsB n
  | 0, [], _ => List.mem_cons_self
  | n + 1, [], _ => List.mem_cons_self
  | n + 1, x :: b, h => by
    refine List.mem_cons_of_mem _ (List.mem_flatMap.mpr ⟨b, mem_wordsB n b (by rw [List.length_cons] at h; omega), ?_⟩)
    cases x
    · exact List.mem_cons_of_mem _ List.mem_cons_self
    · exact List.mem_cons_self
theorem euro_all : (wordsB 4).all euroB = true := by decide +kernel
end Mine

-- L17
namespace Mine

section
variable {p : Nat} {u v : List Nat} {a : Nat} {w : List Nat}
theorem worth_job {R : List Row} {m : List Nat} {Cs : List Col} (hu : TurnOk u) (hv : TurnOk v) (hR : ∀ r ∈ R, SignsOk r.1 ∧ movedP u v r.1 0 = r.2 ∧ InS u v r.2) (hC : ∀ c ∈ Cs, SignsOk c.1 ∧ ∀ s, InS u v s → vf c.2 s = (costP a (movedP u v c.1 s) : Nat)) (hm : SignsOk m) : WorthOk u v a p (R, m, Cs) := by
  intro r hr c hc
  obtain ⟨r1, r2, r3⟩ := hR r hr
  obtain ⟨c1, c2⟩ := hC c hc
  dsimp only
  rw [worth_is ((r1.app hm).app c1), movedP_app, movedP_app, r2]
  have := c2 _ (InS_moved hu hv m _ hm r3)
  rw [← this]
theorem euro_of {w : List Nat} (hw : SignsOk w) (hl : w.length = 4) (k : Nat) (hk : k ≤ 4) : EuroOk (tx (joinedP (w.take k))) := by
  have key : ∀ b : List Bool, euroB b = true → EuroOk (tx (joinedP (b.map fun b => if b then 46 else 64))) := fun b hb => by
    unfold euroB at hb
    simp only [Bool.and_eq_true, decide_eq_true_eq, beq_iff_eq] at hb
    obtain ⟨⟨⟨⟨h1, h2⟩, h3⟩, h4⟩, h5⟩ := hb
    have enc : ∀ s, encOk s = true → Txt.contains s "." = true → ((Txt.partition s ".").2.2 == ("ISO8859-1" : Str)) = false := fun s h hc => by
      unfold encOk at h
      rw [hc] at h
      simpa using h
    refine ⟨fun s hs => ?_, h3, h4, h5⟩
    rcases hs with rfl | rfl
    · exact enc _ h1
    · exact enc _ h2
  have conv : w.take k = ((w.take k).map fun c => c == 46).map fun b => if b then 46 else 64 := by
    rw [List.map_map]
    conv => lhs; rw [← List.map_id (w.take k)]
    refine List.map_congr_left fun c hc => ?_
    rcases hw c (List.mem_of_mem_take hc) with rfl | rfl <;> rfl
  rw [conv]
  refine key _ (List.all_eq_true.mp euro_all _ (mem_wordsB 4 _ ?_))
  rw [List.length_map, List.length_take]; omega
end
end Mine

-- L18
namespace Mine

theorem det_any {p : Nat} (hp : isP p) {u v m : List Nat} {rows : List Row} {cols : List Col} : 0 ≤ detP p (dueP u v p rows m cols) ∧ detP p (dueP u v p rows m cols) < 16 := by
  have hp0 : 0 < p := by unfold isP at hp; omega
  have hp1 : p < 16 := by unfold isP at hp; omega
  cases rows with
  | nil => exact (show 0 ≤ (1 : Int) ∧ (1 : Int) < 16 by decide)
  | cons r rs =>
    have := detP_range hp0 (table := dueP u v p (r :: rs) m cols) (by unfold dueP; simp)
    omega

set_option maxHeartbeats 4000000 in
theorem plain {p : Nat} {u v : List Nat} {a : Nat} {w : List Nat} (M : MachOk p u v a w) (hfo : FoundOk (reachP u v)) : Plain p u v a w (jobsM p u v a w) (rowsM p u v a) := by
  have hp : isP p := M.pp
  have hu := M.tu
  have hv := M.tv
  have ha := M.ta
  have hw := M.sw
  have hwl := M.wl
  have hp0 : 0 < p := by unfold isP at hp; omega
  obtain ⟨hrun, hS0, hclo, hlt3, _⟩ := reach_facts hu hv
  have C := cols_fin (a := a) hp hu hv ha
  obtain ⟨hn, hD, hsub⟩ := rows_fin (a := a) hp hu hv ha
  obtain ⟨cl1, cl2⟩ := costsP_ok (reached := reachP u v) ha
  have hrow : ∀ r ∈ rowsM p u v a, SignsOk r.1 ∧ movedP u v r.1 0 = r.2 ∧ InS u v r.2 := fun r hr => ⟨hfo.sig r (hsub r hr), hrun r (hsub r hr), r, hsub r hr, rfl⟩
  have hrl : ∀ r ∈ rowsM p u v a, r.1.length ≤ 2 := fun r hr => by
    obtain ⟨i, hi⟩ := List.mem_iff_getElem?.mp (hsub r hr)
    have := hfo.len i r hi
    have h3 := hfo.le3
    have hi3 : i < (reachP u v).length := by
      rcases Nat.lt_or_ge i (reachP u v).length with h | h
      · exact h
      · rw [List.getElem?_eq_none h] at hi; cases hi
    omega
  have hcol : ∀ c ∈ colsM p u v a, SignsOk c.1 ∧ ∀ s, InS u v s → vf c.2 s = (costP a (movedP u v c.1 s) : Nat) := fun c hc => ⟨C.sig c hc, C.good c hc⟩
  have hnodup := fun (h : True) => hfo.one
  unfold jobsM
  have horow : SignsOk (orowP u v w).1 ∧ movedP u v (orowP u v w).1 0 = (orowP u v w).2 ∧ InS u v (orowP u v w).2 := ⟨hw, rfl, InS_moved hu hv w 0 hw hS0⟩
  have hwr : SignsOk w.reverse := fun c hc => hw c (List.mem_reverse.mp hc)
  have hoc : ∀ s, InS u v s → vf (ocolP u v w (costsP a (reachP u v))).2 s = vf (costsP a (reachP u v)) (movedP u v w.reverse s) := fun s hs => by
    rcases (by have := hlt3 s hs; omega : s = 0 ∨ s = 1 ∨ s = 2) with rfl | rfl | rfl <;> rfl
  have hocol : SignsOk (ocolP u v w (costsP a (reachP u v))).1 ∧ ∀ s, InS u v s → vf (ocolP u v w (costsP a (reachP u v))).2 s = (costP a (movedP u v (ocolP u v w (costsP a (reachP u v))).1 s) : Nat) := ⟨hwr, fun s hs => by
    rw [hoc s hs]
    exact C.costs _ (InS_moved hu hv _ s hwr hs)⟩
  have hocs : (ocolP u v w (costsP a (reachP u v))).2.length = 3 ∧ Small (ocolP u v w (costsP a (reachP u v))).2 := ⟨by simp [ocolP], fun x hx => by
    obtain ⟨s, _, rfl⟩ := List.mem_map.mp hx
    exact cl2.getD _⟩
  have hocl : Lin p (InS u v) ((colsM p u v a).map fun c => vf c.2) (vf (ocolP u v w (costsP a (reachP u v))).2) := (C.leadW hu hv w.reverse hwr C.co).cg fun s hs => .of (hoc s hs)
  have hol : (orowP u v w).1.length = 4 ∧ (ocolP u v w (costsP a (reachP u v))).1.length = 4 := ⟨hwl, by show w.reverse.length = 4; rw [List.length_reverse]; exact hwl⟩
  generalize orowP u v w = orow at *
  generalize ocolP u v w (costsP a (reachP u v)) = ocol at *
  generalize hrows : rowsM p u v a = rows at *
  generalize hcols : colsM p u v a = cols at *
  have hc3 := C.le3
  have hm46 : SignsOk [46] := fun c hc => .inl (by simpa using hc)
  have hm64 : SignsOk [64] := fun c hc => .inr (by simpa using hc)
  have hm0 : SignsOk [] := fun c hc => (nomatch hc)
  have rok : RowsOk rows := ⟨fun r hr => (hrow r hr).1, fun r hr => hlt3 _ (hrow r hr).2.2, fun r hr => by have := hrl r hr; omega⟩
  have cok : ColsOk cols := ⟨fun c hc => (hcol c hc).1, C.len, fun c hc x hx => by
    have := C.small c hc x hx
    unfold isP at hp
    omega, fun c hc => by have := C.wl c hc; omega⟩
  have hrow' : ∀ r ∈ rows ++ [orow], SignsOk r.1 ∧ movedP u v r.1 0 = r.2 ∧ InS u v r.2 := fun r hr => by
    rcases List.mem_append.mp hr with hr | hr
    · exact hrow r hr
    · rw [List.mem_singleton.mp hr]; exact horow
  have hcol' : ∀ c ∈ cols ++ [ocol], SignsOk c.1 ∧ ∀ s, InS u v s → vf c.2 s = (costP a (movedP u v c.1 s) : Nat) := fun c hc => by
    rcases List.mem_append.mp hc with hc | hc
    · exact hcol c hc
    · rw [List.mem_singleton.mp hc]; exact hocol
  have rok' : RowsOk (rows ++ [orow]) := ⟨fun r hr => (hrow' r hr).1, fun r hr => hlt3 _ (hrow' r hr).2.2, fun r hr => by
    rcases List.mem_append.mp hr with hr | hr
    · exact rok.len r hr
    · rw [List.mem_singleton.mp hr, hol.1]; exact Nat.le_refl _⟩
  have cok' : ColsOk (cols ++ [ocol]) := ⟨fun c hc => (hcol' c hc).1, fun c hc => by
    rcases List.mem_append.mp hc with hc | hc
    · exact cok.vl c hc
    · rw [List.mem_singleton.mp hc]; exact hocs.1, fun c hc => by
    rcases List.mem_append.mp hc with hc | hc
    · exact cok.sm c hc
    · rw [List.mem_singleton.mp hc]; exact hocs.2, fun c hc => by
    rcases List.mem_append.mp hc with hc | hc
    · exact cok.len c hc
    · rw [List.mem_singleton.mp hc, hol.2]; exact Nat.le_refl _⟩
  have cases_ : ∀ j ∈ jobsP rows cols w orow ocol, (∃ m, (m = [] ∨ m = [46] ∨ m = [64] ∨ m = w) ∧ j = (rows, m, cols)) ∨ j = (rows ++ [orow], [46], cols ++ [ocol]) := fun j hj => by
    unfold jobsP at hj
    rcases List.mem_append.mp hj with hj | hj
    · obtain ⟨x, hx, rfl⟩ := List.mem_map.mp hj
      left
      simp only [List.mem_cons, List.not_mem_nil, or_false] at hx
      rcases hx with rfl | rfl | rfl | rfl
      · exact ⟨[], .inl rfl, rfl⟩
      · exact ⟨[46], .inr (.inl rfl), rfl⟩
      · exact ⟨[64], .inr (.inr (.inl rfl)), rfl⟩
      · exact ⟨w, .inr (.inr (.inr rfl)), rfl⟩
    · right; exact List.mem_singleton.mp hj
  have msig : ∀ m, (m = [] ∨ m = [46] ∨ m = [64] ∨ m = w) → SignsOk m ∧ m.length ≤ 4 := fun m hm => by
    rcases hm with rfl | rfl | rfl | rfl
    · exact ⟨hm0, by decide⟩
    · exact ⟨hm46, by decide⟩
    · exact ⟨hm64, by decide⟩
    · exact ⟨hw, by omega⟩
  refine ⟨fun j hj => ?_, fun j hj => ?_, ?_, fun k hk => euro_of hw hwl k hk⟩
  · rcases cases_ j hj with ⟨m, hm, rfl⟩ | rfl
    · exact ⟨rok, cok, (msig m hm).1, (msig m hm).2, hn, by show cols.length < 5; omega⟩
    · exact ⟨rok', cok', hm46, by show 1 ≤ 4; decide, by show (rows ++ [orow]).length = (cols ++ [ocol]).length; rw [List.length_append, List.length_append, hn]; rfl, by show (cols ++ [ocol]).length < 5; rw [List.length_append]; show cols.length + 1 < 5; omega⟩
  · rcases cases_ j hj with ⟨m, hm, rfl⟩ | rfl
    · exact worth_job hu hv hrow hcol (msig m hm).1
    · exact worth_job hu hv hrow' hcol' hm46
  · -- the determinants
    have d0 := due_det (p := p) (u := u) (v := v) (rows := rows) (cols := cols) (m := []) hn (by omega)
    have d46 := due_det (p := p) (u := u) (v := v) (rows := rows) (cols := cols) (m := [46]) hn (by omega)
    have d64 := due_det (p := p) (u := u) (v := v) (rows := rows) (cols := cols) (m := [64]) hn (by omega)
    have dw := due_det (p := p) (u := u) (v := v) (rows := rows) (cols := cols) (m := w) hn (by omega)
    have dm := due_det (p := p) (u := u) (v := v) (rows := rows ++ [orow]) (cols := cols ++ [ocol]) (m := [46]) (by rw [List.length_append, List.length_append, hn]; rfl) (by rw [List.length_append]; show rows.length + 1 ≤ 4; omega)
    have htl : (rows.map (·.2)).length = cols.length := by rw [List.length_map, hn]
    have htS : ∀ s ∈ rows.map (·.2), InS u v s := fun s hs => by
      obtain ⟨r, hr, rfl⟩ := List.mem_map.mp hs
      exact (hrow r hr).2.2
    obtain ⟨l46, h46⟩ := D_step C (c := 46) (.inl rfl)
    obtain ⟨l64, h64⟩ := D_step C (c := 64) (.inr rfl)
    have hW := D_word hu hv h46 h64 w (rows.map (·.2)) hw htl htS
    have hP := h46 (rows.map (·.2)) htl htS
    have hA := h64 (rows.map (·.2)) htl htS
    have mm : ∀ m, (rows.map fun r => movedP u v m r.2) = (rows.map (·.2)).map (movedP u v m) := fun m => by rw [List.map_map]; rfl
    have more : Cg p (detP p (dueP u v p (rows ++ [orow]) [46] (cols ++ [ocol]))) 0 := by
      refine dm.trans ((Cg.refl.mul ?_).trans (.of (Int.mul_zero _)))
      have := det_dep (p := p) (S := InS u v) (cols.map fun c => vf c.2) (vf ocol.2) (by rw [List.length_map]; omega) hocl ((rows ++ [orow]).map fun r => movedP u v [46] r.2) (by rw [List.length_map, List.length_append, List.length_map, hn]; rfl) fun s hs => by
        obtain ⟨r, hr, rfl⟩ := List.mem_map.mp hs
        exact InS_moved hu hv _ _ hm46 (hrow' r hr).2.2
      unfold Dt
      have e : (cols ++ [ocol]).map (fun c => vf c.2) = cols.map (fun c => vf c.2) ++ [vf ocol.2] := by rw [List.map_append]; rfl
      rw [e]
      exact this
    have hn0 : 0 < p := hp0
    have more0 : detP p (dueP u v p (rows ++ [orow]) [46] (cols ++ [ocol])) = 0 := by
      have h := detP_range hp0 (table := dueP u v p (rows ++ [orow]) [46] (cols ++ [ocol])) (by unfold dueP; rw [List.length_map, List.length_append]; show 0 < rows.length + 1; omega)
      have h2 := more.zero
      rw [Int.emod_eq_of_lt h.1 h.2] at h2
      exact h2
    have hRu : Unit' (p : Int) (prodL (rows.map fun r => weight r.1)) := prodL_unit fun x hx => by
      obtain ⟨r, _, rfl⟩ := List.mem_map.mp hx
      exact weight_unit hp _
    have hCu : Unit' (p : Int) (prodL (cols.map fun c => weight c.1)) := prodL_unit fun x hx => by
      obtain ⟨r, _, rfl⟩ := List.mem_map.mp hx
      exact weight_unit hp _
    have m0 : (rows.map fun r => movedP u v [] r.2) = rows.map (·.2) := rfl
    rw [m0] at d0
    rw [mm] at d46 d64 dw
    have w0 : weight [] = 1 := by decide
    have w46 : weight [46] = 23 := by decide
    have w64 : weight [64] = 49 := by decide
    have hd : w.count 46 ≤ 4 := hwl ▸ List.count_le_length
    have h64c : w.count 64 = 4 - w.count 46 := by
      have key : ∀ l : List Nat, SignsOk l → l.count 46 + l.count 64 = l.length := by
        intro l
        induction l with
        | nil => intro _; rfl
        | cons c l ih =>
          intro h
          have := ih fun c hc => h c (List.mem_cons_of_mem _ hc)
          rcases h c List.mem_cons_self with rfl | rfl
          · rw [List.count_cons_self, List.count_cons_of_ne (by decide), List.length_cons]; omega
          · rw [List.count_cons_self, List.count_cons_of_ne (by decide), List.length_cons]; omega
      have := key w hw
      omega
    have ww : weight w = 23 ^ w.count 46 * 49 ^ (4 - w.count 46) := by unfold weight; rw [h64c]
    rw [w0] at d0
    rw [w46] at d46
    rw [w64] at d64
    rw [ww] at dw
    rw [h64c] at hW
    have e46 := d46.trans (Cg.refl.mul hP)
    have e64 := d64.trans (Cg.refl.mul hA)
    have ew := dw.trans (Cg.refl.mul hW)
    have r0 := det_any hp (u := u) (v := v) (m := []) (rows := rows) (cols := cols)
    have r1 := det_any hp (u := u) (v := v) (m := [46]) (rows := rows) (cols := cols)
    have r2 := det_any hp (u := u) (v := v) (m := [64]) (rows := rows) (cols := cols)
    have r3 := det_any hp (u := u) (v := v) (m := w) (rows := rows) (cols := cols)
    have hB : Unit' (p : Int) (detP p (dueP u v p rows [] cols)) := by
      refine Unit'.cg ?_ d0.symm
      rw [Int.one_pow, Int.mul_one]
      exact (hRu.mul hCu).mul hD
    refine ⟨detP p (dueP u v p rows [] cols), detP p (dueP u v p rows [46] cols), detP p (dueP u v p rows [64] cols), detP p (dueP u v p rows w cols), ?_, ?_, r0, r1, r2, r3, ?_, ?_⟩
    · show [detP p (dueP u v p rows [] cols), detP p (dueP u v p rows [46] cols), detP p (dueP u v p rows [64] cols), detP p (dueP u v p rows w cols), detP p (dueP u v p (rows ++ [orow]) [46] (cols ++ [ocol]))] = _
      rw [more0]
    · exact fun h => hB.ne hp (.of h)
    · refine (cubic (n := rows.length) (l46 := l46) (l64 := l64) hd ?_ ?_ ?_).zero
      · refine e46.trans (Cg.trans (.of ?_) (Cg.refl.mul d0.symm))
        grind
      · refine e64.trans (Cg.trans (.of ?_) (Cg.refl.mul d0.symm))
        grind
      · refine ew.trans (Cg.trans (.of ?_) (Cg.refl.mul d0.symm))
        grind
    · intro h3
      have hst : ∃ x y z, rows.map (·.2) = [x, y, z] ∧ x < 3 ∧ y < 3 ∧ z < 3 := by
        match rows, h3, htS with
        | [q, r, s], _, htS => exact ⟨q.2, r.2, s.2, rfl, hlt3 _ (htS _ (by simp)), hlt3 _ (htS _ (by simp)), hlt3 _ (htS _ (by simp))⟩
      obtain ⟨x, y, z, hxyz, hx, hy, hz⟩ := hst
      have hcs : ∃ f g h, cols.map (fun c => vf c.2) = [f, g, h] := by
        have : cols.length = 3 := by omega
        match cols, this with
        | [q, r, s], _ => exact ⟨_, _, _, rfl⟩
      obtain ⟨f, g, h, hfgh⟩ := hcs
      unfold Dt at d0 d46 d64
      rw [hxyz, hfgh] at d0 d46 d64 hD
      rw [h3] at d0 d46 d64
      have h012 := side_012 (f := f) (g := g) (h := h) x hx y hy z hz
      have dist : x ≠ y ∧ x ≠ z ∧ y ≠ z := by
        have hz0 : sideP [x, y, z] ≠ 0 := fun e => by
          rw [h012, e, Int.zero_mul] at hD
          exact hD.ne hp .refl
        have key : ∀ x y z : Fin 3, sideP [x.1, y.1, z.1] ≠ 0 → x.1 ≠ y.1 ∧ x.1 ≠ z.1 ∧ y.1 ≠ z.1 := by decide +kernel
        exact key ⟨x, hx⟩ ⟨y, hy⟩ ⟨z, hz⟩ hz0
      have su : detU (matM ([x, y, z].map (movedP u v [46])) [f, g, h]) = sideP u * detU (matM [x, y, z] [f, g, h]) := side_det hu hx hy hz dist.1 dist.2.1 dist.2.2
      have sv : detU (matM ([x, y, z].map (movedP u v [64])) [f, g, h]) = sideP v * detU (matM [x, y, z] [f, g, h]) := side_det hv hx hy hz dist.1 dist.2.1 dist.2.2
      rw [su] at d46
      rw [sv] at d64
      refine ⟨?_, ?_⟩
      · show (_ - _ * 23 ^ 3 * sideP u) % (p : Int) = 0
        refine Cg.zero ((d46.sub (d0.mul (Cg.refl (x := 23 ^ 3 * sideP u))) |> fun q => ?_))
        refine (Cg.of ?_).trans (q.trans (.of ?_))
        · grind
        · grind
      · show (_ - _ * 49 ^ 3 * sideP v) % (p : Int) = 0
        refine Cg.zero ((d64.sub (d0.mul (Cg.refl (x := 49 ^ 3 * sideP v))) |> fun q => ?_))
        refine (Cg.of ?_).trans (q.trans (.of ?_))
        · grind
        · grind
end Mine

-- H1
namespace Mine

/-! ## the head: states of the top's run -/
noncomputable abbrev pw := PySem.Challenge.pw_kl0351_01
noncomputable abbrev annT : Option Value := some (.ref 6)
/-- a tree of objects -/
noncomputable def bt (f : Nat → Obj) (d : Nat) : Nat → Nat → Nat → BT :=
  @Nat.rec (fun _ => Nat → Nat → Nat → BT) (fun _ _ _ => .nil)
    (fun _ ih a b n => @Bool.rec (fun _ => BT) .nil (.node (f b) (ih (Nat.mul 2 a) (Nat.add a b) n) (ih (Nat.mul 2 a) (Nat.add (Nat.mul 2 a) b) n)) (Nat.blt b n)) d
noncomputable def en (P : Params) (x : Str) (t : Nat) (v : Value) : DictEntry := ⟨PyData.keyHash P x, .str x t, v⟩
noncomputable def enS (P : Params) (x : Str) (t : Nat) (v : Str) (vt : Nat) : DictEntry := en P x t (.str v vt)
noncomputable def dictO (es : List DictEntry) (n : Nat) : Obj := ⟨.type "dict", none, .dict ⟨es⟩ n, #[]⟩
noncomputable def tupO (vs : List Value) : Obj := ⟨.type "tuple", none, .seq ⟨vs⟩ 0, #[]⟩
noncomputable def fieldsO (c : Value) (vs : List Value) : Obj := ⟨c, none, .fields ⟨vs⟩, #[]⟩
noncomputable def stopO (a : Nat) : Obj := fieldsO (.type "StopIteration") [.ref a, .none, .none, .none, .bool false, .none]

/-! the program's tables, by projection -/
noncomputable def stmtAt (i : Nat) : Stmt := (pw.main.body[i]? : Option Stmt).getD default
noncomputable def textOf : Expr → Str
  | .Constant (.str x) _ _ => x
  | _ => ""
noncomputable def intOf : Expr → Int
  | .Constant (.int n) _ _ => n
  | _ => 0
noncomputable def keysOf : Stmt → List Str
  | .Assign _ (.Dict ks _ _) _ => ks.map fun k => match k with
    | some e => textOf e
    | none => ""
  | _ => []
noncomputable def valsOf : Stmt → List Str
  | .Assign _ (.Dict _ vs _) _ => vs.map textOf
  | _ => []
noncomputable def constOf : Stmt → Str × Int
  | .Assign [.Name x _] e _ => (x, intOf e)
  | _ => ("", 0)
noncomputable def numL {α : Type} : Nat → List α → List (α × Nat)
  | _, [] => []
  | i, a :: l => (a, i) :: numL (Nat.succ i) l
noncomputable def aliasT (i : Nat) : Nat := match Nat.blt i 34 with
  | true => Nat.add 225 (Nat.mul 3 i)
  | false => Nat.add 327 (Nat.mul 2 (Nat.sub i 34))
/-- the alias table: keys, values, each with its token -/
noncomputable def aliasL : List (Str × Nat × Str × Nat) := (numL 0 ((keysOf (stmtAt 5)).zip (valsOf (stmtAt 5)))).map fun e => (e.1.1, aliasT e.2, e.1.2, Nat.succ (aliasT e.2))
/-- the constants: names, values, each with its token -/
noncomputable def constL : List (Str × Nat × Int × Nat) := (numL 0 ((pw.main.body.drop 10).take 48)).map fun e => ((constOf e.1).1, Nat.add 659 (Nat.mul 2 e.2), (constOf e.1).2, Nat.add 658 (Nat.mul 2 e.2))
/-- keys that the loop adds: their tokens, and of which entry they are made -/
noncomputable def aliasI : List (Nat × Nat) := [(434, 34), (441, 35), (448, 31), (455, 16), (462, 17), (469, 18), (476, 19), (483, 20), (490, 21), (497, 22), (504, 23), (511, 24), (518, 25), (525, 26), (532, 27), (539, 28), (546, 29), (553, 30), (572, 37), (579, 38), (586, 39), (605, 15), (630, 32), (643, 36)]
noncomputable def orderL : List Nat := [49, 59, 62, 60, 61, 54, 63, 50, 90, 91, 92, 51, 83, 84, 80, 65, 66, 67, 68, 69, 70, 71, 72, 73, 74, 75, 76, 77, 78, 79, 52, 53, 86, 87, 88, 55, 89, 64, 56, 57, 58, 81, 82, 85]
/-- whose value each sign bears -/
noncomputable def tokenI : List Nat := [47, 21, 17, 33, 12, 34, 0, 1, 9, 28, 39, 31, 7, 29, 5, 8, 30, 44, 16, 45, 10, 40, 41, 32, 4, 46, 6, 13, 26, 37, 22, 15, 20, 14, 23, 27, 38, 42, 43, 2, 3, 25, 36, 18, 11, 35, 19, 24]
/-- without the underscores -/
noncomputable def bareS (x : Str) : Str := ⟨⟨x.cps.toList.filter fun c => !(Nat.beq c 95)⟩⟩
noncomputable def aliasAt (i : Nat) : Str × Nat × Str × Nat := aliasL.getD i ("", 0, "", 0)
noncomputable def aliasM : List (Str × Nat × Str × Nat) := aliasI.map fun e => (bareS (aliasAt e.2).1, e.1, (aliasAt e.2).2.2)
noncomputable def tokenT (i : Nat) : Nat := match Nat.blt i 35 with
  | true => Nat.add 754 (Nat.mul 2 i)
  | false => Nat.add 788 i
/-- the token table: signs, values -/
noncomputable def tokenL : List (Str × Nat × Int × Nat) := (numL 0 ((keysOf (stmtAt 58)).zip tokenI)).map fun e => (e.1.1, tokenT e.2, (constL.getD e.1.2 ("", 0, 0, 0)).2.2)
noncomputable def bootF (P : Params) (i : Nat) : Obj := (boot_heap P).objs.toList.getD i default
/-- ahead of the statements -/
noncomputable def f15 (P : Params) (i : Nat) : Obj := match Nat.blt i 11 with
  | true => bootF P i
  | false => [tupO [], fieldsO .none [],
      fieldsO (.type "code") [.str "<module>" 182, .str "<module>" 183, .str "/claim/cut.py" 184, .int 1 0, .int 0 0, .int 0 0, .int 0 0, .int 0 0, .ref 11, .bool false, .int 181 0, .ref 12, .none, .none, .none, .none, .int 185 0, .int 1 0, .str "/claim/cut.py" 186],
      ⟨.type "frame", none, .plain, #[some (.ref 13), some (.ref 3), some (.ref 3), none, some (.str "__main__" 164), none, some (.ref 0)]⟩].getD (Nat.sub i 11) default
noncomputable def stA (P : Params) (os : OsState) : SharedT := ⟨bt (f15 P) 10 1 0 15, 15, (boot_heap P).life, #[], boot_drawn, 187, os⟩
noncomputable def mainN (P : Params) : List DictEntry := [en P "__doc__" 166 .none, en P "__package__" 167 .none, en P "__loader__" 168 (.builtin "__main__.__loader__#opaque"), en P "__spec__" 169 .none, en P "__annotations__" 170 (.ref 6), en P "__builtins__" 171 (.ref 4), enS P "__file__" 173 "/claim/cut.py" 172, en P "__cached__" 174 .none, en P "_wall" 193 (.ref 21), en P "_replace_encoding" 205 (.ref 28), en P "_append_modifier" 215 (.ref 35), en P "_build_localename" 224 (.ref 42)]
noncomputable def mainD (P : Params) : List DictEntry := enS P "__name__" 165 "cpy313.locale" 194 :: mainN P
noncomputable def mainB (P : Params) : List DictEntry := mainD P ++ [en P "locale_encoding_alias" 357 (.ref 43)]
noncomputable def entL (P : Params) (l : List (Str × Nat × Str × Nat)) : List DictEntry := l.map fun e => enS P e.1 e.2.1 e.2.2.1 e.2.2.2
noncomputable def entI (P : Params) (l : List (Str × Nat × Int × Nat)) : List DictEntry := l.map fun e => en P e.1 e.2.1 (.int e.2.2.1 e.2.2.2)
noncomputable def kids : List Value := [.int 1 0, .int 0 0, .ref 20, .int 5 0, .int 0 0, .ref 27, .int 22 0, .int 0 0, .ref 34, .int 32 0, .int 0 0, .ref 41]
/-- the first objects: the names, the alias table; u tells those that are not read -/
noncomputable def fB (P : Params) (u : Nat → Obj) (me : List DictEntry) (mn c : Nat) (ks : List Value) (i : Nat) : Obj := match Nat.beq i 3 with
  | true => dictO me mn
  | false => match Nat.beq i 43 with
    | true => dictO (entL P (aliasL ++ aliasM.take c)) (44 + c)
    | false => match Nat.beq i 12 with
      | true => fieldsO .none ks
      | false => match Nat.beq i 44 with
        | true => dictO (entL P ((aliasL.drop 17).take 17)) 17
        | false => match Nat.beq i 45 with
          | true => dictO (entL P (aliasL.drop 34)) 10
          | false => match Nat.blt i 15 with
            | true => f15 P i
            | false => u i
noncomputable def st4 (P : Params) (u : Nat → Obj) (os : OsState) : SharedT := ⟨bt (fB P u (mainD P) 13 0 kids) 10 1 0 43, 43, (boot_heap P).life, #[], boot_drawn, 225, os⟩
noncomputable def st5 (P : Params) (u : Nat → Obj) (os : OsState) : SharedT := ⟨bt (fB P u (mainB P) 14 0 kids) 10 1 0 46, 46, (boot_heap P).life, #[], boot_drawn, 358, os⟩
noncomputable def tupsL : List Obj := aliasL.map fun e => tupO [.str e.1 e.2.1, .str e.2.2.1 e.2.2.2]
noncomputable def refsL (l : List Nat) : List Value := l.map .ref
noncomputable def midL (cur : Value) (j : Int) : List Obj := [fieldsO (.type "dict_items") [.ref 43], ⟨.type "list", none, .seq ⟨refsL (List.range' 49 44)⟩ 46, #[]⟩, fieldsO (.type "dict_itemiterator") [.int 49 0, .bool true, .none, .int 44 0, .int 44 0, .int 44 0, .str (aliasAt 0).1 225, .str (aliasAt 0).2.2.1 226]] ++
  (tupsL ++ [tupO [], stopO 93, ⟨.type "list", none, .seq ⟨refsL orderL⟩ 2, #[]⟩, tupO (refsL (List.range' 49 44)), ⟨.type "list", none, .seq ⟨[]⟩ 0, #[]⟩, fieldsO (.type "list_iterator") [cur, .int j 0]])
/-- what a turn leaves -/
noncomputable def turnO (i : Nat) : Obj := match Nat.mod (Nat.sub i 99) 3 with
  | 0 => fieldsO (.type "tuple_iterator") [.none, .int 2 0]
  | 1 => tupO []
  | _ => stopO (Nat.sub i 1)
/-- within the loop, and behind it -/
noncomputable def fT (g : Nat → Obj) (j : Nat) (cur : Value) (v : Nat → Obj) (i : Nat) : Obj := match Nat.blt i 46 with
  | true => g i
  | false => match Nat.blt i 99 with
    | true => (midL cur j).getD (Nat.sub i 46) default
    | false => match Nat.blt i 231 with
      | true => turnO i
      | false => match Nat.beq i 231 with
        | true => tupO []
        | false => match Nat.beq i 232 with
          | true => stopO 231
          | false => v i
noncomputable def stT (P : Params) (u : Nat → Obj) (os : OsState) (n j c : Nat) (kv : List DictEntry) (cur : Value) (toks : Nat) : SharedT := ⟨bt (fT (fB P u (mainB P ++ kv) (14 + kv.length) c kids) j cur u) 10 1 0 n, n, (boot_heap P).life, #[], boot_drawn, toks, os⟩
/-- the loop's two names -/
noncomputable def kvOf (P : Params) (e : Str × Nat × Str × Nat) : List DictEntry := [enS P "k" 358 e.1 e.2.1, enS P "v" 359 e.2.2.1 e.2.2.2]
noncomputable def kvA (P : Params) (i : Nat) : List DictEntry := kvOf P (aliasAt i)
noncomputable def kvM (P : Params) (i : Nat) : List DictEntry := kvOf P (aliasM.getD i ("", 0, "", 0))
noncomputable def S0 (P : Params) (u : Nat → Obj) (os : OsState) : SharedT := stT P u os 99 0 0 [] (.ref 95) 358
noncomputable def S11 (P : Params) (u : Nat → Obj) (os : OsState) : SharedT := stT P u os 132 11 0 (kvA P 43) (.ref 95) 424
noncomputable def S22 (P : Params) (u : Nat → Obj) (os : OsState) : SharedT := stT P u os 165 22 10 (kvM P 9) (.ref 95) 500
noncomputable def S33 (P : Params) (u : Nat → Obj) (os : OsState) : SharedT := stT P u os 198 33 19 (kvM P 18) (.ref 95) 575
noncomputable def S44 (P : Params) (u : Nat → Obj) (os : OsState) : SharedT := stT P u os 231 44 24 (kvM P 23) (.ref 95) 646
noncomputable def SE (P : Params) (u : Nat → Obj) (os : OsState) : SharedT := stT P u os 233 44 24 (kvM P 23) .none 646
noncomputable def kids9 : List Value := kids ++ [.int 49 0, .int 0 0, .ref 238]
noncomputable def main9 (P : Params) : List DictEntry := enS P "__name__" 165 "cpy313.imaplib" 646 :: mainN P ++ [en P "locale_encoding_alias" 357 (.ref 43), en P "Int2AP" 657 (.ref 239)]
noncomputable def st9 (P : Params) (u v : Nat → Obj) (os : OsState) : SharedT := ⟨bt (fT (fB P u (main9 P) 19 24 kids9) 44 .none v) 10 1 0 240, 240, (boot_heap P).life, #[], boot_drawn, 658, os⟩
noncomputable def main57 (P : Params) : List DictEntry := main9 P ++ entI P constL
noncomputable def st57 (P : Params) (u v : Nat → Obj) (os : OsState) : SharedT := ⟨bt (fT (fB P u (main57 P) 67 24 kids9) 44 .none v) 10 1 0 240, 240, (boot_heap P).life, #[], boot_drawn, 754, os⟩
noncomputable def tokO (P : Params) : Obj := dictO (entI P tokenL) 48
/-- the token table and its parts -/
noncomputable def fK (P : Params) (v : Nat → Obj) (i : Nat) : Obj := match Nat.beq i 240 with
  | true => tokO P
  | false => match Nat.beq i 241 with
    | true => dictO (entI P ((tokenL.drop 17).take 17)) 17
    | false => match Nat.beq i 242 with
      | true => dictO (entI P (tokenL.drop 34)) 14
      | false => v i
noncomputable def st58 (P : Params) (u v : Nat → Obj) (os : OsState) : SharedT := ⟨bt (fT (fB P u (main57 P ++ [en P "EXACT_TOKEN_TYPES" 850 (.ref 240)]) 68 24 kids9) 44 .none (fK P v)) 10 1 0 243, 243, (boot_heap P).life, #[], boot_drawn, 851, os⟩
noncomputable def topEnv : Env := { scope := pw.main.scope, locals := mainNs, globals := mainNs, cells := [], code := .ref 13, frame := some 14 }
noncomputable def bA : List Stmt := pw.main.body.take 5
noncomputable def bB : List Stmt := (pw.main.body.drop 5).take 1
noncomputable def bF : List Stmt := (pw.main.body.drop 6).take 1
noncomputable def bC : List Stmt := (pw.main.body.drop 7).take 3
noncomputable def bD : List Stmt := (pw.main.body.drop 10).take 48
noncomputable def bE : List Stmt := (pw.main.body.drop 58).take 1
noncomputable def bG : List Stmt := pw.main.body.drop 59
noncomputable def cE : Code := .body (behindTheImports pw) topEnv
noncomputable abbrev pos0 : Pos := ⟨0, 0, 0, 0⟩
noncomputable abbrev pos4 : Pos := ⟨32, 0, 42, 125⟩
noncomputable abbrev pos5 : Pos := ⟨43, 0, 43, 21⟩
noncomputable abbrev posF : Pos := ⟨44, 12, 44, 49⟩
noncomputable abbrev posT : Pos := ⟨46, 4, 46, 42⟩
noncomputable abbrev pos9 : Pos := ⟨49, 0, 56, 14⟩
noncomputable abbrev pos57 : Pos := ⟨104, 0, 104, 11⟩
noncomputable abbrev pos58 : Pos := ⟨105, 0, 105, 17⟩
noncomputable abbrev pos76 : Pos := ⟨206, 0, 234, 26⟩
noncomputable def cF : Code := match (pw.main.body[6]? : Option Stmt) with
  | some (.For t _ b o _) => .forLoop t (.ref 98) b o topEnv
  | _ => default
theorem body_split : behindTheImports pw = bA ++ (bB ++ (bF ++ (bC ++ (bD ++ (bE ++ (bG ++ [])))))) := by kernel_rfl
end Mine

-- H2
namespace Mine
noncomputable abbrev rowN : String := "special-get-raises"
theorem h_pre (w : World) (os : OsState) : topGo treeTable pw w 11 annT 12 ⟨boot_heap w.params, #[], boot_drawn, boot_toks, os⟩ (topStub pw) = some ((stA w.params os).abs, ⟨denote treeTable cE, cE, pos0, [topFrame pos0]⟩) := by
  rw [Fast.te15667345088766844465, Fast.te14364793385576792824, Fast.te11892475500146522536]
  kernel_rfl
theorem h_block (w : World) (os : OsState) : segRun treeTable pw w 11 annT 1 1 (stA w.params os).abs (blockOf (behindTheImports pw) topEnv cE pos0 [topFrame pos0]) = some (.next, (stA w.params os).abs, cE, pos0) := by
  rw [Fast.te14374325043358763698, Fast.te14364793385576792824]
  kernel_rfl
/-- the thread of some statements, by the quick twins -/
noncomputable def thrT (l : List Stmt) (c : Code) (p : Pos) : Thread := ⟨(Fast.tw12563942051412417395 l topEnv).wrap doneF deadEnd id id, c, p, [topFrame pos0]⟩
theorem thrT_eq (l : List Stmt) (c : Code) (p : Pos) : piecesOf l topEnv c p [topFrame pos0] = thrT l c p := by
  unfold thrT
  rw [← Fast.te12563942051412417395]
noncomputable def objAt (r : Option (Flow × SharedT × Code × Pos)) (i : Nat) : Obj := match r with
  | some (_, s, _) => (s.tree.get i).getD default
  | none => default
noncomputable def uA (w : World) (os : OsState) (i : Nat) : Obj := objAt (Fast.tw10110043849684766642 Fast.tw14364793385576792824 pw w 11 annT 1 200 (stA w.params os) (thrT bA cE pos0)) i
theorem h_A (os : OsState) (w : World) : segRunT treeTable pw w 11 annT 1 200 (stA w.params os) (piecesOf bA topEnv cE pos0 [topFrame pos0]) = some (.next, st4 w.params (uA w os) os, cE, pos4) := by
  rw [thrT_eq, Fast.te10110043849684766642, Fast.te14364793385576792824]
  kernel_rfl
noncomputable def sayB (u : Nat → Obj) (os : OsState) (w : World) : Prop := segRunT treeTable pw w 11 annT 1 900 (st4 w.params u os) (piecesOf bB topEnv cE pos4 [topFrame pos0]) = some (.next, st5 w.params u os, cE, pos5)
theorem h_Bf (u : Nat → Obj) (os : OsState) (w : World) : sayB u os (w.withFollow rowN false) := by
  unfold sayB
  rw [thrT_eq, Fast.te10110043849684766642, Fast.te14364793385576792824]
  kernel_rfl
theorem h_Bt (u : Nat → Obj) (os : OsState) (w : World) : sayB u os (w.withFollow rowN true) := by
  unfold sayB
  rw [thrT_eq, Fast.te10110043849684766642, Fast.te14364793385576792824]
  kernel_rfl
theorem h_B (u : Nat → Obj) (os : OsState) (w : World) : sayB u os w := byRow2 rowN (P := sayB u os) (h_Bf u os) (h_Bt u os) w
end Mine

-- H3
namespace Mine
/-- what is seen of a thread within the loop, and what its frame goes on with -/
noncomputable def obsT (t : Thread) : Option ((Sem Fin × Code × Pos × Option Value × Bool × List Value × Code × Pos × List Value × Frame) × Sem Fin) := match t.stack with
  | [.ret k h g l c p kept, fr] => some ((t.cur, t.code, t.pos, h, g, l, c, p, kept, fr), k (.ok .next))
  | _ => none
noncomputable abbrev thrL (k : Result → Sem Fin) (p : Pos) : Thread := ⟨denote treeTable cF, cF, p, [.ret k none false [] cE posF [], topFrame pos0]⟩
noncomputable def sayF (u : Nat → Obj) (os : OsState) (w : World) : Prop := (segGoT treeTable pw w 11 annT 1 3041 (st5 w.params u os) (piecesOf bF topEnv cE pos5 [topFrame pos0])).map (fun r => (r.1, obsT r.2)) =
    some (S0 w.params u os, some ((denote treeTable cF, cF, posF, none, false, [], cE, posF, [], topFrame pos0), .pure (.done .next)))
theorem h_Ff (u : Nat → Obj) (os : OsState) (w : World) : sayF u os (w.withFollow rowN false) := by
  unfold sayF
  rw [thrT_eq, Fast.te10295753902157049106, Fast.te14364793385576792824, Fast.te11892475500146522536]
  kernel_rfl
theorem h_Ft (u : Nat → Obj) (os : OsState) (w : World) : sayF u os (w.withFollow rowN true) := by
  unfold sayF
  rw [thrT_eq, Fast.te10295753902157049106, Fast.te14364793385576792824, Fast.te11892475500146522536]
  kernel_rfl
theorem h_F (u : Nat → Obj) (os : OsState) (w : World) : sayF u os w := byRow2 rowN (P := sayF u os) (h_Ff u os) (h_Ft u os) w
end Mine

-- H4
namespace Mine
noncomputable def say1 (u : Nat → Obj) (k : Result → Sem Fin) (os : OsState) (w : World) : Prop := segGoT treeTable pw w 11 annT 1 1397 (S0 w.params u os) (thrL k posF) = some (S11 w.params u os, thrL k posT)
theorem h_1f (u : Nat → Obj) (k : Result → Sem Fin) (os : OsState) (w : World) : say1 u k os (w.withFollow rowN false) := by
  unfold say1 thrL
  rw [Fast.te10295753902157049106, Fast.te14364793385576792824, Fast.te11892475500146522536]
  kernel_rfl
theorem h_1t (u : Nat → Obj) (k : Result → Sem Fin) (os : OsState) (w : World) : say1 u k os (w.withFollow rowN true) := by
  unfold say1 thrL
  rw [Fast.te10295753902157049106, Fast.te14364793385576792824, Fast.te11892475500146522536]
  kernel_rfl
theorem h_1 (u : Nat → Obj) (k : Result → Sem Fin) (os : OsState) (w : World) : say1 u k os w := byRow2 rowN (P := say1 u k os) (h_1f u k os) (h_1t u k os) w
noncomputable def say2 (u : Nat → Obj) (k : Result → Sem Fin) (os : OsState) (w : World) : Prop := segGoT treeTable pw w 11 annT 1 1377 (S11 w.params u os) (thrL k posT) = some (S22 w.params u os, thrL k posT)
theorem h_2f (u : Nat → Obj) (k : Result → Sem Fin) (os : OsState) (w : World) : say2 u k os (w.withFollow rowN false) := by
  unfold say2 thrL
  rw [Fast.te10295753902157049106, Fast.te14364793385576792824, Fast.te11892475500146522536]
  kernel_rfl
theorem h_2t (u : Nat → Obj) (k : Result → Sem Fin) (os : OsState) (w : World) : say2 u k os (w.withFollow rowN true) := by
  unfold say2 thrL
  rw [Fast.te10295753902157049106, Fast.te14364793385576792824, Fast.te11892475500146522536]
  kernel_rfl
theorem h_2 (u : Nat → Obj) (k : Result → Sem Fin) (os : OsState) (w : World) : say2 u k os w := byRow2 rowN (P := say2 u k os) (h_2f u k os) (h_2t u k os) w
noncomputable def say3 (u : Nat → Obj) (k : Result → Sem Fin) (os : OsState) (w : World) : Prop := segGoT treeTable pw w 11 annT 1 1379 (S22 w.params u os) (thrL k posT) = some (S33 w.params u os, thrL k posT)
theorem h_3f (u : Nat → Obj) (k : Result → Sem Fin) (os : OsState) (w : World) : say3 u k os (w.withFollow rowN false) := by
  unfold say3 thrL
  rw [Fast.te10295753902157049106, Fast.te14364793385576792824, Fast.te11892475500146522536]
  kernel_rfl
theorem h_3t (u : Nat → Obj) (k : Result → Sem Fin) (os : OsState) (w : World) : say3 u k os (w.withFollow rowN true) := by
  unfold say3 thrL
  rw [Fast.te10295753902157049106, Fast.te14364793385576792824, Fast.te11892475500146522536]
  kernel_rfl
theorem h_3 (u : Nat → Obj) (k : Result → Sem Fin) (os : OsState) (w : World) : say3 u k os w := byRow2 rowN (P := say3 u k os) (h_3f u k os) (h_3t u k os) w
noncomputable def say4 (u : Nat → Obj) (k : Result → Sem Fin) (os : OsState) (w : World) : Prop := segGoT treeTable pw w 11 annT 1 1387 (S33 w.params u os) (thrL k posT) = some (S44 w.params u os, thrL k posT)
theorem h_4f (u : Nat → Obj) (k : Result → Sem Fin) (os : OsState) (w : World) : say4 u k os (w.withFollow rowN false) := by
  unfold say4 thrL
  rw [Fast.te10295753902157049106, Fast.te14364793385576792824, Fast.te11892475500146522536]
  kernel_rfl
theorem h_4t (u : Nat → Obj) (k : Result → Sem Fin) (os : OsState) (w : World) : say4 u k os (w.withFollow rowN true) := by
  unfold say4 thrL
  rw [Fast.te10295753902157049106, Fast.te14364793385576792824, Fast.te11892475500146522536]
  kernel_rfl
theorem h_4 (u : Nat → Obj) (k : Result → Sem Fin) (os : OsState) (w : World) : say4 u k os w := byRow2 rowN (P := say4 u k os) (h_4f u k os) (h_4t u k os) w
noncomputable def say5 (u : Nat → Obj) (k : Result → Sem Fin) (os : OsState) (w : World) : Prop := segGoT treeTable pw w 11 annT 1 18 (S44 w.params u os) (thrL k posT) = some (SE w.params u os, ⟨k (.ok .next), cE, posF, [topFrame pos0]⟩)
theorem h_5f (u : Nat → Obj) (k : Result → Sem Fin) (os : OsState) (w : World) : say5 u k os (w.withFollow rowN false) := by
  unfold say5 thrL
  rw [Fast.te10295753902157049106, Fast.te14364793385576792824, Fast.te11892475500146522536]
  kernel_rfl
theorem h_5t (u : Nat → Obj) (k : Result → Sem Fin) (os : OsState) (w : World) : say5 u k os (w.withFollow rowN true) := by
  unfold say5 thrL
  rw [Fast.te10295753902157049106, Fast.te14364793385576792824, Fast.te11892475500146522536]
  kernel_rfl
theorem h_5 (u : Nat → Obj) (k : Result → Sem Fin) (os : OsState) (w : World) : say5 u k os w := byRow2 rowN (P := say5 u k os) (h_5f u k os) (h_5t u k os) w
noncomputable def vC (w : World) (u : Nat → Obj) (os : OsState) (i : Nat) : Obj := objAt (Fast.tw10110043849684766642 Fast.tw14364793385576792824 pw w 11 annT 1 100 (SE w.params u os) (thrT bC cE posF)) i
theorem h_C (u : Nat → Obj) (os : OsState) (w : World) : segRunT treeTable pw w 11 annT 1 100 (SE w.params u os) (piecesOf bC topEnv cE posF [topFrame pos0]) = some (.next, st9 w.params u (vC w u os) os, cE, pos9) := by
  rw [thrT_eq, Fast.te10110043849684766642, Fast.te14364793385576792824]
  kernel_rfl
theorem h_D (u v : Nat → Obj) (os : OsState) (w : World) : segRunT treeTable pw w 11 annT 1 500 (st9 w.params u v os) (piecesOf bD topEnv cE pos9 [topFrame pos0]) = some (.next, st57 w.params u v os, cE, pos57) := by
  rw [thrT_eq, Fast.te10110043849684766642, Fast.te14364793385576792824]
  kernel_rfl
noncomputable def sayE (u v : Nat → Obj) (os : OsState) (w : World) : Prop := segRunT treeTable pw w 11 annT 1 1000 (st57 w.params u v os) (piecesOf bE topEnv cE pos57 [topFrame pos0]) = some (.next, st58 w.params u v os, cE, pos58)
theorem h_Ef (u : Nat → Obj) (v : Nat → Obj) (os : OsState) (w : World) : sayE u v os (w.withFollow rowN false) := by
  unfold sayE
  rw [thrT_eq, Fast.te10110043849684766642, Fast.te14364793385576792824]
  kernel_rfl
theorem h_Et (u : Nat → Obj) (v : Nat → Obj) (os : OsState) (w : World) : sayE u v os (w.withFollow rowN true) := by
  unfold sayE
  rw [thrT_eq, Fast.te10110043849684766642, Fast.te14364793385576792824]
  kernel_rfl
theorem h_E (u : Nat → Obj) (v : Nat → Obj) (os : OsState) (w : World) : sayE u v os w := byRow2 rowN (P := sayE u v os) (h_Ef u v os) (h_Et u v os) w
end Mine

-- H5
namespace Mine
noncomputable def qv : Program := view pw [3, 4, 9, 60, 61, 62, 64, 65, 66, 67, 68, 69, 70, 71, 72, 73, 74, 75, 76]
noncomputable def looseL : List Str := (["_wall", "_replace_encoding", "locale_encoding_alias"] : List Str) ++ (constL.map (·.1) ++ (["EXACT_TOKEN_TYPES"] : List Str))
noncomputable def XtT (s : Shared) : Bool := match s.heap.nsMap mainGlobals "EXACT_TOKEN_TYPES" with
  | some (.ref a) => Nat.beq a 240
  | _ => false
noncomputable def YfT (s : Shared) : Option Obj := s.heap.get? 240
noncomputable def YaT (w : World) : Option Obj := some (tokO w.params)
/-- the last statements, and a look behind them -/
noncomputable def runG {α : Type} (f : Flow × SharedT × Code × Pos → α) (os : OsState) (w : World) : Option α := (segRunT treeTable pw w 11 annT 1 700 (st58 w.params (uA w os) (vC w (uA w os) os) os) (piecesOf bG topEnv cE pos58 [topFrame pos0])).map f
noncomputable def sayG0 (os : OsState) (w : World) : Prop := runG (fun r => ((r.1, r.2.2.1, r.2.2.2), YfT r.2.1.abs)) os w = some ((.next, cE, pos76), YaT w)
theorem h_G0f (os : OsState) (w : World) : sayG0 os (w.withFollow rowN false) := by
  unfold sayG0 runG
  rw [thrT_eq, Fast.te10110043849684766642, Fast.te14364793385576792824]
  kernel_rfl
theorem h_G0t (os : OsState) (w : World) : sayG0 os (w.withFollow rowN true) := by
  unfold sayG0 runG
  rw [thrT_eq, Fast.te10110043849684766642, Fast.te14364793385576792824]
  kernel_rfl
theorem h_G0 (os : OsState) (w : World) : sayG0 os w := byRow2 rowN (P := sayG0 os) (h_G0f os) (h_G0t os) w
noncomputable def sayG1 (os : OsState) (w : World) : Prop := runG (fun r => (staticsOk (importedModules pw.main.body) (boot_heap w.params) r.2.1.abs.heap && namesBound pw r.2.1.abs.heap && gensDone r.2.1.abs && laidKept (boot_heap w.params) r.2.1.abs.heap)) os w = some true
theorem h_G1f (os : OsState) (w : World) : sayG1 os (w.withFollow rowN false) := by
  unfold sayG1 runG
  rw [thrT_eq, Fast.te10110043849684766642, Fast.te14364793385576792824, Fast.te5923862056798008813]
  kernel_rfl
theorem h_G1t (os : OsState) (w : World) : sayG1 os (w.withFollow rowN true) := by
  unfold sayG1 runG
  rw [thrT_eq, Fast.te10110043849684766642, Fast.te14364793385576792824, Fast.te5923862056798008813]
  kernel_rfl
theorem h_G1 (os : OsState) (w : World) : sayG1 os w := byRow2 rowN (P := sayG1 os) (h_G1f os) (h_G1t os) w
noncomputable def sayG2 (os : OsState) (w : World) : Prop := runG (fun r => openSeen qv looseL (importedModules pw.main.body) XtT true r.2.1.abs) os w = some (openGood qv looseL)
theorem h_G2f (os : OsState) (w : World) : sayG2 os (w.withFollow rowN false) := by
  unfold sayG2 runG
  rw [thrT_eq, Fast.te10110043849684766642, Fast.te14364793385576792824, Fast.te4187177175401517315, Fast.te5923862056798008813]
  kernel_rfl
theorem h_G2t (os : OsState) (w : World) : sayG2 os (w.withFollow rowN true) := by
  unfold sayG2 runG
  rw [thrT_eq, Fast.te10110043849684766642, Fast.te14364793385576792824, Fast.te4187177175401517315, Fast.te5923862056798008813]
  kernel_rfl
theorem h_G2 (os : OsState) (w : World) : sayG2 os w := byRow2 rowN (P := sayG2 os) (h_G2f os) (h_G2t os) w
end Mine

-- H6
namespace Mine
theorem obs_inv {t : Thread} {cur x : Sem Fin} {code c : Code} {pos p : Pos} {fr : Frame} (h : obsT t = some ((cur, code, pos, none, false, [], c, p, [], fr), x)) : ∃ k, t = ⟨cur, code, pos, [.ret k none false [] c p [], fr]⟩ ∧ k (.ok .next) = x := by
  obtain ⟨cur', code', pos', stack⟩ := t
  unfold obsT at h
  dsimp only at h
  split at h
  · simp only [Option.some.injEq, Prod.mk.injEq] at h
    obtain ⟨⟨rfl, rfl, rfl, rfl, rfl, rfl, rfl, rfl, rfl, rfl⟩, hk⟩ := h
    exact ⟨_, rfl, hk⟩
  · cases h
theorem end_seg {tb : String → Option Builtin} {p : Program} {w : World} {n₀ : Nat} {ann : Option Value} {s : Shared} {x : Sem Fin} {c : Code} {pos : Pos} {fr : Frame} (hx : x = .pure (.done .next)) : segRun tb p w n₀ ann 1 1 s ⟨x, c, pos, [fr]⟩ = some (.next, s, c, pos) := by
  subst hx
  rfl
theorem for_go {tb : String → Option Builtin} {pr : Program} {w : World} {n₀ : Nat} {ann : Option Value} {n0 n1 n2 n3 n4 n5 : Nat} {s5 s0 s1 s2 s3 s4 se : SharedT} {t : Thread} {cur : Sem Fin} {code c : Code} {p1 p2 : Pos} {fr : Frame}
    (hF : (segGoT tb pr w n₀ ann 1 n0 s5 t).map (fun r => (r.1, obsT r.2)) = some (s0, some ((cur, code, p1, none, false, [], c, p1, [], fr), .pure (.done .next))))
    (h1 : ∀ k, segGoT tb pr w n₀ ann 1 n1 s0 ⟨cur, code, p1, [.ret k none false [] c p1 [], fr]⟩ = some (s1, ⟨cur, code, p2, [.ret k none false [] c p1 [], fr]⟩))
    (h2 : ∀ k, segGoT tb pr w n₀ ann 1 n2 s1 ⟨cur, code, p2, [.ret k none false [] c p1 [], fr]⟩ = some (s2, ⟨cur, code, p2, [.ret k none false [] c p1 [], fr]⟩))
    (h3 : ∀ k, segGoT tb pr w n₀ ann 1 n3 s2 ⟨cur, code, p2, [.ret k none false [] c p1 [], fr]⟩ = some (s3, ⟨cur, code, p2, [.ret k none false [] c p1 [], fr]⟩))
    (h4 : ∀ k, segGoT tb pr w n₀ ann 1 n4 s3 ⟨cur, code, p2, [.ret k none false [] c p1 [], fr]⟩ = some (s4, ⟨cur, code, p2, [.ret k none false [] c p1 [], fr]⟩))
    (h5 : ∀ k, segGoT tb pr w n₀ ann 1 n5 s4 ⟨cur, code, p2, [.ret k none false [] c p1 [], fr]⟩ = some (se, ⟨k (.ok .next), c, p1, [fr]⟩)) :
    segRun tb pr w n₀ ann 1 (n0 + (n1 + (n2 + (n3 + (n4 + (n5 + 1)))))) s5.abs t = some (.next, se.abs, c, p1) := by
  obtain ⟨⟨s, t'⟩, e, e'⟩ := Option.map_eq_some_iff.mp hF
  simp only [Prod.mk.injEq] at e'
  obtain ⟨rfl, e2⟩ := e'
  obtain ⟨k, rfl, hk⟩ := obs_inv e2
  exact seg_go (segGo_of e) (seg_go (segGo_of (h1 k)) (seg_go (segGo_of (h2 k)) (seg_go (segGo_of (h3 k)) (seg_go (segGo_of (h4 k)) (seg_go (segGo_of (h5 k)) (end_seg hk))))))
theorem h_for (w : World) (os : OsState) (u : Nat → Obj) : segRun treeTable pw w 11 annT 1 (3041 + (1397 + (1377 + (1379 + (1387 + (18 + 1)))))) (st5 w.params u os).abs (piecesOf bF topEnv cE pos5 [topFrame pos0]) = some (.next, (SE w.params u os).abs, cE, posF) :=
  for_go (h_F u os w) (fun k => h_1 u k os w) (fun k => h_2 u k os w) (fun k => h_3 u k os w) (fun k => h_4 u k os w) (fun k => h_5 u k os w)
theorem h_fin {tb : String → Option Builtin} {p : Program} {w : World} {n₀ : Nat} {ann : Option Value} (s : Shared) (c : Code) (q q' : Pos) : topRun tb p w n₀ ann 2 s (restOf [] topEnv c q [topFrame q']) = some s := by
  obtain ⟨h, g, d, t, o⟩ := s
  rfl
noncomputable abbrev stepsM : Nat := 12 + (1 + (200 + (900 + ((3041 + (1397 + (1377 + (1379 + (1387 + (18 + 1)))))) + (100 + (500 + (1000 + (700 + 2))))))))
noncomputable def looksT (P : Params) (s : Shared) := ((staticsOk (importedModules pw.main.body) (boot_heap P) s.heap && namesBound pw s.heap && gensDone s && laidKept (boot_heap P) s.heap), openSeen qv looseL (importedModules pw.main.body) XtT true s, YfT s)
theorem h_look (w : World) (os : OsState) : ∃ s, segRunT treeTable pw w 11 annT 1 700 (st58 w.params (uA w os) (vC w (uA w os) os) os) (piecesOf bG topEnv cE pos58 [topFrame pos0]) = some (.next, s, cE, pos76) ∧ looksT w.params s.abs = (true, openGood qv looseL, YaT w) := by
  have h0 := h_G0 os w
  have h1 := h_G1 os w
  have h2 := h_G2 os w
  unfold sayG0 runG at h0
  unfold sayG1 runG at h1
  unfold sayG2 runG at h2
  obtain ⟨⟨f, s, c, p⟩, e, e'⟩ := Option.map_eq_some_iff.mp h0
  rw [e] at h1 h2
  have g1 := Option.some.inj h1
  have g2 := Option.some.inj h2
  simp only [Prod.mk.injEq] at e'
  obtain ⟨⟨rfl, rfl, rfl⟩, hl⟩ := e'
  exact ⟨s, e, Prod.ext g1 (Prod.ext g2 hl)⟩
theorem h_top (w : World) (os : OsState) : ∃ s, topRun treeTable pw w 11 annT stepsM ⟨boot_heap w.params, #[], boot_drawn, boot_toks, os⟩ (topStub pw) = some s ∧ looksT w.params s = (true, openGood qv looseL, YaT w) := by
  obtain ⟨s, e, hl⟩ := h_look w os
  refine ⟨s.abs, ?_, hl⟩
  have k0 := piece_app (segRun_of e) (h_fin s.abs cE _ pos0)
  have k1 := piece_app (segRun_of (h_E (uA w os) (vC w (uA w os) os) os w)) k0
  have k2 := piece_app (segRun_of (h_D (uA w os) (vC w (uA w os) os) os w)) k1
  have k3 := piece_app (segRun_of (h_C (uA w os) os w)) k2
  have k4 := piece_app (h_for w os (uA w os)) k3
  have k5 := piece_app (segRun_of (h_B (uA w os) os w)) k4
  have k6 := piece_app (segRun_of (h_A os w)) k5
  rw [← body_split] at k6
  exact go_top (h_pre w os) (piece_block (h_block w os) k6)
theorem h_openOk : opening pw = plainProg pw.main.scope.names := by kernel_rfl
theorem h_fence (s : Shared) : fenceModules? pw s = some s := by kernel_rfl
theorem h_size (P : Params) : ((boot_heap P).isNs mainGlobals && (#[] : Array GenState).size == 0, (boot_heap P).objs.size, (boot_heap P).nsMap mainGlobals "__annotations__") = (true, 11, annT) := by kernel_rfl
theorem h_left : LeftO pw qv looseL XtT YfT YaT 13000 := by
  intro w
  obtain ⟨⟨h, g, d, t, os⟩, e, e'⟩ := Option.map_eq_some_iff.mp (boot_open (p := pw) (N := 13000) h_openOk (by decide) h_fence w)
  simp only [Prod.mk.injEq] at e'
  obtain ⟨rfl, rfl, rfl, rfl⟩ := e'
  obtain ⟨s, hs, hl⟩ := h_top w os
  unfold looksT at hl
  simp only [Prod.mk.injEq] at hl
  obtain ⟨l1, l2, l3⟩ := hl
  have r := topRun_mono (13000 - stepsM) _ _ _ _ hs
  rw [show stepsM + (13000 - stepsM) = 13000 by decide] at r
  have hz := h_size w.params
  simp only [Prod.mk.injEq] at hz
  obtain ⟨z1, z2, z3⟩ := hz
  have tf : topFrom treeTable pw w 13000 ⟨boot_heap w.params, #[], boot_drawn, boot_toks, os⟩ = some s := by
    unfold topFrom
    dsimp only
    rw [z1, z2, z3, r]
    show (match staticsOk (importedModules pw.main.body) (boot_heap w.params) s.heap && namesBound pw s.heap && gensDone s && laidKept (boot_heap w.params) s.heap with | true => _ | false => _) = _
    rw [l1]
  unfold openEnds
  rw [e]
  show (topFrom treeTable pw w 13000 _).map _ = _
  rw [tf]
  exact congrArg some (Prod.ext l2 l3)
end Mine

-- H7
namespace Mine
/-! ## the law's text is well said -/
noncomputable abbrev lw : OpenLaw := PySem.Challenge.rw_kl0351_01
noncomputable abbrev lp : Program := lw.row.prog
theorem p1 : sreFenced lp.main = true := by rw [Fast.te11788848310118352699]; kernel_rfl
theorem p3 : namesResolve lp = true := by rw [Fast.te8377067652309620493]; kernel_rfl
theorem p4 : lp.boundNames.all (fun n => !worldNames.contains n) = true := by rw [Fast.te18344453789297297638]; kernel_rfl
theorem p5 : noRoadLSs { strict := !(importedModules lp.main.body).all cThrough.contains, foot := none, bare := (["vars", "dir", "locals"] : List Str).filter (readsOut lp lp.main.body) } lp.main.body = true := by rw [Fast.te8326940854005059898, Fast.te13343964577679436407]; kernel_rfl
theorem p6 : namesMeet lp lp.main.body (fun _ n => attrL n) = true := by rw [Fast.te17119622794617984870, Fast.te17868728402115742887]; kernel_rfl
theorem s3 : lw.footing.all footLine = true := by rw [Fast.te10501279942588096481]; kernel_rfl
theorem s4 : noClassBlock lw.prog lw.footing = true := by rw [Fast.te8179353310426384613]; kernel_rfl
theorem s7 : noRoadLSs { strict := true, foot := some lw.bound', writes := lw.writes, may := lw.may } lw.footing = true := by rw [Fast.te8326940854005059898, Fast.te797321630700447069]; kernel_rfl
theorem s8 : defStands lw.about lw.above = true := by rw [Fast.te9558739934217749035]; kernel_rfl
theorem s9 : lw.namesIt = true := by rw [Fast.te16286561074155671207]; kernel_rfl
theorem h_part : lw.row.partSaid = true := by
  unfold OpenRow.partSaid looksOpen
  repeat' (with_reducible refine look_both ?_ ?_)
  all_goals first
    | with_reducible exact p1
    | with_reducible exact p3
    | with_reducible exact p4
    | with_reducible exact p5
    | with_reducible exact p6
    | kernel_rfl
theorem h_said : PySem.Challenge.rw_kl0351_01.wellSaid = true := by
  unfold OpenLaw.wellSaid OpenRow.wellSaid
  repeat' (with_reducible refine look_both ?_ ?_)
  all_goals first
    | with_reducible exact h_part
    | with_reducible exact s3
    | with_reducible exact s4
    | with_reducible exact s7
    | with_reducible exact s8
    | with_reducible exact s9
    | (rw [Fast.te17119622794617984870]; kernel_rfl)
    | kernel_rfl
end Mine

-- H8
namespace Mine
noncomputable def XPT (mg : Str → Option Value) (h : Heap) : Prop := mg "EXACT_TOKEN_TYPES" = some (.ref 240)
noncomputable def YPT (w : World) (h : Heap) : Prop := h.get? 240 = some (tokO w.params)
theorem XtT_XP (s : Shared) (h : XtT s = true) : XPT (s.heap.nsMap mainGlobals) s.heap := by
  unfold XtT at h
  unfold XPT
  split at h
  · rename_i a e
    rw [e, Nat.eq_of_beq_eq_true h]
  · cases h
noncomputable def lawD : DefRec := match defOf qv PySem.Challenge.rw_kl0351_01.row.name with
  | some (d, _) => d
  | none => ⟨"", (fnDef 76).2.1, [], (fnDef 76).2.2.2, ⟨0, 0, 0, 0⟩⟩
theorem lawD_def : defOf qv PySem.Challenge.rw_kl0351_01.row.name = some (lawD, []) := by kernel_rfl
theorem lawD_the : PySem.Challenge.rw_kl0351_01.row.prog.theDef PySem.Challenge.rw_kl0351_01.row.name = some (lawD.params, lawD.body, lawD.scope) := by kernel_rfl
theorem lawD_kw : kwWritten? lawD.params.kwonlyargs lawD.params.kw_defaults = some [] := by kernel_rfl
theorem lawD_name : lawD.name = "law" := by kernel_rfl
theorem law_opens : (chainsOk qv && opensWell PySem.Challenge.rw_kl0351_01.row.prog && (frees PySem.Challenge.rw_kl0351_01.row.toRowW && PySem.Challenge.rw_kl0351_01.row.within.isEmpty)) = true := by kernel_rfl
theorem law_bare : PySem.Challenge.rw_kl0351_01.row.prog.bare := ⟨rfl, rfl, rfl, rfl, rfl, by decide +kernel⟩
theorem law_promised : PySem.Challenge.rw_kl0351_01.row.toRowW.promised := ⟨[.list []], by decide +kernel, by decide +kernel⟩
noncomputable abbrev fnL : List Nat := [3, 4, 9, 62, 64, 65, 66, 67, 68, 69, 70, 71, 72, 73, 74, 75, 76]
theorem recs_are : (recsOf qv).map (fun d => ((d.name, d.params, d.body, d.scope) : FnRec)) = fnL.map fnDef := by kernel_rfl
noncomputable abbrev freeL : List Str := ["range", "len", "enumerate", "zip", "reversed", "int", "abs", "divmod"]
theorem free_are : (freeL.all fun x => !(startupNames.contains x || (looseW qv looseL).contains x || ((recsOf qv).map (·.name)).contains x || ((litsOf qv).map (·.1)).contains x || ((clssOf qv (looseW qv looseL)).map (·.name)).contains x)) = true := by kernel_rfl
theorem val_case : valOf qv "_CASE_COST" = some (.int 1) := by kernel_rfl
theorem val_move : valOf qv "_MOVE_COST" = some (.int 2) := by kernel_rfl
theorem reads_int {h : Heap} {v : Value} {i : Int} {as : List Addr} (r : Reads h v (.int i) as) : ∃ t, v = .int i t := by
  cases r with
  | int _ t => exact ⟨t, rfl⟩
noncomputable def tokA (P : Params) : Array DictEntry := ⟨entI P tokenL⟩
theorem tok_keys (prog : Program) (w : World) : KeysOf (PySem.strKind prog w) (tokA w.params) := by
  intro e he
  have he := Array.mem_toList_iff.mpr he
  obtain ⟨x, _, rfl⟩ := List.mem_map.mp he
  exact ⟨x.1, strKind_is prog w _ _, rfl⟩
theorem tok_dot (P : Params) : findBy Value.isStrOf (tokA P) "." = some (.int 23 690) := by kernel_rfl
theorem tok_at (P : Params) : findBy Value.isStrOf (tokA P) "@" = some (.int 49 742) := by kernel_rfl
theorem tok_map {prog : Program} {w : World} {h : Heap} (Y : h.get? 240 = some (tokO w.params)) : Heap.MapOf (PySem.strKind prog w) h 240 (fun k => findBy Value.isStrOf (tokA w.params) k) := by
  have e : (tokO w.params).data = .dict (tokA w.params) 48 := by unfold tokO dictO tokA; rfl
  exact ⟨tokO w.params, tokA w.params, 48, Y, ⟨by unfold tokO dictO; rfl, by unfold tokO dictO; rfl, by unfold tokO dictO; rfl⟩, e, tok_keys prog w, fun _ => rfl⟩
theorem ctx_of {w : World} {s₀ s₁ : Shared} {mg mb : Str → Option Value} {R : WRecords} (G : Ground qv looseL R XPT w s₀ mg mb s₁.heap) (Y : YPT w s₁.heap) : Ctx ⟨pw, w, s₁, mg, mb⟩ where
  ok := ⟨G.T.g, G.T.b, G.T.nolimit, G.T.builtins⟩
  fn := fun i hi => by
    have h : fnDef i ∈ (recsOf qv).map (fun d => ((d.name, d.params, d.body, d.scope) : FnRec)) := by
      rw [recs_are]
      exact List.mem_map.mpr ⟨i, hi, rfl⟩
    obtain ⟨d, hd, e⟩ := List.mem_map.mp h
    unfold HasFn FnAt
    rw [← e]
    exact G.T.fn d hd
  free := fun x hx => by
    have h := List.all_eq_true.mp free_are x hx
    simp only [Bool.not_eq_true', Bool.or_eq_false_iff] at h
    obtain ⟨⟨⟨⟨h1, h2⟩, h3⟩, h4⟩, h5⟩ := h
    have no : ∀ {l : List Str}, l.contains x = false → x ∉ l := fun h hm => by rw [List.contains_iff_mem.mpr hm] at h; cases h
    exact G.T.free x (no h1) (no h2) (no h3) (no h4) (no h5)
  tok := ⟨240, _, 690, 742, G.X, tok_map Y, tok_dot w.params, tok_at w.params⟩
  c1 := by
    obtain ⟨v, h, r⟩ := G.T.const _ _ val_case
    obtain ⟨t, rfl⟩ := reads_int (r s₁.heap)
    exact ⟨t, h⟩
  c2 := by
    obtain ⟨v, h, r⟩ := G.T.const _ _ val_move
    obtain ⟨t, rfl⟩ := reads_int (r s₁.heap)
    exact ⟨t, h⟩
theorem rep_ints {W : Wd} {F : FH} : ∀ {vs : List Value} {ns : List Int}, IntsAre vs ns → RepAll W F vs (ns.map D.int)
  | _, _, .nil => .nil
  | _, _, .cons n t h => .cons (.int n t) (rep_ints h)
theorem list_well {P : Params} {h : Heap} {a : Addr} {xs : List WData} {d : WData} (w : Well P h (.ref a) d) (e : d = .list xs) : ∃ vs : List Value, h.get? a = some { cls := .type "list", data := .seq vs.toArray } := by
  subst e
  cases w with
  | list e _ => exact ⟨_, e⟩
theorem walk : WalkO qv looseL XPT YPT PySem.Challenge.rw_kl0351_01.row.toRowW lawD [] fun f vs => PySem.call f vs := by
  intro w s₀ s₁ mg mb G Y a o pm cd doc dV kV ho hd hcd hD hmg hg args vals as hpre hlay hrd hwl hlo
  have C := ctx_of G Y
  rw [lawD_name] at hmg
  wrow_args hpre hlay hrd hwl hlo
  rename_i ns _ _ _ _ _ _ _ L vs _ hL _ w1 _ hI _ hlen _
  obtain ⟨vs', hv⟩ := list_well (xs := ofPys (ns.map PyData.int)) w1 rfl
  have hn : ns.length ≤ 1000 := by omega
  have Rm : Room (0 + 5) callerA := ⟨rfl, by decide, by decide⟩
  have hseq : SeqAt s₁.heap.get? "list" L vs := by
    obtain ⟨o', e', _, n', d'⟩ := hL
    rw [hv] at e'
    cases e'
    have : vs' = vs := by
      injection d' with e1 _
      exact List.toArray_inj e1
    subst this
    exact ⟨_, 0, hv, rfl, rfl, rfl⟩
  refine (c_law C (fun p u v a w M hfo => plain M hfo) hn).out callerA (fun _ => none) s₁ a [.ref L] _ _ Rm hmg ⟨⟨_, _, rfl⟩, Sub.rfl, fun _ _ e => by cases e⟩ (.cons (.bor hseq (rep_ints hI)) .nil) fun F' s' v A r => ?_
  cases r
  obtain ⟨h', tk, e⟩ := A.same
  refine GoodW.toG ⟨.inl ⟨.bool true, .bool true, [], rfl, fun _ => rfl, .bool true, ?_, fun _ => ⟨.nil, fun a ha => (nomatch ha)⟩⟩, A.ext, by rw [e], by rw [e]; exact hg⟩
  wrow_post
end Mine

set_option maxRecDepth 100000 in
set_option maxHeartbeats 4000000 in
theorem PySem.Challenge.cw_kl0351_01_holds : PySem.Challenge.rw_kl0351_01.Holds :=
  ⟨Mine.h_said, holds_open (r := PySem.Challenge.rw_kl0351_01.row) Mine.h_left (YP := Mine.YPT) (fun w s e => e) (fun w h h' y k => k _ _ y) Mine.XtT_XP (fun mg h h' x _ => x) Mine.lawD_def Mine.lawD_the Mine.lawD_kw (fun s _ => recFacts_nil rfl) rfl (row_said Mine.h_said) Mine.law_opens Mine.law_bare Mine.law_promised Mine.walk⟩
