import PyProof.Rows.All
import Wide.All
import OpenK.AllK
import Wide.FinOn
import PySem.Challenge.RW_ta0027_01
set_option Elab.async false
namespace Mine
local macro_rules | `(tactic| omega) => `(tactic| lia)
section
open PySem PySem.W PyProof.Rows PySem.Calls
set_option Elab.async false
set_option maxRecDepth 100000
set_option autoImplicit false
set_option linter.unusedVariables false

/-! abstract values -/
inductive V where
  | none | bool (b : Bool) | int (i : Int) | str (s : Str)
  | ref (n : Nat) | tup (l : List V) | fl (l : List V) | rng (a b : Int)
  | lam (x : Str) (scope : Scope) (body : Expr) (cap : List (Str × Nat)) | obj (v : Value)

noncomputable abbrev Hp := List (List V)
noncomputable abbrev Loc := List (Str × V)

noncomputable def ARel (μ : List Addr) : V → Value → Prop
  | .none, v => v = .none
  | .bool b, v => v = .bool b
  | .int i, v => ∃ t, v = .int i t
  | .str s, v => ∃ t, v = .str s t
  | .ref n, v => ∃ a, v = .ref a ∧ μ[n]? = some a
  | .obj x, v => v = x
  | _, _ => False

noncomputable abbrev ARels (μ : List Addr) : List V → List Value → Prop := Paired (ARel μ)

noncomputable def isMut (o : Obj) : Bool := match o.data with
  | .seq _ _ => o.cls == .type "list"
  | .fields vs => o.cls == .none && !(match (vs[1]? : Option Value) with | some (.str _ _) => true | _ => false)
  | _ => false

structure Ev (h h' : Heap) : Prop where
  keep : ∀ b o, h.get? b = some o → isMut o = false → h'.get? b = some o

theorem Ev.refl (h : Heap) : Ev h h := ⟨fun _ _ e _ => e⟩
theorem Ev.trans {h₁ h₂ h₃ : Heap} (x : Ev h₁ h₂) (y : Ev h₂ h₃) : Ev h₁ h₃ :=
  ⟨fun b o e m => y.keep b o (x.keep b o e m) m⟩
theorem Ev.push (h : Heap) (o : Obj) : Ev h (h.push o) := ⟨fun _ _ e _ => Heap.get?_push_of_some o e⟩

structure Fx where
  prog : Program
  w : World
  g : Heap
  mg : Str → Option Value
  mb : Str → Option Value
  K : Frag
  tabs : List (Addr × Addr × Str)

structure Fx.Ok (c : Fx) : Prop where
  gns : c.g.Ns mainGlobals c.mg
  bns : c.g.Ns builtinsNs c.mb
  lim : c.g.NoLimit
  kin : c.K.In c.g
  bmain : ∃ bm ob, c.mg "__builtins__" = some (.ref bm) ∧ bm ≠ 0 ∧ c.g.get? bm = some ob ∧ ob.cls = .type "module" ∧ ob.dict = some builtinsNs ∧ ob.data = .plain
  code : ∀ t ∈ c.tabs, CodeHd c.g t.1 t.2.1
  hid : ∀ t ∈ c.tabs, c.g.get? t.2.1 = none
  apart : (c.tabs.map (·.2.1)).Nodup

structure HInv (c : Fx) (h : Heap) (μ : List Addr) (σ : Hp) : Prop where
  ok : c.Ok
  keep : ∀ b o, c.g.get? b = some o → h.get? b = some o
  size : c.g.objs.size ≤ h.objs.size
  tabs : ∀ t ∈ c.tabs, ∃ ps, h.get? t.2.1 = some (tabObj ps) ∧ TriplesOk ps.toList ∧ ∀ pos cv, codeAmong pos ps.toList = some cv → h.CodeRec cv t.2.2
  len : μ.length = σ.length
  nodup : μ.Nodup
  lst : ∀ (n : Nat) l, σ[n]? = some l → ∃ a vs, μ[n]? = some a ∧ h.PlainList a vs.toArray ∧ ARels μ l vs ∧ l.length ≤ 2 ^ 20
  new : ∀ a ∈ μ, c.g.get? a = none

theorem plain_of {h : Heap} {a : Addr} {xs : Array Value} (x : h.PlainList a xs) : ∃ o, h.get? a = some o ∧ isMut o = true := let ⟨_, e⟩ := x; ⟨_, e, rfl⟩

noncomputable def KFrozen (c : Fx) (a : Addr) (vs : List Value) : Prop := c.g.IsList a vs.toArray

noncomputable def VRel (c : Fx) (h : Heap) (μ : List Addr) : V → Value → Prop
  | .tup l, v => ∃ a vs, v = .ref a ∧ h.IsTuple a vs.toArray ∧ ARels μ l vs ∧ l.length ≤ 2 ^ 20
  | .fl l, v => ∃ a vs, v = .ref a ∧ KFrozen c a vs ∧ ARels μ l vs ∧ l.length ≤ 2 ^ 20
  | .rng a b, v => ∃ r t u w, v = .ref r ∧ IsRange h r a b 1 t u w
  | .lam x scope body cap, v => ∃ f qual params clos pm cv ctv, v = .ref f ∧ h.get? f = some { cls := .type "function", data := .func (kla_fn "<lambda>" qual params body scope clos pm cv ctv) } ∧
      params.posonlyargs = [] ∧ params.args.map (·.arg) = [x] ∧ params.vararg = Option.none ∧ params.kwonlyargs = [] ∧ params.kwarg = Option.none ∧
      h.CodeRec cv qual ∧ ∀ y n, (y, n) ∈ cap → ∃ cx a, clos.lookup y = some cx ∧ h.IsCell cx (some (.ref a)) ∧ μ[n]? = some a
  | v, v' => ARel μ v v'

theorem ARel.pre {μ μ' : List Addr} (p : μ <+: μ') {v : V} {v' : Value} (x : ARel μ v v') : ARel μ' v v' := by
  cases v with
  | ref n =>
    obtain ⟨a, e, h⟩ := x
    obtain ⟨r, rfl⟩ := p
    have := (List.getElem?_eq_some_iff.mp h).1
    exact ⟨a, e, by rw [List.getElem?_append_left this]; exact h⟩
  | _ => exact x
theorem ARels.pre {μ μ' : List Addr} (p : μ <+: μ') {l : List V} {vs : List Value} (h : ARels μ l vs) : ARels μ' l vs := Paired.mono (fun _ _ => ARel.pre p) h
theorem pre_get {α : Type} {μ μ' : List α} (p : μ <+: μ') {n : Nat} {a : α} (h : μ[n]? = some a) : μ'[n]? = some a := by
  obtain ⟨r, rfl⟩ := p
  rw [List.getElem?_append_left (List.getElem?_eq_some_iff.mp h).1]; exact h

theorem not_mut_tuple {o : Obj} {xs : Array Value} {n : Nat} (hc : o.cls = .type "tuple") (hd : o.data = .seq xs n) : isMut o = false := by
  unfold isMut; rw [hd]; dsimp only; rw [hc]; decide
theorem not_mut_rec {o : Obj} {vs : Array Value} {q : Str} {t : Tok} (hd : o.data = .fields vs) (h1 : vs[1]? = some (.str q t)) : isMut o = false := by
  unfold isMut; rw [hd]; dsimp only; rw [h1]; simp
theorem isTuple_ev {h h' : Heap} (e : Ev h h') {a : Addr} {xs : Array Value} (x : h.IsTuple a xs) : h'.IsTuple a xs :=
  let ⟨o, ho, hc, n, hd⟩ := x; ⟨o, e.keep _ _ ho (not_mut_tuple hc hd), hc, n, hd⟩
theorem codeRec_ev {h h' : Heap} (e : Ev h h') {cv : Value} {q : Str} (x : h.CodeRec cv q) : h'.CodeRec cv q :=
  let ⟨c, o, vs, t, ec, g, hd, h1⟩ := x; ⟨c, o, vs, t, ec, e.keep _ _ g (not_mut_rec hd h1), hd, h1⟩
theorem isCell_ev {h h' : Heap} (e : Ev h h') {a : Addr} {v : Option Value} (x : h.IsCell a v) : h'.IsCell a v :=
  let ⟨o, ho, hd⟩ := x; ⟨o, e.keep _ _ ho (by unfold isMut; rw [hd]), hd⟩
theorem ns_ev {h h' : Heap} (e : Ev h h') {a : Addr} {m : Str → Option Value} (x : h.Ns a m) : h'.Ns a m :=
  let ⟨o, es, ep, ho, hd, r⟩ := x; ⟨o, es, ep, e.keep _ _ ho (by unfold isMut; rw [hd]), hd, r⟩
theorem VRel.mono {c : Fx} {h h' : Heap} {μ μ' : List Addr} (e : Ev h h') (p : μ <+: μ') {v : V} {v' : Value} (x : VRel c h μ v v') : VRel c h' μ' v v' := by
  cases v with
  | ref => exact ARel.pre p (v := .ref _) x
  | tup =>
    obtain ⟨a, vs, e1, e2, e3, e4⟩ := x
    exact ⟨a, vs, e1, isTuple_ev e e2, ARels.pre p e3, e4⟩
  | fl =>
    obtain ⟨a, vs, e1, e2, e3, e4⟩ := x
    exact ⟨a, vs, e1, e2, ARels.pre p e3, e4⟩
  | rng =>
    obtain ⟨r, t, u, w, e1, e2⟩ := x
    exact ⟨r, t, u, w, e1, e.keep _ _ e2 rfl⟩
  | lam =>
    obtain ⟨f, q, ps, cl, pm, cv, ctv, e1, e2, e3, e4, e5, e6, e7, e8, e9⟩ := x
    refine ⟨f, q, ps, cl, pm, cv, ctv, e1, e.keep _ _ e2 rfl, e3, e4, e5, e6, e7, codeRec_ev e e8, fun y n hm => ?_⟩
    obtain ⟨cx, a, f1, f2, f3⟩ := e9 y n hm
    exact ⟨cx, a, f1, isCell_ev e f2, pre_get p f3⟩
  | _ => exact x

/-! environments -/
noncomputable def Loads (env : Env) (h : Heap) (m : Str → Option Value) (x : Str) (v : Value) : Prop :=
  (env.kindOf x = some .local ∧ m x = some v) ∨
  ((env.kindOf x = some .cell ∨ (env.kindOf x = some .free ∧ x ≠ "__classdict__")) ∧ ∃ cx, env.cells.lookup x = some cx ∧ h.IsCell cx (some v))

structure EnvOk (c : Fx) (env : Env) (ρ : Loc) (μ : List Addr) (h : Heap) : Prop where
  kind : env.scope.kind = .function
  glob : env.globals = mainGlobals
  bi : env.builtins = builtinsNs
  var : ∃ m, h.Ns env.locals m ∧ ∀ x v, ρ.lookup x = some v → ∃ v', VRel c h μ v v' ∧ Loads env h m x v'
  new : c.g.objs.size ≤ env.locals
  cellnew : ∀ x cx, env.kindOf x = some .cell → env.cells.lookup x = some cx → c.g.get? cx = none ∧ ∃ v, h.IsCell cx v
  apart : ∀ x y cx, env.kindOf x = some .cell → env.cells.lookup x = some cx → env.cells.lookup y = some cx → y = x

theorem EnvOk.mono {c : Fx} {env : Env} {ρ : Loc} {μ μ' : List Addr} {h h' : Heap} (x : EnvOk c env ρ μ h) (e : Ev h h') (p : μ <+: μ') : EnvOk c env ρ μ' h' where
  kind := x.kind
  glob := x.glob
  bi := x.bi
  new := x.new
  apart := x.apart
  cellnew := fun y cx k l => let ⟨a, v, b⟩ := x.cellnew y cx k l; ⟨a, v, isCell_ev e b⟩
  var := by
    obtain ⟨m, hn, hv⟩ := x.var
    refine ⟨m, ns_ev e hn, fun y v hy => ?_⟩
    obtain ⟨v', r, l⟩ := hv y v hy
    refine ⟨v', r.mono e p, ?_⟩
    rcases l with l | ⟨k, cx, l1, l2⟩
    · exact .inl l
    · exact .inr ⟨k, cx, l1, isCell_ev e l2⟩

structure AOk (d : Nat) (A : Around) : Prop where
  han : A.handled = none
  dep : A.depth + d ≤ 900
  uni : A.units + 100 * d ≤ 9000

structure Res (c : Fx) (s s' : Shared) (μ μ' : List Addr) (σ' : Hp) : Prop where
  same : ∃ h' t', s' = { s with heap := h', toks := t' }
  pre : μ <+: μ'
  ev : Ev s.heap s'.heap
  inv : HInv c s'.heap μ' σ'

theorem Res.refl {c : Fx} {s : Shared} {μ : List Addr} {σ : Hp} (i : HInv c s.heap μ σ) : Res c s s μ μ σ := ⟨⟨s.heap, s.toks, rfl⟩, List.prefix_rfl, Ev.refl _, i⟩
theorem Res.toks {c : Fx} {s : Shared} {μ : List Addr} {σ : Hp} (i : HInv c s.heap μ σ) (t : Nat) : Res c s { s with toks := t } μ μ σ := ⟨⟨s.heap, t, rfl⟩, List.prefix_rfl, Ev.refl _, i⟩
theorem Res.trans {c : Fx} {s₁ s₂ s₃ : Shared} {μ₁ μ₂ μ₃ : List Addr} {σ₂ σ₃ : Hp} (x : Res c s₁ s₂ μ₁ μ₂ σ₂) (y : Res c s₂ s₃ μ₂ μ₃ σ₃) : Res c s₁ s₃ μ₁ μ₃ σ₃ := by
  obtain ⟨h, t, rfl⟩ := x.same
  obtain ⟨h', t', rfl⟩ := y.same
  exact ⟨⟨h', t', rfl⟩, x.pre.trans y.pre, x.ev.trans y.ev, y.inv⟩

noncomputable def Post (c : Fx) (s : Shared) (μ : List Addr) (Q : V → Hp → Prop) (v' : Value) (s' : Shared) : Prop :=
  ∃ v σ' μ', Q v σ' ∧ VRel c s'.heap μ' v v' ∧ Res c s s' μ μ' σ'

theorem Post.of {c : Fx} {s s' : Shared} {μ μ' : List Addr} {Q : V → Hp → Prop} {v : V} {v' : Value} {σ' : Hp} (q : Q v σ') (r : VRel c s'.heap μ' v v') (x : Res c s s' μ μ' σ') : Post c s μ Q v' s' := ⟨v, σ', μ', q, r, x⟩
theorem Post.trans {c : Fx} {s s₁ s' : Shared} {μ μ₁ : List Addr} {σ₁ : Hp} {Q : V → Hp → Prop} {v' : Value} (x : Res c s s₁ μ μ₁ σ₁) (y : Post c s₁ μ₁ Q v' s') : Post c s μ Q v' s' :=
  let ⟨v, σ', μ', q, r, z⟩ := y; ⟨v, σ', μ', q, r, x.trans z⟩

/-- the meaning of an expression's walk -/
noncomputable def SE (c : Fx) (d : Nat) (env : Env) (e : Expr) (ρ : Loc) (σ : Hp) (Q : V → Hp → Prop) : Prop :=
  ∀ (A : Around) (E : Value → Shared → Prop) (s : Shared) (μ : List Addr), AOk d A → HInv c s.heap μ σ → EnvOk c env ρ μ s.heap →
    wpAny (model c.prog c.w) A (eval e env) (Post c s μ Q) E s

/-- a tree that reads nothing but the abstract state -/
noncomputable def ST (c : Fx) (d : Nat) (env : Env) (t : Sem Value) (ρ : Loc) (σ : Hp) (Q : V → Hp → Prop) : Prop :=
  ∀ (A : Around) (E : Value → Shared → Prop) (s : Shared) (μ : List Addr), AOk d A → HInv c s.heap μ σ → EnvOk c env ρ μ s.heap →
    wpAny (model c.prog c.w) A t (Post c s μ Q) E s

theorem wp_seq {c : Fx} {s : Shared} {μ : List Addr} {A : Around} {E : Value → Shared → Prop} {t : Sem Value} {Q : V → Hp → Prop} {R : Value → Shared → Prop}
    (h : wpAny (model c.prog c.w) A t (Post c s μ Q) E s) (k : ∀ v v' σ' μ' s', Q v σ' → VRel c s'.heap μ' v v' → Res c s s' μ μ' σ' → R v' s') : wpAny (model c.prog c.w) A t R E s :=
  wpAny_mono h (fun v' s' ⟨v, σ', μ', q, r, x⟩ => k v v' σ' μ' s' q r x) fun _ _ e => e

section
variable {c : Fx} {d : Nat} {env : Env} {ρ : Loc} {σ : Hp} {Q : V → Hp → Prop}

theorem SE_mono {e : Expr} {Q' : V → Hp → Prop} (h : SE c d env e ρ σ Q) (k : ∀ v σ', Q v σ' → Q' v σ') : SE c d env e ρ σ Q' :=
  fun A E s μ ha hi he => wpAny_mono (h A E s μ ha hi he) (fun _ _ ⟨v, σ', μ', q, r⟩ => ⟨v, σ', μ', k _ _ q, r⟩) fun _ _ e => e

theorem wp_load {x : Str} {v : V} {s : Shared} {μ : List Addr} {A : Around} {E : Value → Shared → Prop} {R : Value → Shared → Prop} (he : EnvOk c env ρ μ s.heap) (hx : ρ.lookup x = some v)
    (k : ∀ v', VRel c s.heap μ v v' → R v' s) : wpAny (model c.prog c.w) A (loadName env x) R E s := by
  obtain ⟨m, hn, hv⟩ := he.var
  obtain ⟨v', r, l⟩ := hv x v hx
  rcases l with ⟨k1, k2⟩ | ⟨k1 | ⟨k1, k3⟩, cx, l1, l2⟩
  · exact wpAny_loadName_local he.kind k1 hn k2 (k v' r)
  · exact wpAny_loadName_cell he.kind k1 l1 l2 (k v' r)
  · exact wpAny_loadName_free he.kind k1 l1 l2 (k v' r) (by simpa using k3)

theorem SE_name {x : Str} {pos : Pos} {v : V} (hx : ρ.lookup x = some v) (q : Q v σ) (hd : (x == ("__debug__" : Str)) = false := by decide) : SE c d env (.Name x pos) ρ σ Q :=
  fun _ _ _ _ _ hi he => wpAny_Name (wp_load he hx fun _ r => .of q r (.refl hi)) hd

theorem wp_global {x : Str} {v : Value} {s : Shared} {μ : List Addr} {A : Around} {E : Value → Shared → Prop} {R : Value → Shared → Prop} (hi : HInv c s.heap μ σ) (he : EnvOk c env ρ μ s.heap)
    (hk : env.kindOf x = some .globalImplicit) (hx : c.mg x = some v ∨ (c.mg x = none ∧ c.mb x = some v)) (k : R v s) : wpAny (model c.prog c.w) A (loadName env x) R E s := by
  have hl : loadName env x = loadGlobal env x := by
    unfold loadName
    rw [he.kind, show env.blockKind = .function by unfold Env.blockKind; rw [he.kind]; rfl, hk]
    rfl
  rw [hl]
  unfold loadGlobal
  rw [he.glob, he.bi]
  refine wpAny_bind (wpAny_nsGet (hi.ok.gns.keeps hi.keep) ?_)
  rcases hx with hx | ⟨hx, hy⟩
  · rw [hx]; exact wpAny_pure k
  · rw [hx]
    refine wpAny_bind (wpAny_nsGet (hi.ok.bns.keeps hi.keep) ?_)
    rw [hy]; exact wpAny_pure k

theorem SE_glob {x : Str} {pos : Pos} {v : Value} (hk : env.kindOf x = some .globalImplicit) (hx : c.mg x = some v ∨ (c.mg x = none ∧ c.mb x = some v)) (q : Q (.obj v) σ)
    (hd : (x == ("__debug__" : Str)) = false := by decide) : SE c d env (.Name x pos) ρ σ Q :=
  fun _ _ _ _ _ hi he => wpAny_Name (wp_global hi he hk hx (.of (v := .obj v) q rfl (.refl hi))) hd

theorem SE_int {i : Int} {k : Nat} {pos : Pos} (q : Q (.int i) σ) : SE c d env (.Constant (.int i) k pos) ρ σ Q := fun _ _ _ _ _ hi _ => wpAny_Constant_int (.of q ⟨_, rfl⟩ (.toks hi _))
theorem SE_str {x : Str} {k : Nat} {pos : Pos} (q : Q (.str x) σ) : SE c d env (.Constant (.str x) k pos) ρ σ Q := fun _ _ _ _ _ hi _ => wpAny_Constant_str (.of q ⟨_, rfl⟩ (.toks hi _))
theorem SE_bool {b : Bool} {k : Nat} {pos : Pos} (q : Q (.bool b) σ) : SE c d env (.Constant (.bool b) k pos) ρ σ Q := fun _ _ _ _ _ hi _ => wpAny_Constant_bool (.of q rfl (.refl hi))
theorem SE_none {k : Nat} {pos : Pos} (q : Q .none σ) : SE c d env (.Constant .none k pos) ρ σ Q := fun _ _ _ _ _ hi _ => wpAny_Constant_none (.of q rfl (.refl hi))
end

end
section
open PySem PySem.W PyProof.Rows PySem.Calls
set_option Elab.async false
set_option maxRecDepth 100000
set_option autoImplicit false
set_option linter.unusedVariables false

/-! binary operators -/
noncomputable def BIN (c : Fx) (d : Nat) (op : Operator) (a b : V) (σ : Hp) (Q : V → Hp → Prop) : Prop :=
  ∀ (A : Around) (E : Value → Shared → Prop) (s : Shared) (μ : List Addr) (va vb : Value), AOk d A → HInv c s.heap μ σ → VRel c s.heap μ a va → VRel c s.heap μ b vb →
    wpAny (model c.prog c.w) A (binaryOp op va vb) (Post c s μ Q) E s
/-- the same for op= -/
noncomputable def INP (c : Fx) (d : Nat) (op : Operator) (a b : V) (σ : Hp) (Q : V → Hp → Prop) : Prop :=
  ∀ (A : Around) (E : Value → Shared → Prop) (s : Shared) (μ : List Addr) (va vb : Value), AOk d A → HInv c s.heap μ σ → VRel c s.heap μ a va → VRel c s.heap μ b vb →
    wpAny (model c.prog c.w) A (inplaceOp op va vb) (Post c s μ Q) E s
noncomputable def CMP (c : Fx) (d : Nat) (op : CmpOp) (a b : V) (σ : Hp) (Q : Bool → Prop) : Prop :=
  ∀ (A : Around) (E : Value → Shared → Prop) (s : Shared) (μ : List Addr) (va vb : Value) (R : Value → Shared → Prop), AOk d A → HInv c s.heap μ σ → VRel c s.heap μ a va → VRel c s.heap μ b vb →
    (∀ x tk, Q x → R (.bool x) { s with toks := tk }) → wpAny (model c.prog c.w) A (compareOp op va vb) R E s
noncomputable def TRU (c : Fx) (d : Nat) (v : V) (σ : Hp) (Q : Bool → Prop) : Prop :=
  ∀ (A : Around) (E : Value → Shared → Prop) (s : Shared) (μ : List Addr) (va : Value) (R : Bool → Shared → Prop), AOk d A → HInv c s.heap μ σ → VRel c s.heap μ v va →
    (∀ x tk, Q x → R x { s with toks := tk }) → wpAny (model c.prog c.w) A (truthy va) R E s
/-- a test -/
noncomputable def SB (c : Fx) (d : Nat) (env : Env) (e : Expr) (ρ : Loc) (σ : Hp) (Q : Bool → Hp → Prop) : Prop :=
  ∀ (A : Around) (E : Value → Shared → Prop) (s : Shared) (μ : List Addr), AOk d A → HInv c s.heap μ σ → EnvOk c env ρ μ s.heap →
    wpAny (model c.prog c.w) A (isTrue e env (eval e env)) (fun b s' => ∃ σ' μ', Q b σ' ∧ Res c s s' μ μ' σ') E s

section
variable {c : Fx} {d : Nat} {env : Env} {ρ : Loc} {σ : Hp} {Q : V → Hp → Prop}

theorem SE_bin {op : Operator} {l r : Expr} {pos : Pos} (h : SE c d env l ρ σ fun a σ₁ => SE c d env r ρ σ₁ fun b σ₂ => BIN c d op a b σ₂ Q) : SE c d env (.BinOp l op r pos) ρ σ Q :=
  fun A E s μ ha hi he => wpAny_BinOp (wp_seq (h A E s μ ha hi he) fun _ va _ μ₁ s₁ q r₁ x => wp_seq (q A E s₁ μ₁ ha x.inv (he.mono x.ev x.pre)) fun _ vb _ μ₂ s₂ q₂ r₂ x₂ =>
    wpAny_mono (q₂ A E s₂ μ₂ va vb ha x₂.inv (r₁.mono x₂.ev x₂.pre) r₂) (fun _ _ p => Post.trans (x.trans x₂) p) fun _ _ e => e)

theorem BIN_add {i j : Int} (q : Q (.int (i + j)) σ) : BIN c d .Add (.int i) (.int j) σ Q := by
  rintro A E s μ va vb ha hi ⟨t, rfl⟩ ⟨u, rfl⟩; exact add_int (.of q ⟨_, rfl⟩ (.toks hi _))
theorem BIN_sub {i j : Int} (q : Q (.int (i - j)) σ) : BIN c d .Sub (.int i) (.int j) σ Q := by
  rintro A E s μ va vb ha hi ⟨t, rfl⟩ ⟨u, rfl⟩; exact sub_int (.of q ⟨_, rfl⟩ (.toks hi _))
theorem BIN_mul {i j : Int} (hm : IntMulOk i j) (q : Q (.int (i * j)) σ) : BIN c d .Mult (.int i) (.int j) σ Q := by
  rintro A E s μ va vb ha hi ⟨t, rfl⟩ ⟨u, rfl⟩; exact mul_int (.of q ⟨_, rfl⟩ (.toks hi _)) hm
theorem BIN_div {i j : Int} (hj : j ≠ 0) (hp : Builtin.divisionGoesByPylong i j = false) (q : Q (.int (i.fdiv j)) σ) : BIN c d .FloorDiv (.int i) (.int j) σ Q := by
  rintro A E s μ va vb ha hi ⟨t, rfl⟩ ⟨u, rfl⟩; exact floordiv_int hj (.of q ⟨_, rfl⟩ (.toks hi _)) (.inl hp)
theorem BIN_mod {i j : Int} (hj : j ≠ 0) (q : Q (.int (i.fmod j)) σ) : BIN c d .Mod (.int i) (.int j) σ Q := by
  rintro A E s μ va vb ha hi ⟨t, rfl⟩ ⟨u, rfl⟩; exact mod_int' hj (.of q ⟨_, rfl⟩ (.toks hi _))
theorem BIN_pow {i n : Int} (h0 : 0 ≤ n) (h1 : n ≤ 1000000) (h2 : i.natAbs < 2 ^ 64) (q : Q (.int (i ^ n.toNat)) σ) : BIN c d .Pow (.int i) (.int n) σ Q := by
  rintro A E s μ va vb ha hi ⟨t, rfl⟩ ⟨u, rfl⟩; exact pow_int_small h0 h1 h2 (.of q ⟨_, rfl⟩ (.toks hi _))
theorem BIN_shl {i n : Int} (h0 : 0 ≤ n) (h1 : n ≤ 1000000) (h2 : i.natAbs < 2 ^ 64) (q : Q (.int (i * 2 ^ n.toNat)) σ) : BIN c d .LShift (.int i) (.int n) σ Q := by
  rintro A E s μ va vb ha hi ⟨t, rfl⟩ ⟨u, rfl⟩; exact lshift_int_small h0 h1 h2 (.of q ⟨_, rfl⟩ (.toks hi _))
theorem BIN_and {i j : Int} (q : Q (.int (Builtin.bitAnd i j)) σ) : BIN c d .BitAnd (.int i) (.int j) σ Q := by
  rintro A E s μ va vb ha hi ⟨t, rfl⟩ ⟨u, rfl⟩; exact and_int (.of q ⟨_, rfl⟩ (.toks hi _))
theorem BIN_cat {x y : Str} (hs : x.length + y.length ≤ 2 ^ 24) (q : Q (.str (x ++ y)) σ) : BIN c d .Add (.str x) (.str y) σ Q := by
  rintro A E s μ va vb ha hi ⟨t, rfl⟩ ⟨u, rfl⟩; exact add_str (fun _ _ => .of q ⟨_, rfl⟩ (.toks hi _)) hs
theorem BIN_rep {x : Str} {n : Int} (hs : MulOk x n) (q : Q (.str (Txt.mul x n)) σ) : BIN c d .Mult (.str x) (.int n) σ Q := by
  rintro A E s μ va vb ha hi ⟨t, rfl⟩ ⟨u, rfl⟩; exact SB.mul hs (fun _ _ => .of q ⟨_, rfl⟩ (.toks hi _))

theorem SE_neg {e : Expr} {pos : Pos} (h : SE c d env e ρ σ fun a σ₁ => ∃ i, a = .int i ∧ Q (.int (-i)) σ₁) : SE c d env (.UnaryOp .USub e pos) ρ σ Q :=
  fun A E s μ ha hi he => wpAny_UnaryOp (wp_seq (h A E s μ ha hi he) fun _ va _ μ₁ s₁ q r₁ x => by
    obtain ⟨i, rfl, q⟩ := q
    obtain ⟨t, rfl⟩ := r₁
    exact neg_int (.of q ⟨_, rfl⟩ (x.trans (.toks x.inv _))))

/-! comparisons -/
theorem SE_cmp {op : CmpOp} {l r : Expr} {pos : Pos} (hm : behindInMarks op r = false) (h : SE c d env l ρ σ fun a σ₁ => SE c d env r ρ σ₁ fun b σ₂ => CMP c d op a b σ₂ fun x => Q (.bool x) σ₂) :
    SE c d env (.Compare l [op] [r] pos) ρ σ Q :=
  fun A E s μ ha hi he => wpAny_Compare1 (hm := hm) (wp_seq (h A E s μ ha hi he) fun _ va _ μ₁ s₁ q r₁ x => wp_seq (q A E s₁ μ₁ ha x.inv (he.mono x.ev x.pre)) fun _ vb _ μ₂ s₂ q₂ r₂ x₂ =>
    q₂ A E s₂ μ₂ va vb _ ha x₂.inv (r₁.mono x₂.ev x₂.pre) r₂ fun y tk hy => .of hy rfl ((x.trans x₂).trans (.toks x₂.inv tk)))
theorem SB_cmp {op : CmpOp} {l r : Expr} {pos : Pos} {Q : Bool → Hp → Prop} (hm : behindInMarks op r = false) (h : SE c d env l ρ σ fun a σ₁ => SE c d env r ρ σ₁ fun b σ₂ => CMP c d op a b σ₂ fun x => Q x σ₂) :
    SB c d env (.Compare l [op] [r] pos) ρ σ Q :=
  fun A E s μ ha hi he => wpAny_isTrue_Compare1 (hm := hm) (wp_seq (h A E s μ ha hi he) fun _ va _ μ₁ s₁ q r₁ x => wp_seq (q A E s₁ μ₁ ha x.inv (he.mono x.ev x.pre)) fun _ vb _ μ₂ s₂ q₂ r₂ x₂ =>
    q₂ A E s₂ μ₂ va vb _ ha x₂.inv (r₁.mono x₂.ev x₂.pre) r₂ fun y tk hy => wpAny_truthy_bool ⟨_, _, hy, (x.trans x₂).trans (.toks x₂.inv tk)⟩)
theorem SB_not {e : Expr} {pos : Pos} {Q : Bool → Hp → Prop} (h : SB c d env e ρ σ fun b σ' => Q (!b) σ') : SB c d env (.UnaryOp .Not e pos) ρ σ Q :=
  fun A E s μ ha hi he => wpAny_isTrue_Not (h A E s μ ha hi he)
theorem SB_and {a b : Expr} {pos : Pos} {Q : Bool → Hp → Prop} (h : SB c d env a ρ σ fun x σ₁ => (x = false → Q false σ₁) ∧ (x = true → SB c d env b ρ σ₁ Q)) : SB c d env (.BoolOp .And [a, b] pos) ρ σ Q :=
  fun A E s μ ha hi he => wpAny_isTrue_BoolOp (wpAny_allTrue_And_cons (wpAny_mono (h A E s μ ha hi he) (fun x s₁ ⟨σ₁, μ₁, q, z⟩ => by
    cases x with
    | false => exact ⟨_, _, q.1 rfl, z⟩
    | true => exact wpAny_allTrue_And_cons (wpAny_mono (q.2 rfl A E s₁ μ₁ ha z.inv (he.mono z.ev z.pre)) (fun y s₂ ⟨σ₂, μ₂, q₂, z₂⟩ => by
        cases y with
        | false => exact ⟨_, _, q₂, z.trans z₂⟩
        | true => exact wpAny_allTrue_And_nil ⟨_, _, q₂, z.trans z₂⟩) fun _ _ e => e)) fun _ _ e => e))
theorem SB_val {e : Expr} {Q : Bool → Hp → Prop} (hv : isTrue e env (eval e env) = (do let v ← eval e env; standAt e.pos; holding [v] (truthy v)))
    (h : SE c d env e ρ σ fun a σ₁ => TRU c d a σ₁ fun x => Q x σ₁) : SB c d env e ρ σ Q :=
  fun A E s μ ha hi he => wpAny_isTrue_value (wp_seq (h A E s μ ha hi he) fun _ va _ μ₁ s₁ q r₁ x => q A E s₁ μ₁ va _ ha x.inv r₁ fun y tk hy => ⟨_, _, hy, x.trans (.toks x.inv tk)⟩) hv

theorem CMP_lt {i j : Int} {Q : Bool → Prop} (q : Q (decide (i < j))) : CMP c d .Lt (.int i) (.int j) σ Q := by
  rintro A E s μ va vb R ha hi ⟨t, rfl⟩ ⟨u, rfl⟩ k; exact lt_int (k _ s.toks q)
theorem CMP_gt {i j : Int} {Q : Bool → Prop} (q : Q (decide (j < i))) : CMP c d .Gt (.int i) (.int j) σ Q := by
  rintro A E s μ va vb R ha hi ⟨t, rfl⟩ ⟨u, rfl⟩ k; exact gt_int (k _ s.toks q)
theorem CMP_le {i j : Int} {Q : Bool → Prop} (q : Q (decide (i ≤ j))) : CMP c d .LtE (.int i) (.int j) σ Q := by
  rintro A E s μ va vb R ha hi ⟨t, rfl⟩ ⟨u, rfl⟩ k; exact le_int (k _ s.toks q)
theorem CMP_ge {i j : Int} {Q : Bool → Prop} (q : Q (decide (j ≤ i))) : CMP c d .GtE (.int i) (.int j) σ Q := by
  rintro A E s μ va vb R ha hi ⟨t, rfl⟩ ⟨u, rfl⟩ k; exact ge_int (k _ s.toks q)
theorem CMP_eq {i j : Int} {Q : Bool → Prop} (q : Q (i == j)) : CMP c d .Eq (.int i) (.int j) σ Q := by
  rintro A E s μ va vb R ha hi ⟨t, rfl⟩ ⟨u, rfl⟩ k; exact eq_int (k _ s.toks q)
theorem CMP_ne {i j : Int} {Q : Bool → Prop} (q : Q (i != j)) : CMP c d .NotEq (.int i) (.int j) σ Q := by
  rintro A E s μ va vb R ha hi ⟨t, rfl⟩ ⟨u, rfl⟩ k; exact ne_int (k _ s.toks q)
theorem CMP_eqs {x y : Str} {Q : Bool → Prop} (q : Q (x == y)) : CMP c d .Eq (.str x) (.str y) σ Q := by
  rintro A E s μ va vb R ha hi ⟨t, rfl⟩ ⟨u, rfl⟩ k; exact eq_str (k _ s.toks q)
theorem CMP_nes {x y : Str} {Q : Bool → Prop} (q : Q (x != y)) : CMP c d .NotEq (.str x) (.str y) σ Q := by
  rintro A E s μ va vb R ha hi ⟨t, rfl⟩ ⟨u, rfl⟩ k; exact ne_str (k _ s.toks q)

/-- `is None` of things that are no fixed objects -/
noncomputable def isNoneV : V → Option Bool
  | .none => some true
  | .bool _ | .int _ | .str _ | .ref _ | .tup _ | .fl _ | .rng _ _ | .lam _ _ _ _ => some false
  | .obj _ => Option.none
theorem CMP_isNone {v : V} {b : Bool} {Q : Bool → Prop} (hv : isNoneV v = some b) (q : Q b) : CMP c d .Is v .none σ Q := by
  rintro A E s μ va vb R ha hi h rfl k
  have fin : va ≠ .none → plainIs va .none = true → b = false → wpAny (model c.prog c.w) A (compareOp .Is va .none) R E s := fun h1 h2 h3 => wpAny_is_other h2 h1 (h3 ▸ k _ s.toks q)
  cases v with
  | none => cases h; cases hv; exact wpAny_is_self rfl (k _ s.toks q)
  | bool x => cases h; cases hv; exact fin nofun rfl rfl
  | int x => obtain ⟨t, rfl⟩ := h; cases hv; exact fin nofun rfl rfl
  | str x => obtain ⟨t, rfl⟩ := h; cases hv; exact fin nofun rfl rfl
  | ref x => obtain ⟨t, rfl, _⟩ := h; cases hv; exact fin nofun rfl rfl
  | tup x => obtain ⟨t, _, rfl, _⟩ := h; cases hv; exact fin nofun rfl rfl
  | fl x => obtain ⟨t, _, rfl, _⟩ := h; cases hv; exact fin nofun rfl rfl
  | rng x y => obtain ⟨r, t, u, w, rfl, _⟩ := h; cases hv; exact fin nofun rfl rfl
  | lam a b c e => obtain ⟨r, _, _, _, _, _, _, rfl, _⟩ := h; cases hv; exact fin nofun rfl rfl
  | obj x => cases hv
theorem CMP_isBool {x y : Bool} {Q : Bool → Prop} (q : Q (x == y)) : CMP c d .Is (.bool x) (.bool y) σ Q := by
  rintro A E s μ va vb R ha hi rfl rfl k
  refine wpAny_is_plain rfl ?_
  have : (Value.bool x == Value.bool y) = (x == y) := by cases x <;> cases y <;> rfl
  rw [this]; exact k _ s.toks q
theorem CMP_isNotBool {x y : Bool} {Q : Bool → Prop} (q : Q (!(x == y))) : CMP c d .IsNot (.bool x) (.bool y) σ Q := by
  rintro A E s μ va vb R ha hi rfl rfl k
  refine wpAny_isNot_plain rfl ?_
  have : (Value.bool x == Value.bool y) = (x == y) := by cases x <;> cases y <;> rfl
  rw [this]; exact k _ s.toks q

theorem TRU_bool {x : Bool} {Q : Bool → Prop} (q : Q x) : TRU c d (.bool x) σ Q := by
  rintro A E s μ va R ha hi rfl k; exact wpAny_truthy_bool (k _ s.toks q)
theorem TRU_int {i : Int} {Q : Bool → Prop} (q : Q (i != 0)) : TRU c d (.int i) σ Q := by
  rintro A E s μ va R ha hi ⟨t, rfl⟩ k; exact PyProof.Rows.truthy_int (k _ s.toks q)
theorem TRU_str {x : Str} {Q : Bool → Prop} (hs : x.length ≤ 2 ^ 24) (q : Q ((x.length : Int) != 0)) : TRU c d (.str x) σ Q := by
  rintro A E s μ va R ha hi ⟨t, rfl⟩ k; exact PySem.P.truthy_str (by omega) (k _ _ q)

theorem SE_if {test a b : Expr} {pos : Pos} (h : SB c d env test ρ σ fun x σ₁ => (x = true → SE c d env a ρ σ₁ Q) ∧ (x = false → SE c d env b ρ σ₁ Q)) : SE c d env (.IfExp test a b pos) ρ σ Q :=
  fun A E s μ ha hi he => wpAny_IfExp (wpAny_mono (h A E s μ ha hi he) (fun x s₁ ⟨σ₁, μ₁, q, z⟩ => by
    cases x with
    | true => exact wpAny_mono (q.1 rfl A E s₁ μ₁ ha z.inv (he.mono z.ev z.pre)) (fun _ _ p => Post.trans z p) fun _ _ e => e
    | false => exact wpAny_mono (q.2 rfl A E s₁ μ₁ ha z.inv (he.mono z.ev z.pre)) (fun _ _ p => Post.trans z p) fun _ _ e => e) fun _ _ e => e)

/-! subscripts -/
noncomputable def GET (c : Fx) (d : Nat) (o i : V) (σ : Hp) (Q : V → Hp → Prop) : Prop :=
  ∀ (A : Around) (E : Value → Shared → Prop) (s : Shared) (μ : List Addr) (vo vi : Value), AOk d A → HInv c s.heap μ σ → VRel c s.heap μ o vo → VRel c s.heap μ i vi →
    (∃ T id, s.TypeIs vo T ∧ typeLookup (.type T) "__getitem__" = pure (some (.builtin id))) ∧ wpAny (model c.prog c.w) A (getItem vo vi) (Post c s μ Q) E s

theorem SE_sub {value slice : Expr} {pos : Pos} (hs : ∀ o i, subscripted slice false o i = operate [o, i] (getItem o i)) (h : SE c d env value ρ σ fun o σ₁ => SE c d env slice ρ σ₁ fun i σ₂ => GET c d o i σ₂ Q) :
    SE c d env (.Subscript value slice pos) ρ σ Q :=
  fun A E s μ ha hi he => Subscript_ (wp_seq (h A E s μ ha hi he) fun _ vo _ μ₁ s₁ q r₁ x => wp_seq (q A E s₁ μ₁ ha x.inv (he.mono x.ev x.pre)) fun _ vi _ μ₂ s₂ q₂ r₂ x₂ => by
    obtain ⟨⟨T, id, hT, hl⟩, hg⟩ := q₂ A E s₂ μ₂ vo vi ha x₂.inv (r₁.mono x₂.ev x₂.pre) r₂
    exact tail_any hT hl (wpAny_mono hg (fun _ _ p => Post.trans (x.trans x₂) p) fun _ _ e => e) (hs vo vi))

theorem paired_get {α β : Type} {F : α → β → Prop} : ∀ {l : List α} {m : List β}, Paired F l m → ∀ {n : Nat} {a : α}, l[n]? = some a → ∃ b, m[n]? = some b ∧ F a b
  | _, _, .cons h _, 0, a, e => by cases e; exact ⟨_, rfl, h⟩
  | _, _, .cons _ r, n + 1, a, e => by simpa using paired_get r (by simpa using e)

theorem HInv.get {c : Fx} {h : Heap} {μ : List Addr} {σ : Hp} (hi : HInv c h μ σ) {n : Nat} {l : List V} (e : σ[n]? = some l) {a : Addr} (ea : μ[n]? = some a) :
    ∃ vs, h.PlainList a vs.toArray ∧ ARels μ l vs ∧ l.length ≤ 2 ^ 20 := by
  obtain ⟨a', vs, h1, h2, h3, h4⟩ := hi.lst n l e
  rw [ea] at h1; cases h1
  exact ⟨vs, h2, h3, h4⟩

theorem ARel.v {c : Fx} {h : Heap} {μ : List Addr} {v : V} {x : Value} (r : ARel μ v x) : VRel c h μ v x := by
  cases v <;> first | exact r | exact r.elim

theorem GET_list {n : Nat} {l : List V} {i : Int} {v : V} (hl : σ[n]? = some l) (h0 : 0 ≤ i) (hv : l[i.toNat]? = some v) (q : Q v σ) : GET c d (.ref n) (.int i) σ Q := by
  rintro A E s μ va vb ha hi ⟨a, rfl, ea⟩ ⟨u, rfl⟩
  obtain ⟨vs, hp, hr, hz⟩ := hi.get hl ea
  obtain ⟨x, hx, hrx⟩ := paired_get hr hv
  have hlt := (List.getElem?_eq_some_iff.mp hv).1
  exact ⟨⟨_, _, hp.isList.typeIs, slot_list_getitem.lookup⟩, wpAny_getItem_list (x := x) hp.isList h0 (by omega) (by simpa using hx) (.of q hrx.v (.refl hi))⟩
theorem GET_list_neg {n : Nat} {l : List V} {i : Int} {v : V} (hl : σ[n]? = some l) (h0 : i < 0) (h1 : -(l.length : Int) ≤ i) (hv : l[(i + l.length).toNat]? = some v) (q : Q v σ) : GET c d (.ref n) (.int i) σ Q := by
  rintro A E s μ va vb ha hi ⟨a, rfl, ea⟩ ⟨u, rfl⟩
  obtain ⟨vs, hp, hr, hz⟩ := hi.get hl ea
  obtain ⟨x, hx, hrx⟩ := paired_get hr hv
  have hlen := hr.length
  refine ⟨⟨_, _, hp.isList.typeIs, slot_list_getitem.lookup⟩, wpAny_getItem_list_neg (x := x) hp.isList h0 ?_ (by omega) ?_ (.of q hrx.v (.refl hi))⟩
  · rw [List.size_toArray, ← hlen]; exact h1
  · rw [List.size_toArray, ← hlen]; simpa using hx
theorem GET_fl {l : List V} {i : Int} {v : V} (h0 : 0 ≤ i) (hv : l[i.toNat]? = some v) (q : Q v σ) : GET c d (.fl l) (.int i) σ Q := by
  rintro A E s μ va vb ha hi ⟨a, vs, rfl, hf, hr, hz⟩ ⟨u, rfl⟩
  obtain ⟨x, hx, hrx⟩ := paired_get hr hv
  have hlt := (List.getElem?_eq_some_iff.mp hv).1
  have hp : s.heap.IsList a vs.toArray := let ⟨o, ho, r⟩ := hf; ⟨o, hi.keep _ _ ho, r⟩
  exact ⟨⟨_, _, hp.typeIs, slot_list_getitem.lookup⟩, wpAny_getItem_list (x := x) hp h0 (by omega) (by simpa using hx) (.of q hrx.v (.refl hi))⟩
theorem GET_tup {l : List V} {i : Int} {v : V} (h0 : 0 ≤ i) (hv : l[i.toNat]? = some v) (q : Q v σ) : GET c d (.tup l) (.int i) σ Q := by
  rintro A E s μ va vb ha hi ⟨a, vs, rfl, hp, hr, hz⟩ ⟨u, rfl⟩
  obtain ⟨x, hx, hrx⟩ := paired_get hr hv
  have hlt := (List.getElem?_eq_some_iff.mp hv).1
  have hlen := hr.length
  refine ⟨⟨_, _, IsTup.typeIs hp, slot_tuple_getitem.lookup⟩, getItem_tuple hp (by omega) (by omega) (j := i.toNat) (x := x) ?_ (by simpa using hx) (.of q hrx.v (.refl hi))⟩
  unfold seqIndex?
  rw [List.size_toArray, ← hlen]
  simp only [show ¬ i < 0 by omega, if_false]
  rw [if_pos (by simp only [Bool.and_eq_true, decide_eq_true_eq]; omega)]
end

end
section
open PySem PySem.W PyProof.Rows PySem.Calls
set_option Elab.async false
set_option maxRecDepth 100000
set_option autoImplicit false
set_option linter.unusedVariables false

/-! the heap grows -/
theorem tabs_keep {c : Fx} {h h' : Heap} {μ : List Addr} {σ : Hp} (hi : HInv c h μ σ) (hk : ∀ b o, h.get? b = some o → b ∉ μ → h'.get? b = some o) (hkc : ∀ cv q, h.CodeRec cv q → h'.CodeRec cv q) :
    ∀ t ∈ c.tabs, ∃ ps, h'.get? t.2.1 = some (tabObj ps) ∧ TriplesOk ps.toList ∧ ∀ pos cv, codeAmong pos ps.toList = some cv → h'.CodeRec cv t.2.2 := by
  intro t ht
  obtain ⟨ps, h1, h2, h3⟩ := hi.tabs t ht
  refine ⟨ps, hk _ _ h1 fun hm => ?_, h2, fun pos cv e => hkc _ _ (h3 pos cv e)⟩
  obtain ⟨n, hn, e⟩ := List.getElem_of_mem hm
  have hn' : n < σ.length := hi.len ▸ hn
  obtain ⟨a, vs, e1, ⟨k, e2⟩, _⟩ := hi.lst n _ (List.getElem?_eq_getElem hn')
  rw [List.getElem?_eq_getElem hn, Option.some_inj] at e1
  rw [← e, e1, e2] at h1
  cases h1

theorem HInv.push {c : Fx} {h : Heap} {μ : List Addr} {σ : Hp} (hi : HInv c h μ σ) (o : Obj) : HInv c (h.push o) μ σ where
  ok := hi.ok
  keep := fun b x e => Heap.get?_push_of_some _ (hi.keep b x e)
  size := by rw [Heap.size_push]; exact Nat.le_succ_of_le hi.size
  tabs := tabs_keep hi (fun b x e _ => Heap.get?_push_of_some _ e) fun cv q x => x.push o
  len := hi.len
  nodup := hi.nodup
  new := hi.new
  lst := fun n l e => let ⟨a, vs, e1, ⟨k, e2⟩, e3⟩ := hi.lst n l e; ⟨a, vs, e1, ⟨k, Heap.get?_push_of_some _ e2⟩, e3⟩

theorem getElem?_snoc {α : Type} {l : List α} {a b : α} {n : Nat} (e : (l ++ [a])[n]? = some b) : l[n]? = some b ∨ (n = l.length ∧ b = a) := by
  by_cases h : n < l.length
  · rw [List.getElem?_append_left h] at e; exact .inl e
  · rw [List.getElem?_append_right (by omega)] at e
    have : n - l.length = 0 := by
      cases hk : n - l.length with
      | zero => rfl
      | succ k => rw [hk] at e; simp at e
    rw [this] at e; simp at e
    exact .inr ⟨by omega, e.symm⟩

theorem HInv.lt {c : Fx} {h : Heap} {μ : List Addr} {σ : Hp} (hi : HInv c h μ σ) {a : Addr} (ha : a ∈ μ) : a < h.objs.size := by
  obtain ⟨n, hn, e⟩ := List.getElem_of_mem ha
  obtain ⟨b, vs, e1, ⟨k, e2⟩, _⟩ := hi.lst n _ (List.getElem?_eq_getElem (hi.len ▸ hn))
  rw [List.getElem?_eq_getElem hn, Option.some_inj] at e1
  rw [← e, e1]; exact Heap.lt_size e2

theorem HInv.fresh {c : Fx} {h : Heap} {μ : List Addr} {σ : Hp} (hi : HInv c h μ σ) : c.g.get? h.objs.size = none := Heap.get?_none_of_le hi.size

noncomputable abbrev lobj (vs : List Value) (k : Nat) : Obj := { cls := .type "list", data := .seq vs.toArray k }

theorem HInv.make {c : Fx} {h : Heap} {μ : List Addr} {σ : Hp} (hi : HInv c h μ σ) {vs : List Value} {l : List V} {k : Nat} (hr : ARels μ l vs) (hz : l.length ≤ 2 ^ 20) :
    HInv c (h.push (lobj vs k)) (μ ++ [h.objs.size]) (σ ++ [l]) := by
  have p := hi.push (lobj vs k)
  refine ⟨hi.ok, p.keep, p.size, p.tabs, by simp [hi.len], ?_, ?_, ?_⟩
  · refine List.nodup_append.mpr ⟨hi.nodup, by simp, fun a ha b hb => ?_⟩
    rw [List.mem_singleton.mp hb]
    exact Nat.ne_of_lt (hi.lt ha)
  · intro n m e
    rcases getElem?_snoc e with e | ⟨rfl, rfl⟩
    · obtain ⟨a, us, e1, e2, e3, e4⟩ := p.lst n m e
      exact ⟨a, us, pre_get ⟨_, rfl⟩ e1, e2, e3.pre ⟨_, rfl⟩, e4⟩
    · exact ⟨h.objs.size, vs, by rw [List.getElem?_append_right (Nat.le_of_eq hi.len)]; simp [hi.len], ⟨k, Heap.get?_push_size _ rfl⟩, hr.pre ⟨_, rfl⟩, hz⟩
  · intro a ha
    rcases List.mem_append.mp ha with ha | ha
    · exact hi.new a ha
    · rw [List.mem_singleton.mp ha]; exact hi.fresh

theorem codeRec_sameBut {h h' : Heap} {a : Addr} {xs : Array Value} (hp : h.PlainList a xs) (hs : Heap.SameBut a h h') {cv : Value} {q : Str} (x : h.CodeRec cv q) : h'.CodeRec cv q := by
  obtain ⟨b, o, vs, t, e, g, hd, h1⟩ := x
  refine ⟨b, o, vs, t, e, hs.extBut _ _ (fun hb => ?_) g, hd, h1⟩
  obtain ⟨k, hk⟩ := hp
  rw [hb, hk] at g; cases g; cases hd

theorem Ev.list {h h' : Heap} {a : Addr} {xs : Array Value} (hp : h.PlainList a xs) (hs : Heap.SameBut a h h') : Ev h h' :=
  ⟨fun b o e hm => hs.extBut b o (fun hb => by obtain ⟨k, hk⟩ := hp; rw [hb, hk] at e; cases e; cases hm) e⟩

theorem HInv.upd {c : Fx} {h h' : Heap} {μ : List Addr} {σ : Hp} (hi : HInv c h μ σ) {n : Nat} {a : Addr} {xs : Array Value} {vs : List Value} {l : List V} (ea : μ[n]? = some a) (hp : h.PlainList a xs)
    (hs : Heap.SameBut a h h') (hn : h'.PlainList a vs.toArray) (hr : ARels μ l vs) (hz : l.length ≤ 2 ^ 20) : HInv c h' μ (σ.set n l) where
  ok := hi.ok
  keep := fun b x e => hs.extBut b x (fun hb => by
    have := hi.new a (List.mem_of_getElem? ea)
    rw [hb, this] at e; cases e) (hi.keep b x e)
  size := by rw [hs.1]; exact hi.size
  tabs := tabs_keep hi (fun b x e hb => hs.extBut b x (fun h => hb (h ▸ List.mem_of_getElem? ea)) e) fun cv q x => codeRec_sameBut hp hs x
  len := by rw [List.length_set]; exact hi.len
  nodup := hi.nodup
  new := hi.new
  lst := fun m k e => by
    by_cases hm : n = m
    · subst hm
      have hlt : n < σ.length := hi.len ▸ (List.getElem?_eq_some_iff.mp ea).1
      rw [List.getElem?_set_self hlt, Option.some_inj] at e
      subst e
      exact ⟨a, vs, ea, hn, hr, hz⟩
    · rw [List.getElem?_set_ne hm] at e
      obtain ⟨b, us, e1, ⟨j, e2⟩, e3⟩ := hi.lst m k e
      refine ⟨b, us, e1, ⟨j, hs.extBut _ _ (fun hb => hm ?_) e2⟩, e3⟩
      subst hb
      have i1 := (List.getElem?_eq_some_iff.mp ea)
      have i2 := (List.getElem?_eq_some_iff.mp e1)
      exact (List.getElem_inj hi.nodup).mp (i1.2.trans i2.2.symm)

theorem Res.push {c : Fx} {s : Shared} {μ : List Addr} {σ : Hp} (hi : HInv c s.heap μ σ) (o : Obj) (t : Nat) : Res c s { s with heap := s.heap.push o, toks := t } μ μ σ :=
  ⟨⟨_, _, rfl⟩, List.prefix_rfl, Ev.push _ _, hi.push o⟩
theorem Res.make {c : Fx} {s : Shared} {μ : List Addr} {σ : Hp} (hi : HInv c s.heap μ σ) {vs : List Value} {l : List V} {k : Nat} (hr : ARels μ l vs) (hz : l.length ≤ 2 ^ 20) (t : Nat) :
    Res c s { s with heap := s.heap.push (lobj vs k), toks := t } μ (μ ++ [s.heap.objs.size]) (σ ++ [l]) :=
  ⟨⟨_, _, rfl⟩, ⟨_, rfl⟩, Ev.push _ _, hi.make hr hz⟩
theorem Res.upd {c : Fx} {s : Shared} {μ : List Addr} {σ : Hp} (hi : HInv c s.heap μ σ) {h' : Heap} {n : Nat} {a : Addr} {xs : Array Value} {vs : List Value} {l : List V} (ea : μ[n]? = some a) (hp : s.heap.PlainList a xs)
    (hs : Heap.SameBut a s.heap h') (hn : h'.PlainList a vs.toArray) (hr : ARels μ l vs) (hz : l.length ≤ 2 ^ 20) (t : Nat) : Res c s { s with heap := h', toks := t } μ μ (σ.set n l) :=
  ⟨⟨_, _, rfl⟩, List.prefix_rfl, Ev.list hp hs, hi.upd ea hp hs hn hr hz⟩
theorem VRel_made {c : Fx} {h : Heap} {μ : List Addr} {σ : Hp} {h0 : Heap} (hi : HInv c h0 μ σ) : VRel c h (μ ++ [h0.objs.size]) (.ref σ.length) (.ref h0.objs.size) :=
  ⟨_, rfl, by rw [List.getElem?_append_right (Nat.le_of_eq hi.len)]; simp [hi.len]⟩

/-- dead lists may be dropped -/
noncomputable def Closed (k : Nat) (l : List V) : Prop := ∀ n, V.ref n ∈ l → n < k
theorem ARel.take {μ : List Addr} {k : Nat} {v : V} {x : Value} (r : ARel μ v x) (hk : ∀ n, v = .ref n → n < k) : ARel (μ.take k) v x := by
  cases v with
  | ref n =>
    obtain ⟨a, e, h⟩ := r
    exact ⟨a, e, by rw [List.getElem?_take_of_lt (hk n rfl)]; exact h⟩
  | _ => exact r
theorem ARels.take {μ : List Addr} {k : Nat} : ∀ {l : List V} {vs : List Value}, ARels μ l vs → Closed k l → ARels (μ.take k) l vs
  | _, _, .nil, _ => .nil
  | _, _, .cons h r, hc => .cons (h.take fun n e => hc n (e ▸ .head _)) (ARels.take r fun n hn => hc n (.tail _ hn))
theorem ARels.closed {μ : List Addr} : ∀ {l : List V} {vs : List Value}, ARels μ l vs → Closed μ.length l
  | _, _, .nil, n, h => nomatch h
  | _, _, .cons h r, n, hn => by
    rcases List.mem_cons.mp hn with e | hn
    · subst e
      obtain ⟨a, _, e⟩ := h
      exact (List.getElem?_eq_some_iff.mp e).1
    · exact ARels.closed r n hn
theorem HInv.closed {c : Fx} {h : Heap} {μ : List Addr} {σ : Hp} (hi : HInv c h μ σ) : ∀ l ∈ σ, Closed σ.length l := fun l hl => by
  obtain ⟨n, hn, e⟩ := List.getElem_of_mem hl
  obtain ⟨a, vs, _, _, r, _⟩ := hi.lst n l (by rw [List.getElem?_eq_getElem hn, e])
  rw [← hi.len]; exact r.closed
theorem HInv.take {c : Fx} {h : Heap} {μ : List Addr} {σ : Hp} (hi : HInv c h μ σ) (k : Nat) (hc : ∀ l ∈ σ.take k, Closed k l) : HInv c h (μ.take k) (σ.take k) where
  ok := hi.ok
  keep := hi.keep
  size := hi.size
  tabs := hi.tabs
  len := by rw [List.length_take, List.length_take, hi.len]
  nodup := hi.nodup.sublist (List.take_sublist _ _)
  new := fun a ha => hi.new a (List.mem_of_mem_take ha)
  lst := fun n l e => by
    have hlt := (List.getElem?_eq_some_iff.mp e).1
    rw [List.length_take] at hlt
    have hnk : n < k := by omega
    have e' := e
    rw [List.getElem?_take_of_lt hnk] at e'
    obtain ⟨a, vs, e1, e2, e3, e4⟩ := hi.lst n l e'
    exact ⟨a, vs, by rw [List.getElem?_take_of_lt hnk]; exact e1, e2, e3.take (hc l (List.mem_of_getElem? e)), e4⟩
theorem HInv.pick {c : Fx} {h : Heap} {μ : List Addr} {σ : Hp} (hi : HInv c h μ σ) (k n : Nat) (l : List V) (hc : ∀ m ∈ σ.take k, Closed k m) (hn : k ≤ n) (hl : σ[n]? = some l) (hf : Closed 0 l) :
    ∃ a, μ[n]? = some a ∧ HInv c h (μ.take k ++ [a]) (σ.take k ++ [l]) := by
  obtain ⟨a, vs, e1, e2, e3, e4⟩ := hi.lst n l hl
  have t := hi.take k hc
  have hlt := (List.getElem?_eq_some_iff.mp hl).1
  have hk : (σ.take k).length = k := by rw [List.length_take]; omega
  refine ⟨a, e1, hi.ok, hi.keep, hi.size, hi.tabs, by rw [List.length_append, List.length_append, t.len]; rfl, ?_, ?_, ?_⟩
  · refine List.nodup_append.mpr ⟨t.nodup, by simp, fun b hb x hx => ?_⟩
    rw [List.mem_singleton.mp hx]
    intro e
    subst e
    obtain ⟨j, hj, ej⟩ := List.getElem_of_mem hb
    rw [List.length_take] at hj
    rw [List.getElem_take] at ej
    have i1 := List.getElem?_eq_some_iff.mp e1
    have := (List.getElem_inj hi.nodup).mp (ej.trans i1.2.symm)
    omega
  · intro m x e
    rcases getElem?_snoc e with e | ⟨rfl, rfl⟩
    · obtain ⟨b, us, f1, f2, f3, f4⟩ := t.lst m x e
      exact ⟨b, us, pre_get ⟨_, rfl⟩ f1, f2, f3.pre ⟨_, rfl⟩, f4⟩
    · refine ⟨a, vs, by rw [List.getElem?_append_right (Nat.le_of_eq t.len), t.len, Nat.sub_self]; rfl, e2, ?_, e4⟩
      exact (e3.take (k := 0) hf).pre ⟨List.take k μ ++ [a], by simp⟩
  · intro b hb
    rcases List.mem_append.mp hb with hb | hb
    · exact t.new b hb
    · rw [List.mem_singleton.mp hb]; exact hi.new a (List.mem_of_getElem? e1)

end
section
open PySem PySem.W PyProof.Rows PySem.Calls
set_option Elab.async false
set_option maxRecDepth 100000
set_option autoImplicit false
set_option linter.unusedVariables false

/-! the heap never gets shorter -/
theorem runs_size {M : Model} {Γ : Ctx} {p : Pos} {t : Sem PySem.Fin} {fs : List Frame} {s s' : Shared} {e : End} (h : Runs M Γ p t fs s e s') : s.heap.objs.size ≤ s'.heap.objs.size := by
  induction h <;> (try simp only [Shared.setGen, Heap.size_update, Heap.size_push] at *) <;> try omega
theorem wakes_size {M : Model} {Γ : Ctx} {p : Pos} {g : Nat} {r : Resume} {s s' : Shared} {res : GenResult} (h : Wakes M Γ p g r s res s') : s.heap.objs.size ≤ s'.heap.objs.size := by
  unfold Wakes at h
  split at h
  · exact h.elim
  · split at h
    · obtain ⟨e₁, s₁, hr, _, _, rfl⟩ := h
      have := runs_size hr; exact this
    · rw [h.2]; exact Nat.le_refl _
    · rw [h.2]; exact Nat.le_refl _
  · obtain ⟨e₁, s₁, hr, _, _, rfl⟩ := h
    have := runs_size hr; exact this
  · rw [h.2]; exact Nat.le_refl _
  · rw [h.2]; exact Nat.le_refl _
theorem wp_size {α : Type} (M : Model) (Γ : Ctx) (n : Nat) (t : Sem α) : ∀ (Q : α → Pos → Shared → Prop) (E : Value → Pos → Shared → Prop) (p : Pos) (s : Shared), n ≤ s.heap.objs.size → Sem.wp M Γ t Q E p s →
    Sem.wp M Γ t (fun a p' s' => n ≤ s'.heap.objs.size ∧ Q a p' s') (fun e p' s' => n ≤ s'.heap.objs.size ∧ E e p' s') p s := by
  induction t with
  | call c hd _ _ k ih => intro Q E p s hn h; obtain ⟨r, s', hr, h⟩ := h; exact ⟨r, s', hr, ih r Q E p s' (Nat.le_trans hn (runs_size hr)) h⟩
  | resume g r _ k ih => intro Q E p s hn h; obtain ⟨res, s', hw, h⟩ := h; exact ⟨res, s', hw, ih res Q E p s' (Nat.le_trans hn (wakes_size hw)) h⟩
  | load a _ k ih => intro Q E p s hn h; obtain ⟨o, ho, h⟩ := h; exact ⟨o, ho, ih o Q E p s hn h⟩
  | update a _ f k ih => intro Q E p s hn h; exact ⟨h.1, ih () Q E p _ (by rw [Heap.size_update]; exact hn) h.2⟩
  | alloc o k ih => intro Q E p s hn h; exact ih _ Q E p _ (by show n ≤ (s.heap.push o).objs.size; rw [Heap.size_push]; exact Nat.le_succ_of_le hn) h
  | choose src m k ih => intro Q E p s hn h; exact ⟨h.1, ih _ Q E p _ hn h.2⟩
  | genState g k ih => intro Q E p s hn h; obtain ⟨st, hs, h⟩ := h; exact ⟨st, hs, ih _ Q E p s hn h⟩
  | rule _ k ih => intro Q E p s hn h; exact ih () Q E p s hn h
  | «at» p' k ih => intro Q E p s hn h; exact ih () Q E p' s hn h
  | loadIfAlive a k ih => intro Q E p s hn h; exact ih _ Q E p s hn h
  | point _ k ih => intro Q E p s hn h; exact ih () Q E p s hn h
  | fresh k ih => intro Q E p s hn h; exact ih _ Q E p _ hn h
  | ask k ih => intro Q E p s hn h; exact ih _ Q E p s hn h
  | os q _ k ih => intro Q E p s hn h; exact ih _ Q E p _ hn h
  | handled own k ih => intro Q E p s hn h; exact ih _ Q E p s hn h
  | newGen c k ih => intro Q E p s hn h; exact ih _ Q E p _ hn h
  | stack k ih => intro Q E p s hn h; exact ih _ Q E p s hn h
  | thread k ih => intro Q E p s hn h; exact ih _ Q E p s hn h
  | pure a => intro Q E p s hn h; exact ⟨hn, h⟩
  | raise e => intro Q E p s hn h; exact ⟨hn, h⟩
  | _ => intro Q E p s _ h; exact h
theorem wp_sized {α : Type} {M : Model} {A : Around} {t : Sem α} {Q : α → Shared → Prop} {E : Value → Shared → Prop} {s : Shared} (h : wpAny M A t (fun a s' => s.heap.objs.size ≤ s'.heap.objs.size → Q a s') E s) : wpAny M A t Q E s :=
  fun Γ p hΓ => Sem.wp_mono M Γ t (fun _ _ _ x => x.2 x.1) (fun _ _ _ x => x.2) p s (wp_size M Γ _ t _ _ p s (Nat.le_refl _) (h Γ p hΓ))

end
section
open PySem PySem.W PyProof.Rows PySem.Calls
set_option Elab.async false
set_option maxRecDepth 100000
set_option autoImplicit false
set_option linter.unusedVariables false

/-! one object of the call's own turns -/
noncomputable def NR (o : Obj) : Prop := ∀ vs q t, o.data = .fields vs → vs[1]? ≠ some (.str q t)
theorem tabs_keep' {c : Fx} {h h' : Heap} {μ : List Addr} {σ : Hp} (hi : HInv c h μ σ) {a : Addr} {o : Obj} (hs : Heap.ExtBut a h h') (ho : h.get? a = some o) (hm : isMut o = false) (hr : NR o) :
    ∀ t ∈ c.tabs, ∃ ps, h'.get? t.2.1 = some (tabObj ps) ∧ TriplesOk ps.toList ∧ ∀ pos cv, codeAmong pos ps.toList = some cv → h'.CodeRec cv t.2.2 := by
  intro t ht
  obtain ⟨ps, h1, h2, h3⟩ := hi.tabs t ht
  refine ⟨ps, hs _ _ (fun hb => ?_) h1, h2, fun pos cv e => ?_⟩
  · rw [hb, ho] at h1; cases h1
    unfold isMut at hm
    dsimp only [tabObj] at hm
    have hne : ∀ q t, ps[1]? ≠ some (.str q t) := fun q t => by
      have := h2
      obtain ⟨l, hl⟩ : ∃ l, ps.toList = l := ⟨_, rfl⟩
      rw [hl] at this
      match l, hl, this with
      | [], hl, _ => rw [show ps = #[] from Array.toList_eq_nil_iff.mp hl]; simp
      | .int a x :: .int b y :: z :: r, hl, _ =>
        intro e
        have : ps.toList[1]? = some (.str q t) := by rw [← e]; simp
        rw [hl] at this; simp at this
    split at hm
    · rename_i e; exact absurd e (hne _ _)
    · simp at hm
  · obtain ⟨b, x, vs, t', e1, g1, hd, hv⟩ := h3 pos cv e
    exact ⟨b, x, vs, t', e1, hs _ _ (fun hb => by rw [hb, ho] at g1; cases g1; exact hr vs _ _ hd hv) g1, hd, hv⟩
theorem HInv.other {c : Fx} {h h' : Heap} {μ : List Addr} {σ : Hp} (hi : HInv c h μ σ) {a : Addr} {o : Obj} (ho : h.get? a = some o) (hm : isMut o = false) (hr : NR o) (hg : c.g.get? a = none)
    (hs : Heap.SameBut a h h') : HInv c h' μ σ where
  ok := hi.ok
  keep := fun b x e => hs.extBut b x (fun hb => by rw [hb, hg] at e; cases e) (hi.keep b x e)
  size := by rw [hs.1]; exact hi.size
  tabs := tabs_keep' hi hs.extBut ho hm hr
  len := hi.len
  nodup := hi.nodup
  new := hi.new
  lst := fun n l e => by
    obtain ⟨b, vs, e1, ⟨k, e2⟩, e3⟩ := hi.lst n l e
    exact ⟨b, vs, e1, ⟨k, hs.extBut _ _ (fun hb => by rw [hb, ho] at e2; cases e2; cases hm) e2⟩, e3⟩

theorem mut_ns {h : Heap} {a : Addr} {m : Str → Option Value} (x : h.Ns a m) : ∃ o, h.get? a = some o ∧ isMut o = false ∧ NR o ∧ ∃ es ep, o.data = .dict es ep :=
  let ⟨o, es, ep, ho, hd, _⟩ := x; ⟨o, ho, by unfold isMut; rw [hd], fun vs q t e => by (rw [hd] at e; cases e), es, ep, hd⟩
theorem mut_cell {h : Heap} {a : Addr} {v : Option Value} (x : h.IsCell a v) : ∃ o, h.get? a = some o ∧ isMut o = false ∧ NR o ∧ o.data = .cell v :=
  let ⟨o, ho, hd⟩ := x; ⟨o, ho, by unfold isMut; rw [hd], fun vs q t e => by (rw [hd] at e; cases e), hd⟩

structure EvX (env : Env) (h h' : Heap) : Prop where
  keep : ∀ b o, h.get? b = some o → isMut o = false → b ≠ env.locals → (∀ x, env.kindOf x = some .cell → env.cells.lookup x ≠ some b) → h'.get? b = some o
theorem EvX.of {env : Env} {h h' : Heap} (e : Ev h h') : EvX env h h' := ⟨fun b o x m _ _ => e.keep b o x m⟩
theorem EvX.refl (env : Env) (h : Heap) : EvX env h h := .of (.refl h)
theorem EvX.trans {env : Env} {h₁ h₂ h₃ : Heap} (x : EvX env h₁ h₂) (y : EvX env h₂ h₃) : EvX env h₁ h₃ :=
  ⟨fun b o e m l k => y.keep b o (x.keep b o e m l k) m l k⟩

structure ResX (c : Fx) (env : Env) (s s' : Shared) (μ μ' : List Addr) (σ' : Hp) : Prop where
  same : ∃ h' t', s' = { s with heap := h', toks := t' }
  pre : μ <+: μ'
  ev : EvX env s.heap s'.heap
  inv : HInv c s'.heap μ' σ'
theorem ResX.of {c : Fx} {env : Env} {s s' : Shared} {μ μ' : List Addr} {σ' : Hp} (x : Res c s s' μ μ' σ') : ResX c env s s' μ μ' σ' := ⟨x.same, x.pre, .of x.ev, x.inv⟩
theorem ResX.trans {c : Fx} {env : Env} {s₁ s₂ s₃ : Shared} {μ₁ μ₂ μ₃ : List Addr} {σ₂ σ₃ : Hp} (x : ResX c env s₁ s₂ μ₁ μ₂ σ₂) (y : ResX c env s₂ s₃ μ₂ μ₃ σ₃) : ResX c env s₁ s₃ μ₁ μ₃ σ₃ := by
  obtain ⟨h, t, rfl⟩ := x.same
  obtain ⟨h', t', rfl⟩ := y.same
  exact ⟨⟨h', t', rfl⟩, x.pre.trans y.pre, x.ev.trans y.ev, y.inv⟩

noncomputable def noLam : V → Bool
  | .lam _ _ _ _ => false
  | _ => true

/-- where a name may be stored -/
noncomputable def StoreOk (env : Env) (ρ : Loc) (x : Str) : Prop :=
  env.kindOf x = some .local ∨ (env.kindOf x = some .cell ∧ (env.cells.lookup x).isSome = true ∧ ρ.all (fun p => noLam p.2) = true)

theorem VRel.nolam {c : Fx} {h h' : Heap} {μ : List Addr} (hk : ∀ b o, h.get? b = some o → isMut o = false → (∀ v, o.data ≠ .cell v) → (∀ es ep, o.data ≠ .dict es ep) → h'.get? b = some o) {v : V} {v' : Value} (hl : noLam v = true) (x : VRel c h μ v v') : VRel c h' μ v v' := by
  cases v with
  | lam => cases hl
  | tup =>
    obtain ⟨a, vs, e1, ⟨o, e2, e3, n, e4⟩, e5⟩ := x
    exact ⟨a, vs, e1, ⟨o, hk _ _ e2 (not_mut_tuple e3 e4) (fun v q => by rw [e4] at q; cases q) (fun _ _ q => by rw [e4] at q; cases q), e3, n, e4⟩, e5⟩
  | rng =>
    obtain ⟨r, t, u, w, e1, e2⟩ := x
    exact ⟨r, t, u, w, e1, hk _ _ e2 rfl (fun v q => by cases q) (fun _ _ q => by cases q)⟩
  | _ => exact x

theorem VRel.locals {c : Fx} {h h' : Heap} {μ : List Addr} (hk : ∀ b o, h.get? b = some o → isMut o = false → (∀ es ep, o.data ≠ .dict es ep) → h'.get? b = some o) {v : V} {v' : Value} (x : VRel c h μ v v') : VRel c h' μ v v' := by
  cases v with
  | tup =>
    obtain ⟨a, vs, e1, ⟨o, e2, e3, n, e4⟩, e5⟩ := x
    exact ⟨a, vs, e1, ⟨o, hk _ _ e2 (not_mut_tuple e3 e4) (fun _ _ q => by rw [e4] at q; cases q), e3, n, e4⟩, e5⟩
  | rng =>
    obtain ⟨r, t, u, w, e1, e2⟩ := x
    exact ⟨r, t, u, w, e1, hk _ _ e2 rfl (fun _ _ q => by cases q)⟩
  | lam =>
    obtain ⟨f, q, ps, cl, pm, cv, ctv, e1, e2, e3, e4, e5, e6, e7, ⟨b, o, vs, t, f1, f2, f3, f4⟩, e9⟩ := x
    refine ⟨f, q, ps, cl, pm, cv, ctv, e1, hk _ _ e2 rfl (fun _ _ q => by cases q), e3, e4, e5, e6, e7, ⟨b, o, vs, t, f1, hk _ _ f2 (not_mut_rec f3 f4) (fun _ _ q => by rw [f3] at q; cases q), f3, f4⟩, fun y n hm => ?_⟩
    obtain ⟨cx, a, g1, ⟨o', g2, g3⟩, g4⟩ := e9 y n hm
    exact ⟨cx, a, g1, ⟨o', hk _ _ g2 (by unfold isMut; rw [g3]) (fun _ _ q => by rw [g3] at q; cases q), g3⟩, g4⟩
  | _ => exact x

theorem wp_store {c : Fx} {env : Env} {ρ : Loc} {σ : Hp} {x : Str} {v : V} {v' : Value} {s : Shared} {μ : List Addr} {A : Around} {E : Value → Shared → Prop} {R : Unit → Shared → Prop}
    (hi : HInv c s.heap μ σ) (he : EnvOk c env ρ μ s.heap) (hx : StoreOk env ((x, v) :: ρ) x) (hv : VRel c s.heap μ v v')
    (k : ∀ h' t', ResX c env s { s with heap := h', toks := t' } μ μ σ → EnvOk c env ((x, v) :: ρ) μ h' → (∀ b o, s.heap.get? b = some o → b ≠ env.locals → (env.kindOf x = some .cell → env.cells.lookup x ≠ some b) → h'.get? b = some o) → R () { s with heap := h', toks := t' }) : wpAny (model c.prog c.w) A (storeName env x v') R E s := by
  obtain ⟨m, hn, hvar⟩ := he.var
  have kl : ∀ y, y ≠ x → List.lookup y ((x, v) :: ρ) = ρ.lookup y := fun y hy => by
    rw [List.lookup_cons]; simp [beq_eq_false_iff_ne.mpr hy]
  rcases hx with hx | ⟨hx, hc, hl⟩
  · refine wpAny_storeName_local hx hn (fun h' hn' hs => ?_) (by rw [he.kind]; rfl)
    obtain ⟨oL, g1, g2, g3, es, ep, g4⟩ := mut_ns hn
    have kd : ∀ b o, s.heap.get? b = some o → isMut o = false → (∀ es ep, o.data ≠ .dict es ep) → h'.get? b = some o := fun b o e _ hd => hs.extBut b o (fun hb => by rw [hb, g1] at e; cases e; exact hd _ _ g4) e
    have ic : ∀ {b w}, s.heap.IsCell b w → h'.IsCell b w := fun ⟨o, ho, hd⟩ => ⟨o, kd _ _ ho (by unfold isMut; rw [hd]) (fun _ _ q => by rw [hd] at q; cases q), hd⟩
    refine k h' (s.toks + 1) ⟨⟨_, _, rfl⟩, List.prefix_rfl, ⟨fun b o e _ hb _ => hs.extBut b o hb e⟩, hi.other g1 g2 g3 (Heap.get?_none_of_le he.new) hs⟩ ⟨he.kind, he.glob, he.bi, ⟨_, hn', fun y u hy => ?_⟩, he.new, fun y cx hk hcx => ?_, he.apart⟩ fun b o e hb _ => hs.extBut b o hb e
    · by_cases hyx : y = x
      · subst hyx
        rw [List.lookup_cons, beq_self_eq_true] at hy; cases hy
        exact ⟨v', VRel.locals kd hv, .inl ⟨hx, by simp⟩⟩
      · rw [kl y hyx] at hy
        obtain ⟨u', r, l⟩ := hvar y u hy
        refine ⟨u', VRel.locals kd r, ?_⟩
        rcases l with ⟨l1, l2⟩ | ⟨l1, cx, l2, l3⟩
        · exact .inl ⟨l1, by simp [hyx, l2]⟩
        · exact .inr ⟨l1, cx, l2, ic l3⟩
    · obtain ⟨w, z, iz⟩ := he.cellnew y cx hk hcx
      exact ⟨w, z, ic iz⟩
  · obtain ⟨cx, hcx⟩ := Option.isSome_iff_exists.mp hc
    obtain ⟨gn, v0, i0⟩ := he.cellnew x cx hx hcx
    refine wpAny_storeName_cell he.kind hx hcx i0 fun h' hc' hs => ?_
    obtain ⟨oL, g1, g2, g3, g4⟩ := mut_cell i0
    have hLc : env.locals ≠ cx := fun hb => by
      obtain ⟨o2, f1, f2, f3, es, ep, f4⟩ := mut_ns hn
      rw [hb, g1] at f1; cases f1; rw [g4] at f4; cases f4
    have kd : ∀ b o, s.heap.get? b = some o → isMut o = false → (∀ v, o.data ≠ .cell v) → (∀ es ep, o.data ≠ .dict es ep) → h'.get? b = some o := fun b o e _ hd _ => hs.extBut b o (fun hb => by rw [hb, g1] at e; cases e; exact hd _ g4) e
    have ic : ∀ {b w}, b ≠ cx → s.heap.IsCell b w → h'.IsCell b w := fun hb ⟨o, ho, hd⟩ => ⟨o, hs.extBut _ _ hb ho, hd⟩
    rw [List.all_cons, Bool.and_eq_true] at hl
    refine k h' s.toks ⟨⟨_, _, rfl⟩, List.prefix_rfl, ⟨fun b o e _ _ hb => hs.extBut b o (fun q => hb x hx (q ▸ hcx)) e⟩, hi.other g1 g2 g3 gn hs⟩ ⟨he.kind, he.glob, he.bi, ⟨m, hn.sameBut hs hLc, fun y u hy => ?_⟩, he.new, fun y cy hk hcy => ?_, he.apart⟩ fun b o e _ hb => hs.extBut b o (fun q => hb hx (q ▸ hcx)) e
    · by_cases hyx : y = x
      · subst hyx
        rw [List.lookup_cons, beq_self_eq_true] at hy; cases hy
        exact ⟨v', VRel.nolam kd hl.1 hv, .inr ⟨.inl hx, cx, hcx, hc'⟩⟩
      · rw [kl y hyx] at hy
        obtain ⟨u', r, l⟩ := hvar y u hy
        have hmem : (y, u) ∈ ρ := mem_of_lookup hy
        refine ⟨u', VRel.nolam kd (List.all_eq_true.mp hl.2 _ hmem) r, ?_⟩
        rcases l with l | ⟨l1, cy, l2, l3⟩
        · exact .inl l
        · refine .inr ⟨l1, cy, l2, ic (fun hb => hyx ?_) l3⟩
          subst hb
          exact he.apart x y cy hx hcx l2
    · obtain ⟨w, z, iz⟩ := he.cellnew y cy hk hcy
      by_cases hb : cy = cx
      · exact ⟨w, some v', hb ▸ hc'⟩
      · exact ⟨w, z, ic hb iz⟩

/-! statements -/
inductive FV where
  | nx | br | ct | rt (v : V)

noncomputable def FRel (c : Fx) (h : Heap) (μ : List Addr) : FV → Flow → Prop
  | .nx, f => f = .next
  | .br, f => f = .brk
  | .ct, f => f = .cont
  | .rt v, f => ∃ v', f = .ret v' ∧ VRel c h μ v v'

noncomputable def PostX (c : Fx) (env : Env) (s : Shared) (μ : List Addr) (Q : FV → Loc → Hp → Prop) (f : Flow) (s' : Shared) : Prop :=
  ∃ fl ρ' σ' μ', Q fl ρ' σ' ∧ FRel c s'.heap μ' fl f ∧ ResX c env s s' μ μ' σ' ∧ EnvOk c env ρ' μ' s'.heap
theorem PostX.trans {c : Fx} {env : Env} {s s₁ s' : Shared} {μ μ₁ : List Addr} {σ₁ : Hp} {Q : FV → Loc → Hp → Prop} {f : Flow} (x : ResX c env s s₁ μ μ₁ σ₁) (y : PostX c env s₁ μ₁ Q f s') : PostX c env s μ Q f s' :=
  let ⟨fl, ρ', σ', μ', q, r, z, e⟩ := y; ⟨fl, ρ', σ', μ', q, r, x.trans z, e⟩

noncomputable def SX (c : Fx) (d : Nat) (env : Env) (st : Stmt) (ρ : Loc) (σ : Hp) (Q : FV → Loc → Hp → Prop) : Prop :=
  ∀ (A : Around) (E : Value → Shared → Prop) (s : Shared) (μ : List Addr), AOk d A → HInv c s.heap μ σ → EnvOk c env ρ μ s.heap →
    wpAny (model c.prog c.w) A (exec st env) (PostX c env s μ Q) E s
noncomputable def SXs (c : Fx) (d : Nat) (env : Env) (sts : List Stmt) (ρ : Loc) (σ : Hp) (Q : FV → Loc → Hp → Prop) : Prop :=
  ∀ (A : Around) (E : Value → Shared → Prop) (s : Shared) (μ : List Addr), AOk d A → HInv c s.heap μ σ → EnvOk c env ρ μ s.heap →
    wpAny (model c.prog c.w) A (execs sts env) (PostX c env s μ Q) E s

noncomputable def Then (k : Loc → Hp → Prop) (Q : FV → Loc → Hp → Prop) : FV → Loc → Hp → Prop
  | .nx, ρ, σ => k ρ σ
  | f, ρ, σ => Q f ρ σ

section
variable {c : Fx} {d : Nat} {env : Env} {ρ : Loc} {σ : Hp} {Q : FV → Loc → Hp → Prop}

theorem SXs_nil (q : Q .nx ρ σ) : SXs c d env [] ρ σ Q := fun A E s μ ha hi he => wpAny_execs_nil ⟨_, _, _, _, q, rfl, .of (.refl hi), he⟩
theorem SXs_cons {st : Stmt} {rest : List Stmt} (h : SX c d env st ρ σ (Then (fun ρ' σ' => SXs c d env rest ρ' σ' Q) Q)) : SXs c d env (st :: rest) ρ σ Q := fun A E s μ ha hi he =>
  wpAny_execs_cons (wpAny_mono (h A E s μ ha hi he) (fun f s₁ ⟨fl, ρ₁, σ₁, μ₁, q, r, x, e⟩ => by
    cases fl with
    | nx => cases r; exact wpAny_mono (q A E s₁ μ₁ ha x.inv e) (fun _ _ p => PostX.trans x p) fun _ _ e => e
    | br => cases r; exact ⟨.br, ρ₁, σ₁, μ₁, q, rfl, x, e⟩
    | ct => cases r; exact ⟨.ct, ρ₁, σ₁, μ₁, q, rfl, x, e⟩
    | rt v => obtain ⟨v', rfl, r⟩ := r; exact ⟨.rt v, ρ₁, σ₁, μ₁, q, ⟨v', rfl, r⟩, x, e⟩) fun _ _ e => e)
theorem SXs_one {st : Stmt} (h : SX c d env st ρ σ Q) : SXs c d env [st] ρ σ Q := SXs_cons fun A E s μ ha hi he => wpAny_mono (h A E s μ ha hi he) (fun f s₁ ⟨fl, ρ₁, σ₁, μ₁, q, r, x, e⟩ => by
  cases fl with
  | nx => exact ⟨.nx, ρ₁, σ₁, μ₁, SXs_nil q, r, x, e⟩
  | br => exact ⟨.br, ρ₁, σ₁, μ₁, q, r, x, e⟩
  | ct => exact ⟨.ct, ρ₁, σ₁, μ₁, q, r, x, e⟩
  | rt v => exact ⟨.rt v, ρ₁, σ₁, μ₁, q, r, x, e⟩) fun _ _ e => e

theorem EnvOk.sub {μ : List Addr} {h : Heap} {ρ' : Loc} (he : EnvOk c env ρ μ h) (hs : ∀ p ∈ ρ', ρ.lookup p.1 = some p.2) : EnvOk c env ρ' μ h where
  kind := he.kind
  glob := he.glob
  bi := he.bi
  new := he.new
  cellnew := he.cellnew
  apart := he.apart
  var := let ⟨m, hn, hv⟩ := he.var; ⟨m, hn, fun x v hx => hv x v (hs (x, v) (mem_of_lookup hx))⟩
theorem SXs_sub {sts : List Stmt} (ρ' : Loc) (hs : ∀ p ∈ ρ', ρ.lookup p.1 = some p.2) (h : SXs c d env sts ρ' σ Q) : SXs c d env sts ρ σ Q := fun A E s μ ha hi he => h A E s μ ha hi (he.sub hs)
theorem SXs_mono {sts : List Stmt} {Q' : FV → Loc → Hp → Prop} (h : SXs c d env sts ρ σ Q) (k : ∀ f ρ' σ', Q f ρ' σ' → Q' f ρ' σ') : SXs c d env sts ρ σ Q' :=
  fun A E s μ ha hi he => wpAny_mono (h A E s μ ha hi he) (fun _ _ ⟨fl, ρ₁, σ₁, μ₁, q, r⟩ => ⟨fl, ρ₁, σ₁, μ₁, k _ _ _ q, r⟩) fun _ _ e => e
theorem SX_mono {st : Stmt} {Q' : FV → Loc → Hp → Prop} (h : SX c d env st ρ σ Q) (k : ∀ f ρ' σ', Q f ρ' σ' → Q' f ρ' σ') : SX c d env st ρ σ Q' :=
  fun A E s μ ha hi he => wpAny_mono (h A E s μ ha hi he) (fun _ _ ⟨fl, ρ₁, σ₁, μ₁, q, r⟩ => ⟨fl, ρ₁, σ₁, μ₁, k _ _ _ q, r⟩) fun _ _ e => e

theorem SX_assign {x : Str} {px pos : Pos} {value : Expr} (hs : swapsWith value (some (.Name x px)) pos.line env = pure false)
    (h : SE c d env value ρ σ fun v σ₁ => StoreOk env ((x, v) :: ρ) x ∧ Q .nx ((x, v) :: ρ) σ₁) : SX c d env (.Assign [.Name x px] value pos) ρ σ Q := fun A E s μ ha hi he =>
  wpAny_Assign_Name (hs := hs) (wp_seq (h A E s μ ha hi he) fun v v' σ₁ μ₁ s₁ q r z => wp_store z.inv (he.mono z.ev z.pre) q.1 r fun h' t' y e' _ => ⟨.nx, _, _, _, q.2, rfl, (ResX.of z).trans y, e'⟩)

theorem SX_if {test : Expr} {body orelse : List Stmt} {pos : Pos} (h : SB c d env test ρ σ fun b σ₁ => (b = true → SXs c d env body ρ σ₁ Q) ∧ (b = false → SXs c d env orelse ρ σ₁ Q)) :
    SX c d env (.If test body orelse pos) ρ σ Q := fun A E s μ ha hi he => wpAny_If (wpAny_mono (h A E s μ ha hi he) (fun b s₁ ⟨σ₁, μ₁, q, z⟩ => by
  cases b with
  | true => exact wpAny_mono (q.1 rfl A E s₁ μ₁ ha z.inv (he.mono z.ev z.pre)) (fun _ _ p => PostX.trans (.of z) p) fun _ _ e => e
  | false => exact wpAny_mono (q.2 rfl A E s₁ μ₁ ha z.inv (he.mono z.ev z.pre)) (fun _ _ p => PostX.trans (.of z) p) fun _ _ e => e) fun _ _ e => e)

theorem SX_return {e : Expr} {pos : Pos} (h : SE c d env e ρ σ fun v σ₁ => Q (.rt v) ρ σ₁) : SX c d env (.Return (some e) pos) ρ σ Q := fun A E s μ ha hi he =>
  wpAny_Return_some (wp_seq (h A E s μ ha hi he) fun v v' σ₁ μ₁ s₁ q r z => ⟨.rt v, _, _, _, q, ⟨v', rfl, r⟩, .of z, he.mono z.ev z.pre⟩)

theorem SX_aug {x : Str} {px pos : Pos} {op : Operator} {value : Expr} {v : V} (hx : ρ.lookup x = some v)
    (h : SE c d env value ρ σ fun b σ₁ => INP c d op v b σ₁ fun r σ₂ => StoreOk env ((x, r) :: ρ) x ∧ Q .nx ((x, r) :: ρ) σ₂) : SX c d env (.AugAssign (.Name x px) op value pos) ρ σ Q := fun A E s μ ha hi he =>
  wpAny_AugAssign_Name (wp_load he hx fun va ra => wp_seq (h A E s μ ha hi he) fun b vb σ₁ μ₁ s₁ q r z => wp_seq (q A E s₁ μ₁ va vb ha z.inv (ra.mono z.ev z.pre) r) fun w vw σ₂ μ₂ s₂ q₂ r₂ z₂ =>
    wp_store z₂.inv (he.mono (z.trans z₂).ev (z.trans z₂).pre) q₂.1 r₂ fun h' t' y e' _ => ⟨.nx, _, _, _, q₂.2, rfl, (ResX.of (z.trans z₂)).trans y, e'⟩)

theorem SX_expr {e : Expr} {pos : Pos} (hi' : interactive env = false) (hs : swapsWith e none pos.line env = pure false) (h : SE c d env e ρ σ fun _ σ₁ => Q .nx ρ σ₁) : SX c d env (.Expr e pos) ρ σ Q := fun A E s μ ha hi he =>
  wpAny_Expr_any (hi := hi') (hs := hs) (wp_seq (h A E s μ ha hi he) fun v v' σ₁ μ₁ s₁ q r z => ⟨.nx, _, _, _, q, rfl, .of z, he.mono z.ev z.pre⟩)
theorem SX_assert {test : Expr} {msg : Option Expr} {pos : Pos} (h : SB c d env test ρ σ fun b σ₁ => b = true ∧ Q .nx ρ σ₁) : SX c d env (.Assert test msg pos) ρ σ Q := fun A E s μ ha hi he =>
  wpAny_Assert_holds (wpAny_mono (h A E s μ ha hi he) (fun b s₁ ⟨σ₁, μ₁, q, z⟩ => ⟨q.1, .nx, _, _, _, q.2, rfl, .of z, he.mono z.ev z.pre⟩) fun _ _ e => e)
theorem SX_break {pos : Pos} (q : Q .br ρ σ) : SX c d env (.Break pos) ρ σ Q := fun A E s μ ha hi he => wpAny_Break ⟨.br, _, _, _, q, rfl, .of (.refl hi), he⟩

/-! op= -/
theorem INP_add {i j : Int} {Q : V → Hp → Prop} (q : Q (.int (i + j)) σ) : INP c d .Add (.int i) (.int j) σ Q := by
  rintro A E s μ va vb ha hi ⟨t, rfl⟩ ⟨u, rfl⟩; exact wpAny_iadd_int (.of q ⟨_, rfl⟩ (.toks hi _))

/-! while -/
theorem SX_while {test : Expr} {body orelse : List Stmt} {pos : Pos} (I : Nat → Loc → Hp → Prop)
    (turn : ∀ n ρ σ, I n ρ σ → SB c d env test ρ σ fun b σ₁ => (b = true → SXs c d env body ρ σ₁ fun f ρ₂ σ₂ => match f with
        | .nx | .ct => ∃ m, m < n ∧ I m ρ₂ σ₂
        | .br => Q .nx ρ₂ σ₂
        | .rt v => Q (.rt v) ρ₂ σ₂) ∧ (b = false → SXs c d env orelse ρ σ₁ Q))
    (n : Nat) (h : I n ρ σ) : SX c d env (.While test body orelse pos) ρ σ Q := fun A E s μ ha hi he => by
  refine wpAny_While ?_
  refine codeAny_whileLoop (fun n s' => ∃ ρ' σ' μ', I n ρ' σ' ∧ ResX c env s s' μ μ' σ' ∧ EnvOk c env ρ' μ' s'.heap) (fun n s₁ ⟨ρ₁, σ₁, μ₁, hI, x, e⟩ => ?_) n ⟨ρ, σ, μ, h, .of (.refl hi), he⟩
  refine wpAny_mono (turn n ρ₁ σ₁ hI A _ s₁ μ₁ ha x.inv e) (fun b s₂ ⟨σ₂, μ₂, q, z⟩ => ?_) fun _ _ e => e
  cases b with
  | true =>
    rw [if_pos rfl]
    refine wpAny_mono (q.1 rfl A _ s₂ μ₂ ha z.inv (e.mono z.ev z.pre)) (fun f s₃ ⟨fl, ρ₃, σ₃, μ₃, q₃, r₃, x₃, e₃⟩ => ?_) fun _ _ e => e
    have xx := (x.trans (.of z)).trans x₃
    cases fl with
    | nx => cases r₃; obtain ⟨m, hm, hI'⟩ := q₃; exact ⟨m, hm, ρ₃, σ₃, μ₃, hI', xx, e₃⟩
    | ct => cases r₃; obtain ⟨m, hm, hI'⟩ := q₃; exact ⟨m, hm, ρ₃, σ₃, μ₃, hI', xx, e₃⟩
    | br => cases r₃; exact ⟨.nx, ρ₃, σ₃, μ₃, q₃, rfl, xx, e₃⟩
    | rt v => obtain ⟨v', rfl, r⟩ := r₃; exact ⟨.rt v, ρ₃, σ₃, μ₃, q₃, ⟨v', rfl, r⟩, xx, e₃⟩
  | false =>
    rw [if_neg (by decide)]
    exact wpAny_mono (q.2 rfl A _ s₂ μ₂ ha z.inv (e.mono z.ev z.pre)) (fun f s₃ p => PostX.trans (x.trans (.of z)) p) fun _ _ e => e
end

end
section
open PySem PySem.W PyProof.Rows PySem.Calls
set_option Elab.async false
set_option maxRecDepth 100000
set_option autoImplicit false
set_option linter.unusedVariables false

noncomputable def rngItems (a b : Int) : List V := (List.range (b - a).toNat).map fun i => V.int (a + (i : Nat))
noncomputable def Items (σ : Hp) : V → List V → Prop
  | .ref n, l => σ[n]? = some l
  | .tup l', l => l' = l
  | .fl l', l => l' = l
  | .rng a b, l => rngItems a b = l ∧ (-(2 ^ 40) ≤ a ∧ b ≤ 2 ^ 40) ∧ -(2 ^ 40) ≤ b ∧ a ≤ 2 ^ 40
  | _, _ => False

noncomputable def ItSt (c : Fx) (h : Heap) (μ : List Addr) (it : Addr) (k : Nat) : V → Prop
  | .ref n => ∃ a, μ[n]? = some a ∧ h.IsListIter it a k
  | .tup l => ∃ a vs, h.IsTupleIter it a k ∧ h.IsTuple a vs.toArray ∧ ARels μ l vs
  | .fl l => ∃ a vs, h.IsListIter it a k ∧ KFrozen c a vs ∧ ARels μ l vs
  | .rng a b => IsRangeIter h it (a + k) (((b - a).toNat : Int) - k) 1
  | _ => False

theorem mut_listIter {h : Heap} {it a : Addr} {k : Nat} (x : h.IsListIter it a k) : ∃ o, h.get? it = some o ∧ isMut o = false ∧ NR o ∧ (∀ v, o.data ≠ .cell v) ∧ ∀ es ep, o.data ≠ .dict es ep :=
  let ⟨o, ho, hc, hd⟩ := x; ⟨o, ho, by unfold isMut; rw [hd, hc]; rfl, fun vs q t e => by (rw [hd] at e; cases e; simp), fun v e => by (rw [hd] at e; cases e), fun _ _ e => by (rw [hd] at e; cases e)⟩
theorem mut_tupIter {h : Heap} {it a : Addr} {k : Nat} (x : h.IsTupleIter it a k) : ∃ o, h.get? it = some o ∧ isMut o = false ∧ NR o ∧ (∀ v, o.data ≠ .cell v) ∧ ∀ es ep, o.data ≠ .dict es ep :=
  let ⟨o, ho, hc, hd⟩ := x; ⟨o, ho, by unfold isMut; rw [hd, hc]; rfl, fun vs q t e => by (rw [hd] at e; cases e; simp), fun v e => by (rw [hd] at e; cases e), fun _ _ e => by (rw [hd] at e; cases e)⟩

theorem ItSt.mut {c : Fx} {h : Heap} {μ : List Addr} {it : Addr} {k : Nat} : ∀ {v : V}, ItSt c h μ it k v → ∃ o, h.get? it = some o ∧ isMut o = false ∧ NR o ∧ (∀ v, o.data ≠ .cell v) ∧ ∀ es ep, o.data ≠ .dict es ep
  | .ref _, ⟨a, _, x⟩ => mut_listIter x
  | .fl _, ⟨a, _, x, _⟩ => mut_listIter x
  | .tup _, ⟨a, _, x, _⟩ => mut_tupIter x
  | .rng _ _, x => ⟨_, x, rfl, (fun vs q t e => by cases e; simp [rawInt]), (fun v e => by cases e), fun _ _ e => by cases e⟩

noncomputable def IsItr (o : Obj) : Prop := (∃ vs, o.data = .fields vs) ∧ (o.cls = .type "list_iterator" ∨ o.cls = .type "tuple_iterator" ∨ o.cls = .type "range_iterator")
theorem ItSt.itr {c : Fx} {h : Heap} {μ : List Addr} {it : Addr} {k : Nat} : ∀ {v : V}, ItSt c h μ it k v → ∃ o, h.get? it = some o ∧ IsItr o
  | .ref _, ⟨a, _, o, ho, hc, hd⟩ => ⟨o, ho, ⟨_, hd⟩, .inl hc⟩
  | .fl _, ⟨a, _, ⟨o, ho, hc, hd⟩, _⟩ => ⟨o, ho, ⟨_, hd⟩, .inl hc⟩
  | .tup _, ⟨a, _, ⟨o, ho, hc, hd⟩, _⟩ => ⟨o, ho, ⟨_, hd⟩, .inr (.inl hc)⟩
  | .rng _ _, x => ⟨_, x, ⟨_, rfl⟩, .inr (.inr rfl)⟩

theorem ItSt.keep {c : Fx} {h h' : Heap} {μ μ' : List Addr} {it : Addr} {k : Nat} (hk : ∀ b o, h.get? b = some o → isMut o = false → (∀ v, o.data ≠ .cell v) → (∀ es ep, o.data ≠ .dict es ep) → h'.get? b = some o) (p : μ <+: μ') :
    ∀ {v : V}, ItSt c h μ it k v → ItSt c h' μ' it k v
  | .ref _, ⟨a, e, x⟩ => by
    obtain ⟨o, g1, g2, g3, g4, g5⟩ := mut_listIter x
    obtain ⟨o', ho, r⟩ := x
    rw [g1] at ho; cases ho
    exact ⟨a, pre_get p e, o, hk _ _ g1 g2 g4 g5, r⟩
  | .fl _, ⟨a, vs, x, f, r⟩ => by
    obtain ⟨o, g1, g2, g3, g4, g5⟩ := mut_listIter x
    obtain ⟨o', ho, q⟩ := x
    rw [g1] at ho; cases ho
    exact ⟨a, vs, ⟨o, hk _ _ g1 g2 g4 g5, q⟩, f, r.pre p⟩
  | .tup _, ⟨a, vs, x, ⟨ot, t1, t2, n, t3⟩, r⟩ => by
    obtain ⟨o, g1, g2, g3, g4, g5⟩ := mut_tupIter x
    obtain ⟨o', ho, q⟩ := x
    rw [g1] at ho; cases ho
    exact ⟨a, vs, ⟨o, hk _ _ g1 g2 g4 g5, q⟩, ⟨ot, hk _ _ t1 (not_mut_tuple t2 t3) (fun _ e => by rw [t3] at e; cases e) (fun _ _ e => by rw [t3] at e; cases e), t2, n, t3⟩, r.pre p⟩
  | .rng _ _, x => hk _ _ x rfl (fun v e => by cases e) (fun _ _ e => by cases e)

theorem ItSt.evx {c : Fx} {env : Env} {ρ : Loc} {h h' : Heap} {μ μ' : List Addr} {it : Addr} {k : Nat} {v : V} (x : ItSt c h μ it k v) (he : EnvOk c env ρ μ h) (e : EvX env h h') (p : μ <+: μ') : ItSt c h' μ' it k v :=
  x.keep (fun b o ho hm hc hd => e.keep b o ho hm (fun hb => by
    obtain ⟨m, hn, _⟩ := he.var
    obtain ⟨o2, f1, _, _, es, ep, f4⟩ := mut_ns hn
    rw [hb, f1] at ho; cases ho; exact hd _ _ f4) (fun y hy hl => by
    obtain ⟨_, w, i⟩ := he.cellnew y b hy hl
    obtain ⟨o2, f1, _, _, f4⟩ := mut_cell i
    rw [f1] at ho; cases ho; exact hc _ f4)) p

theorem rng_size (a b : Int) : Builtin.Range.rangeSize a b 1 = ((b - a).toNat : Int) := by
  rw [rangeSize_one]; split <;> omega
theorem rng_small {a b : Int} (ha : -(2 ^ 40) ≤ a) (hb : b ≤ 2 ^ 40) (hb' : -(2 ^ 40) ≤ b) (ha' : a ≤ 2 ^ 40) : Builtin.Range.small a b 1 = true := by
  unfold Builtin.Range.small
  rw [rng_size]
  unfold Builtin.Range.rangeFitsLong
  simp only [Bool.and_eq_true, decide_eq_true_eq, Bool.or_eq_true]
  refine ⟨⟨⟨⟨?_, ?_⟩, ?_⟩, ?_⟩, .inr ?_⟩ <;> first | omega | (rw [if_pos (by decide)]; simp only [Bool.and_eq_true, decide_eq_true_eq]; omega)

theorem wp_iter {c : Fx} {σ : Hp} {v : V} {items : List V} {v' : Value} {s : Shared} {μ : List Addr} {A : Around} {E : Value → Shared → Prop} {R : Value → Shared → Prop}
    (hi : HInv c s.heap μ σ) (hv : VRel c s.heap μ v v') (hit : Items σ v items)
    (k : ∀ o, ItSt c (s.heap.push o) μ s.heap.objs.size 0 v → R (.ref s.heap.objs.size) { s with heap := s.heap.push o }) : wpAny (model c.prog c.w) A (pyIter v') R E s := by
  cases v with
  | none => cases hit
  | bool => cases hit
  | int => cases hit
  | str => cases hit
  | lam => cases hit
  | obj => cases hit
  | ref n =>
    obtain ⟨a, rfl, ea⟩ := hv
    obtain ⟨vs, hp, hr, hz⟩ := hi.get hit ea
    exact wpAny_pyIter_list hp.isList (k _ ⟨a, ea, _, Heap.get?_push_size _ rfl, rfl, rfl⟩)
  | fl l =>
    obtain ⟨a, vs, rfl, hf, hr, hz⟩ := hv
    have hp : s.heap.IsList a vs.toArray := let ⟨o, ho, r⟩ := hf; ⟨o, hi.keep _ _ ho, r⟩
    exact wpAny_pyIter_list hp (k _ ⟨a, vs, ⟨_, Heap.get?_push_size _ rfl, rfl, rfl⟩, hf, hr⟩)
  | tup l =>
    obtain ⟨a, vs, rfl, hf, hr, hz⟩ := hv
    exact wpAny_pyIter_tuple hf (k _ ⟨a, vs, ⟨_, Heap.get?_push_size _ rfl, rfl, rfl⟩, isTuple_ev (Ev.push _ _) hf, hr⟩)
  | rng a b =>
    obtain ⟨r, t, u, w, rfl, hr⟩ := hv
    obtain ⟨_, ⟨h1, h2⟩, h3, h4⟩ := hit
    refine wpAny_pyIter_range hr (rng_small h1 h2 h3 h4) (k _ ?_)
    show _ = _
    rw [Heap.get?_push_size _ rfl, rng_size]
    simp

theorem wp_next {c : Fx} {d : Nat} {σ : Hp} {v : V} {items : List V} {s : Shared} {μ : List Addr} {A : Around} {E : Value → Shared → Prop} {R : Option Value → Shared → Prop} {it : Addr} {j : Nat}
    (ha : AOk d A) (hi : HInv c s.heap μ σ) (hit : Items σ v items) (hs : ItSt c s.heap μ it j v) (hg : c.g.objs.size ≤ it)
    (k1 : ∀ u u' h' t', items[j]? = some u → ARel μ u u' → ItSt c h' μ it (j + 1) v → Heap.SameBut it s.heap h' → R (some u') { s with heap := h', toks := t' })
    (k2 : ∀ h' t', items[j]? = none → Heap.ExtBut it s.heap h' → R none { s with heap := h', toks := t' }) (hj : j ≤ items.length) : wpAny (model c.prog c.w) A (pyNext (.ref it)) R E s := by
  cases v with
  | none => cases hit
  | bool => cases hit
  | int => cases hit
  | str => cases hit
  | lam => cases hit
  | obj => cases hit
  | ref n =>
    obtain ⟨a, ea, x⟩ := hs
    obtain ⟨vs, hp, hr, hz⟩ := hi.get hit ea
    have hlen := hr.length
    cases hq : items[j]? with
    | some u =>
      obtain ⟨u', hu, ru⟩ := paired_get hr hq
      exact wpAny_pyNext_list_item x hp.isList (x := u') (by simpa using hu) fun h' x' hsb => k1 u u' h' _ hq ru ⟨a, ea, x'⟩ hsb
    | none => exact wpAny_pyNext_list_end ha.han x hp.isList (by rw [List.getElem?_toArray, List.getElem?_eq_none_iff, ← hlen]; exact List.getElem?_eq_none_iff.mp hq) fun h' hsb => k2 h' _ hq hsb
  | fl l =>
    obtain ⟨a, vs, x, hf, hr⟩ := hs
    cases hit
    have hp : s.heap.IsList a vs.toArray := let ⟨o, ho, r⟩ := hf; ⟨o, hi.keep _ _ ho, r⟩
    have hlen := hr.length
    cases hq : items[j]? with
    | some u =>
      obtain ⟨u', hu, ru⟩ := paired_get hr hq
      exact wpAny_pyNext_list_item x hp (x := u') (by simpa using hu) fun h' x' hsb => k1 u u' h' _ hq ru ⟨a, vs, x', hf, hr⟩ hsb
    | none => exact wpAny_pyNext_list_end ha.han x hp (by rw [List.getElem?_toArray, List.getElem?_eq_none_iff, ← hlen]; exact List.getElem?_eq_none_iff.mp hq) fun h' hsb => k2 h' _ hq hsb
  | tup l =>
    obtain ⟨a, vs, x, hf, hr⟩ := hs
    cases hit
    have hlen := hr.length
    cases hq : items[j]? with
    | some u =>
      obtain ⟨u', hu, ru⟩ := paired_get hr hq
      refine wpAny_pyNext_tuple_item x hf (x := u') (by simpa using hu) fun h' x' hsb => k1 u u' h' _ hq ru ⟨a, vs, x', ?_, hr⟩ hsb
      obtain ⟨o, ho, hc, n, hd⟩ := hf
      refine ⟨o, hsb.extBut _ _ (fun hb => ?_) ho, hc, n, hd⟩
      obtain ⟨o2, f1, f2, f3⟩ := x
      rw [hb, f1] at ho; cases ho; rw [hd] at f3; cases f3
    | none => exact wpAny_pyNext_tuple_end ha.han x hf (by rw [List.getElem?_toArray, List.getElem?_eq_none_iff, ← hlen]; exact List.getElem?_eq_none_iff.mp hq) fun h' hsb => k2 h' _ hq hsb
  | rng a b =>
    obtain ⟨rfl, _⟩ := hit
    have hl : (rngItems a b).length = (b - a).toNat := by unfold rngItems; simp
    have x : IsRangeIter s.heap it (a + j) (((b - a).toNat : Int) - j) 1 := hs
    by_cases hjb : j < (b - a).toNat
    · have hq : (rngItems a b)[j]? = some (.int (a + j)) := by unfold rngItems; simp [hjb]
      refine wpAny_pyNext_range_item x (by omega) fun h' x' hsb => k1 _ _ h' _ hq ⟨_, rfl⟩ ?_ hsb
      show _ = _
      rw [x']
      have e1 : a + (j : Int) + 1 = a + ((j + 1 : Nat) : Int) := by omega
      have e2 : (((b - a).toNat : Int) - j) - 1 = ((b - a).toNat : Int) - ((j + 1 : Nat) : Int) := by omega
      rw [e1, e2]
    · have hq : (rngItems a b)[j]? = none := by rw [List.getElem?_eq_none_iff, hl]; omega
      exact wpAny_pyNext_range_end ha.han x (by omega) fun h' hsb => k2 h' _ hq hsb

/-- the iterator's own turn keeps all else -/
theorem turn_inv {c : Fx} {h h' : Heap} {μ : List Addr} {σ : Hp} {v : V} {it : Addr} {j : Nat} (hi : HInv c h μ σ) (hs : ItSt c h μ it j v) (hg : c.g.objs.size ≤ it) (hsb : Heap.SameBut it h h') : HInv c h' μ σ :=
  let ⟨o, g1, g2, g3, _⟩ := hs.mut; hi.other g1 g2 g3 (Heap.get?_none_of_le hg) hsb

theorem VRel.ext {c : Fx} {h h' : Heap} {μ : List Addr} {it : Addr} {o : Obj} (g1 : h.get? it = some o) (gi : IsItr o) (gn : NR o) (hx : Heap.ExtBut it h h') {v : V} {v' : Value} (x : VRel c h μ v v') : VRel c h' μ v v' := by
  cases v with
  | tup =>
    obtain ⟨a, vs, e1, ⟨o', e2, e3, n, e4⟩, e5⟩ := x
    exact ⟨a, vs, e1, ⟨o', hx _ _ (fun hb => by
      rw [hb, g1] at e2; cases e2; obtain ⟨⟨_, hd⟩, _⟩ := gi; rw [hd] at e4; cases e4) e2, e3, n, e4⟩, e5⟩
  | rng =>
    obtain ⟨r, t, u, w, e1, e2⟩ := x
    exact ⟨r, t, u, w, e1, hx _ _ (fun hb => by
      have e2' : h.get? r = some _ := e2
      rw [hb, g1] at e2'; cases e2'
      obtain ⟨_, hd⟩ := gi
      rcases hd with hd | hd | hd <;> exact absurd (show Value.type "range" = _ from hd) (by decide)) e2⟩
  | lam =>
    obtain ⟨f, q, ps, cl, pm, cv, ctv, e1, e2, e3, e4, e5, e6, e7, ⟨b, o', vs, t, f1, f2, f3, f4⟩, e9⟩ := x
    refine ⟨f, q, ps, cl, pm, cv, ctv, e1, hx _ _ (fun hb => by rw [hb, g1] at e2; cases e2; obtain ⟨⟨_, hd⟩, _⟩ := gi; cases hd) e2, e3, e4, e5, e6, e7,
      ⟨b, o', vs, t, f1, hx _ _ (fun hb => by rw [hb, g1] at f2; cases f2; exact gn _ _ _ f3 f4) f2, f3, f4⟩, fun y n hm => ?_⟩
    obtain ⟨cx, a, g1', ⟨o'', g2, g3⟩, g4⟩ := e9 y n hm
    exact ⟨cx, a, g1', ⟨o'', hx _ _ (fun hb => by rw [hb, g1] at g2; cases g2; obtain ⟨⟨_, hd⟩, _⟩ := gi; rw [hd] at g3; cases g3) g2, g3⟩, g4⟩
  | _ => exact x

theorem EnvOk.ext {c : Fx} {env : Env} {ρ : Loc} {μ : List Addr} {h h' : Heap} (x : EnvOk c env ρ μ h) {v : V} {it : Addr} {j : Nat} (hs : ItSt c h μ it j v) (hx : Heap.ExtBut it h h') : EnvOk c env ρ μ h' := by
  obtain ⟨o, g1, g2, g3, g4, g5⟩ := hs.mut
  obtain ⟨o', g1', gi⟩ := hs.itr
  rw [g1] at g1'; cases g1'
  have ic : ∀ {b w}, h.IsCell b w → h'.IsCell b w := fun ⟨o', ho, hd⟩ => ⟨o', hx _ _ (fun hb => by rw [hb, g1] at ho; cases ho; exact g4 _ hd) ho, hd⟩
  refine ⟨x.kind, x.glob, x.bi, ?_, x.new, fun y cx k l => let ⟨a, w, b⟩ := x.cellnew y cx k l; ⟨a, w, ic b⟩, x.apart⟩
  obtain ⟨m, hn, hv⟩ := x.var
  refine ⟨m, ?_, fun y u hy => ?_⟩
  · obtain ⟨o', es, ep, ho, hd, r⟩ := hn
    exact ⟨o', es, ep, hx _ _ (fun hb => by rw [hb, g1] at ho; cases ho; exact g5 _ _ hd) ho, hd, r⟩
  · obtain ⟨u', r, l⟩ := hv y u hy
    refine ⟨u', r.ext g1 gi g3 hx, ?_⟩
    rcases l with l | ⟨k1, cx, l1, l2⟩
    · exact .inl l
    · exact .inr ⟨k1, cx, l1, ic l2⟩

/-- the same where the iterator's end is told by nothing but what it keeps -/
theorem end_inv {c : Fx} {env : Env} {ρ : Loc} {h h' : Heap} {μ : List Addr} {σ : Hp} {v : V} {it : Addr} {j : Nat} (hi : HInv c h μ σ) (he : EnvOk c env ρ μ h) (hs : ItSt c h μ it j v) (hg : c.g.objs.size ≤ it) (hx : Heap.ExtBut it h h') : HInv c h' μ σ := by
  obtain ⟨o, g1, g2, g3, g4, g5⟩ := hs.mut
  refine ⟨hi.ok, fun b x e => hx _ _ (fun hb => by rw [hb, Heap.get?_none_of_le hg] at e; cases e) (hi.keep b x e), ?_, tabs_keep' hi hx g1 g2 g3, hi.len, hi.nodup, fun n l e => ?_, hi.new⟩
  · obtain ⟨m, o', es, ep, ho, hd, r⟩ := he.var.imp fun _ x => x.1
    have := Heap.lt_size (hx env.locals _ (fun hb => by rw [hb, g1] at ho; cases ho; exact g5 _ _ hd) ho)
    exact Nat.le_trans he.new (Nat.le_of_lt this)
  · obtain ⟨b, vs, e1, ⟨k, e2⟩, e3⟩ := hi.lst n l e
    exact ⟨b, vs, e1, ⟨k, hx _ _ (fun hb => by rw [hb, g1] at e2; cases e2; cases g2) e2⟩, e3⟩

/-! for -/
section
variable {c : Fx} {d : Nat} {env : Env} {ρ : Loc} {σ : Hp} {Q : FV → Loc → Hp → Prop}

noncomputable def LoopQ (I : Loc → Hp → Prop) (Q : FV → Loc → Hp → Prop) : FV → Loc → Hp → Prop
  | .nx, ρ, σ => I ρ σ
  | .ct, ρ, σ => I ρ σ
  | .br, ρ, σ => Q .nx ρ σ
  | .rt v, ρ, σ => Q (.rt v) ρ σ

theorem SX_for {x : Str} {px pos : Pos} {iter : Expr} {body orelse : List Stmt} (hf : ∀ x, foldedSetIterable iter env x = pure x)
    (h : SE c d env iter ρ σ fun v σ₁ => ∃ (items : List V) (I : Nat → Loc → Hp → Prop), (∃ ρ₀, (∀ p ∈ ρ₀, ρ.lookup p.1 = some p.2) ∧ I 0 ρ₀ σ₁) ∧ (∀ k ρ' σ', k ≤ items.length → I k ρ' σ' → Items σ' v items) ∧
      (∀ k ρ' σ' u, items[k]? = some u → I k ρ' σ' → StoreOk env ((x, u) :: ρ') x ∧ SXs c d env body ((x, u) :: ρ') σ' (LoopQ (I (k + 1)) Q)) ∧
      (∀ ρ' σ', I items.length ρ' σ' → SXs c d env orelse ρ' σ' Q)) : SX c d env (.For (.Name x px) iter body orelse pos) ρ σ Q := fun A E s μ ha hi he => by
  refine wpAny_For (wp_seq (h A E s μ ha hi he) fun v v' σ₁ μ₁ s₁ ⟨items, I, ⟨ρ₀, hsub, h0⟩, hit, hturn, hend⟩ r x₁ => ?_) hf
  have e₁ := (he.mono x₁.ev x₁.pre).sub hsub
  refine wp_iter x₁.inv r (hit 0 ρ₀ σ₁ (Nat.zero_le _) h0) fun o hs₀ => ?_
  have x₂ : ResX c env s { s₁ with heap := s₁.heap.push o } μ μ₁ σ₁ := .of (x₁.trans (Res.push x₁.inv o _))
  refine codeAny_forLoop (fun n s' => ∃ k ρ' σ' μ', n = items.length + 1 - k ∧ k ≤ items.length ∧ I k ρ' σ' ∧ ResX c env s s' μ μ' σ' ∧ EnvOk c env ρ' μ' s'.heap ∧ ItSt c s'.heap μ' s₁.heap.objs.size k v)
    (fun n s₃ ⟨k, ρ₃, σ₃, μ₃, hn, hk, hI, x₃, e₃, it₃⟩ => ?_) (items.length + 1) ⟨0, ρ₀, σ₁, μ₁, rfl, Nat.zero_le _, h0, x₂, e₁.mono (Ev.push _ _) List.prefix_rfl, hs₀⟩
  refine wp_next ha x₃.inv (hit k ρ₃ σ₃ hk hI) it₃ x₁.inv.size (fun u u' h' t' hu ru it' hsb => ?_) (fun h' t' hu hsb => ?_) hk
  · have inv' := turn_inv x₃.inv it₃ x₁.inv.size hsb
    have e' := e₃.ext it₃ hsb.extBut
    have x' : ResX c env s { s₃ with heap := h', toks := t' } μ μ₃ σ₃ := by
      obtain ⟨hh, tt, rfl⟩ := x₃.same
      exact ⟨⟨h', t', rfl⟩, x₃.pre, ⟨fun b ob eb mb lb kb => hsb.extBut _ _ (fun hb => Nat.lt_irrefl _ (hb ▸ Heap.lt_size (x₁.ev.keep b ob eb mb))) (x₃.ev.keep b ob eb mb lb kb)⟩, inv'⟩
    obtain ⟨hst, hb⟩ := hturn k ρ₃ σ₃ u hu hI
    refine wpAny_assign_Name (wp_store inv' e' hst ru.v fun h'' t'' y e'' _ => ?_)
    refine wpAny_mono (hb A _ _ μ₃ ha y.inv e'') (fun f s₄ ⟨fl, ρ₄, σ₄, μ₄, q₄, r₄, x₄, e₄⟩ => ?_) fun _ _ e => e
    have it'' : ItSt c h'' μ₃ s₁.heap.objs.size (k + 1) v := it'.evx e' y.ev List.prefix_rfl
    have it₄ := it''.evx e'' x₄.ev x₄.pre
    have xx := (x'.trans y).trans x₄
    have hk' : k < items.length := (List.getElem?_eq_some_iff.mp hu).1
    cases fl with
    | nx => cases r₄; exact ⟨items.length + 1 - (k + 1), by omega, k + 1, ρ₄, σ₄, μ₄, rfl, hk', q₄, xx, e₄, it₄⟩
    | ct => cases r₄; exact ⟨items.length + 1 - (k + 1), by omega, k + 1, ρ₄, σ₄, μ₄, rfl, hk', q₄, xx, e₄, it₄⟩
    | br => cases r₄; exact ⟨.nx, ρ₄, σ₄, μ₄, q₄, rfl, xx, e₄⟩
    | rt w => obtain ⟨w', rfl, r⟩ := r₄; exact ⟨.rt w, ρ₄, σ₄, μ₄, q₄, ⟨w', rfl, r⟩, xx, e₄⟩
  · have hk' : k = items.length := by have := List.getElem?_eq_none_iff.mp hu; omega
    subst hk'
    have inv' := end_inv x₃.inv e₃ it₃ x₁.inv.size hsb
    have e' := e₃.ext it₃ hsb
    have x' : ResX c env s { s₃ with heap := h', toks := t' } μ μ₃ σ₃ := by
      obtain ⟨hh, tt, rfl⟩ := x₃.same
      exact ⟨⟨h', t', rfl⟩, x₃.pre, ⟨fun b ob eb mb lb kb => hsb _ _ (fun hb => Nat.lt_irrefl _ (hb ▸ Heap.lt_size (x₁.ev.keep b ob eb mb))) (x₃.ev.keep b ob eb mb lb kb)⟩, inv'⟩
    exact wpAny_mono (hend ρ₃ σ₃ hI A _ _ μ₃ ha inv' e') (fun f s₄ p => PostX.trans x' p) fun _ _ e => e
end

end
section
open PySem PySem.W PyProof.Rows PySem.Calls
set_option Elab.async false
set_option maxRecDepth 100000
set_option autoImplicit false
set_option linter.unusedVariables false

noncomputable abbrev VRels (c : Fx) (h : Heap) (μ : List Addr) : List V → List Value → Prop := Paired (VRel c h μ)
theorem VRels.mono {c : Fx} {h h' : Heap} {μ μ' : List Addr} (e : Ev h h') (p : μ <+: μ') {l : List V} {vs : List Value} (x : VRels c h μ l vs) : VRels c h' μ' l vs := Paired.mono (fun _ _ r => VRel.mono e p r) x

noncomputable def atom : V → Bool
  | .none | .bool _ | .int _ | .str _ | .ref _ | .obj _ => true
  | _ => false
theorem VRel.atom {c : Fx} {h : Heap} {μ : List Addr} {v : V} {x : Value} (ha : Mine.atom v = true) (r : VRel c h μ v x) : ARel μ v x := by
  cases v <;> first | exact r | cases ha
theorem VRels.atoms {c : Fx} {h : Heap} {μ : List Addr} : ∀ {l : List V} {vs : List Value}, l.all atom = true → VRels c h μ l vs → ARels μ l vs
  | _, _, _, .nil => .nil
  | _, _, hl, .cons r rs => by
    rw [List.all_cons, Bool.and_eq_true] at hl
    exact .cons (r.atom hl.1) (VRels.atoms hl.2 rs)

/-- several expressions, left to right -/
noncomputable def SL (c : Fx) (d : Nat) (env : Env) (es : List Expr) (ρ : Loc) (σ : Hp) (Q : List V → Hp → Prop) : Prop :=
  ∀ (A : Around) (E : Value → Shared → Prop) (s : Shared) (μ : List Addr) (pos : Pos), AOk d A → HInv c s.heap μ σ → EnvOk c env ρ μ s.heap →
    wpAny (model c.prog c.w) A (spliced (backTo pos (starEach es env))) (fun vs s' => ∃ l σ' μ', Q l σ' ∧ VRels c s'.heap μ' l vs ∧ Res c s s' μ μ' σ') E s
/-- keyword arguments -/
noncomputable def SK (c : Fx) (d : Nat) (env : Env) (ks : List Keyword) (ρ : Loc) (σ : Hp) (Q : List V → Hp → Prop) : Prop :=
  ∀ (A : Around) (E : Value → Shared → Prop) (s : Shared) (μ : List Addr) (pos : Pos), AOk d A → HInv c s.heap μ σ → EnvOk c env ρ μ s.heap →
    wpAny (model c.prog c.w) A (evalAll ((backToKw pos (keywordEach ks env)).map (·.2))) (fun vs s' => ∃ l σ' μ', Q l σ' ∧ VRels c s'.heap μ' l vs ∧ Res c s s' μ μ' σ') E s

section
variable {c : Fx} {d : Nat} {env : Env} {ρ : Loc} {σ : Hp}

theorem SL_nil {Q : List V → Hp → Prop} (q : Q [] σ) : SL c d env [] ρ σ Q := fun A E s μ pos ha hi he => spliced_nil ⟨[], σ, μ, q, .nil, .refl hi⟩
theorem SL_cons {e : Expr} {rest : List Expr} {Q : List V → Hp → Prop} (hs : starEach (e :: rest) env = (false, eval e env) :: starEach rest env)
    (h : SE c d env e ρ σ fun v σ₁ => SL c d env rest ρ σ₁ fun l σ₂ => Q (v :: l) σ₂) : SL c d env (e :: rest) ρ σ Q := fun A E s μ pos ha hi he => by
  rw [hs]
  exact spliced_cons (wp_seq (h A E s μ ha hi he) fun v v' σ₁ μ₁ s₁ q r x => wpAny_mono (q A E s₁ μ₁ pos ha x.inv (he.mono x.ev x.pre)) (fun vs s₂ ⟨l, σ₂, μ₂, q₂, r₂, x₂⟩ =>
    ⟨v :: l, σ₂, μ₂, q₂, .cons (r.mono x₂.ev x₂.pre) r₂, x.trans x₂⟩) fun _ _ e => e)
theorem SK_nil {Q : List V → Hp → Prop} (q : Q [] σ) : SK c d env [] ρ σ Q := fun A E s μ pos ha hi he => wpAny_pure ⟨[], σ, μ, q, .nil, .refl hi⟩
theorem SK_one {n : Option Str} {e : Expr} {kp : Pos} {Q : List V → Hp → Prop} (h : SE c d env e ρ σ fun v σ₁ => Q [v] σ₁) : SK c d env [⟨n, e, kp⟩] ρ σ Q := fun A E s μ pos ha hi he => by
  show wpAny _ A (evalAll [do let v ← eval e env; standAt pos; pure v]) _ E s
  refine wpAny_bind (wpAny_bind (wp_seq (h A E s μ ha hi he) fun v v' σ₁ μ₁ s₁ q r x => wpAny_bind (wpAny_standAt (wpAny_pure ?_))))
  exact wpAny_bind (wpAny_holding (wpAny_pure (wpAny_pure ⟨[v], σ₁, μ₁, q, .cons r .nil, x⟩)))

/-! displays -/
theorem SE_list {elts : List Expr} {pos : Pos} {Q : V → Hp → Prop} (h : SL c d env elts ρ σ fun l σ₁ => l.all atom = true ∧ l.length ≤ 2 ^ 20 ∧ Q (.ref σ₁.length) (σ₁ ++ [l])) : SE c d env (.List elts pos) ρ σ Q := fun A E s μ ha hi he =>
  wpAny_List_spliced (wpAny_mono (h A E s μ pos ha hi he) (fun vs s₁ ⟨l, σ₁, μ₁, q, r, x⟩ => by
    have hr := VRels.atoms q.1 r
    have hl := hr.length
    refine ⟨?_, .of q.2.2 (VRel_made x.inv) (x.trans (Res.make x.inv hr q.2.1 s₁.toks))⟩
    have := q.2.1
    rw [sizeLine_eq]; omega) fun _ _ e => e)
theorem SE_tuple {elts : List Expr} {k : Nat} {pos : Pos} {Q : V → Hp → Prop} (h : SL c d env elts ρ σ fun l σ₁ => l.all atom = true ∧ l.length ≤ 2 ^ 20 ∧ Q (.tup l) σ₁) : SE c d env (.Tuple elts k pos) ρ σ Q := fun A E s μ ha hi he =>
  wpAny_Tuple_spliced (wpAny_mono (h A E s μ pos ha hi he) (fun vs s₁ ⟨l, σ₁, μ₁, q, r, x⟩ => by
    have hr := VRels.atoms q.1 r
    have hl := hr.length
    refine ⟨?_, .of q.2.2 ⟨_, vs, rfl, ⟨_, Heap.get?_push_size _ rfl, rfl, _, rfl⟩, hr, q.2.1⟩ (x.trans (Res.push x.inv _ s₁.toks))⟩
    have := q.2.1
    rw [sizeLine_eq]; omega) fun _ _ e => e)

/-! calls -/
noncomputable def CALLV (c : Fx) (d : Nat) (f : V) (args : List V) (kw : List (Str × V)) (σ : Hp) (Q : V → Hp → Prop) : Prop :=
  ∀ (A : Around) (E : Value → Shared → Prop) (s : Shared) (μ : List Addr) (vf : Value) (vs : List Value) (ks : List Value), AOk d A → HInv c s.heap μ σ → VRel c s.heap μ f vf → VRels c s.heap μ args vs → VRels c s.heap μ (kw.map (·.2)) ks →
    wpAny (model c.prog c.w) A (call vf vs ((kw.map (·.1)).zip ks)) (Post c s μ Q) E s

/-- what may be called plainly -/
noncomputable def Calls (c : Fx) : V → Prop
  | .obj (.builtin _) => True
  | .obj (.type _) => True
  | .obj (.ref a) => ∃ o fd, c.g.get? a = some o ∧ o.data = .func fd
  | .lam _ _ _ _ => True
  | _ => False
theorem keeps_V {c : Fx} {h : Heap} {μ : List Addr} {σ : Hp} {f : V} {vf : Value} {M : Model} (hc : Calls c f) (hi : HInv c h μ σ) (hf : VRel c h μ f vf) : ∃ k, (k = Keeper.frame ∨ k = Keeper.machine ∨ k = Keeper.boundFrame) ∧ Looks M h (keeperOf vf) k := by
  cases f with
  | none => cases hc
  | bool => cases hc
  | int => cases hc
  | str => cases hc
  | ref => cases hc
  | tup => cases hc
  | fl => cases hc
  | rng => cases hc
  | lam x sc b cap =>
    obtain ⟨f, q, ps, cl, pm, cv, ctv, rfl, e2, _⟩ := hf
    exact ⟨.frame, .inl rfl, (Looks.ld (part := none) e2).andThen .now⟩
  | obj v =>
    cases hf
    cases vf with
    | builtin id => exact ⟨.machine, .inr (.inl rfl), .now⟩
    | type n => exact ⟨.machine, .inr (.inl rfl), .now⟩
    | ref a =>
      obtain ⟨o, fd, ho, hd⟩ := hc
      refine ⟨.frame, .inl rfl, (Looks.ld (part := none) (hi.keep _ _ ho)).andThen ?_⟩
      rw [hd]; exact .now
    | _ => cases hc

theorem wp_evalArgs {f : Value} {args : List Expr} {kws : List Keyword} {pos : Pos} {A : Around} {E : Value → Shared → Prop} {s : Shared} {Q : Args → Shared → Prop}
    (hst : (starEach args env).all (fun x => !x.1) = true) (hkw : (keywordEach kws env).all (·.1.isSome) = true)
    (h : wpAny (model c.prog c.w) A (spliced (backTo pos (starEach args env))) (fun vs s₁ => wpAny (model c.prog c.w) A (evalAll ((backToKw pos (keywordEach kws env)).map (·.2))) (fun ks s₂ =>
      Q ⟨vs, ((keywordEach kws env).filterMap (·.1)).zip ks⟩ s₂) E s₁) E s) : wpAny (model c.prog c.w) A (evalArgs f true (backTo pos (starEach args env)) (backToKw pos (keywordEach kws env))) Q E s := by
  have hall : (backToKw pos (keywordEach kws env)).all (·.1.isSome) = true := by unfold backToKw; rw [List.all_map]; exact hkw
  have hfm : (backToKw pos (keywordEach kws env)).filterMap (·.1) = (keywordEach kws env).filterMap (·.1) := by unfold backToKw; rw [List.filterMap_map]; rfl
  rw [← hfm] at h
  cases hq : starEach args env with
  | nil =>
    rw [hq] at h
    have h' : wpAny (model c.prog c.w) A (spliced []) _ E s := h
    refine evalArgs_kw_nil hall ?_
    exact wpAny_mono h (fun _ _ x => x) (fun _ _ x => x) |> fun z => by
      have : wpAny (model c.prog c.w) A (Sem.pure ([] : List Value)) _ E s := z
      intro Γ p hΓ
      exact this Γ p hΓ Γ p hΓ
  | cons x r =>
    rw [hq] at h hst
    obtain ⟨b, t⟩ := x
    cases b with
    | true => simp at hst
    | false => exact evalArgs_kw hall h

theorem SE_call {x : Str} {np pos : Pos} {args : List Expr} {kws : List Keyword} {names : List Str} {Q : V → Hp → Prop} (hst : (starEach args env).all (fun x => !x.1) = true) (hkw : (keywordEach kws env).all (·.1.isSome) = true)
    (hn : (keywordEach kws env).filterMap (·.1) = names)
    (h : SE c d env (.Name x np) ρ σ fun f σ₁ => SL c d env args ρ σ₁ fun l σ₂ => SK c d env kws ρ σ₂ fun ks σ₃ => Calls c f ∧ ks.length = names.length ∧ CALLV c d f l (names.zip ks) σ₃ Q) : SE c d env (.Call (.Name x np) args kws pos) ρ σ Q := fun A E s μ ha hi he => by
  refine wpAny_Call_ofName (wp_seq (h A E s μ ha hi he) fun f vf σ₁ μ₁ s₁ q r x => ?_)
  refine callWith_of (P := fun h => ∃ μ σ, HInv c h μ σ ∧ VRel c h μ f vf ∧ Calls c f) ?_ (fun h ⟨μ', σ', i', r', hc⟩ => keeps_V hc i' r') ?_
  · unfold backTo backToKw
    rw [Bool.or_eq_false_iff]
    constructor
    · rw [List.any_map]; rw [List.any_eq_false]; intro y hy; have := List.all_eq_true.mp hst y hy; simpa using this
    · rw [List.any_map]; rw [List.any_eq_false]; intro y hy
      have := List.all_eq_true.mp hkw y hy
      simp only [Function.comp]
      cases hh : y.1 with
      | none => rw [hh] at this; cases this
      | some n => simp
  · refine wp_evalArgs hst hkw (wpAny_mono (q A E s₁ μ₁ pos ha x.inv (he.mono x.ev x.pre)) (fun vs s₂ ⟨l, σ₂, μ₂, q₂, r₂, x₂⟩ => ?_) fun _ _ e => e)
    refine wpAny_mono (q₂ A E s₂ μ₂ pos ha x₂.inv (he.mono (x.trans x₂).ev (x.trans x₂).pre)) (fun kvs s₃ ⟨ks, σ₃, μ₃, q₃, r₃, x₃⟩ => ?_) fun _ _ e => e
    have xx := (x.trans x₂).trans x₃
    have rf := r.mono (x₂.trans x₃).ev (x₂.trans x₃).pre
    refine ⟨⟨μ₃, σ₃, x₃.inv, rf, q₃.1⟩, ?_⟩
    rw [hn]
    have e1 : (names.zip ks).map (·.1) = names := List.map_fst_zip (Nat.le_of_eq q₃.2.1.symm)
    have e2 : (names.zip ks).map (·.2) = ks := List.map_snd_zip (Nat.le_of_eq q₃.2.1)
    have z := q₃.2.2 A E s₃ μ₃ vf vs kvs ha x₃.inv rf (r₂.mono x₃.ev x₃.pre) (by rw [e2]; exact r₃)
    rw [e1] at z
    exact wpAny_mono z (fun _ _ p => Post.trans xx p) fun _ _ e => e

/-- a method of a built-in type -/
noncomputable def METH (c : Fx) (name : Str) (o : V) (id : String) : Prop :=
  ∀ (s : Shared) (μ : List Addr) (σ : Hp) (vo : Value), HInv c s.heap μ σ → VRel c s.heap μ o vo → ∃ T, PlainAttrs T ∧ Slot T name id ∧ typeOf (.builtin id) = pure (.type "method_descriptor") ∧ s.TypeIs vo T ∧ (∀ a, vo = .ref a → ∃ ob, s.heap.get? a = some ob ∧ ob.dict = none)

theorem SE_meth {o : Expr} {name : Str} {apos pos : Pos} {args : List Expr} {Q : V → Hp → Prop} (hbase : attributeBase o name env (eval o env) = eval o env) (hst : (starEach args env).all (fun x => !x.1) = true) (hlen : args.length < 30)
    (hline : (apos.endLine == pos.line) = true)
    (h : SE c d env o ρ σ fun ov σ₁ => ∃ id, METH c name ov id ∧ SL c d env args ρ σ₁ fun l σ₂ => CALLV c d (.obj (.builtin id)) (ov :: l) [] σ₂ Q) : SE c d env (.Call (.Attribute o name apos) args [] pos) ρ σ Q := fun A E s μ ha hi he => by
  refine wpAny_Call_method_late hbase ?_ hline rfl (wp_seq (h A E s μ ha hi he) fun ov vo σ₁ μ₁ s₁ ⟨id, hm, q⟩ r x => ?_)
  · unfold backTo backToKw
    rw [List.all_map]
    simp only [keywordEach, List.map_nil, List.all_nil, Bool.and_true, List.length_nil, Nat.add_zero, List.isEmpty_nil, if_true, Bool.and_eq_true, decide_eq_true_eq]
    exact ⟨hst, hlen⟩
  · obtain ⟨T, pa, sl, ty, ti, hd⟩ := hm s₁ μ₁ σ₁ vo x.inv r
    refine ⟨T, id, pa, sl, ty, ti, hd, ?_⟩
    refine callWith_of (P := fun _ => True) ?_ (fun h _ => ⟨.machine, .inr (.inl rfl), .now⟩) ?_
    · unfold backTo
      rw [Bool.or_eq_false_iff]
      refine ⟨?_, rfl⟩
      rw [List.any_map]; rw [List.any_eq_false]; intro y hy; have := List.all_eq_true.mp hst y hy; simpa using this
    · refine wp_evalArgs (kws := []) hst rfl (wpAny_mono (q A E s₁ μ₁ pos ha x.inv (he.mono x.ev x.pre)) (fun vs s₂ ⟨l, σ₂, μ₂, q₂, r₂, x₂⟩ => ?_) fun _ _ e => e)
      refine wpAny_pure ⟨trivial, ?_⟩
      exact wpAny_mono (q₂ A E s₂ μ₂ _ (vo :: vs) [] ha x₂.inv rfl (.cons (r.mono x₂.ev x₂.pre) r₂) .nil) (fun _ _ p => Post.trans (x.trans x₂) p) fun _ _ e => e
end

end
section
open PySem PySem.W PyProof.Rows PySem.Calls
set_option Elab.async false
set_option maxRecDepth 100000
set_option autoImplicit false
set_option linter.unusedVariables false

/-! a call of a def -/
/-- how a call's end is told to the caller: dead lists are dropped, one made list of plain items may be handed on -/
inductive Exit (k : Nat) (σ : Hp) : V → V → Hp → Prop
  | drop (v : V) (hv : (match v with | .none | .bool _ | .int _ | .str _ => true | _ => false) = true) : Exit k σ v v (σ.take k)
  | pick (n : Nat) (l : List V) (hn : k ≤ n) (hl : σ[n]? = some l) (hf : Closed 0 l) : Exit k σ (.ref n) (.ref k) (σ.take k ++ [l])

theorem take_pre {α : Type} {μ μ' : List α} (p : μ <+: μ') : μ'.take μ.length = μ := by
  obtain ⟨r, rfl⟩ := p
  simp

theorem Exit.post {c : Fx} {h : Heap} {μ μ' : List Addr} {k : Nat} {σ σ'' : Hp} {v v'' : V} {v' : Value} (x : Exit k σ v v'' σ'') (hi : HInv c h μ' σ) (p : μ <+: μ') (hk : μ.length = k) (hc : ∀ m ∈ σ.take k, Closed k m) (r : VRel c h μ' v v') :
    ∃ μ'', μ <+: μ'' ∧ HInv c h μ'' σ'' ∧ VRel c h μ'' v'' v' := by
  subst hk
  cases x with
  | drop _ hv =>
    have t := hi.take μ.length hc
    rw [take_pre p] at t
    refine ⟨μ, List.prefix_rfl, t, ?_⟩
    cases v <;> first | exact r | cases hv
  | pick n l hn hl hf =>
    obtain ⟨a, ea, t⟩ := hi.pick μ.length n l hc hn hl hf
    rw [take_pre p] at t
    obtain ⟨b, rfl, eb⟩ := r
    rw [ea] at eb; cases eb
    exact ⟨_, ⟨_, rfl⟩, t, a, rfl, by simp⟩

theorem EnvOk.enter {c : Fx} {fd : FuncData} {a : Addr} {s s₁ : Shared} {μ : List Addr} {σ : Hp} {ρ : Loc} {binds : List (Str × Value)} (hi : HInv c s.heap μ σ) (hk : fd.scope.kind = .function) (hgl : fd.globals = mainGlobals) (hbu : fd.builtins = builtinsNs)
    (x : InCallC s (callEnvC fd s.heap.objs.size a).locals (bindL (callEnvC fd s.heap.objs.size a).kindOf binds fun _ => none) (callEnvC fd s.heap.objs.size a).cells (bindC (callEnvC fd s.heap.objs.size a).kindOf binds fun _ => none) s₁)
    (hkind : ∀ p ∈ binds, fd.scope.names.lookup p.1 = some .local ∨ (fd.scope.names.lookup p.1 = some .cell ∧ ((cellsFrom (s.heap.objs.size + 1) fd.scope.names []).lookup p.1).isSome = true))
    (hnd : (binds.map (·.1)).Nodup) (hr : Paired (fun (p : Str × V) (q : Str × Value) => p.1 = q.1 ∧ VRel c s.heap μ p.2 q.2) ρ binds) :
    HInv c s₁.heap μ σ ∧ Ev s.heap s₁.heap ∧ EnvOk c (callEnvC fd s.heap.objs.size a) ρ μ s₁.heap := by
  have hkeep := x.toInCall.keep
  have ev : Ev s.heap s₁.heap := ⟨fun b o e _ => hkeep b o e⟩
  have inv : HInv c s₁.heap μ σ := by
    refine ⟨hi.ok, fun b o e => hkeep b o (hi.keep b o e), ?_, tabs_keep hi (fun b o e _ => hkeep b o e) (fun cv q r => r.keeps hkeep), hi.len, hi.nodup, fun n l e => ?_, hi.new⟩
    · have := x.toInCall.ns.lt
      exact Nat.le_trans hi.size (Nat.le_of_lt this)
    · obtain ⟨b, vs, e1, ⟨j, e2⟩, e3⟩ := hi.lst n l e
      exact ⟨b, vs, e1, ⟨j, hkeep _ _ e2⟩, e3⟩
  refine ⟨inv, ev, hk, hgl, hbu, ⟨_, x.toInCall.ns, fun y v hy => ?_⟩, hi.size, fun y cx ky hcx => ⟨?_, _, x.cell y cx hcx⟩, fun y z cx _ h1 h2 => name_of_addr x.apart (mem_of_lookup h2) (mem_of_lookup h1)⟩
  · have key : ∀ {ρ : Loc} {binds : List (Str × Value)}, Paired (fun (p : Str × V) (q : Str × Value) => p.1 = q.1 ∧ VRel c s.heap μ p.2 q.2) ρ binds → ∀ {y v}, ρ.lookup y = some v → ∃ v', (y, v') ∈ binds ∧ VRel c s.heap μ v v' := by
      intro ρ binds h
      induction h with
      | nil => intro y v e; cases e
      | @cons p q l₁ l₂ h1 h2 ih =>
        intro y v e
        obtain ⟨p1, p2⟩ := p
        rw [List.lookup_cons] at e
        by_cases hy : y = p1
        · subst hy
          rw [beq_self_eq_true] at e; cases e
          exact ⟨q.2, by rw [show y = q.1 from h1.1]; exact .head _, h1.2⟩
        · rw [beq_eq_false_iff_ne.mpr hy] at e
          obtain ⟨v', hm, r⟩ := ih e
          exact ⟨v', .tail _ hm, r⟩
    obtain ⟨v', hm, r⟩ := key hr hy
    refine ⟨v', r.mono ev List.prefix_rfl, ?_⟩
    have bl : ∀ {binds : List (Str × Value)} (m : Str → Option Value), (y, v') ∈ binds → (binds.map (·.1)).Nodup → fd.scope.names.lookup y = some .local → bindL (callEnvC fd s.heap.objs.size a).kindOf binds m y = some v' := by
      intro binds
      induction binds with
      | nil => intro m h; cases h
      | cons p r ih =>
        intro m h hn hl
        obtain ⟨n, u⟩ := p
        rw [List.map_cons, List.nodup_cons] at hn
        unfold bindL
        rcases List.mem_cons.mp h with e | h
        · cases e
          have hl' : (callEnvC fd s.heap.objs.size a).kindOf y = some .local := hl
          rw [if_pos hl']
          have aux : ∀ (r : List (Str × Value)) (m : Str → Option Value), y ∉ r.map (·.1) → m y = some v' → bindL (callEnvC fd s.heap.objs.size a).kindOf r m y = some v' := by
            intro r
            induction r with
            | nil => intro m _ h; exact h
            | cons q r ih =>
              intro m hy hm
              obtain ⟨n2, u2⟩ := q
              rw [List.map_cons, List.mem_cons, not_or] at hy
              unfold bindL
              refine ih _ hy.2 ?_
              split
              · simp [hy.1, hm]
              · exact hm
          exact aux r _ hn.1 (by simp)
        · exact ih _ h hn.2 hl
    have bc : ∀ {binds : List (Str × Value)} (m : Str → Option Value), (y, v') ∈ binds → (binds.map (·.1)).Nodup → fd.scope.names.lookup y = some .cell → bindC (callEnvC fd s.heap.objs.size a).kindOf binds m y = some v' := by
      intro binds
      induction binds with
      | nil => intro m h; cases h
      | cons p r ih =>
        intro m h hn hl
        obtain ⟨n, u⟩ := p
        rw [List.map_cons, List.nodup_cons] at hn
        unfold bindC
        rcases List.mem_cons.mp h with e | h
        · cases e
          have hl' : ¬ (callEnvC fd s.heap.objs.size a).kindOf y = some .local := by
            show ¬ fd.scope.names.lookup y = some .local
            rw [hl]; decide
          rw [if_neg hl']
          have aux : ∀ (r : List (Str × Value)) (m : Str → Option Value), y ∉ r.map (·.1) → m y = some v' → bindC (callEnvC fd s.heap.objs.size a).kindOf r m y = some v' := by
            intro r
            induction r with
            | nil => intro m _ h; exact h
            | cons q r ih =>
              intro m hy hm
              obtain ⟨n2, u2⟩ := q
              rw [List.map_cons, List.mem_cons, not_or] at hy
              unfold bindC
              refine ih _ hy.2 ?_
              split
              · exact hm
              · simp [hy.1, hm]
          exact aux r _ hn.1 (by simp)
        · exact ih _ h hn.2 hl
    rcases hkind _ hm with hl | ⟨hl, hc⟩
    · exact .inl ⟨hl, bl _ hm hnd hl⟩
    · obtain ⟨cx, hcx⟩ := Option.isSome_iff_exists.mp hc
      refine .inr ⟨.inl hl, cx, hcx, ?_⟩
      have := x.cell y cx hcx
      rw [bc _ hm hnd hl] at this
      exact this
  · have := x.above y cx (mem_of_lookup hcx)
    exact Heap.get?_none_of_le (Nat.le_trans hi.size (Nat.le_of_lt this))

section
variable {c : Fx} {d : Nat} {σ : Hp} {Q : V → Hp → Prop}

theorem CALL_fun {a : Addr} {o : Obj} {fd : FuncData} {body : List Stmt} {args : List V} {kw : List (Str × V)} (ρ : Loc) (ho : c.g.get? a = some o) (hd : o.data = .func fd) (hbody : fd.body = .stmts body) (hclo : fd.closure = [])
    (hco : fd.scope.isCoroutine = false) (hgen : fd.scope.isGenerator = false) (hk : fd.scope.kind = .function) (hgl : fd.globals = mainGlobals) (hbu : fd.builtins = builtinsNs) (hcd : c.g.CodeRec fd.code fd.qualname)
    (hkind : ∀ p ∈ ρ, fd.scope.names.lookup p.1 = some .local ∨ (fd.scope.names.lookup p.1 = some .cell ∧ ∀ n, ((cellsFrom n fd.scope.names []).lookup p.1).isSome = true)) (hnd : (ρ.map (·.1)).Nodup)
    (hbind : ∀ (s : Shared) (μ : List Addr) (vs ks : List Value), HInv c s.heap μ σ → VRels c s.heap μ args vs → VRels c s.heap μ (kw.map (·.2)) ks →
      ∃ binds, BindsTo s fd ⟨vs, (kw.map (·.1)).zip ks⟩ binds ∧ Paired (fun (p : Str × V) (q : Str × Value) => p.1 = q.1 ∧ VRel c s.heap μ p.2 q.2) ρ binds)
    (h : (∀ l ∈ σ, Closed σ.length l) → ∀ L, SXs c d (callEnvC fd L a) body ρ σ fun f _ σ' => ∃ v v'' σ'', (f = .rt v ∨ (f = .nx ∧ v = .none)) ∧ (∀ m ∈ σ'.take σ.length, Closed σ.length m) ∧ Exit σ.length σ' v v'' σ'' ∧ Q v'' σ'') :
    CALLV c (d + 1) (.obj (.ref a)) args kw σ Q := by
  rintro A E s μ vf vs ks ha hi rfl hvs hks
  obtain ⟨binds, hb, hp⟩ := hbind s μ vs ks hi hvs hks
  have ho' := hi.keep _ _ ho
  have hnames : binds.map (·.1) = ρ.map (·.1) := by
    clear hb hkind hnd h hbind
    induction hp with
    | nil => rfl
    | cons h1 _ ih => rw [List.map_cons, List.map_cons, ih, h1.1]
  have hkind' : ∀ n, ∀ p ∈ binds, fd.scope.names.lookup p.1 = some .local ∨ (fd.scope.names.lookup p.1 = some .cell ∧ ((cellsFrom n fd.scope.names []).lookup p.1).isSome = true) := fun n p hp' => by
    have : p.1 ∈ ρ.map (·.1) := hnames ▸ List.mem_map_of_mem hp'
    obtain ⟨q, hq, e⟩ := List.mem_map.mp this
    rw [← e]
    exact (hkind q hq).imp id fun ⟨x, y⟩ => ⟨x, y n⟩
  refine wpAny_call (codeAny_call_function (by have := ha.dep; show A.depth < 1000; omega) ho' hd hco hgen hbody (hcd.keeps hi.keep) ?_)
  refine hb _ _ _ _ ?_
  rw [hclo]
  refine wpAny_newFunctionEnv_cells hk (hkind' _) fun env he s' x => ?_
  subst he
  obtain ⟨inv, ev, eok⟩ := EnvOk.enter (fd := fd) (a := a) hi hk hgl hbu x (hkind' _) (hnames ▸ hnd) hp
  obtain ⟨h₁, t₁, rfl, _⟩ := x.toInCall.done
  refine ⟨hi.ok.lim.keeps inv.keep, codeAny_func ?_⟩
  have ha' : AOk d (A.deeper (callEnvC fd s.heap.objs.size a)) := ⟨ha.han, by have := ha.dep; show A.depth + 1 + d ≤ 900; omega, by have := ha.uni; show A.units + 3 + 100 * d ≤ 9000; omega⟩
  refine wpAny_mono (h hi.closed s.heap.objs.size _ _ _ μ ha' inv eok) (fun f s₂ ⟨fl, ρ₂, σ₂, μ₂, ⟨v, v'', σ'', hf, hcl, hex, q⟩, r, y, e₂⟩ => ?_) fun _ _ e => e
  have fin : ∀ v', VRel c s₂.heap μ₂ v v' → Post c s μ Q v' s₂ := fun v' r' => by
    have hlen : μ.length = σ.length := hi.len
    obtain ⟨μ'', p'', i'', r''⟩ := hex.post y.inv y.pre hlen hcl r'
    refine ⟨v'', σ'', μ'', q, r'', ?_, p'', ⟨fun b ob eb mb => ?_⟩, i''⟩
    · obtain ⟨hh, tt, rfl⟩ := y.same; exact ⟨hh, tt, rfl⟩
    · refine y.ev.keep b ob (ev.keep b ob eb mb) mb (fun hb => ?_) fun z hz hl => ?_
      · have := Heap.lt_size eb; rw [hb] at this; exact Nat.lt_irrefl _ this
      · have h1 := x.above z b (mem_of_lookup hl)
        have h2 := Heap.lt_size eb
        exact Nat.lt_irrefl _ (Nat.lt_trans h1 h2)
  rcases hf with rfl | ⟨rfl, rfl⟩
  · obtain ⟨v', rfl, r⟩ := r; exact fin v' r
  · cases r; exact fin .none rfl
end

end
section
open PySem PySem.W PyProof.Rows PySem.Calls
set_option Elab.async false
set_option maxRecDepth 100000
set_option autoImplicit false
set_option linter.unusedVariables false

/-! a lambda is made -/
theorem tab_second {ps : Array Value} (h : TriplesOk ps.toList) (q : Str) (t : Tok) : ps[1]? ≠ some (.str q t) := by
  obtain ⟨l, hl⟩ : ∃ l, ps.toList = l := ⟨_, rfl⟩
  rw [hl] at h
  intro e
  have e' : ps.toList[1]? = some (.str q t) := by rw [← e]; simp
  rw [hl] at e'
  match l, h with
  | [], _ => simp at e'
  | .int a x :: .int b y :: z :: r, _ => simp at e'
theorem tab_mut {ps : Array Value} (h : TriplesOk ps.toList) : isMut (tabObj ps) = true := by
  unfold isMut
  dsimp only [tabObj]
  split
  · rename_i e; exact absurd e (tab_second h _ _)
  · rfl
theorem codeAmong_snoc_inv {pos : Pos} {a b : Int} {x cv : Value} (l : List Value) (h : TriplesOk l) (e : codeAmong pos (l ++ [rawInt a, rawInt b, x]) = some cv) : codeAmong pos l = some cv ∨ cv = x := by
  fun_induction TriplesOk l with
  | case1 =>
    simp only [List.nil_append, rawInt, codeAmong] at e
    split at e
    · cases e; exact .inr rfl
    · cases e
  | case2 a' t b' u y rest ih =>
    simp only [List.cons_append, codeAmong] at e ⊢
    split at e
    · rename_i hc; rw [if_pos hc]; exact .inl e
    · rename_i hc; rw [if_neg hc]; exact ih h e
  | case3 => exact h.elim

theorem HInv.tab {c : Fx} {h h' : Heap} {μ : List Addr} {σ : Hp} (hi : HInv c h μ σ) {t : Addr × Addr × Str} (ht : t ∈ c.tabs) {ps : Array Value} {a b : Int} {c' : Addr} (hP : h.get? t.2.1 = some (tabObj ps)) (hok : TriplesOk ps.toList)
    (hcs : ∀ pos cv, codeAmong pos ps.toList = some cv → h.CodeRec cv t.2.2) (hx : Heap.ExtBut t.2.1 h h') (hsz : h.objs.size ≤ h'.objs.size) (hn : h'.get? t.2.1 = some (tabObj (ps ++ #[rawInt a, rawInt b, .ref c']))) (hrec : h'.CodeRec (.ref c') t.2.2) :
    HInv c h' μ σ ∧ Ev h h' := by
  have kc : ∀ cv q, h.CodeRec cv q → h'.CodeRec cv q := fun cv q ⟨b, o, vs, t', e1, g1, hd, hv⟩ => ⟨b, o, vs, t', e1, hx _ _ (fun hb => by
    rw [hb, hP] at g1; cases g1; cases hd; exact tab_second hok _ _ hv) g1, hd, hv⟩
  refine ⟨⟨hi.ok, fun b o e => hx _ _ (fun hb => ?_) (hi.keep b o e), Nat.le_trans hi.size hsz, fun u hu => ?_, hi.len, hi.nodup, fun n l e => ?_, hi.new⟩, ⟨fun b o e hm => hx _ _ (fun hb => ?_) e⟩⟩
  · rw [hb, hi.ok.hid t ht] at e; cases e
  · by_cases hut : u.2.1 = t.2.1
    · have : u = t := by
        have hnd := hi.ok.apart
        obtain ⟨i, hi', ei⟩ := List.getElem_of_mem hu
        obtain ⟨j, hj', ej⟩ := List.getElem_of_mem ht
        have : i = j := by
          have h1 : (c.tabs.map (·.2.1))[i]'(by simpa using hi') = (c.tabs.map (·.2.1))[j]'(by simpa using hj') := by simp [ei, ej, hut]
          exact (List.getElem_inj hnd).mp h1
        subst this
        rw [← ei, ← ej]
      subst this
      refine ⟨_, hn, ?_, fun pos cv e => ?_⟩
      · have : (ps ++ #[rawInt a, rawInt b, Value.ref c']).toList = ps.toList ++ [rawInt a, rawInt b, .ref c'] := by simp
        rw [this]; exact TriplesOk_snoc _ _ _ _ hok
      · have : (ps ++ #[rawInt a, rawInt b, Value.ref c']).toList = ps.toList ++ [rawInt a, rawInt b, .ref c'] := by simp
        rw [this] at e
        rcases codeAmong_snoc_inv _ hok e with e | e
        · exact kc _ _ (hcs _ _ e)
        · rw [e]; exact hrec
    · obtain ⟨ps', h1, h2, h3⟩ := hi.tabs u hu
      exact ⟨ps', hx _ _ hut h1, h2, fun pos cv e => kc _ _ (h3 pos cv e)⟩
  · obtain ⟨b, vs, e1, ⟨k, e2⟩, e3⟩ := hi.lst n l e
    exact ⟨b, vs, e1, ⟨k, hx _ _ (fun hb => by rw [hb, hP] at e2; cases e2) e2⟩, e3⟩
  · rw [hb, hP] at e; cases e; rw [tab_mut hok] at hm; cases hm

section
variable {c : Fx} {d : Nat} {env : Env} {ρ : Loc} {σ : Hp} {Q : V → Hp → Prop}

theorem SE_lam {params : Arguments} {body : Expr} {scope : Scope} {pos : Pos} {x : Str} {cap : List (Str × Nat)} {clos : List (Str × Addr)} {t : Addr × Addr × Str} (ht : t ∈ c.tabs) (hcode : env.code = .ref t.1) (hq : env.qual ++ "<lambda>" = t.2.2)
    (hdef : defaultsOf params env = ([], [])) (hp : params.posonlyargs = [] ∧ params.args.map (·.arg) = [x] ∧ params.vararg = none ∧ params.kwonlyargs = [] ∧ params.kwarg = none) (hcl : closureFor scope env = pure clos)
    (hcap : ∀ y n, (y, n) ∈ cap → ∃ cx, clos.lookup y = some cx ∧ env.cells.lookup y = some cx ∧ env.kindOf y ≠ some .local ∧ ρ.lookup y = some (.ref n)) (q : Q (.lam x scope body cap) σ) :
    SE c d env (.Lambda params body scope pos) ρ σ Q := fun A E s μ ha hi he => by
  refine kla_eval hdef ?_
  obtain ⟨ps, hP, hok, hcs⟩ := hi.tabs t ht
  have hg := hi.ok.gns.keeps hi.keep
  have C := (hi.ok.code t ht).keeps hi.keep
  obtain ⟨bm, ob, b1, b2, b3, b4, b5, b6⟩ := hi.ok.bmain
  have hgP : mainGlobals ≠ t.2.1 := fun e => by
    obtain ⟨o, es, ep, h1, h2, _⟩ := hg
    rw [e, hP] at h1; cases h1; cases h2
  have hbP : bm ≠ t.2.1 := fun e => by rw [e, hi.ok.hid t ht] at b3; cases b3
  have hbG : bm ≠ mainGlobals := fun e => by
    obtain ⟨o, es, ep, h1, h2, _⟩ := hi.ok.gns
    rw [e, h1] at b3; cases b3; rw [h2] at b6; cases b6
  have hb : s.heap.BuiltinsAt c.mg t.2.1 := ⟨bm, ob, b1, b2, hbG, hbP, hi.keep _ _ b3, b4, b5, b6⟩
  have caps : ∀ {h' : Heap}, Ev s.heap h' → ∀ y n, (y, n) ∈ cap → ∃ cx a, clos.lookup y = some cx ∧ h'.IsCell cx (some (.ref a)) ∧ μ[n]? = some a := fun ev y n hm => by
    obtain ⟨cx, e1, e2, e3, e4⟩ := hcap y n hm
    obtain ⟨m, _, hv⟩ := he.var
    obtain ⟨v', ⟨a, rfl, ea⟩, l⟩ := hv y _ e4
    rcases l with ⟨l, _⟩ | ⟨_, cy, l1, l2⟩
    · exact absurd l e3
    · rw [e2] at l1; cases l1
      exact ⟨cx, a, e1, isCell_ev ev l2, ea⟩
  cases hf : codeAmong pos ps.toList with
  | some cv =>
    refine kla_makeFunctionHit (mg := c.mg) hcl he.glob hg hcode C hP hok hf hb fun ctv h' tk hk hsz => ?_
    have ev : Ev s.heap h' := ⟨fun b o e _ => hk b o e⟩
    have inv : HInv c h' μ σ := ⟨hi.ok, fun b o e => hk b o (hi.keep b o e), Nat.le_trans hi.size hsz, tabs_keep hi (fun b o e _ => hk b o e) fun cv q r => r.keeps hk, hi.len, hi.nodup, fun n l e =>
      let ⟨a, vs, e1, ⟨k, e2⟩, e3⟩ := hi.lst n l e; ⟨a, vs, e1, ⟨k, hk _ _ e2⟩, e3⟩, hi.new⟩
    have ev' := ev.trans (Ev.push h' { cls := .type "function", data := .func (kla_fn "<lambda>" (env.qual ++ "<lambda>") params body scope clos ((c.mg "__name__").getD .none) cv ctv) })
    exact .of q ⟨_, _, params, clos, _, cv, ctv, rfl, Heap.get?_push_size _ rfl, hp.1, hp.2.1, hp.2.2.1, hp.2.2.2.1, hp.2.2.2.2, codeRec_ev ev' (hq ▸ hcs _ _ hf), caps ev'⟩ ⟨⟨_, _, rfl⟩, List.prefix_rfl, ev', inv.push _⟩
  | none =>
    refine kla_makeFunction (mg := c.mg) hcl he.glob hg hcode C hP hok hf hgP hb fun c' ctv h' tk hx hge hlt hrec htb => ?_
    obtain ⟨inv, ev⟩ := hi.tab ht hP hok hcs hx (Nat.le_trans hge (Nat.le_of_lt hlt)) htb (hq ▸ hrec)
    have ev' := ev.trans (Ev.push h' (kla_obj "<lambda>" (env.qual ++ "<lambda>") params body scope clos ((c.mg "__name__").getD .none) c' ctv))
    exact .of q ⟨_, _, params, clos, _, .ref c', ctv, rfl, Heap.get?_push_size _ rfl, hp.1, hp.2.1, hp.2.2.1, hp.2.2.2.1, hp.2.2.2.2, hrec.push _, caps ev'⟩ ⟨⟨_, _, rfl⟩, List.prefix_rfl, ev', inv.push _⟩
end

/-! a lambda is called -/
theorem bind_lam {fd : FuncData} {x : Str} {v : Value} (hp : fd.params.posonlyargs = [] ∧ fd.params.args.map (·.arg) = [x] ∧ fd.params.vararg = none ∧ fd.params.kwonlyargs = [] ∧ fd.params.kwarg = none) (hd : fd.defaults = .none) :
    bindArgs fd ⟨[v], []⟩ = pure [(x, v)] := by
  obtain ⟨h1, h2, h3, h4, h5⟩ := hp
  obtain ⟨nm, qn, ⟨p1, p2, p3, p4, p5, p6, p7⟩, bd, sc, gl, cl, df, kd, dc, pm, an, co, ct, bu⟩ := fd
  dsimp only at h1 h2 h3 h4 h5 hd
  subst h1 h3 h4 h5 hd
  cases p2 with
  | nil => cases h2
  | cons a r =>
    cases r with
    | cons b r => cases h2
    | nil =>
      obtain rfl : a.arg = x := (List.cons.inj h2).1
      unfold bindArgs
      dsimp only [seqItems?]
      simp [List.lookup]
      rfl

section
variable {c : Fx} {d : Nat} {σ : Hp} {Q : V → Hp → Prop}
theorem CALL_lam {x : Str} {scope : Scope} {body : Expr} {cap : List (Str × Nat)} {v : V} (hco : scope.isCoroutine = false) (hgen : scope.isGenerator = false) (hk : scope.kind = .function) (hcell : ∀ y ∈ scope.names, y.2 ≠ .cell)
    (hx : scope.names.lookup x = some .local) (hf : ∀ p ∈ cap, scope.names.lookup p.1 = some .free ∧ p.1 ≠ "__classdict__")
    (h : ∀ L clos qual f cv, SE c d (newEnv scope L mainGlobals clos qual (some f) cv none builtinsNs) body ((x, v) :: cap.map fun p => (p.1, .ref p.2)) σ Q) :
    CALLV c (d + 1) (.lam x scope body cap) [v] [] σ Q := by
  intro A E s μ vf vs ks ha hi hf' hvs hks
  obtain ⟨f, qual, params, clos, pm, cv, ctv, rfl, ho, p1, p2, p3, p4, p5, hcd, hcap⟩ := hf'
  cases hvs with
  | cons hv hvs =>
  cases hvs
  rename_i va
  refine wpAny_call (kla_callFunE (by have := ha.dep; show A.depth < 1000; omega) ho rfl hco hgen rfl hcd ?_)
  rw [show ([] : List (Str × V)).map (·.1) = [] from rfl, List.zip_nil_left, bind_lam ⟨p1, p2, p3, p4, p5⟩ rfl]
  refine wpAny_pure (wpAny_newFunctionEnv hcell (by intro y hy; rw [List.mem_singleton.mp hy]; exact hx) (fun h₁ hns hsb => ?_) hk)
  dsimp only at hns hsb ⊢
  have hk₁ : ∀ b o, s.heap.get? b = some o → h₁.get? b = some o := fun b o e => hsb.extBut b o (Nat.ne_of_lt (Heap.lt_size e)) (Heap.get?_push_of_some _ e)
  have ev : Ev s.heap h₁ := ⟨fun b o e _ => hk₁ b o e⟩
  have hsz : s.heap.objs.size ≤ h₁.objs.size := by rw [hsb.1, Heap.size_push]; exact Nat.le_succ _
  have inv : HInv c h₁ μ σ := ⟨hi.ok, fun b o e => hk₁ b o (hi.keep b o e), Nat.le_trans hi.size hsz, tabs_keep hi (fun b o e _ => hk₁ b o e) fun cv q r => r.keeps hk₁, hi.len, hi.nodup, fun n l e =>
      let ⟨a, vs, e1, ⟨k, e2⟩, e3⟩ := hi.lst n l e; ⟨a, vs, e1, ⟨k, hk₁ _ _ e2⟩, e3⟩, hi.new⟩
  refine ⟨hi.ok.lim.keeps inv.keep, kla_codeExpr ?_⟩
  have ha' : AOk d (A.deeper (newEnv scope s.heap.objs.size mainGlobals clos (qual ++ ".<locals>.") (some f) cv none builtinsNs)) := ⟨ha.han, by have := ha.dep; show A.depth + 1 + d ≤ 900; omega, by have := ha.uni; show A.units + 3 + 100 * d ≤ 9000; omega⟩
  have eok : EnvOk c (newEnv scope s.heap.objs.size mainGlobals clos (qual ++ ".<locals>.") (some f) cv none builtinsNs) ((x, v) :: cap.map fun p => (p.1, .ref p.2)) μ h₁ := by
    refine ⟨hk, rfl, rfl, ⟨_, hns, fun y u hy => ?_⟩, hi.size, fun y cx ky _ => ?_, fun y z cx ky _ _ => ?_⟩
    · rw [List.lookup_cons] at hy
      by_cases hyx : y = x
      · subst hyx
        rw [beq_self_eq_true] at hy; cases hy
        exact ⟨va, hv.mono ev List.prefix_rfl, .inl ⟨hx, by simp [List.lookup]⟩⟩
      · rw [beq_eq_false_iff_ne.mpr hyx] at hy
        obtain ⟨⟨y', n⟩, hm, e⟩ := List.mem_map.mp (mem_of_lookup hy)
        cases e
        obtain ⟨cx, a, g1, g2, g3⟩ := hcap y' n hm
        exact ⟨.ref a, ⟨a, rfl, g3⟩, .inr ⟨.inr ⟨(hf _ hm).1, (hf _ hm).2⟩, cx, g1, isCell_ev ev g2⟩⟩
    · exact absurd (mem_of_lookup ky) (fun hm => hcell _ hm rfl)
    · exact absurd (mem_of_lookup ky) (fun hm => hcell _ hm rfl)
  have x₀ : Res c s { s with heap := h₁, toks := s.toks + 1 } μ μ σ := ⟨⟨_, _, rfl⟩, List.prefix_rfl, ev, inv⟩
  exact wpAny_mono (h s.heap.objs.size clos (qual ++ ".<locals>.") f cv _ _ _ μ ha' inv eok) (fun v' s' p => Post.trans x₀ p) fun _ _ e => e
end

end
section
open PySem PySem.W PyProof.Rows PySem.Calls
set_option Elab.async false
set_option maxRecDepth 100000
set_option autoImplicit false
set_option linter.unusedVariables false

/-! comprehensions -/
theorem size_pushCells : ∀ (names : List (Str × NameKind)) (h : Heap), h.objs.size ≤ (pushCells h names).objs.size
  | [], _ => Nat.le_refl _
  | (n, k) :: r, h => by
    unfold pushCells
    split
    · exact Nat.le_trans (by rw [Heap.size_push]; exact Nat.le_succ _) (size_pushCells r _)
    · exact size_pushCells r h

theorem cells_split : ∀ (names : List (Str × NameKind)) (h : Heap) (acc : List (Str × Addr)) (y : Str) (cx : Addr), (cellsFrom h.objs.size names acc).lookup y = some cx →
    acc.lookup y = some cx ∨ (h.objs.size ≤ cx ∧ (pushCells h names).IsCell cx none)
  | [], _, _, _, _, e => .inl e
  | (n, k) :: r, h, acc, y, cx, e => by
    unfold cellsFrom at e
    unfold pushCells
    split at e
    · rename_i hk
      rw [if_pos hk]
      have e' : (cellsFrom (h.push { cls := .type "cell", data := .cell none }).objs.size r ((n, h.objs.size) :: acc)).lookup y = some cx := by rw [Heap.size_push]; exact e
      rcases cells_split r _ _ y cx e' with q | ⟨q1, q2⟩
      · rw [List.lookup_cons] at q
        by_cases hy : y = n
        · rw [hy, beq_self_eq_true] at q; cases q
          exact .inr ⟨Nat.le_refl _, _, pushCells_keeps _ _ _ _ (Heap.get?_push_size _ rfl), rfl⟩
        · rw [beq_eq_false_iff_ne.mpr hy] at q; exact .inl q
      · rw [Heap.size_push] at q1
        exact .inr ⟨by omega, q2⟩
    · rename_i hk
      rw [if_neg hk]
      exact cells_split r h acc y cx e

theorem cells_apart (m : Nat) : ∀ (names : List (Str × NameKind)) (n : Nat) (acc : List (Str × Addr)), m ≤ n → (∀ y cx, acc.lookup y = some cx → cx < n) → (∀ y z cx, m ≤ cx → acc.lookup y = some cx → acc.lookup z = some cx → y = z) →
    ∀ y z cx, m ≤ cx → (cellsFrom n names acc).lookup y = some cx → (cellsFrom n names acc).lookup z = some cx → y = z
  | [], _, _, _, _, ha => ha
  | (k, kd) :: r, n, acc, hm, hl, ha => by
    unfold cellsFrom
    split
    · refine cells_apart m r (n + 1) _ (by omega) (fun y cx e => ?_) fun y z cx hx e1 e2 => ?_
      · rw [List.lookup_cons] at e
        by_cases hy : y = k
        · rw [hy, beq_self_eq_true] at e; cases e; exact Nat.lt_succ_self _
        · rw [beq_eq_false_iff_ne.mpr hy] at e; exact Nat.lt_succ_of_lt (hl _ _ e)
      · rw [List.lookup_cons] at e1 e2
        by_cases hy : y = k <;> by_cases hz : z = k
        · rw [hy, hz]
        · rw [hy, beq_self_eq_true] at e1; cases e1
          rw [beq_eq_false_iff_ne.mpr hz] at e2
          exact absurd (hl _ _ e2) (Nat.lt_irrefl _)
        · rw [hz, beq_self_eq_true] at e2; cases e2
          rw [beq_eq_false_iff_ne.mpr hy] at e1
          exact absurd (hl _ _ e1) (Nat.lt_irrefl _)
        · rw [beq_eq_false_iff_ne.mpr hy] at e1
          rw [beq_eq_false_iff_ne.mpr hz] at e2
          exact ha y z cx hx e1 e2
    · exact cells_apart m r n acc hm hl ha

noncomputable def cEnv (scope : Scope) (cl : List (Str × Addr)) (C : Addr) (env : Env) : Env :=
  { scope := relabel scope env, locals := C, globals := env.globals, cells := cellsFrom (C + 1) scope.names cl, qual := env.qual, func := none, code := env.code, frame := env.frame, builtins := env.builtins }

theorem wp_cEnv {M : Model} {A : Around} {E : Value → Shared → Prop} {s : Shared} {scope : Scope} {cl : List (Str × Addr)} {env : Env} {Q : Env → Shared → Prop}
    (h : ∀ ce : Env, { ce with scope := relabel scope env } = cEnv scope cl s.heap.objs.size env → ce.locals = s.heap.objs.size → Q ce { s with heap := pushCells (s.heap.push { cls := .type "dict", data := .dict #[] }) scope.names }) :
    wpAny M A (newFunctionEnv scope env.globals cl [] env.qual none .none (some env)) Q E s := by
  simp only [newFunctionEnv, Option.isSome_some, if_true]
  refine wpAny_bind (wpAny_alloc ?_)
  refine wpAny_bind (wpAny_layCells _ (fun name kind cells => by cases hkc : kind == NameKind.cell <;> simp [hkc]) _ _ _ _ ?_)
  rw [List.forIn_nil]
  refine wpAny_bind (wpAny_pure (wpAny_pure (h _ ?_ rfl)))
  show _ = cEnv _ _ _ _
  unfold cEnv
  rw [show ({ s with heap := s.heap.push { cls := .type "dict", data := .dict #[] } } : Shared).heap.objs.size = s.heap.objs.size + 1 from Heap.size_push ..]

theorem EnvOk.comp {c : Fx} {env : Env} {ρ ρc : Loc} {μ : List Addr} {σ : Hp} {h h₁ : Heap} {scope : Scope} {cl : List (Str × Addr)} (hi : HInv c h μ σ) (he : EnvOk c env ρ μ h) (hk : scope.kind = .function)
    (hh : h₁ = pushCells (h.push { cls := .type "dict", data := .dict #[] }) scope.names) (hcl : ∀ p ∈ cl, env.cells.lookup p.1 = some p.2 ∧ env.kindOf p.1 = some .cell)
    (hρ : ∀ p ∈ ρc, ρ.lookup p.1 = some p.2 ∧ ((relabel scope env).names.lookup p.1 = some .cell ∨ ((relabel scope env).names.lookup p.1 = some .free ∧ p.1 ≠ "__classdict__")) ∧ ∃ cx, env.cells.lookup p.1 = some cx ∧ env.kindOf p.1 = some .cell ∧ ∀ n, (cellsFrom n scope.names cl).lookup p.1 = some cx) :
    EnvOk c (cEnv scope cl h.objs.size env) ρc μ h₁ ∧ HInv c h₁ μ σ ∧ Ev h h₁ ∧ h.objs.size < h₁.objs.size := by
  have hk₁ : ∀ b o, h.get? b = some o → h₁.get? b = some o := fun b o e => hh ▸ pushCells_keeps _ _ b o (Heap.get?_push_of_some _ e)
  have hsz : h.objs.size < h₁.objs.size := by
    rw [hh]; exact Nat.lt_of_lt_of_le (by rw [Heap.size_push]; exact Nat.lt_succ_self _) (size_pushCells _ _)
  have ev : Ev h h₁ := ⟨fun b o e _ => hk₁ b o e⟩
  have inv : HInv c h₁ μ σ := ⟨hi.ok, fun b o e => hk₁ b o (hi.keep b o e), Nat.le_trans hi.size (Nat.le_of_lt hsz), tabs_keep hi (fun b o e _ => hk₁ b o e) fun cv q r => r.keeps hk₁, hi.len, hi.nodup, fun n l e =>
      let ⟨a, vs, e1, ⟨k, e2⟩, e3⟩ := hi.lst n l e; ⟨a, vs, e1, ⟨k, hk₁ _ _ e2⟩, e3⟩, hi.new⟩
  have clk : ∀ {y cx}, cl.lookup y = some cx → env.cells.lookup y = some cx ∧ env.kindOf y = some .cell := fun {y cx} e => hcl (y, cx) (mem_of_lookup e)
  have split : ∀ {y cx}, (cEnv scope cl h.objs.size env).cells.lookup y = some cx → cl.lookup y = some cx ∨ (h.objs.size < cx ∧ h₁.IsCell cx none) := fun {y cx} e => by
    have e' : (cellsFrom (h.push { cls := .type "dict", data := .dict #[] }).objs.size scope.names cl).lookup y = some cx := by rw [Heap.size_push]; exact e
    rcases cells_split scope.names (h.push { cls := .type "dict", data := .dict #[] }) cl y cx e' with q | ⟨q1, q2⟩
    · exact .inl q
    · rw [Heap.size_push] at q1; exact .inr ⟨q1, hh ▸ q2⟩
  have old : ∀ {y cx}, cl.lookup y = some cx → cx < h.objs.size := fun {y cx} e => by
    obtain ⟨_, v, i⟩ := he.cellnew y cx (clk e).2 (clk e).1
    exact i.lt
  refine ⟨⟨hk, he.glob, he.bi, ⟨fun _ => none, ?_, fun y v hy => ?_⟩, hi.size, fun y cx ky ly => ?_, fun y z cx ky ly lz => ?_⟩, inv, ev, hsz⟩
  · rw [hh]; exact (Heap.Ns.new h (.type "dict")).keeps (pushCells_keeps _ _)
  · obtain ⟨e1, e2, cx, e3, e4, e5⟩ := hρ _ (mem_of_lookup hy)
    obtain ⟨m, _, hv⟩ := he.var
    obtain ⟨v', r, l⟩ := hv y v e1
    refine ⟨v', r.mono ev List.prefix_rfl, .inr ⟨e2, cx, e5 _, ?_⟩⟩
    rcases l with ⟨l, _⟩ | ⟨_, cy, l1, l2⟩
    · rw [e4] at l; cases l
    · rw [e3] at l1; cases l1; exact isCell_ev ev l2
  · rcases split ly with q | ⟨q1, q2⟩
    · obtain ⟨a, w, i⟩ := he.cellnew y cx (clk q).2 (clk q).1
      exact ⟨a, w, isCell_ev ev i⟩
    · exact ⟨Heap.get?_none_of_le (Nat.le_trans hi.size (Nat.le_of_lt q1)), none, q2⟩
  · rcases split ly with q | ⟨q1, q2⟩ <;> rcases split lz with r | ⟨r1, r2⟩
    · exact he.apart y z cx (clk q).2 (clk q).1 (clk r).1
    · exact absurd (old q) (Nat.not_lt.mpr (Nat.le_of_lt r1))
    · exact absurd (old r) (Nat.not_lt.mpr (Nat.le_of_lt q1))
    · exact (cells_apart (h.objs.size + 1) scope.names (h.objs.size + 1) cl (Nat.le_refl _) (fun y cx e => Nat.lt_succ_of_lt (old e)) (fun y z cx hx e1 e2 => absurd (old (y := y) (cx := cx) e1) (Nat.not_lt.mpr (Nat.le_of_succ_le hx))) y z cx q1 ly lz).symm

noncomputable def TST (c : Fx) (d : Nat) (env : Env) (ifs : List Expr) (ρ : Loc) (σ : Hp) (Q : Bool → Hp → Prop) : Prop :=
  ∀ (A : Around) (E : Value → Shared → Prop) (s : Shared) (μ : List Addr), AOk d A → HInv c s.heap μ σ → EnvOk c env ρ μ s.heap →
    wpAny (model c.prog c.w) A (forIn ifs true fun e r => if r = true then do let ok ← isTrue e env (eval e env); pure (ForInStep.yield ok) else pure (ForInStep.yield r)) (fun b s' => ∃ σ' μ', Q b σ' ∧ Res c s s' μ μ' σ') E s
theorem TST_nil {c : Fx} {d : Nat} {env : Env} {ρ : Loc} {σ : Hp} {Q : Bool → Hp → Prop} (q : Q true σ) : TST c d env [] ρ σ Q := fun A E s μ ha hi he => wpAny_tests_nil ⟨σ, μ, q, .refl hi⟩
theorem TST_one {c : Fx} {d : Nat} {env : Env} {ρ : Loc} {σ : Hp} {t : Expr} {Q : Bool → Hp → Prop} (h : SB c d env t ρ σ Q) : TST c d env [t] ρ σ Q := fun A E s μ ha hi he => wpAny_tests_one (h A E s μ ha hi he)

theorem wp_itself {c : Fx} {v : V} {s : Shared} {μ : List Addr} {A : Around} {E : Value → Shared → Prop} {R : Value → Shared → Prop} {it : Addr} {j : Nat} (hs : ItSt c s.heap μ it j v) (k : R (.ref it) s) : wpAny (model c.prog c.w) A (pyIter (.ref it)) R E s := by
  cases v with
  | none => cases hs
  | bool => cases hs
  | int => cases hs
  | str => cases hs
  | lam => cases hs
  | obj => cases hs
  | ref n => obtain ⟨a, _, x⟩ := hs; exact wpAny_pyIter_listiter x k
  | fl l => obtain ⟨a, _, x, _⟩ := hs; exact wpAny_pyIter_listiter x k
  | tup l => obtain ⟨a, _, x, _⟩ := hs; exact wpAny_pyIter_tupleiter x k
  | rng a b => exact wpAny_pyIter_rangeiter hs k

/-- what one turn of a comprehension does -/
noncomputable def CTurn (c : Fx) (d : Nat) (scope : Scope) (cl : List (Str × Addr)) (env : Env) (x : Str) (elt : Expr) (ifs : List Expr) (ρc : Loc) (N : Nat) (items : List V) (J : Nat → Hp → Prop) : Prop :=
  ∀ k σ' u, items[k]? = some u → J k σ' → ∀ C, StoreOk (cEnv scope cl C env) ((x, u) :: ρc) x ∧ TST c d (cEnv scope cl C env) ifs ((x, u) :: ρc) σ' fun b σ₂ => (b = false → J (k + 1) σ₂) ∧
    (b = true → SE c d (cEnv scope cl C env) elt ((x, u) :: ρc) σ₂ fun y σ₃ => atom y = true ∧ ∃ acc, σ₃[N]? = some acc ∧ acc.length < 2 ^ 20 ∧ J (k + 1) (σ₃.set N (acc ++ [y])))

theorem paired_snoc {α β : Type} {F : α → β → Prop} {l : List α} {m : List β} {a : α} {b : β} (h : Paired F l m) (r : F a b) : Paired F (l ++ [a]) (m ++ [b]) := Paired.snoc h r

theorem comp_core {c : Fx} {d : Nat} {env : Env} {ρ ρc : Loc} {σ : Hp} {elt iter : Expr} {x : Str} {px : Pos} {ifs : List Expr} {scope : Scope} {pos : Pos} {cl : List (Str × Addr)} {v : V} {items : List V} {J : Nat → Hp → Prop} {A : Around} {E : Value → Shared → Prop} {s : Shared} {μ : List Addr} {it : Addr} {h₀ : Heap}
    (hold : ∀ b o, h₀.get? b = some o → s.heap.get? b = some o ∧ b < it) (hx : ∀ p ∈ ρc, p.1 ≠ x ∧ ρc.lookup p.1 = some p.2) (hclx : cl.lookup x = none) (ha : AOk d A) (hi : HInv c s.heap μ σ) (he : EnvOk c env ρ μ s.heap) (hk : scope.kind = .function) (hcl : ∀ p ∈ cl, env.cells.lookup p.1 = some p.2 ∧ env.kindOf p.1 = some .cell)
    (hρ : ∀ p ∈ ρc, ρ.lookup p.1 = some p.2 ∧ ((relabel scope env).names.lookup p.1 = some .cell ∨ ((relabel scope env).names.lookup p.1 = some .free ∧ p.1 ≠ "__classdict__")) ∧ ∃ cx, env.cells.lookup p.1 = some cx ∧ env.kindOf p.1 = some .cell ∧ ∀ n, (cellsFrom n scope.names cl).lookup p.1 = some cx)
    (hs₀ : ItSt c s.heap μ it 0 v) (hgi : c.g.objs.size ≤ it) (h0 : J 0 (σ ++ [[]])) (hit : ∀ k σ', k ≤ items.length → J k σ' → Items σ' v items) (hturn : CTurn c d scope cl env x elt ifs ρc σ.length items J)
    {RR : Value → Addr → Result → Shared → Prop}
    (hR : ∀ D C h' tk m' σ' μ', s.heap.objs.size ≤ C → h'.Ns C m' → Ev h₀ h' → μ <+: μ' → HInv c h' μ' σ' → J items.length σ' → μ'[σ.length]? = some D → RR (.ref D) C (.ok .next) { s with heap := h', toks := tk }) :
    wpAny (model c.prog c.w) A (newList []) (fun acc s₃ => wpAny (model c.prog c.w) A (newFunctionEnv scope env.globals cl [] env.qual none .none (some env)) (fun cenv s₄ =>
      codeAny (model c.prog c.w) A (.compStart (.ListComp elt [⟨.Name x px, iter, ifs, 0⟩] scope pos) 0 (.ref it) acc { cenv with scope := relabel scope env }) (RR acc cenv.locals) s₄) E s₃) E s := by
  refine wpAny_newObj_type (wp_cEnv fun ce hce hL => ?_)
  dsimp only at hce hL ⊢
  have hi₃ : HInv c (s.heap.push (lobj [] 0)) (μ ++ [s.heap.objs.size]) (σ ++ [[]]) := hi.make .nil (Nat.zero_le _)
  have ev₃ : Ev s.heap (s.heap.push (lobj [] 0)) := Ev.push _ _
  have ev₀ : Ev h₀ s.heap := ⟨fun b o e _ => (hold b o e).1⟩
  have he₃ := he.mono ev₃ ⟨[s.heap.objs.size], rfl⟩
  obtain ⟨e₄, i₄, ev₄, hsz₄⟩ := EnvOk.comp (h₁ := pushCells ((s.heap.push (lobj [] 0)).push { cls := .type "dict", data := .dict #[] }) scope.names) hi₃ he₃ hk rfl hcl hρ
  have hD : (μ ++ [s.heap.objs.size])[σ.length]? = some s.heap.objs.size := by rw [List.getElem?_append_right (Nat.le_of_eq hi.len)]; simp [hi.len]
  have hC : s.heap.objs.size < (s.heap.push (lobj [] 0)).objs.size := by rw [Heap.size_push]; exact Nat.lt_succ_self _
  generalize hC2 : (s.heap.push (lobj [] 0)).objs.size = C at e₄ hC hsz₄ hL hce
  generalize hh4 : pushCells ((s.heap.push (lobj [] 0)).push { cls := .type "dict", data := .dict #[] }) scope.names = h₄ at e₄ i₄ ev₄ hsz₄
  have it₄ : ItSt c h₄ (μ ++ [s.heap.objs.size]) it 0 v := hs₀.keep (fun b o eb mb _ _ => (ev₃.trans ev₄).keep b o eb mb) ⟨_, rfl⟩
  have hitlt : it < s.heap.objs.size := by obtain ⟨o, g, _⟩ := hs₀.mut; exact Heap.lt_size g
  have loop : ∀ s₄ : Shared, s₄ = { s with heap := h₄ } →
      codeAny (model c.prog c.w) A (.compLoop (.ListComp elt [⟨.Name x px, iter, ifs, 0⟩] scope pos) 0 (.ref it) (.ref s.heap.objs.size) (cEnv scope cl C env)) (RR (.ref s.heap.objs.size) C) s₄ := by
    rintro _ rfl
    refine codeAny_compLoop_tests (fun n s' => ∃ k σ' μ' h' tk, s' = { s with heap := h', toks := tk } ∧ n = items.length + 1 - k ∧ k ≤ items.length ∧ J k σ' ∧ Ev h₀ h' ∧ (μ ++ [s.heap.objs.size]) <+: μ' ∧ HInv c h' μ' σ' ∧ EnvOk c (cEnv scope cl C env) ρc μ' h' ∧ ItSt c h' μ' it k v)
      (fun n s₅ ⟨k, σ₅, μ₅, h₅, tk₅, hs₅, hn, hk₅, hJ, ev₅, p₅, i₅, e₅, t₅⟩ => ?_) (items.length + 1) ⟨0, _, _, h₄, s.toks, rfl, rfl, Nat.zero_le _, h0, ev₀.trans (ev₃.trans ev₄), List.prefix_rfl, i₄, e₄, it₄⟩
    subst hs₅
    have hD₅ := pre_get p₅ hD
    refine wp_next ha i₅ (hit k σ₅ hk₅ hJ) t₅ hgi (fun u u' h₆ t₆ hu ru it₆ hsb => ?_) (fun h₆ t₆ hu hsb => ?_) hk₅
    · have i₆ := turn_inv i₅ t₅ hgi hsb
      have e₆ := e₅.ext t₅ hsb.extBut
      obtain ⟨hst, hT⟩ := hturn k σ₅ u hu hJ C
      refine wpAny_assign_Name (wp_store i₆ e₆ hst ru.v fun h₇ t₇ y₇ e₇ kp₇ => ?_)
      have it₇ : ItSt c h₇ μ₅ it (k + 1) v := it₆.evx e₆ y₇.ev List.prefix_rfl
      refine wpAny_mono (hT A _ _ μ₅ ha y₇.inv e₇) (fun b s₈ ⟨σ₈, μ₈, q₈, x₈⟩ => ?_) fun _ _ e => e
      have e₈ := e₇.mono x₈.ev x₈.pre
      have it₈ := it₇.keep (fun b o eb mb _ _ => x₈.ev.keep b o eb mb) x₈.pre
      obtain ⟨h₈, t₈, rfl⟩ := x₈.same
      have evAll : ∀ {h' : Heap}, Ev h₈ h' → Ev h₀ h' := fun {h'} e8 => ⟨fun b o eb mb => e8.keep _ _ (x₈.ev.keep _ _ (kp₇ b o (hsb.extBut _ _ (fun hb => Nat.lt_irrefl _ (hb ▸ (hold b o eb).2)) (ev₅.keep b o eb mb)) (fun hb => by
          have h1 := (hold b o eb).2
          have hb' : b = C := hb
          rw [hb'] at h1
          exact Nat.lt_irrefl _ (Nat.lt_trans h1 (Nat.lt_trans hitlt hC))) fun hz hl => by
          have h1 := (hold b o eb).2
          have hl' : (cellsFrom (C + 1) scope.names cl).lookup x = some b := hl
          rw [← hC2, ← Heap.size_push (o := { cls := .type "dict", data := .dict #[] })] at hl'
          rcases cells_split scope.names _ cl x b hl' with q | ⟨q, _⟩
          · rw [hclx] at q; cases q
          · rw [Heap.size_push, hC2] at q
            exact Nat.lt_irrefl _ (Nat.lt_trans h1 (Nat.lt_trans hitlt (Nat.lt_trans hC (Nat.lt_of_succ_le q))))) mb) mb⟩
      · have hk' : k < items.length := (List.getElem?_eq_some_iff.mp hu).1
        have e₈' : EnvOk c (cEnv scope cl C env) ρc μ₈ h₈ := e₈.sub fun p hp => ?_
        · cases b with
          | false =>
            rw [if_neg (by decide)]
            exact ⟨items.length + 1 - (k + 1), by omega, k + 1, σ₈, μ₈, h₈, t₈, rfl, rfl, hk', q₈.1 rfl, evAll (.refl _), p₅.trans x₈.pre, x₈.inv, e₈', it₈⟩
          | true =>
            rw [if_pos rfl]
            refine wpAny_mono (q₈.2 rfl A _ _ μ₈ ha x₈.inv e₈) (fun y' s₉ ⟨y, σ₉, μ₉, ⟨hy, acc, hacc, hlen, hJ'⟩, ry, x₉⟩ => ?_) fun _ _ e => e
            have hD₉ : μ₉[σ.length]? = some s.heap.objs.size := pre_get (x₈.pre.trans x₉.pre) hD₅
            obtain ⟨vs, hp, hr, hz⟩ := x₉.inv.get hacc hD₉
            have ry' := ry.atom hy
            have hlv := hr.length
            obtain ⟨h₉, t₉, rfl⟩ := x₉.same
            refine wpAny_list_append_plain hp (fun h₁₀ hp' hsb' => ?_) (by rw [List.size_toArray, sizeLine_eq, ← hlv]; omega)
            have hp'' : h₁₀.PlainList s.heap.objs.size (vs ++ [y']).toArray := by simpa using hp'
            have i₁₀ := x₉.inv.upd hD₉ hp hsb' hp'' (paired_snoc hr ry') (by rw [List.length_append, List.length_singleton]; omega)
            have ev₁₀ : Ev h₉ h₁₀ := Ev.list hp hsb'
            exact ⟨items.length + 1 - (k + 1), by omega, k + 1, _, μ₉, h₁₀, t₉, rfl, rfl, hk', hJ', evAll (x₉.ev.trans ev₁₀), (p₅.trans x₈.pre).trans x₉.pre, i₁₀, (e₈'.mono x₉.ev x₉.pre).mono ev₁₀ List.prefix_rfl,
              (it₈.keep (fun b o eb mb _ _ => x₉.ev.keep b o eb mb) x₉.pre).keep (fun b o eb mb _ _ => ev₁₀.keep b o eb mb) List.prefix_rfl⟩
        · rw [List.lookup_cons, beq_eq_false_iff_ne.mpr (hx p hp).1]; exact (hx p hp).2
    · have hk' : k = items.length := by have := List.getElem?_eq_none_iff.mp hu; omega
      subst hk'
      have i₆ := end_inv i₅ e₅ t₅ hgi hsb
      obtain ⟨m, hn, _⟩ := (e₅.ext t₅ hsb).var
      exact hR _ C h₆ t₆ m σ₅ μ₅ (Nat.le_of_lt hC) hn ⟨fun b o eb mb => hsb _ _ (fun hb => Nat.lt_irrefl _ (hb ▸ (hold b o eb).2)) (ev₅.keep b o eb mb)⟩ ((List.prefix_append _ _).trans p₅) i₆ hJ hD₅
  rw [hce, hL]
  refine codeAny_compStart_list (loop _ rfl) (wp_itself it₄ (loop _ rfl))

/-- the looks at a comprehension's scope -/
structure CompOk (env : Env) (ρ : Loc) (x : Str) (iter : Expr) (scope : Scope) (cl : List (Str × Addr)) (ρc : Loc) : Prop where
  fold : ∀ x, foldedSetIterable iter env x = pure x
  clos : closureFor scope env = pure cl
  kind : scope.kind = .function
  names : ∀ y ∈ scope.names, y.2 = .local → scope.names.lookup y.1 = some .local
  cells : ∀ p ∈ cl, env.cells.lookup p.1 = some p.2 ∧ env.kindOf p.1 = some .cell
  vars : ∀ p ∈ ρc, ρ.lookup p.1 = some p.2 ∧ ((relabel scope env).names.lookup p.1 = some .cell ∨ ((relabel scope env).names.lookup p.1 = some .free ∧ p.1 ≠ "__classdict__")) ∧ ∃ cx, env.cells.lookup p.1 = some cx ∧ env.kindOf p.1 = some .cell ∧ ∀ n, (cellsFrom n scope.names cl).lookup p.1 = some cx
  apart : ∀ p ∈ ρc, p.1 ≠ x ∧ ρc.lookup p.1 = some p.2
  own : cl.lookup x = none

section
variable {c : Fx} {d : Nat} {env : Env} {ρ : Loc} {σ : Hp}

theorem SE_comp {elt iter : Expr} {x : Str} {px : Pos} {ifs : List Expr} {scope : Scope} {pos : Pos} {cl : List (Str × Addr)} (ρc : Loc) {Q : V → Hp → Prop} (ok : CompOk env ρ x iter scope cl ρc)
    (h : SE c d env iter ρ σ fun v σ₁ => ∃ (items : List V) (J : Nat → Hp → Prop), Items σ₁ v items ∧ J 0 (σ₁ ++ [[]]) ∧ (∀ k σ', k ≤ items.length → J k σ' → Items σ' v items) ∧ CTurn c d scope cl env x elt ifs ρc σ₁.length items J ∧
      ∀ σ', J items.length σ' → Q (.ref σ₁.length) σ') : SE c d env (.ListComp elt [⟨.Name x px, iter, ifs, 0⟩] scope pos) ρ σ Q := fun A E s μ ha hi he => by
  rw [eval_ListComp]
  refine wpAny_comprehension_free (use := none) rfl ok.fold ok.clos ok.kind ok.names (wp_seq (h A E s μ ha hi he) fun v v' σ₁ μ₁ s₁ ⟨items, J, hit₀, h0, hit, hturn, hend⟩ r x₁ => ?_)
  have e₁ := he.mono x₁.ev x₁.pre
  refine wp_iter x₁.inv r hit₀ fun o hs₀ => ?_
  have i₂ := x₁.inv.push o
  refine comp_core (J := J) (E := E) (RR := fun acc C => compPost (model c.prog c.w) A E none (Post c s μ Q) acc C) (h₀ := s₁.heap) (fun b ob eb => ⟨Heap.get?_push_of_some _ eb, Heap.lt_size eb⟩) ok.apart ok.own ha i₂ (e₁.mono (Ev.push _ _) List.prefix_rfl) ok.kind ok.cells ok.vars hs₀ x₁.inv.size h0 hit hturn ?_
  intro D C h' tk m' σ' μ' hC hn ev p i hJ hD
  obtain ⟨oC, g1, g2, g3, _⟩ := mut_ns hn
  have hgC : c.g.get? C = none := Heap.get?_none_of_le (Nat.le_trans (Nat.le_trans x₁.inv.size (by show s₁.heap.objs.size ≤ (s₁.heap.push o).objs.size; rw [Heap.size_push]; exact Nat.le_succ _)) hC)
  refine ⟨m', hn, fun h'' hs'' => .of (hend σ' hJ) ⟨D, rfl, hD⟩ (x₁.trans ⟨⟨h'', tk, rfl⟩, p, ⟨fun b ob eb mb => hs''.extBut _ _ (fun hb => ?_) (ev.keep b ob eb mb)⟩, i.other g1 g2 g3 hgC hs''⟩)⟩
  have h1 := Heap.lt_size eb
  rw [hb] at h1
  have h2 : s₁.heap.objs.size < (s₁.heap.push o).objs.size := by rw [Heap.size_push]; exact Nat.lt_succ_self _
  exact Nat.lt_irrefl _ (Nat.lt_trans h1 (Nat.lt_of_lt_of_le h2 hC))

theorem SX_comp {elt iter : Expr} {x y : Str} {px py : Pos} {ifs : List Expr} {scope : Scope} {pos spos : Pos} {cl : List (Str × Addr)} (ρc : Loc) {Q : FV → Loc → Hp → Prop}
    (hsw : swapsWith (.ListComp elt [⟨.Name x px, iter, ifs, 0⟩] scope pos) (some (.Name y py)) spos.line env = pure true) (ok : CompOk env ρ x iter scope cl ρc)
    (h : SE c d env iter ρ σ fun v σ₁ => ∃ (items : List V) (J : Nat → Hp → Prop), Items σ₁ v items ∧ J 0 (σ₁ ++ [[]]) ∧ (∀ k σ', k ≤ items.length → J k σ' → Items σ' v items) ∧ CTurn c d scope cl env x elt ifs ρc σ₁.length items J ∧
      StoreOk env ((y, .ref σ₁.length) :: ρ) y ∧ ∀ σ', J items.length σ' → Q .nx ((y, .ref σ₁.length) :: ρ) σ') : SX c d env (.Assign [.Name y py] (.ListComp elt [⟨.Name x px, iter, ifs, 0⟩] scope pos) spos) ρ σ Q := fun A E s μ ha hi he => by
  rw [exec_Assign_Name_used _ _ _ _ hsw]
  refine wpAny_bind (wpAny_standAt (wpAny_bind ?_))
  show wpAny _ A (do let _ ← comprehension (.ListComp elt [⟨.Name x px, iter, ifs, 0⟩] scope pos) scope env _ (newList []) false (eval iter env) (some (assign (.Name y py) env))) _ _ s
  refine wpAny_bind (wpAny_mono (wpAny_comprehension_free (use := some (assign (.Name y py) env)) (Q := fun _ s' => PostX c env s μ Q .next s') rfl ok.fold ok.clos ok.kind ok.names
    (wp_seq (h A E s μ ha hi he) fun v v' σ₁ μ₁ s₁ ⟨items, J, hit₀, h0, hit, hturn, hst, hend⟩ r x₁ => ?_)) (fun _ s' hq => wpAny_pure (wpAny_pure hq)) fun _ _ e => e)
  have e₁ := he.mono x₁.ev x₁.pre
  refine wp_iter x₁.inv r hit₀ fun o hs₀ => ?_
  have i₂ := x₁.inv.push o
  refine comp_core (J := J) (E := E) (RR := fun acc C => compPost (model c.prog c.w) A E (some (assign (.Name y py) env)) (fun _ s' => PostX c env s μ Q .next s') acc C) (h₀ := s₁.heap) (fun b ob eb => ⟨Heap.get?_push_of_some _ eb, Heap.lt_size eb⟩) ok.apart ok.own ha i₂ (e₁.mono (Ev.push _ _) List.prefix_rfl) ok.kind ok.cells ok.vars hs₀ x₁.inv.size h0 hit hturn ?_
  intro D C h' tk m' σ' μ' hC hn ev p i hJ hD
  have hsz : s₁.heap.objs.size < C := Nat.lt_of_lt_of_le (by show s₁.heap.objs.size < (s₁.heap.push o).objs.size; rw [Heap.size_push]; exact Nat.lt_succ_self _) hC
  have x₂ : Res c s { s₁ with heap := h', toks := tk } μ μ' σ' := x₁.trans ⟨⟨h', tk, rfl⟩, p, ev, i⟩
  have e₂ := e₁.mono ev p
  refine wpAny_assign_Name (wp_store i e₂ hst ⟨D, rfl, hD⟩ fun h₃ t₃ y₃ e₃ kp₃ => ?_)
  obtain ⟨oC, g1, g2, g3, es, ep, g4⟩ := mut_ns hn
  have hgC : c.g.get? C = none := Heap.get?_none_of_le (Nat.le_trans x₁.inv.size (Nat.le_of_lt hsz))
  have hCL : C ≠ env.locals := fun hb => by
    obtain ⟨m, hm, _⟩ := e₁.var
    have := hm.lt
    rw [← hb] at this
    exact Nat.lt_irrefl _ (Nat.lt_trans this hsz)
  have hCc : env.kindOf y = some .cell → env.cells.lookup y ≠ some C := fun hk hl => by
    obtain ⟨_, w, i⟩ := e₁.cellnew y C hk hl
    exact Nat.lt_irrefl _ (Nat.lt_trans i.lt hsz)
  have hn₃ : h₃.Ns C m' := by
    obtain ⟨o', es, ep, ho, hd, r⟩ := hn
    exact ⟨o', es, ep, kp₃ _ _ ho hCL hCc, hd, r⟩
  obtain ⟨oC', f1, f2, f3, es', ep', f4⟩ := mut_ns hn₃
  refine ⟨m', hn₃, fun h'' hs'' => ?_⟩
  have kd : ∀ b ob, h₃.get? b = some ob → isMut ob = false → (∀ es ep, ob.data ≠ .dict es ep) → h''.get? b = some ob := fun b ob eb _ hd => hs''.extBut b ob (fun hb => by rw [hb, f1] at eb; cases eb; exact hd _ _ f4) eb
  have i₄ := y₃.inv.other f1 f2 f3 hgC hs''
  refine ⟨.nx, _, σ', μ', hend σ' hJ, rfl, ?_, ?_⟩
  · obtain ⟨hh, tt, e⟩ := x₁.same
    refine ⟨⟨h'', t₃, by rw [e]⟩, x₁.pre.trans p, ⟨fun b ob eb mb lb cb => hs''.extBut _ _ (fun hb => ?_) (y₃.ev.keep b ob (x₂.ev.keep b ob eb mb) mb lb cb)⟩, i₄⟩
    have h1 := Heap.lt_size (x₁.ev.keep b ob eb mb)
    rw [hb] at h1
    exact Nat.lt_irrefl _ (Nat.lt_trans h1 hsz)
  · refine ⟨e₃.kind, e₃.glob, e₃.bi, ?_, e₃.new, fun z cx k l => ?_, e₃.apart⟩
    · obtain ⟨m, hm, hv⟩ := e₃.var
      refine ⟨m, hm.sameBut hs'' (fun hb => hCL hb.symm), fun z u hz => ?_⟩
      obtain ⟨u', ru, l⟩ := hv z u hz
      refine ⟨u', VRel.locals kd ru, ?_⟩
      rcases l with l | ⟨k1, cx, l1, ⟨o', l2, l3⟩⟩
      · exact .inl l
      · exact .inr ⟨k1, cx, l1, o', kd _ _ l2 (by unfold isMut; rw [l3]) (fun _ _ q => by rw [l3] at q; cases q), l3⟩
    · obtain ⟨a, w, o', l2, l3⟩ := e₃.cellnew z cx k l
      exact ⟨a, w, o', kd _ _ l2 (by unfold isMut; rw [l3]) (fun _ _ q => by rw [l3] at q; cases q), l3⟩
end

end
section
open PySem PySem.W PyProof.Rows PySem.Calls
set_option Elab.async false
set_option maxRecDepth 100000
set_option autoImplicit false
set_option linter.unusedVariables false

/-! list methods -/
theorem METH_ref {c : Fx} {name : Str} {id : String} {n : Nat} (sl : Slot "list" name id) (ty : typeOf (.builtin id) = pure (.type "method_descriptor")) : METH c name (.ref n) id := by
  rintro s μ σ vo hi ⟨a, rfl, ea⟩
  have hn : n < σ.length := hi.len ▸ (List.getElem?_eq_some_iff.mp ea).1
  obtain ⟨vs, ⟨k, hk⟩, _⟩ := hi.get (List.getElem?_eq_getElem hn) ea
  exact ⟨"list", F.plainAttrs_list, sl, ty, ⟨_, hk, rfl⟩, fun b e => by cases e; exact ⟨_, hk, rfl⟩⟩
theorem METH_str {c : Fx} {name : Str} {id : String} {x : Str} (sl : Slot "str" name id) (ty : typeOf (.builtin id) = pure (.type "method_descriptor")) : METH c name (.str x) id := by
  rintro s μ σ vo hi ⟨t, rfl⟩
  exact ⟨"str", F.plainAttrs_str, sl, ty, typeIs_str _ _ _, fun b e => nomatch e⟩

section
variable {c : Fx} {d : Nat} {σ : Hp} {Q : V → Hp → Prop}

theorem args1 {c : Fx} {h : Heap} {μ : List Addr} {a : V} {vs : List Value} (x : VRels c h μ [a] vs) : ∃ x, vs = [x] ∧ VRel c h μ a x := by
  cases x with | cons r x => cases x with | nil => exact ⟨_, rfl, r⟩
theorem args2 {c : Fx} {h : Heap} {μ : List Addr} {a b : V} {vs : List Value} (x : VRels c h μ [a, b] vs) : ∃ x y, vs = [x, y] ∧ VRel c h μ a x ∧ VRel c h μ b y := by
  cases x with | cons r x => obtain ⟨y, rfl, r2⟩ := args1 x; exact ⟨_, _, rfl, r, r2⟩
theorem args3 {c : Fx} {h : Heap} {μ : List Addr} {a b e : V} {vs : List Value} (x : VRels c h μ [a, b, e] vs) : ∃ x y z, vs = [x, y, z] ∧ VRel c h μ a x ∧ VRel c h μ b y ∧ VRel c h μ e z := by
  cases x with | cons r x => obtain ⟨y, z, rfl, r2⟩ := args2 x; exact ⟨_, _, _, rfl, r, r2⟩
theorem args4 {c : Fx} {h : Heap} {μ : List Addr} {a b e f : V} {vs : List Value} (x : VRels c h μ [a, b, e, f] vs) : ∃ x y z w, vs = [x, y, z, w] ∧ VRel c h μ a x ∧ VRel c h μ b y ∧ VRel c h μ e z ∧ VRel c h μ f w := by
  cases x with | cons r x => obtain ⟨y, z, w, rfl, r2⟩ := args3 x; exact ⟨_, _, _, _, rfl, r, r2⟩
theorem args0 {c : Fx} {h : Heap} {μ : List Addr} {vs : List Value} (x : VRels c h μ [] vs) : vs = [] := by cases x; rfl

theorem sz_le {n : Nat} (h : n ≤ 2 ^ 20) : n ≤ sizeLine := by rw [sizeLine_eq]; omega

theorem CALL_append {n : Nat} {l : List V} {v : V} (hl : σ[n]? = some l) (hv : atom v = true) (hz : l.length < 2 ^ 20) (q : Q .none (σ.set n (l ++ [v]))) : CALLV c d (.obj (.builtin "list.append")) [.ref n, v] [] σ Q := by
  rintro A E s μ vf vs ks ha hi rfl hvs hks
  obtain ⟨_, v', rfl, ⟨a, rfl, ea⟩, rv⟩ := args2 hvs
  obtain ⟨us, hp, hr, _⟩ := hi.get hl ea
  have hlen := hr.length
  refine wpAny_list_append_plain hp (fun h' hp' hs => ?_) (sz_le (by rw [List.size_toArray, ← hlen]; omega))
  exact .of (v := .none) q rfl (Res.upd hi ea hp hs (vs := us ++ [v']) (by simpa using hp') (paired_snoc hr (rv.atom hv)) (by rw [List.length_append, List.length_singleton]; omega) s.toks)

theorem ins_toList (us : List Value) (i : Nat) (h : i ≤ us.length) (y : Value) : (us.toArray.extract 0 i).push y ++ us.toArray.extract i us.toArray.size = (us.take i ++ y :: us.drop i).toArray := by
  apply Array.toList_inj.mp
  simp
  rw [List.take_of_length_le (by rw [List.length_drop]; omega)]
theorem p_take {α β : Type} {F : α → β → Prop} : ∀ {l : List α} {m : List β}, Paired F l m → ∀ i, Paired F (l.take i) (m.take i)
  | _, _, .nil, _ => by simp; exact .nil
  | _, _, .cons h r, 0 => .nil
  | _, _, .cons h r, i + 1 => .cons h (p_take r i)
theorem p_drop {α β : Type} {F : α → β → Prop} : ∀ {l : List α} {m : List β}, Paired F l m → ∀ i, Paired F (l.drop i) (m.drop i)
  | _, _, .nil, _ => by simp; exact .nil
  | _, _, .cons h r, 0 => .cons h r
  | _, _, .cons h r, i + 1 => p_drop r i
theorem p_app {α β : Type} {F : α → β → Prop} : ∀ {l : List α} {m : List β}, Paired F l m → ∀ {l' : List α} {m' : List β}, Paired F l' m' → Paired F (l ++ l') (m ++ m')
  | _, _, .nil, _, _, x => x
  | _, _, .cons h r, _, _, x => .cons h (p_app r x)
theorem p_unsnoc {α β : Type} {F : α → β → Prop} : ∀ {l : List α} {a : α} {m : List β}, Paired F (l ++ [a]) m → ∃ m' b, m = m' ++ [b] ∧ Paired F l m' ∧ F a b
  | [], _, _, .cons h .nil => ⟨[], _, rfl, .nil, h⟩
  | _ :: _, _, _, .cons h r => let ⟨m', b, e, r', hb⟩ := p_unsnoc r; ⟨_ :: m', b, by rw [e]; rfl, .cons h r', hb⟩
theorem p_set {α β : Type} {F : α → β → Prop} : ∀ {l : List α} {m : List β}, Paired F l m → ∀ (i : Nat) {a : α} {b : β}, F a b → Paired F (l.set i a) (m.set i b)
  | _, _, .nil, _, _, _, _ => .nil
  | _, _, .cons h r, 0, _, _, x => .cons x r
  | _, _, .cons h r, i + 1, _, _, x => .cons h (p_set r i x)
theorem p_erase {α β : Type} {F : α → β → Prop} : ∀ {l : List α} {m : List β}, Paired F l m → ∀ (i : Nat), Paired F (l.eraseIdx i) (m.eraseIdx i)
  | _, _, .nil, _ => .nil
  | _, _, .cons h r, 0 => r
  | _, _, .cons h r, i + 1 => .cons h (p_erase r i)
theorem plain_upd {h : Heap} {a : Addr} {xs : Array Value} {k : Nat} (hp : h.get? a = some { cls := .type "list", data := .seq xs k }) (f : Array Value → Array Value) (us : List Value) (e : f xs = us.toArray) :
    Heap.PlainList (h.update a (Obj.mapSeq f)) a us.toArray := by
  have := IsL.update (n := k) (items := xs) (l := a) hp f
  rw [e] at this
  exact ⟨_, this⟩

noncomputable def insG (i : Int) (y : Value) (xs : Array Value) : Array Value := have k := if i < 0 then (i + (xs.size : Int)).toNat else min i.toNat xs.size; (xs.extract 0 k).push y ++ xs.extract k
noncomputable abbrev insF (i : Int) (y : Value) : Obj → Obj := Obj.mapSeq (insG i y)
theorem ins_call {prog : Program} {w : World} {A : Around} {E : Value → Shared → Prop} {s : Shared} {a : Addr} {xs : Array Value} {k : Nat} {i : Int} {t : Tok} {y : Value} {Q : Value → Shared → Prop} (hp : s.heap.get? a = some { cls := .type "list", data := .seq xs k })
    (h0 : 0 ≤ i) (h1 : i < 2 ^ 62) (hsz : xs.size ≤ sizeLine) (h : Q .none { s with heap := s.heap.update a (insF i y) }) : wpAny (model prog w) A (call (.builtin "list.insert") [.ref a, .int i t, y]) Q E s := by
  have hf2 : ¬ (!Builtin.List.listFitsIndex i) = true := by
    unfold Builtin.List.listFitsIndex
    simp only [Bool.not_eq_true', Bool.not_eq_false, Bool.and_eq_true, decide_eq_true_eq]
    omega
  exact call_meets F.slot_list_insert ⟨_, hp, rfl⟩ F.entry_list_insert (F.args_list_insert_3 _ _ _) (AutoSeq1.list_insert_list_int_val_1 a xs k i t y hf2 hsz) ⟨hp, h⟩
theorem CALL_insert {n : Nat} {l : List V} {i : Nat} {v : V} (hl : σ[n]? = some l) (hi' : i ≤ l.length) (hv : atom v = true) (hz : l.length < 2 ^ 20) (q : Q .none (σ.set n (l.take i ++ v :: l.drop i))) :
    CALLV c d (.obj (.builtin "list.insert")) [.ref n, .int i, v] [] σ Q := by
  rintro A E s μ vf vs ks ha hi rfl hvs hks
  obtain ⟨_, _, v', rfl, ⟨a, rfl, ea⟩, ⟨t, rfl⟩, rv⟩ := args3 hvs
  obtain ⟨us, ⟨k, hp⟩, hr, _⟩ := hi.get hl ea
  have hlen := hr.length
  have hsz : us.toArray.size ≤ sizeLine := sz_le (by rw [List.size_toArray, ← hlen]; omega)
  refine ins_call hp (Int.natCast_nonneg i) (by omega) hsz ?_
  have hs : Heap.SameBut a s.heap (s.heap.update a (insF i v')) := Heap.SameBut.update ..
  have hn : Heap.PlainList (s.heap.update a (insF i v')) a (us.take i ++ v' :: us.drop i).toArray := by
    have e : insG i v' us.toArray = (us.take i ++ v' :: us.drop i).toArray := by
      unfold insG
      dsimp only
      rw [if_neg (by omega), Int.toNat_natCast, Nat.min_eq_left (by rw [List.size_toArray, ← hlen]; exact hi')]
      exact ins_toList us i (by omega) v'
    have := IsL.update (n := k) (items := us.toArray) (l := a) hp (insG i v')
    rw [e] at this
    exact ⟨_, this⟩
  refine .of (v := .none) q rfl (Res.upd hi ea ⟨k, hp⟩ hs hn ?_ ?_ s.toks)
  · exact p_app (p_take hr i) (.cons (rv.atom hv) (p_drop hr i))
  · simp only [List.length_append, List.length_take, List.length_cons, List.length_drop]; omega

theorem CALL_pop {n : Nat} {l : List V} {v : V} (hl : σ[n]? = some (l ++ [v])) (q : Q v (σ.set n l)) : CALLV c d (.obj (.builtin "list.pop")) [.ref n] [] σ Q := by
  rintro A E s μ vf vs ks ha hi rfl hvs hks
  obtain ⟨_, rfl, a, rfl, ea⟩ := args1 hvs
  obtain ⟨us, ⟨k, hp⟩, hr, hz⟩ := hi.get hl ea
  obtain ⟨us, y, rfl, hr1, hy⟩ := p_unsnoc hr
  have hlen := hr1.length
  rw [List.length_append, List.length_singleton] at hz
  have hs1 : (us ++ [y]).toArray.size ≤ sizeLine := sz_le (by rw [List.size_toArray, List.length_append, List.length_singleton]; omega)
  have hg : (us ++ [y]).toArray[(us ++ [y]).toArray.size - 1]? = some y := by simp
  refine call_meets F.slot_list_pop ⟨_, hp, rfl⟩ F.entry_list_pop (F.args_list_pop_1 _) (MeetsSeq.list_pop_last a _ k y hg hs1) ⟨hp, ?_⟩
  exact ⟨v, _, μ, q, hy.v, Res.upd (n := n) hi ea ⟨k, hp⟩ (Heap.SameBut.update ..) (plain_upd hp _ us (by simp [List.eraseIdx_append_of_length_le])) hr1 (by omega) s.toks⟩
theorem CALL_pop0 {n : Nat} {l : List V} {v : V} (hl : σ[n]? = some (v :: l)) (q : Q v (σ.set n l)) : CALLV c d (.obj (.builtin "list.pop")) [.ref n, .int 0] [] σ Q := by
  rintro A E s μ vf vs ks ha hi rfl hvs hks
  obtain ⟨_, _, rfl, ⟨a, rfl, ea⟩, t, rfl⟩ := args2 hvs
  obtain ⟨us, ⟨k, hp⟩, hr, hz⟩ := hi.get hl ea
  cases hr with
  | @cons _ y _ us hy hr1 =>
  have hlen := hr1.length
  rw [List.length_cons] at hz
  have hs1 : (y :: us).toArray.size ≤ sizeLine := sz_le (by rw [List.size_toArray, List.length_cons]; omega)
  refine call_meets F.slot_list_pop ⟨_, hp, rfl⟩ F.entry_list_pop (F.args_list_pop_2 _ _) (MeetsSeq.list_pop_at a _ k 0 t 0 y (by decide) (by unfold seqIndex?; simp) (by simp) hs1) ⟨hp, ?_⟩
  exact ⟨v, _, μ, q, hy.v, Res.upd (n := n) hi ea ⟨k, hp⟩ (Heap.SameBut.update ..) (plain_upd hp _ us (by simp)) hr1 (by omega) s.toks⟩

theorem CALL_len_list {n : Nat} {l : List V} (hl : σ[n]? = some l) (q : Q (.int l.length) σ) : CALLV c d (.obj (.builtin "len")) [.ref n] [] σ Q := by
  rintro A E s μ vf vs ks ha hi rfl hvs hks
  obtain ⟨_, rfl, a, rfl, ea⟩ := args1 hvs
  obtain ⟨us, hp, hr, hz⟩ := hi.get hl ea
  have hlen := hr.length
  refine call_len_list hp.isList (by rw [List.size_toArray]; omega) (.of q ⟨_, by rw [List.size_toArray, hlen]⟩ (.toks hi _))
theorem CALL_len_fl {l : List V} (q : Q (.int l.length) σ) : CALLV c d (.obj (.builtin "len")) [.fl l] [] σ Q := by
  rintro A E s μ vf vs ks ha hi rfl hvs hks
  obtain ⟨_, rfl, a, us, rfl, hf, hr, hz⟩ := args1 hvs
  have hlen := hr.length
  have hp : s.heap.IsList a us.toArray := let ⟨o, ho, r⟩ := hf; ⟨o, hi.keep _ _ ho, r⟩
  refine call_len_list hp (by rw [List.size_toArray]; omega) (.of q ⟨_, by rw [List.size_toArray, hlen]⟩ (.toks hi _))
theorem CALL_range1 {n : Int} (q : Q (.rng 0 n) σ) : CALLV c d (.obj (.type "range")) [.int n] [] σ Q := by
  rintro A E s μ vf vs ks ha hi rfl hvs hks
  obtain ⟨_, rfl, t, rfl⟩ := args1 hvs
  exact call_range_1 (.of q ⟨_, _, _, _, rfl, IsRange.new ..⟩ (Res.push hi _ _))
theorem CALL_range2 {m n : Int} (q : Q (.rng m n) σ) : CALLV c d (.obj (.type "range")) [.int m, .int n] [] σ Q := by
  rintro A E s μ vf vs ks ha hi rfl hvs hks
  obtain ⟨_, _, rfl, ⟨t, rfl⟩, u, rfl⟩ := args2 hvs
  exact call_range_2 (.of q ⟨_, _, _, _, rfl, IsRange.new ..⟩ (Res.push hi _ _))

/-! the heap grows by anything -/
theorem HInv.grow {h h' : Heap} {μ : List Addr} (hi : HInv c h μ σ) (hk : ∀ b o, h.get? b = some o → h'.get? b = some o) (hz : h.objs.size ≤ h'.objs.size) : HInv c h' μ σ where
  ok := hi.ok
  keep := fun b x e => hk _ _ (hi.keep b x e)
  size := Nat.le_trans hi.size hz
  tabs := tabs_keep hi (fun b x e _ => hk _ _ e) fun cv q r => r.keeps hk
  len := hi.len
  nodup := hi.nodup
  new := hi.new
  lst := fun n l e => let ⟨a, vs, e1, ⟨k, e2⟩, e3⟩ := hi.lst n l e; ⟨a, vs, e1, ⟨k, hk _ _ e2⟩, e3⟩
theorem HInv.addAt {h : Heap} {μ : List Addr} (hi : HInv c h μ σ) {a : Addr} {vs : List Value} {l : List V} (hp : h.PlainList a vs.toArray) (hn : a ∉ μ) (hg : c.g.get? a = none) (hr : ARels μ l vs) (hz : l.length ≤ 2 ^ 20) :
    HInv c h (μ ++ [a]) (σ ++ [l]) := by
  refine ⟨hi.ok, hi.keep, hi.size, hi.tabs, by simp [hi.len], ?_, ?_, ?_⟩
  · refine List.nodup_append.mpr ⟨hi.nodup, by simp, fun b hb x hx => ?_⟩
    rw [List.mem_singleton.mp hx]
    exact fun e => hn (e ▸ hb)
  · intro n m e
    rcases getElem?_snoc e with e | ⟨rfl, rfl⟩
    · obtain ⟨b, us, e1, e2, e3, e4⟩ := hi.lst n m e
      exact ⟨b, us, pre_get ⟨_, rfl⟩ e1, e2, e3.pre ⟨_, rfl⟩, e4⟩
    · exact ⟨a, vs, by rw [List.getElem?_append_right (Nat.le_of_eq hi.len)]; simp [hi.len], hp, hr.pre ⟨_, rfl⟩, hz⟩
  · intro b hb
    rcases List.mem_append.mp hb with hb | hb
    · exact hi.new b hb
    · rw [List.mem_singleton.mp hb]; exact hg
theorem Res.addNew {s : Shared} {μ : List Addr} (hi : HInv c s.heap μ σ) {h' : Heap} {t : Nat} {a : Addr} {vs : List Value} {l : List V} (hk : ∀ b o, s.heap.get? b = some o → h'.get? b = some o) (ha : s.heap.objs.size ≤ a)
    (hp : h'.PlainList a vs.toArray) (hr : ARels μ l vs) (hz : l.length ≤ 2 ^ 20) : Res c s { s with heap := h', toks := t } μ (μ ++ [a]) (σ ++ [l]) ∧ (μ ++ [a])[σ.length]? = some a := by
  have hlt : a < h'.objs.size := let ⟨k, e⟩ := hp; Heap.lt_size e
  refine ⟨⟨⟨_, _, rfl⟩, ⟨_, rfl⟩, ⟨fun b o e _ => hk _ _ e⟩, (hi.grow hk (Nat.le_trans ha (Nat.le_of_lt hlt))).addAt hp (fun hm => ?_) (Heap.get?_none_of_le (Nat.le_trans hi.size ha)) hr hz⟩, ?_⟩
  · exact Nat.lt_irrefl _ (Nat.lt_of_lt_of_le (hi.lt hm) ha)
  · rw [List.getElem?_append_right (Nat.le_of_eq hi.len)]; simp [hi.len]

theorem CALL_list {n : Nat} {l : List V} (hl : σ[n]? = some l) (q : Q (.ref σ.length) (σ ++ [l])) : CALLV c d (.obj (.type "list")) [.ref n] [] σ Q := by
  rintro A E s μ vf vs ks ha hi rfl hvs hks
  obtain ⟨_, rfl, a, rfl, ea⟩ := args1 hvs
  obtain ⟨us, hp, hr, hz⟩ := hi.get hl ea
  have hlen := hr.length
  obtain ⟨k, ho⟩ := hp
  refine call_list_seq (hsz := sz_le (by rw [List.size_toArray, ← hlen]; exact hz)) a (.inl rfl) ho rfl rfl fun h' c' hk hD => ?_
  obtain ⟨r, e⟩ := Res.addNew (t := s.toks) hi hk (Nat.le_refl _) ⟨c', hD⟩ hr hz
  exact .of q ⟨_, rfl, e⟩ r

theorem ints_are {μ : List Addr} : ∀ {l : List Int} {vs : List Value}, ARels μ (l.map .int) vs → IntsAre vs l
  | [], _, .nil => .nil
  | _ :: _, _, .cons ⟨_, rfl⟩ r => .cons _ _ (ints_are r)
theorem of_intsAre {μ : List Addr} : ∀ {l : List Int} {vs : List Value}, IntsAre vs l → ARels μ (l.map .int) vs
  | [], _, .nil => .nil
  | _ :: _, _, .cons _ _ r => .cons ⟨_, rfl⟩ (of_intsAre r)
theorem CALL_sorted {n : Nat} {l : List Int} (hl : σ[n]? = some (l.map .int)) (h64 : l.length < 64) (q : ∀ l' : List Int, l'.Perm l → l'.Pairwise (· ≤ ·) → Q (.ref σ.length) (σ ++ [l'.map .int])) : CALLV c d (.obj (.builtin "sorted")) [.ref n] [] σ Q := by
  rintro A E s μ vf vs ks ha hi rfl hvs hks
  obtain ⟨_, rfl, a, rfl, ea⟩ := args1 hvs
  obtain ⟨us, hp, hr, hz⟩ := hi.get hl ea
  have hlen := hr.length
  rw [List.length_map] at hlen
  refine sorted_ints hp.isList (ints_are hr) (by omega) fun out ns' h1 h2 h3 => ?_
  obtain ⟨e, he⟩ := sortedAll_at s.heap us out
  obtain ⟨r, e⟩ := Res.addNew (t := s.toks) hi (h' := sortedAll s.heap us out) (fun _ _ => sortedAll_old) (Nat.le_succ _) (vs := out.toList) ⟨e, by rw [Array.toArray_toList]; exact he⟩ (of_intsAre h1) (by rw [List.length_map, h2.length_eq]; omega)
  exact .of (q ns' h2 h3) ⟨_, rfl, e⟩ r

theorem CALL_sum {n : Nat} {l : List Int} (hl : σ[n]? = some (l.map .int)) (q : Q (.int l.sum) σ) : CALLV c d (.obj (.builtin "sum")) [.ref n] [] σ Q := by
  rintro A E s μ vf vs ks ha hi rfl hvs hks
  obtain ⟨_, rfl, a, rfl, ea⟩ := args1 hvs
  obtain ⟨us, hp, hr, hz⟩ := hi.get hl ea
  have hI := ints_are hr
  obtain ⟨xs, hx⟩ := hI.allInts.items
  have hl' := hp.isList
  rw [hx] at hl'
  have hn := hI.numsOf
  rw [show us = us.toArray.toList from rfl, hx, nums_intItems] at hn
  refine wp_sized (sum_intListG ha.han hl' fun h' tk t' hk hz => .of q ⟨t', ?_⟩ ⟨⟨h', tk, rfl⟩, List.prefix_rfl, ⟨fun b o e _ => hk _ _ e⟩, hi.grow hk hz⟩)
  rw [preSum_eq, List.take_of_length_le (by simp), hn]
end

end
section
open PySem PySem.W PyProof.Rows PySem.Calls
set_option Elab.async false
set_option maxRecDepth 100000
set_option autoImplicit false
set_option linter.unusedVariables false

/-! slices -/
inductive PRel : Option Int → Value → Prop
  | none : PRel none .none
  | int (i : Int) (t : Tok) : PRel (some i) (.int i t)
theorem PRel.part : ∀ {p : Option Int} {v : Value}, PRel p v → IsPart v p
  | _, _, .none => .none
  | _, _, .int i t => .int i t

noncomputable def SP (c : Fx) (d : Nat) (env : Env) (e : Option Expr) (ρ : Loc) (σ : Hp) (Q : Option Int → Hp → Prop) : Prop :=
  ∀ (A : Around) (E : Value → Shared → Prop) (s : Shared) (μ : List Addr), AOk d A → HInv c s.heap μ σ → EnvOk c env ρ μ s.heap →
    wpAny (model c.prog c.w) A (evalPart e env) (fun v s' => ∃ p σ' μ', Q p σ' ∧ PRel p v ∧ Res c s s' μ μ' σ') E s
noncomputable def GSL (c : Fx) (d : Nat) (T : String) (o : V) (l u : Option Int) (σ : Hp) (Q : V → Hp → Prop) : Prop :=
  ∀ (A : Around) (E : Value → Shared → Prop) (s : Shared) (μ : List Addr) (vo vl vu : Value), AOk d A → HInv c s.heap μ σ → VRel c s.heap μ o vo → PRel l vl → PRel u vu →
    s.TypeIs vo T ∧ wpAny (model c.prog c.w) A (getItem vo (.ref s.heap.objs.size)) (Post c s μ Q) E { s with heap := s.heap.push { cls := .type "slice", data := .fields #[vl, vu, .none] } }

section
variable {c : Fx} {d : Nat} {env : Env} {ρ : Loc} {σ : Hp}

theorem SP_none {Q : Option Int → Hp → Prop} (q : Q none σ) : SP c d env none ρ σ Q := fun A E s μ ha hi he => by
  rw [evalPart_none]; exact wpAny_pure ⟨none, σ, μ, q, .none, .refl hi⟩
theorem SP_some {e : Expr} {Q : Option Int → Hp → Prop} (h : SE c d env e ρ σ fun v σ₁ => ∃ i, v = .int i ∧ Q (some i) σ₁) : SP c d env (some e) ρ σ Q := fun A E s μ ha hi he => by
  rw [show evalPart (some e) env = eval e env from by first | rfl | (unfold evalPart; rfl) | exact evalPart_some ..]
  exact wpAny_mono (h A E s μ ha hi he) (fun _ _ ⟨v, σ', μ', ⟨i, e, q⟩, r, x⟩ => by subst e; obtain ⟨t, rfl⟩ := r; exact ⟨some i, σ', μ', q, .int i t, x⟩) fun _ _ e => e

theorem TypeIs.ev {s s' : Shared} {v : Value} {T : String} (h : s.TypeIs v T) (hk : ∀ b o, s.heap.get? b = some o → s'.heap.get? b = some o) : s'.TypeIs v T := by
  cases v with
  | ref a => obtain ⟨o, ho, hc⟩ := h; exact ⟨o, hk _ _ ho, hc⟩
  | _ => exact h

noncomputable def pick (l : List V) (lo hi : Option Int) : List V := match lo, hi with
  | none, none => l
  | some a, none => l.drop a.toNat
  | none, some b => l.take b.toNat
  | some a, some b => (l.drop a.toNat).take (b.toNat - a.toNat)
noncomputable def partOk (n : Nat) : Option Int → Option Int → Prop
  | some a, none => 0 ≤ a
  | none, some b => 0 ≤ b
  | some a, some b => 0 ≤ a ∧ a ≤ b ∧ b ≤ n
  | none, none => True
theorem pick_rel {μ : List Addr} {l : List V} {us : List Value} (hr : ARels μ l us) {lo hi : Option Int} (ok : partOk l.length lo hi) : ∃ ws : List Value, slicePick us.toArray lo hi none = ws.toArray ∧ ARels μ (pick l lo hi) ws ∧ (pick l lo hi).length ≤ l.length := by
  have hlen := hr.length
  cases lo with
  | none => cases hi with
    | none => exact ⟨us, slicePick_all _, hr, Nat.le_refl _⟩
    | some b =>
      have hb : 0 ≤ b := ok
      obtain ⟨n, rfl⟩ := Int.eq_ofNat_of_zero_le hb
      exact ⟨us.take n, slicePick_upto' us.toArray n, p_take hr n, by unfold pick; rw [List.length_take]; omega⟩
  | some a => cases hi with
    | none =>
      have hb : 0 ≤ a := ok
      obtain ⟨n, rfl⟩ := Int.eq_ofNat_of_zero_le hb
      exact ⟨us.drop n, slicePick_from' us.toArray n, p_drop hr n, by unfold pick; rw [List.length_drop]; omega⟩
    | some b =>
      obtain ⟨h0, h1, h2⟩ : 0 ≤ a ∧ a ≤ b ∧ b ≤ l.length := ok
      obtain ⟨n, rfl⟩ := Int.eq_ofNat_of_zero_le h0
      obtain ⟨m, rfl⟩ := Int.eq_ofNat_of_zero_le (Int.le_trans h0 h1)
      exact ⟨(us.drop n).take (m - n), slicePick_run us.toArray n m (by rw [List.size_toArray]; omega) (by omega), p_take (p_drop hr n) _, by unfold pick; rw [List.length_take, List.length_drop]; omega⟩

theorem GSL_seq {s : Shared} {μ : List Addr} {A : Around} {E : Value → Shared → Prop} {a : Addr} {us : List Value} {l : List V} {lo hi : Option Int} {vl vu : Value} {Q : V → Hp → Prop} (hi' : HInv c s.heap μ σ) (hp : s.heap.IsList a us.toArray) (hr : ARels μ l us) (hz : l.length ≤ 2 ^ 20) (rl : PRel lo vl) (ru : PRel hi vu)
    (ok : partOk l.length lo hi) (q : Q (.ref σ.length) (σ ++ [pick l lo hi])) :
    s.TypeIs (.ref a) "list" ∧ wpAny (model c.prog c.w) A (getItem (.ref a) (.ref s.heap.objs.size)) (Post c s μ Q) E { s with heap := s.heap.push { cls := .type "slice", data := .fields #[vl, vu, .none] } } := by
  obtain ⟨ws, e, hw, hwz⟩ := pick_rel hr ok
  have hlen := hr.length
  refine ⟨hp.typeIs, wpAny_getItem_list_slice (let ⟨o, ho, r⟩ := hp; ⟨o, Heap.get?_push_of_some _ ho, r⟩) (Heap.IsSliceOf.new ..) rl.part ru.part .none (fun h => nomatch h) ?_ (sz_le (by rw [List.size_toArray, ← hlen]; exact hz))⟩
  rw [e]
  obtain ⟨r, ea⟩ := Res.addNew (t := s.toks) (h' := (s.heap.push { cls := .type "slice", data := .fields #[vl, vu, .none] }).push (lobj ws 0)) hi' (fun _ _ e => Heap.get?_push_of_some _ (Heap.get?_push_of_some _ e)) (a := (s.heap.push { cls := .type "slice", data := .fields #[vl, vu, .none] }).objs.size) (by rw [Heap.size_push]; exact Nat.le_succ _) ⟨0, Heap.get?_push_size _ rfl⟩ hw (Nat.le_trans hwz hz)
  exact .of q ⟨_, rfl, ea⟩ r
theorem GSL_list {n : Nat} {l : List V} {lo hi : Option Int} {Q : V → Hp → Prop} (hl : σ[n]? = some l) (ok : partOk l.length lo hi) (q : Q (.ref σ.length) (σ ++ [pick l lo hi])) : GSL c d "list" (.ref n) lo hi σ Q := by
  rintro A E s μ vo vl vu ha hi' ⟨a, rfl, ea⟩ rl ru
  obtain ⟨us, hp, hr, hz⟩ := hi'.get hl ea
  exact GSL_seq hi' hp.isList hr hz rl ru ok q
theorem GSL_fl {l : List V} {lo hi : Option Int} {Q : V → Hp → Prop} (ok : partOk l.length lo hi) (q : Q (.ref σ.length) (σ ++ [pick l lo hi])) : GSL c d "list" (.fl l) lo hi σ Q := by
  rintro A E s μ vo vl vu ha hi' ⟨a, us, rfl, hf, hr, hz⟩ rl ru
  exact GSL_seq hi' (let ⟨o, ho, r⟩ := hf; ⟨o, hi'.keep _ _ ho, r⟩) hr hz rl ru ok q

theorem GSL_str {x : Str} {lo hi : Option Int} {Q : V → Hp → Prop} (hz : x.length ≤ sizeLine) (q : Q (.str (Txt.slice x lo hi)) σ) : GSL c d "str" (.str x) lo hi σ Q := by
  rintro A E s μ vo vl vu ha hi' ⟨t, rfl⟩ rl ru
  refine ⟨typeIs_str _ _ _, ?_⟩
  have key : ∀ h' t' k, (HInv c h' μ σ ∧ Ev s.heap h') → Post c s μ Q (.str (Txt.slice x lo hi) t') { s with heap := h', toks := k } := fun h' t' k p => .of q ⟨t', rfl⟩ ⟨⟨_, _, rfl⟩, List.prefix_rfl, p.2, p.1⟩
  have hk : KeptH (fun h => HInv c h μ σ ∧ Ev s.heap h) := fun h ob p => ⟨p.1.push ob, p.2.trans (Ev.push _ _)⟩
  have h0 : HInv c s.heap μ σ ∧ Ev s.heap s.heap := ⟨hi', .refl _⟩
  cases rl with
  | none => cases ru with
    | none => obtain ⟨T, id, z1, z2, z3⟩ := SBH.sliceItem_nn (prog := c.prog) (w := c.w) (A := A) (E := E) (t := t) hk h0 key hz; exact z3
    | int j u => obtain ⟨T, id, z1, z2, z3⟩ := SBH.sliceItem_ns (prog := c.prog) (w := c.w) (A := A) (E := E) (t := t) (uj := u) hk h0 key hz; exact z3
  | int i u => cases ru with
    | none => obtain ⟨T, id, z1, z2, z3⟩ := SBH.sliceItem_sn (prog := c.prog) (w := c.w) (A := A) (E := E) (t := t) (ui := u) hk h0 key hz; exact z3
    | int j u' => obtain ⟨T, id, z1, z2, z3⟩ := SBH.sliceItem_ss (prog := c.prog) (w := c.w) (A := A) (E := E) (t := t) (ui := u) (uj := u') hk h0 key hz; exact z3

/-! tuple slices -/
end

end
section
open PySem PySem.W PyProof.Rows PySem.Calls
set_option Elab.async false
set_option maxRecDepth 100000
set_option autoImplicit false
set_option linter.unusedVariables false

section
variable {c : Fx} {d : Nat} {env : Env} {ρ : Loc} {σ : Hp} {Q : V → Hp → Prop}

/-! strings -/
theorem GET_str {x : Str} {i : Int} {ch : Nat} (h0 : 0 ≤ i) (h1 : i < 2 ^ 62) (hx : x.cps.toList[i.toNat]? = some ch) (q : Q (.str ⟨#[ch]⟩) σ) : GET c d (.str x) (.int i) σ Q := by
  rintro A E s μ va vb ha hi ⟨t, rfl⟩ ⟨u, rfl⟩
  refine ⟨⟨_, _, typeIs_str _ _ _, F.slot_str_getitem.lookup⟩, PySem.P.getItem_str ?_ (StrLaws.at_nonneg h0 (by simpa using hx)) (.of q ⟨_, rfl⟩ (.toks hi _))⟩
  rw [Bool.or_eq_false_iff]
  exact ⟨decide_eq_false (by omega), decide_eq_false (by omega)⟩
theorem CALL_len_str {x : Str} (hz : x.length ≤ 2 ^ 24) (q : Q (.int x.length) σ) : CALLV c d (.obj (.builtin "len")) [.str x] [] σ Q := by
  rintro A E s μ vf vs ks ha hi rfl hvs hks
  obtain ⟨_, rfl, t, rfl⟩ := args1 hvs
  exact PySem.P.len_str (by omega) (.of q ⟨_, rfl⟩ (.toks hi _))
theorem strs_are {μ : List Addr} : ∀ {l : List Str} {vs : List Value}, ARels μ (l.map .str) vs → StrsAre vs l
  | [], _, .nil => .nil
  | _ :: _, _, .cons ⟨_, rfl⟩ r => .cons _ _ (strs_are r)
theorem of_strs {μ : List Addr} : ∀ (l : List (Str × Tok)), ARels μ ((l.map (·.1)).map .str) (strValues l)
  | [] => .nil
  | _ :: r => .cons ⟨_, rfl⟩ (of_strs r)
theorem CALL_join {x : Str} {n : Nat} {l : List Str} (hl : σ[n]? = some (l.map .str)) (hz : (l.map (·.length)).sum + l.length * x.length ≤ 16777216) (q : Q (.str (Txt.join x l)) σ) : CALLV c d (.obj (.builtin "str.join")) [.str x, .ref n] [] σ Q := by
  rintro A E s μ vf vs ks ha hi rfl hvs hks
  obtain ⟨_, _, rfl, ⟨t, rfl⟩, a, rfl, ea⟩ := args2 hvs
  obtain ⟨us, hp, hr, hz'⟩ := hi.get hl ea
  exact join_list hp.isList (strs_are hr) hz fun t' k => .of q ⟨_, rfl⟩ (.toks hi _)
theorem CALL_split {x y : Str} (hy : (y.length == 0) = false) (hx : x.length + 2 ≤ 2 ^ 20) (hn : (Txt.split x y).length ≤ 2 ^ 20) (q : Q (.ref σ.length) (σ ++ [(Txt.split x y).map .str])) : CALLV c d (.obj (.builtin "str.split")) [.str x, .str y] [] σ Q := by
  rintro A E s μ vf vs ks ha hi rfl hvs hks
  obtain ⟨_, _, rfl, ⟨t, rfl⟩, u, rfl⟩ := args2 hvs
  have fin : ∀ (l : List (Str × Tok)) (tk : Nat), l.map (·.1) = Txt.split x y → Post c s μ Q (.ref s.heap.objs.size) { s with heap := s.heap.push { cls := .type "list", data := .seq (strValues l).toArray }, toks := tk } := by
    intro l tk e
    have hr := of_strs (μ := μ) l
    rw [e] at hr
    obtain ⟨r, ea⟩ := Res.addNew (t := tk) (h' := s.heap.push (lobj (strValues l) 0)) hi (fun _ _ e => Heap.get?_push_of_some _ e) (a := s.heap.objs.size) (Nat.le_refl _) ⟨0, Heap.get?_push_size _ rfl⟩ hr (by rw [List.length_map]; exact hn)
    exact .of q ⟨_, rfl, ea⟩ r
  have hx' : x.length ≤ sizeLine := sz_le (by omega)
  have hn' : (Builtin.Str.partsBetween x (Builtin.Str.occurrences x y 0 x.length (x.length + 1)) y.length).length ≤ sizeLine := by
    have e1 := StrLaws.occ_length_le x y 0 x.length (x.length + 1)
    have e2 := sizeLine_eq
    rw [length_partsBetween]; omega
  cases h1 : (decide (x.length < y.length) || decide (Builtin.Str.strKind x < Builtin.Str.strKind y))
  · cases hf : (Builtin.Str.occurrences x y 0 x.length (x.length + 1)).isEmpty
    · refine call_meets F.slot_str_split (typeIs_str _ _ _) F.entry_str_split (F.args_str_split_2 _ _) (meets_str_split_sep x y t u h1 hy hf hx' hn') ?_
      rw [strsFrom_eq]
      exact fin _ _ ((numbered_texts _ _).trans ((if_neg (ne_true_of_eq_false h1)).trans (if_neg (ne_true_of_eq_false hf))).symm)
    · exact call_meets F.slot_str_split (typeIs_str _ _ _) F.entry_str_split (F.args_str_split_2 _ _) (meets_str_split_not_found x y t u h1 hy hf) (fin [(x, t)] s.toks ((if_neg (ne_true_of_eq_false h1)).trans (if_pos hf)).symm)
  · exact call_meets F.slot_str_split (typeIs_str _ _ _) F.entry_str_split (F.args_str_split_2 _ _) (meets_str_split_cannot_occur x y t u h1) (fin [(x, t)] s.toks (if_pos h1).symm)
theorem CALL_startswith {x y : Str} (q : Q (.bool (Txt.startswith x y)) σ) : CALLV c d (.obj (.builtin "str.startswith")) [.str x, .str y] [] σ Q := by
  rintro A E s μ vf vs ks ha hi rfl hvs hks
  obtain ⟨_, _, rfl, ⟨t, rfl⟩, u, rfl⟩ := args2 hvs
  exact SC.startswith (.of (v := .bool _) q rfl (.refl hi))
theorem CALL_endswith {x y : Str} (q : Q (.bool (Txt.endswith x y)) σ) : CALLV c d (.obj (.builtin "str.endswith")) [.str x, .str y] [] σ Q := by
  rintro A E s μ vf vs ks ha hi rfl hvs hks
  obtain ⟨_, _, rfl, ⟨t, rfl⟩, u, rfl⟩ := args2 hvs
  exact SC.endswith (.of (v := .bool _) q rfl (.refl hi))
theorem CALL_find {x y : Str} (q : Q (.int (Txt.find x y)) σ) : CALLV c d (.obj (.builtin "str.find")) [.str x, .str y] [] σ Q := by
  rintro A E s μ vf vs ks ha hi rfl hvs hks
  obtain ⟨_, _, rfl, ⟨t, rfl⟩, u, rfl⟩ := args2 hvs
  exact SC.find (.of q ⟨_, rfl⟩ (.toks hi _))
noncomputable def find4 (x y : Str) (i j : Int) : Int := match Builtin.Str.occurrences x y (fromIndex x.length i) (min (fromIndex x.length j) x.length) 1 with | k :: _ => (k : Int) | [] => -1
theorem gives_find4 (x y : Str) (i j : Int) (t u v w : Tok) : Gives (Builtin.«str.find» ⟨[.str x t, .str y u, .int i v, .int j w], []⟩) (.int (find4 x y i j)) := by
  show Gives (match Builtin.Str.occurrences x y (fromIndex x.length i) (min (fromIndex x.length j) x.length) 1 with | k :: _ => retInt k | [] => (do rule "str.find.not-found"; retInt (-1))) _
  unfold find4
  cases Builtin.Str.occurrences x y (fromIndex x.length i) (min (fromIndex x.length j) x.length) 1 with
  | nil => exact .rule (.of_eq rfl)
  | cons k _ => exact .of_eq rfl
theorem CALL_find4 {x y : Str} {i j : Int} (q : Q (.int (find4 x y i j)) σ) : CALLV c d (.obj (.builtin "str.find")) [.str x, .str y, .int i, .int j] [] σ Q := by
  rintro A E s μ vf vs ks ha hi rfl hvs hks
  obtain ⟨_, _, _, _, rfl, ⟨t, rfl⟩, ⟨u, rfl⟩, ⟨v, rfl⟩, w, rfl⟩ := args4 hvs
  exact call_gives F.slot_str_find (typeIs_str _ _ _) F.entry_str_find (F.args_str_find_4 _ _ _ _) (gives_find4 x y i j t u v w) (.of q ⟨_, rfl⟩ (.toks hi _))
theorem CMP_notInStr {x y : Str} {Q : Bool → Prop} (q : Q (!Txt.contains x y)) : CMP c d .NotIn (.str y) (.str x) σ Q := by
  rintro A E s μ va vb R ha hi ⟨t, rfl⟩ ⟨u, rfl⟩ k; exact SB.notContains (k _ s.toks q)
theorem CALL_hex {i : Int} (hz : (baseText "0x" 16 i).length ≤ sizeLine) (q : Q (.str (baseText "0x" 16 i)) σ) : CALLV c d (.obj (.builtin "hex")) [.int i] [] σ Q := by
  rintro A E s μ vf vs ks ha hi rfl hvs hks
  obtain ⟨_, rfl, t, rfl⟩ := args1 hvs
  exact P.hex_of_int (.of q ⟨_, rfl⟩ (.toks hi _)) hz
theorem INP_sub {i j : Int} (q : Q (.int (i - j)) σ) : INP c d .Sub (.int i) (.int j) σ Q := by
  rintro A E s μ va vb ha hi ⟨t, rfl⟩ ⟨u, rfl⟩; exact PySem.P.isub_int (.of q ⟨_, rfl⟩ (.toks hi _))
theorem INP_xor {i j : Int} (q : Q (.int (Builtin.bitXor i j)) σ) : INP c d .BitXor (.int i) (.int j) σ Q := by
  rintro A E s μ va vb ha hi ⟨t, rfl⟩ ⟨u, rfl⟩; exact ixor_int (.of q ⟨_, rfl⟩ (.toks hi _))

/-! lists -/
theorem BIN_catl {n m : Nat} {l l' : List V} (hl : σ[n]? = some l) (hl' : σ[m]? = some l') (hz : l.length + l'.length ≤ 2 ^ 20) (q : Q (.ref σ.length) (σ ++ [l ++ l'])) : BIN c d .Add (.ref n) (.ref m) σ Q := by
  rintro A E s μ va vb ha hi ⟨a, rfl, ea⟩ ⟨b, rfl, eb⟩
  obtain ⟨us, ⟨k, hp⟩, hr, _⟩ := hi.get hl ea
  obtain ⟨ws, ⟨k', hp'⟩, hr', _⟩ := hi.get hl' eb
  have h1 := hr.length
  have h2 := hr'.length
  refine PySem.P.add_list hp hp' ?_ (sz_le (by rw [List.size_toArray, List.size_toArray]; omega))
  have e : us.toArray ++ ws.toArray = (us ++ ws).toArray := by simp
  rw [e]
  obtain ⟨r, ea⟩ := Res.addNew (t := s.toks) (h' := s.heap.push (lobj (us ++ ws) 0)) hi (fun _ _ e => Heap.get?_push_of_some _ e) (a := s.heap.objs.size) (Nat.le_refl _) ⟨0, Heap.get?_push_size _ rfl⟩ (p_app hr hr') (by rw [List.length_append]; exact hz)
  exact .of q ⟨_, rfl, ea⟩ r

theorem CMP_neInts {n m : Nat} {l l' : List Int} {Q : Bool → Prop} (hl : σ[n]? = some (l.map .int)) (hl' : σ[m]? = some (l'.map .int)) (q : Q (!decide (l = l'))) : CMP c d .NotEq (.ref n) (.ref m) σ Q := by
  rintro A E s μ va vb R ha hi ⟨a, rfl, ea⟩ ⟨b, rfl, eb⟩ k
  obtain ⟨us, hp, hr, _⟩ := hi.get hl ea
  obtain ⟨ws, hp', hr', _⟩ := hi.get hl' eb
  exact ne_intsK hp.isList (ints_are hr) hp'.isList (ints_are hr') (by have := ha.uni; show A.units + 64 < 9900; omega) (k _ s.toks q)

noncomputable def datOk : V → Bool
  | .bool _ | .int _ => true
  | .str x => x.cps.all (· < 0x110000)
  | _ => false
noncomputable def dat : V → PyData
  | .bool b => .bool b
  | .int i => .int i
  | .str x => .str x
  | _ => .none
theorem reads_dat {h : Heap} {μ : List Addr} : ∀ {l : List V} {vs : List Value}, l.all datOk = true → ARels μ l vs → ReadsAll h vs (l.map dat) []
  | _, _, _, .nil => .nil
  | v :: l, _, hl, .cons r rs => by
    rw [List.all_cons, Bool.and_eq_true] at hl
    have ih := reads_dat (h := h) hl.2 rs
    cases v with
    | bool b => obtain rfl := r; exact ReadsAll.cons (as := []) (.bool b) ih
    | int i => obtain ⟨t, rfl⟩ := r; exact ReadsAll.cons (as := []) (.int i t) ih
    | str x => obtain ⟨t, rfl⟩ := r; exact ReadsAll.cons (as := []) (.str x t) ih
    | _ => cases hl.1
theorem dat_can : ∀ {l : List V}, l.all datOk = true → PyData.canLayAll0 (l.map dat) = true ∧ PyData.depthAll (l.map dat) = 0
  | [], _ => ⟨rfl, rfl⟩
  | v :: l, hl => by
    rw [List.all_cons, Bool.and_eq_true] at hl
    have ih := dat_can hl.2
    rw [List.map_cons]
    simp only [PyData.canLayAll0, PyData.depthAll, ih.1, ih.2, Bool.and_true]
    cases v with
    | bool b => exact ⟨rfl, rfl⟩
    | int i => exact ⟨rfl, rfl⟩
    | str x => exact ⟨by simp only [dat, PyData.canLay0, PyData.strOk]; exact hl.1, by simp [dat, PyData.depth]⟩
    | _ => cases hl.1
theorem dat_shaped {l : List V} (hl : l.all datOk = true) : SeqAt.shaped (.list (l.map dat)) = true := by
  have := dat_can hl
  unfold SeqAt.shaped
  simp only [PyData.canLay0, PyData.depth, this.1, this.2]
  decide
theorem CMP_eqDat {n m : Nat} {l l' : List V} {Q : Bool → Prop} (hl : σ[n]? = some l) (hl' : σ[m]? = some l') (d1 : l.all datOk = true) (d2 : l'.all datOk = true) (q : Q (PyData.eqvAll (l.map dat) (l'.map dat))) : CMP c d .Eq (.ref n) (.ref m) σ Q := by
  rintro A E s μ va vb R ha hi ⟨a, rfl, ea⟩ ⟨b, rfl, eb⟩ k
  obtain ⟨us, ⟨j, hp⟩, hr, _⟩ := hi.get hl ea
  obtain ⟨ws, ⟨j', hp'⟩, hr', _⟩ := hi.get hl' eb
  exact eq_dataH (Reads.list (as := []) hp rfl rfl (reads_dat d1 hr)) (Reads.list (as := []) hp' rfl rfl (reads_dat d2 hr')) (dat_shaped d1) (dat_shaped d2) (by have := ha.uni; show A.units + 64 < 9900; omega) (k _ s.toks (by rw [PyData.eqv]; exact q))
theorem CMP_neDat {n m : Nat} {l l' : List V} {Q : Bool → Prop} (hl : σ[n]? = some l) (hl' : σ[m]? = some l') (d1 : l.all datOk = true) (d2 : l'.all datOk = true) (q : Q (!PyData.eqvAll (l.map dat) (l'.map dat))) : CMP c d .NotEq (.ref n) (.ref m) σ Q := by
  rintro A E s μ va vb R ha hi ⟨a, rfl, ea⟩ ⟨b, rfl, eb⟩ k
  obtain ⟨us, ⟨j, hp⟩, hr, _⟩ := hi.get hl ea
  obtain ⟨ws, ⟨j', hp'⟩, hr', _⟩ := hi.get hl' eb
  exact ne_dataH (Reads.list (as := []) hp rfl rfl (reads_dat d1 hr)) (Reads.list (as := []) hp' rfl rfl (reads_dat d2 hr')) (dat_shaped d1) (dat_shaped d2) (by have := ha.uni; show A.units + 64 < 9900; omega) (k _ s.toks (by rw [PyData.eqv]; exact q))
theorem CMP_inInts {n : Nat} {l : List Int} {i : Int} {Q : Bool → Prop} (hl : σ[n]? = some (l.map .int)) (q : Q (l.any (· == i))) : CMP c d .In (.int i) (.ref n) σ Q := by
  rintro A E s μ va vb R ha hi ⟨t, rfl⟩ ⟨b, rfl, eb⟩ k
  obtain ⟨us, hp, hr, _⟩ := hi.get hl eb
  exact in_list_ints hp.isList (ints_are hr) (k _ s.toks q)
noncomputable def isStrV (x : Str) : Value → Bool
  | .str y _ => y.cps.toList == x.cps.toList
  | _ => false
/-! statements on lists -/
theorem SX_del {o i : Expr} {tpos pos : Pos} {Q : FV → Loc → Hp → Prop} 
    (h : SE c d env o ρ σ fun ov σ₁ => ∃ n, ov = .ref n ∧ SE c d env i ρ σ₁ fun iv σ₂ => ∃ k l j, iv = .int k ∧ σ₂[n]? = some l ∧ seqIndex? k l.length = some j ∧ (-2 ^ 62 < k ∧ k < 2 ^ 62) ∧ Q .nx ρ (σ₂.set n (l.eraseIdx j))) :
    SX c d env (.Delete [.Subscript o i tpos] pos) ρ σ Q := fun A E s μ ha hi he => by
  refine wpAny_Delete (wpAny_deleteEach_cons (wpAny_delete_Subscript (wp_seq (h A E s μ ha hi he) fun ov vo σ₁ μ₁ s₁ ⟨n, e, q⟩ r x => wp_seq (q A E s₁ μ₁ ha x.inv (he.mono x.ev x.pre)) fun iv vi σ₂ μ₂ s₂ ⟨k, l, j, e2, hl, hj, hkk, q₂⟩ r₂ x₂ => ?_)))
  subst e e2
  obtain ⟨a, rfl, ea⟩ := r.mono x₂.ev x₂.pre
  obtain ⟨t, rfl⟩ := r₂
  obtain ⟨us, hp, hr, hz⟩ := x₂.inv.get hl ea
  have hlen := hr.length
  have hf : Builtin.List.listFitsIndex k = true := by
    unfold Builtin.List.listFitsIndex
    simp only [Bool.and_eq_true, decide_eq_true_eq]
    omega
  refine wpAny_delItem_plain hp hf (k := j) (by rw [List.size_toArray, ← hlen]; exact hj) (fun h' hp' hs => ?_) (sz_le (by rw [List.size_toArray, ← hlen]; exact hz))
  have hp'' : h'.PlainList a (us.eraseIdx j).toArray := by
    have e : us.toArray.eraseIdxIfInBounds j = (us.eraseIdx j).toArray := by
      rw [List.eraseIdxIfInBounds_toArray]
    rw [← e]; exact hp'
  have y := Res.upd x₂.inv ea hp hs hp'' (p_erase hr j) (by have := List.length_eraseIdx_le l j; omega) s₂.toks
  exact wpAny_deleteEach_nil ⟨.nx, ρ, _, μ₂, q₂, rfl, .of ((x.trans x₂).trans y), he.mono ((x.trans x₂).trans y).ev ((x.trans x₂).trans y).pre⟩
end

end
section
open PySem PySem.W PyProof.Rows PySem.Calls
set_option Elab.async false
set_option maxRecDepth 100000
set_option autoImplicit false
set_option linter.unusedVariables false

theorem arels2 {μ : List Addr} {a b : V} {vs : List Value} (x : ARels μ [a, b] vs) : ∃ x y, vs = [x, y] ∧ ARel μ a x ∧ ARel μ b y := by
  cases x with | cons r x => cases x with | cons r2 x => cases x with | nil => exact ⟨_, _, rfl, r, r2⟩

section
variable {c : Fx} {d : Nat} {env : Env} {ρ : Loc} {σ : Hp}

theorem SE_not {e : Expr} {pos : Pos} {Q : V → Hp → Prop} (h : SE c d env e ρ σ fun a σ₁ => TRU c d a σ₁ fun x => Q (.bool (!x)) σ₁) : SE c d env (.UnaryOp .Not e pos) ρ σ Q :=
  fun A E s μ ha hi he => wpAny_UnaryOp (wp_seq (h A E s μ ha hi he) fun _ va _ μ₁ s₁ q r₁ x => not_of (q A E s₁ μ₁ va _ ha x.inv r₁ fun y tk hy => .of (v := .bool _) hy rfl (x.trans (.toks x.inv tk))))
theorem SE_and {e₁ e₂ : Expr} {pos : Pos} {Q : V → Hp → Prop} (h : SE c d env e₁ ρ σ fun a σ₁ => ∃ b, a = .bool b ∧ (b = false → Q (.bool false) σ₁) ∧ (b = true → SE c d env e₂ ρ σ₁ Q)) : SE c d env (.BoolOp .And [e₁, e₂] pos) ρ σ Q :=
  fun A E s μ ha hi he => BoolOp_and (wp_seq (h A E s μ ha hi he) fun _ va _ μ₁ s₁ q r₁ x => by
    obtain ⟨b, rfl, q⟩ := q
    obtain rfl := r₁
    refine wpAny_truthy_bool ?_
    cases b with
    | false => rw [if_neg (by decide)]; exact .of (v := .bool _) (q.1 rfl) rfl x
    | true => rw [if_pos rfl]; exact BoolOp_one (wpAny_mono (q.2 rfl A E s₁ μ₁ ha x.inv (he.mono x.ev x.pre)) (fun _ _ p => Post.trans x p) fun _ _ e => e))

/-! xs[i] op= v -/
theorem setItem_plain {prog : Program} {w : World} {A : Around} {E : Value → Shared → Prop} {s : Shared} {l : Addr} {xs : Array Value} {n : Nat} {k : Int} {t : Tok} {v : Value} {Q : Unit → Shared → Prop} (ho : s.heap.get? l = some { cls := .type "list", data := .seq xs n })
    (h0 : 0 ≤ k) (hz : k < 2 ^ 63) (hj : k < xs.size) (h : Q () { s with heap := s.heap.update l (Obj.mapSeq (·.setIfInBounds k.toNat v)) }) : wpAny (model prog w) A (setItem (.ref l) (.int k t) v) Q E s := by
  have hT : s.TypeIs (.ref l) "list" := ⟨_, ho, rfl⟩
  unfold setItem
  try with_reducible refine wpAny_holding ?_
  first | refine wpAny_bind (wpAny_pure ?_) | skip
  refine wpAny_bind (wpAny_sequenceKey hT (by decide) ?_)
  refine wpAny_bind (wpAny_callSpecial?_slot (name := Str.ofString "__setitem__") hT PySem.slot_list_setitem (wpAny_call_entry PySem.slot_list_setitem hT PySem.entry_list_setitem ?_ (PySem.args_list_setitem _ _ _)))
  show wpAny _ _ (Builtin.List.listSubscript? (.int k t) >>= _) _ _ s
  refine wpAny_bind (wpAny_listSubscript_int (fitsIndex_of h0 hz) ?_)
  clear hz
  obtain ⟨j, rfl⟩ := Int.eq_ofNat_of_zero_le h0
  have hj' : j < xs.size := by omega
  show wpAny _ _ ((seqItemAt l j >>= fun r => pure (r.map (j, ·))) >>= _) _ _ s
  refine wpAny_bind (wpAny_bind (wpAny_seqItemAt ho rfl (wpAny_pure ?_)))
  rw [Array.getElem?_eq_getElem hj']
  show wpAny _ _ (setSeqItemAt l j v >>= _) _ _ s
  refine wpAny_bind (wpAny_setSeqItemAt ho rfl ?_)
  first
    | exact wpAny_bind (wpAny_pure (wpAny_pure ⟨.none, rfl, wpAny_pure h⟩))
    | exact wpAny_pure ⟨.none, rfl, wpAny_pure h⟩
theorem SX_augSub {o i value : Expr} {tpos pos : Pos} {op : Operator} {Q : FV → Loc → Hp → Prop} (haug : ∀ ov iv new, augStore i ov iv new = (do holding [new, ov, iv] (setItem ov iv new); release [new, ov, iv] []; pure .next))
    (h : SE c d env o ρ σ fun ov σ₁ => ∃ n, ov = .ref n ∧ SE c d env i ρ σ₁ fun iv σ₂ => ∃ (k : Nat) (l : List V) (v : V), iv = .int k ∧ σ₂[n]? = some l ∧ l[k]? = some v ∧
      SE c d env value ρ σ₂ fun b σ₃ => INP c d op v b σ₃ fun r σ₄ => ∃ l', σ₄[n]? = some l' ∧ k < l'.length ∧ atom r = true ∧ Q .nx ρ (σ₄.set n (l'.set k r))) :
    SX c d env (.AugAssign (.Subscript o i tpos) op value pos) ρ σ Q := fun A E s μ ha hi he => by
  refine wpAny_AugAssign_SubscriptAny (hi := haug) (wp_seq (h A E s μ ha hi he) fun ov vo σ₁ μ₁ s₁ ⟨n, e, q⟩ r x => wp_seq (q A E s₁ μ₁ ha x.inv (he.mono x.ev x.pre)) fun iv vi σ₂ μ₂ s₂ ⟨k, l, v, e2, hl, hk, q₂⟩ r₂ x₂ => ?_)
  subst e e2
  obtain ⟨a, rfl, ea⟩ := r.mono x₂.ev x₂.pre
  obtain ⟨t, rfl⟩ := r₂
  obtain ⟨us, hp, hr, hz⟩ := x₂.inv.get hl ea
  obtain ⟨y, hy, ry⟩ := paired_get hr hk
  have hlt := (List.getElem?_eq_some_iff.mp hk).1
  refine wpAny_getItem_list (x := y) hp.isList (Int.natCast_nonneg k) (by omega) (by simpa using hy) ?_
  have xx := x.trans x₂
  refine wp_seq (q₂ A E s₂ μ₂ ha x₂.inv (he.mono xx.ev xx.pre)) fun b vb σ₃ μ₃ s₃ q₃ r₃ x₃ => ?_
  refine wp_seq (q₃ A E s₃ μ₃ y vb ha x₃.inv (ry.v.mono x₃.ev x₃.pre) r₃) fun w vw σ₄ μ₄ s₄ ⟨l', hl', hk', hw, q₄⟩ r₄ x₄ => ?_
  have ea4 := pre_get (x₃.trans x₄).pre ea
  obtain ⟨us', ⟨j, hp'⟩, hr', hz'⟩ := x₄.inv.get hl' ea4
  have hlen' := hr'.length
  refine setItem_plain hp' (Int.natCast_nonneg k) (by omega) (by rw [List.size_toArray, ← hlen']; omega) ?_
  rw [Int.toNat_natCast]
  have z := Res.upd x₄.inv ea4 ⟨j, hp'⟩ (Heap.SameBut.update s₄.heap a (Obj.mapSeq (·.setIfInBounds k vw))) (plain_upd hp' (·.setIfInBounds k vw) (us'.set k vw) (by simp)) (p_set hr' k (r₄.atom hw)) (by rw [List.length_set]; exact hz') s₄.toks
  have zz := ((xx.trans x₃).trans x₄).trans z
  exact ⟨.nx, ρ, _, μ₄, q₄, rfl, .of zz, he.mono zz.ev zz.pre⟩

/-! a, b = (x, y) -/
theorem SX_two {a b : Str} {pa pb tp pos : Pos} {k : Nat} {value : Expr} {Q : FV → Loc → Hp → Prop} (hs : swapsWithSole [.Tuple [.Name a pa, .Name b pb] k tp] value pos.line env = pure false) (hw : swappedStores [.Tuple [.Name a pa, .Name b pb] k tp] value env = pure (some [a, b]))
    (h : SE c d env value ρ σ fun v σ₁ => ∃ x y, v = .tup [x, y] ∧ StoreOk env ((b, y) :: ρ) b ∧ StoreOk env ((a, x) :: (b, y) :: ρ) a ∧ Q .nx ((a, x) :: (b, y) :: ρ) σ₁) :
    SX c d env (.Assign [.Tuple [.Name a pa, .Name b pb] k tp] value pos) ρ σ Q := fun A E s μ ha hi he => by
  refine Assign_Tuple_swapped (hs := hs) (hw := hw) (wp_seq (h A E s μ ha hi he) fun v v' σ₁ μ₁ s₁ ⟨x, y, e, st1, st2, q⟩ r z => ?_)
  subst e
  obtain ⟨ad, vs, rfl, hp, hr, hz⟩ := r
  obtain ⟨vx, vy, rfl, rx, ry⟩ := arels2 hr
  refine wp_sized (unpackItems_tuple (items := [vx, vy].toArray) ha.han hp fun h' hk hsz => ?_)
  have hold : ∀ b o, s₁.heap.get? b = some o → h'.get? b = some o := fun b o e => hk _ _ (Nat.ne_of_lt (Heap.lt_size e)) e
  have i₁ := z.inv
  have e₁ := he.mono z.ev z.pre
  have g : Res c s₁ { s₁ with heap := h' } μ₁ μ₁ σ₁ := ⟨⟨_, s₁.toks, rfl⟩, List.prefix_rfl, ⟨fun b o e _ => hold b o e⟩, i₁.grow hold hsz⟩
  have e₂ := e₁.mono g.ev g.pre
  show wpAny _ _ (assignInOrder [bindName env b, bindName env a] [vy, vx]) _ _ _
  refine assignInOrder_cons (bindName_ (wp_store g.inv e₂ st1 (ry.v.mono g.ev g.pre) fun h₃ t₃ y₃ e₃ _ => ?_))
  refine assignInOrder_cons (bindName_ (wp_store y₃.inv e₃ st2 ?_ fun h₄ t₄ y₄ e₄ _ => ?_))
  · exact ARel.v (ARel.pre y₃.pre rx)
  · exact assignInOrder_nil ⟨.nx, _, _, _, q, rfl, ((ResX.of (z.trans g)).trans y₃).trans y₄, e₄⟩
end

end
section
open PySem PySem.W PyProof.Rows PySem.Calls
set_option Elab.async false
set_option maxRecDepth 100000
set_option autoImplicit false
set_option linter.unusedVariables false

/-! names of the globals, defs of the frozen heap -/
structure Base (c : Fx) : Prop where
  ok : c.Ok
  bi : ∀ x : Str, x ≠ "__name__" → c.mb x = bootBuiltins x

section
variable {c : Fx} {d : Nat} {env : Env} {ρ : Loc} {σ : Hp} {Q : V → Hp → Prop}

theorem SE_gl {x : Str} {pos : Pos} (B : Base c) (v : Value) (hk : env.kindOf x = some .globalImplicit) (hx : nsIn c.K mainGlobals x = some (some v)) (q : Q (.obj v) σ)
    (hd : (x == ("__debug__" : Str)) = false := by decide +kernel) : SE c d env (.Name x pos) ρ σ Q := SE_glob hk (.inl (mg_of B.ok.kin B.ok.gns hx)) q hd
theorem SE_bi {x : Str} {pos : Pos} (B : Base c) (v : Value) (hk : env.kindOf x = some .globalImplicit) (hx : nsIn c.K mainGlobals x = some none) (hv : bootBuiltins x = some v) (q : Q (.obj v) σ)
    (hn : x ≠ "__name__" := by decide +kernel) (hd : (x == ("__debug__" : Str)) = false := by decide +kernel) : SE c d env (.Name x pos) ρ σ Q :=
  SE_glob hk (.inr ⟨mg_none_of B.ok.kin B.ok.gns hx, by rw [B.bi x hn]; exact hv⟩) q hd

noncomputable def fdAt (K : Frag) (a : Addr) : Option FuncData := match K.lookup a with
  | some ⟨_, _, .func fd, _⟩ => some fd
  | _ => none
noncomputable def recAt (K : Frag) (a : Addr) (q : Str) : Bool := match K.lookup a with
  | some ⟨_, _, .fields vs, _⟩ => (match (vs[1]? : Option Value) with | some (.str x _) => x == q | _ => false)
  | _ => false
theorem recAt_of {K : Frag} {h : Heap} (X : K.In h) {a : Addr} {q : Str} (e : recAt K a q = true) : h.CodeRec (.ref a) q := by
  unfold recAt at e
  split at e
  · rename_i cl dd vs sl ho
    split at e
    · rename_i x t hx
      rw [beq_iff_eq] at e
      subst e
      exact ⟨a, _, vs, t, rfl, X _ _ ho, rfl, hx⟩
    · cases e
  · cases e

/-- the looks at a def of the frozen heap -/
structure DefOk (K : Frag) (a : Addr) (fd : FuncData) (body : List Stmt) : Prop where
  here : fdAt K a = some fd
  body : fd.body = .stmts body
  clo : fd.closure = []
  co : fd.scope.isCoroutine = false
  gen : fd.scope.isGenerator = false
  kind : fd.scope.kind = .function
  gl : fd.globals = mainGlobals
  bu : fd.builtins = builtinsNs
  code : ∃ b, fd.code = .ref b ∧ recAt K b fd.qualname = true

theorem CALL_def {a : Addr} {fd : FuncData} {body : List Stmt} {args : List V} {kw : List (Str × V)} (ρ : Loc) (B : Base c) (D : DefOk c.K a fd body)
    (hkind : ∀ p ∈ ρ, fd.scope.names.lookup p.1 = some .local ∨ (fd.scope.names.lookup p.1 = some .cell ∧ ∀ n, ((cellsFrom n fd.scope.names []).lookup p.1).isSome = true)) (hnd : (ρ.map (·.1)).Nodup)
    (hbind : ∀ (h : Heap) (μ : List Addr) (vs ks : List Value), VRels c h μ args vs → VRels c h μ (kw.map (·.2)) ks →
      ∃ binds, (∀ S, peek c.K S (bindArgs fd ⟨vs, (kw.map (·.1)).zip ks⟩) = some binds) ∧ Paired (fun (p : Str × V) (q : Str × Value) => p.1 = q.1 ∧ VRel c h μ p.2 q.2) ρ binds)
    (h : (∀ l ∈ σ, Closed σ.length l) → ∀ L, SXs c d (callEnvC fd L a) body ρ σ fun f _ σ' => ∃ v v'' σ'', (f = .rt v ∨ (f = .nx ∧ v = .none)) ∧ (∀ m ∈ σ'.take σ.length, Closed σ.length m) ∧ Exit σ.length σ' v v'' σ'' ∧ Q v'' σ'') :
    CALLV c (d + 1) (.obj (.ref a)) args kw σ Q := by
  have hat := D.here
  unfold fdAt at hat
  split at hat
  · rename_i cl dd fd' sl ho
    cases hat
    obtain ⟨b, hb, hr⟩ := D.code
    refine CALL_fun ρ (B.ok.kin _ _ ho) rfl D.body D.clo D.co D.gen D.kind D.gl D.bu (by rw [hb]; exact recAt_of B.ok.kin hr) hkind hnd (fun s μ vs ks hi hv hk => ?_) h
    obtain ⟨binds, h1, h2⟩ := hbind s.heap μ vs ks hv hk
    exact ⟨binds, kp_binds (B.ok.kin.keeps hi.keep) h1, h2⟩
  · cases hat
theorem Calls_def {a : Addr} {fd : FuncData} {body : List Stmt} (B : Base c) (D : DefOk c.K a fd body) : Calls c (.obj (.ref a)) := by
  have hat := D.here
  unfold fdAt at hat
  split at hat
  · rename_i cl dd fd' sl ho
    exact ⟨_, fd', B.ok.kin _ _ ho, rfl⟩
  · cases hat
end

end
section
open PySem PySem.W PyProof.Rows PySem.Calls
set_option Elab.async false
set_option maxRecDepth 100000
set_option autoImplicit false
set_option linter.unusedVariables false

/-! what is kept of the locals -/
noncomputable def Has (ρ : Loc) : Loc → Prop
  | [] => True
  | p :: r => ρ.lookup p.1 = some p.2 ∧ Has ρ r
theorem Has.mem {ρ : Loc} : ∀ {ρ' : Loc}, Has ρ ρ' → ∀ p ∈ ρ', ρ.lookup p.1 = some p.2
  | _ :: _, h, p, hp => by
    rcases List.mem_cons.mp hp with rfl | hp
    · exact h.1
    · exact Has.mem h.2 p hp

noncomputable def Turn (ok : Loc → Hp → Prop) (Q : FV → Loc → Hp → Prop) : FV → Loc → Hp → Prop
  | .nx, ρ, σ => ok ρ σ
  | .ct, ρ, σ => ok ρ σ
  | .br, ρ, σ => Q .nx ρ σ
  | .rt v, ρ, σ => Q (.rt v) ρ σ

section
variable {c : Fx} {d : Nat} {env : Env} {ρ : Loc} {σ : Hp} {Q : FV → Loc → Hp → Prop}

theorem SXs_has {sts : List Stmt} (ρ' : Loc) (hs : Has ρ ρ') (h : SXs c d env sts ρ' σ Q) : SXs c d env sts ρ σ Q := SXs_sub ρ' hs.mem h
theorem SB_has {e : Expr} {Q : Bool → Hp → Prop} (ρ' : Loc) (hs : Has ρ ρ') (h : SB c d env e ρ' σ Q) : SB c d env e ρ σ Q := fun A E s μ ha hi he => h A E s μ ha hi (he.sub hs.mem)
theorem Has.cons {x : Str} {v : V} {ρ' : Loc} (h : Has ρ ρ') (hx : ∀ p ∈ ρ', (p.1 == x) = false) : Has ((x, v) :: ρ) ρ' := by
  induction ρ' with
  | nil => trivial
  | cons p r ih =>
    refine ⟨?_, ih h.2 fun q hq => hx q (.tail _ hq)⟩
    rw [List.lookup_cons, hx p (.head _)]
    exact h.1

theorem SXs_weak {sts : List Stmt} (h : SXs c d env sts ρ σ fun f ρ' σ' => ∃ ρ'', (ρ'' = ρ' ∨ Has ρ' ρ'') ∧ Q f ρ'' σ') : SXs c d env sts ρ σ Q :=
  fun A E s μ ha hi he => wpAny_mono (h A E s μ ha hi he) (fun _ _ ⟨fl, ρ₁, σ₁, μ₁, ⟨ρ₂, hh, q⟩, r, x, e⟩ => ⟨fl, ρ₂, σ₁, μ₁, q, r, x, hh.elim (fun q => q ▸ e) fun q => e.sub q.mem⟩) fun _ _ e => e
theorem SX_has {st : Stmt} (ρ' : Loc) (hs : Has ρ ρ') (h : SX c d env st ρ' σ Q) : SX c d env st ρ σ Q := fun A E s μ ha hi he => h A E s μ ha hi (he.sub hs.mem)
theorem Has.refl' : ∀ {ρ₁ : Loc}, (∀ p ∈ ρ₁, ρ.lookup p.1 = some p.2) → Has ρ ρ₁
  | [], _ => trivial
  | p :: r, h => ⟨h p (.head _), Has.refl' fun q hq => h q (.tail _ hq)⟩

theorem FOR {S : Type} {x : Str} {px pos : Pos} {iter : Expr} {body orelse : List Stmt} (ρc : Nat → S → Loc) (P : Nat → S → Hp → Prop) (hf : ∀ x, foldedSetIterable iter env x = pure x)
    (h : SE c d env iter ρ σ fun v σ₁ => ∃ (items : List V) (x₀ : S), P 0 x₀ σ₁ ∧ Has ρ (ρc 0 x₀) ∧ (∀ k y σ', k ≤ items.length → P k y σ' → Items σ' v items) ∧
      (∀ k y σ' u, items[k]? = some u → P k y σ' → StoreOk env ((x, u) :: ρc k y) x ∧ SXs c d env body ((x, u) :: ρc k y) σ' (Turn (fun ρ' σ'' => ∃ z, P (k + 1) z σ'' ∧ Has ρ' (ρc (k + 1) z)) Q)) ∧
      (∀ y σ', P items.length y σ' → SXs c d env orelse (ρc items.length y) σ' Q)) : SX c d env (.For (.Name x px) iter body orelse pos) ρ σ Q := by
  refine SX_for hf (SE_mono h fun v σ₁ ⟨items, x₀, h0, hρ, hit, hturn, hend⟩ => ⟨items, fun k ρ' σ' => ∃ y, P k y σ' ∧ ρ' = ρc k y, ⟨ρc 0 x₀, hρ.mem, x₀, h0, rfl⟩, fun k ρ' σ' hk ⟨y, hp, _⟩ => hit k y σ' hk hp, fun k ρ' σ' u hu ⟨y, hp, hh⟩ => ?_, fun ρ' σ' ⟨y, hp, hh⟩ => hh ▸ hend y σ' hp⟩)
  subst hh
  obtain ⟨h1, h2⟩ := hturn k y σ' u hu hp
  refine ⟨h1, SXs_weak (SXs_mono h2 fun f ρ₂ σ₂ t => ?_)⟩
  cases f with
  | nx => obtain ⟨z, h1, h2⟩ := t; exact ⟨ρc (k + 1) z, .inr h2, z, h1, rfl⟩
  | ct => obtain ⟨z, h1, h2⟩ := t; exact ⟨ρc (k + 1) z, .inr h2, z, h1, rfl⟩
  | br => exact ⟨ρ₂, .inl rfl, t⟩
  | rt v => exact ⟨ρ₂, .inl rfl, t⟩

theorem WHILE {S : Type} {test : Expr} {body orelse : List Stmt} {pos : Pos} (ρc : S → Loc) (P : S → Hp → Prop) (m : S → Nat) (x₀ : S) (h0 : P x₀ σ) (hρ : Has ρ (ρc x₀))
    (turn : ∀ y σ', P y σ' → SB c d env test (ρc y) σ' fun b σ₁ => (b = true → SXs c d env body (ρc y) σ₁ (Turn (fun ρ' σ'' => ∃ z, m z < m y ∧ P z σ'' ∧ Has ρ' (ρc z)) Q)) ∧ (b = false → SXs c d env orelse (ρc y) σ₁ Q)) :
    SX c d env (.While test body orelse pos) ρ σ Q := by
  refine SX_has (ρc x₀) hρ ?_
  refine SX_while (fun n ρ' σ' => ∃ y, n = m y ∧ P y σ' ∧ ρ' = ρc y) (fun n ρ' σ' ⟨y, hn, hp, hh⟩ => ?_) (m x₀) ⟨x₀, rfl, h0, rfl⟩
  subst hn hh
  refine fun A E s μ ha hi he => wpAny_mono (turn y σ' hp A E s μ ha hi he) (fun b s₁ ⟨σ₁, μ₁, q, r⟩ => ⟨σ₁, μ₁, ⟨fun hb => SXs_weak (SXs_mono (q.1 hb) fun f ρ₂ σ₂ t => ?_), q.2⟩, r⟩) fun _ _ e => e
  cases f with
  | nx => obtain ⟨z, h1, h2, h3⟩ := t; exact ⟨ρc z, .inr h3, m z, h1, z, rfl, h2, rfl⟩
  | ct => obtain ⟨z, h1, h2, h3⟩ := t; exact ⟨ρc z, .inr h3, m z, h1, z, rfl, h2, rfl⟩
  | br => exact ⟨ρ₂, .inl rfl, t⟩
  | rt v => exact ⟨ρ₂, .inl rfl, t⟩
end

end
section
open PySem PySem.W PyProof.Rows PySem.Calls
set_option Elab.async false
set_option maxRecDepth 100000
set_option autoImplicit false
set_option linter.unusedVariables false
section
variable {c : Fx} {d : Nat} {σ : Hp} {Q : V → Hp → Prop}
theorem BIN_divs {i j : Int} (hj : 0 < j) (hz : j < 1073741824) (q : Q (.int (i / j)) σ) : BIN c d .FloorDiv (.int i) (.int j) σ Q :=
  BIN_div (by omega) (PyProof.noPylong_small (by omega)) (by rw [Int.fdiv_eq_ediv_of_nonneg _ (by omega)]; exact q)
theorem BIN_mods {i j : Int} (hj : 0 < j) (q : Q (.int (i % j)) σ) : BIN c d .Mod (.int i) (.int j) σ Q :=
  BIN_mod (by omega) (by rw [Int.fmod_eq_emod_of_nonneg _ (by omega)]; exact q)
theorem BIN_muls {i j : Int} (h1 : -(2 ^ 64) < i) (h2 : i < 2 ^ 64) (q : Q (.int (i * j)) σ) : BIN c d .Mult (.int i) (.int j) σ Q := BIN_mul (.of_left (intBits_le_64 h1 h2)) q
theorem CALLV.mono {f : V} {args : List V} {kw : List (Str × V)} {Q' : V → Hp → Prop} (h : CALLV c d f args kw σ Q) (k : ∀ v σ', Q v σ' → Q' v σ') : CALLV c d f args kw σ Q' :=
  fun A E s μ vf vs ks ha hi r1 r2 r3 => wpAny_mono (h A E s μ vf vs ks ha hi r1 r2 r3) (fun _ _ ⟨v, σ', μ', q, r⟩ => ⟨v, σ', μ', k _ _ q, r⟩) fun _ _ e => e
theorem AOk.down {d : Nat} {A : Around} (h : AOk (d + 1) A) : AOk d A := ⟨h.han, by have := h.dep; omega, by have := h.uni; omega⟩
theorem CALLV.up {f : V} {args : List V} {kw : List (Str × V)} (h : CALLV c d f args kw σ Q) : CALLV c (d + 1) f args kw σ Q :=
  fun A E s μ vf vs ks ha => h A E s μ vf vs ks ha.down
theorem SXs_post {env : Env} {sts : List Stmt} {ρ : Loc} {R : FV → Loc → Hp → Prop} (h : ∀ R' : FV → Loc → Hp → Prop, (∀ f ρ' σ', R f ρ' σ' → R' f ρ' σ') → SXs c d env sts ρ σ R') : SXs c d env sts ρ σ R := h R fun _ _ _ x => x
end
/-- the def at an address of the frozen heap, and its body -/
noncomputable def fdG (K : Frag) (a : Addr) : FuncData := match fdAt K a with
  | some fd => fd
  | none => default
noncomputable def bodyG (K : Frag) (a : Addr) : List Stmt := match (fdG K a).body with
  | .stmts b => b
  | .expr _ => []

end
section
open PySem PySem.W PyProof.Rows PySem.Calls
set_option Elab.async false
set_option maxRecDepth 100000
set_option autoImplicit false
set_option linter.unusedVariables false

/-! a frozen dict from ints to texts -/
noncomputable def txtAt (i : Int) : List (Int × Str) → Option Str
  | [] => none
  | p :: r => if i = p.1 then some p.2 else txtAt i r
theorem lookup_txt (i : Int) : ∀ D : List (Int × Str), Spec.lookup (.int i) ((D.map fun p => (p.1, PyData.str p.2)).map fun p => (PyData.int p.1, p.2)) = (txtAt i D).map .str := by
  intro D
  rw [KTD.lookup_keyed]
  induction D with
  | nil => rfl
  | cons p r ih =>
    rw [List.map_cons]
    show (if decide (i = p.1) = true then some (PyData.str p.2) else KTD.datumAt i (r.map fun p => (p.1, PyData.str p.2))) = (if i = p.1 then some p.2 else txtAt i r).map .str
    by_cases h : i = p.1
    · rw [if_pos (by simpa using h), if_pos h]; rfl
    · rw [if_neg (by simpa using h), if_neg h]; exact ih

section
variable {c : Fx} {d : Nat} {σ : Hp} {Q : V → Hp → Prop}
theorem METH_dict {name : Str} {id : String} {a : Addr} {o : Obj} (B : Base c) (ho : c.K.lookup a = some o) (hc : o.cls = .type "dict") (hd : o.dict = none) (sl : Slot "dict" name id) (ty : typeOf (.builtin id) = pure (.type "method_descriptor")) : METH c name (.obj (.ref a)) id := by
  rintro s μ σ vo hi rfl
  have h := hi.keep _ _ (B.ok.kin _ _ ho)
  exact ⟨"dict", F.plainAttrs_dict, sl, ty, ⟨_, h, hc⟩, fun b e => by cases e; exact ⟨_, h, hd⟩⟩
theorem CALL_dget {a : Addr} {i : Int} {y : Str} (B : Base c) (D : List (Int × Str)) (hD : KTD.keyedLook (fun b => c.K.lookup b) a (D.map fun p => (p.1, PyData.str p.2)) = true) (q : Q (.str ((txtAt i D).getD y)) σ) :
    CALLV c d (.obj (.builtin "dict.get")) [.obj (.ref a), .int i, .str y] [] σ Q := by
  rintro A E s μ vf vs ks ha hi rfl hvs hks
  obtain ⟨_, _, _, rfl, rfl, ⟨t, rfl⟩, u, rfl⟩ := args3 hvs
  have T := (kt_keyed_in (B.ok.kin.keeps hi.keep) hD) c.prog c.w
  obtain rfl := args0 hks
  refine call_get2_intTab T (fun _ => .str y u) fun v hv => ?_
  rw [lookup_txt] at hv
  have e : ((txtAt i D).map PyData.str).getD (.str y) = .str ((txtAt i D).getD y) := by cases txtAt i D <;> rfl
  rw [e] at hv
  have h0 := hv s.heap
  generalize (txtAt i D).getD y = z at h0 q
  cases h0
  exact .of q ⟨_, rfl⟩ (.toks hi _)
end

section
variable {c : Fx} {d : Nat} {env : Env} {ρ : Loc} {σ : Hp} {Q : V → Hp → Prop}
theorem SE_gls {x : Str} {pos : Pos} (B : Base c) (v : Str) (t : Tok) (hk : env.kindOf x = some .globalImplicit) (hx : nsIn c.K mainGlobals x = some (some (.str v t))) (q : Q (.str v) σ)
    (hd : (x == ("__debug__" : Str)) = false := by decide +kernel) : SE c d env (.Name x pos) ρ σ Q :=
  fun _ _ _ _ _ hi he => wpAny_Name (wp_global hi he hk (.inl (mg_of B.ok.kin B.ok.gns hx)) (.of (v := .str v) q ⟨t, rfl⟩ (.refl hi))) hd
end

end
section
open PySem PySem.W PyProof.Rows PySem.Calls
set_option Elab.async false
set_option maxRecDepth 100000
set_option autoImplicit false
set_option linter.unusedVariables false

/-! flags as words -/
noncomputable def FLAGS : List (Int × Str) := [(1, "OPTIMIZED"), (2, "NEWLOCALS"), (4, "VARARGS"), (8, "VARKEYWORDS"), (16, "NESTED"), (32, "GENERATOR"), (64, "NOFREE"), (128, "COROUTINE"), (256, "ITERABLE_COROUTINE"), (512, "ASYNC_GENERATOR")]
noncomputable def pfWord (i : Nat) : Str := (txtAt (2 ^ i : Int) FLAGS).getD (baseText "0x" 16 (2 ^ i))
noncomputable def pfWords (n k : Nat) : List Str := (List.range k).filterMap fun i => if n.testBit i then some (pfWord i) else none
noncomputable def pfText (n : Nat) : Str := if n = 0 then Txt.join ", " [baseText "0x" 16 0] else Txt.join ", " (pfWords n 32)

theorem high_step (n k : Nat) : n / 2 ^ k * 2 ^ k = n / 2 ^ (k + 1) * 2 ^ (k + 1) + (n.testBit k).toNat * 2 ^ k := by
  have h1 : n / 2 ^ (k + 1) = n / 2 ^ k / 2 := by rw [Nat.pow_succ, Nat.div_div_eq_div_mul]
  have h2 : (n.testBit k).toNat = n / 2 ^ k % 2 := Nat.toNat_testBit n k
  rw [h1, h2, Nat.pow_succ]
  have h3 := Nat.div_add_mod (n / 2 ^ k) 2
  calc n / 2 ^ k * 2 ^ k = (2 * (n / 2 ^ k / 2) + n / 2 ^ k % 2) * 2 ^ k := by rw [h3]
    _ = _ := by rw [Nat.add_mul, Nat.mul_comm 2 (n / 2 ^ k / 2), Nat.mul_assoc, Nat.mul_comm 2 (2 ^ k)]
theorem high_bit (n k : Nat) : (n / 2 ^ k * 2 ^ k).testBit k = n.testBit k := by
  rw [Nat.testBit_mul_two_pow]; simp [Nat.testBit_eq_decide_div_mod_eq]
theorem and_pow (n i : Nat) : n &&& 2 ^ i = (n.testBit i).toNat * 2 ^ i := by
  apply Nat.eq_of_testBit_eq
  intro j
  rw [Nat.testBit_and, Nat.testBit_two_pow]
  cases h : n.testBit i
  · by_cases e : i = j
    · subst e; simp [h]
    · simp [e]
  · by_cases e : i = j
    · subst e; simp [h]
    · simp [e, Nat.testBit_two_pow]
theorem pf_and (n k : Nat) : Builtin.bitAnd ((n / 2 ^ k * 2 ^ k : Nat) : Int) ((2 ^ k : Nat) : Int) = (((n.testBit k).toNat * 2 ^ k : Nat) : Int) := by
  rw [bitAnd_pp (Int.natCast_nonneg _) (Int.natCast_nonneg _), Int.toNat_natCast, Int.toNat_natCast, and_pow, high_bit]
theorem pf_xor (n k : Nat) (h : n.testBit k = true) : Builtin.bitXor ((n / 2 ^ k * 2 ^ k : Nat) : Int) ((2 ^ k : Nat) : Int) = ((n / 2 ^ (k + 1) * 2 ^ (k + 1) : Nat) : Int) := by
  rw [bitXor_and, pf_and, h, high_step n k, h]
  simp only [Bool.toNat_true, Nat.one_mul]
  generalize n / 2 ^ (k + 1) * 2 ^ (k + 1) = a
  generalize 2 ^ k = b
  omega
theorem pfWords_succ (n k : Nat) : pfWords n (k + 1) = pfWords n k ++ (if n.testBit k then [pfWord k] else []) := by
  unfold pfWords
  rw [List.range_succ, List.filterMap_append]
  congr 1
  simp only [List.filterMap_cons, List.filterMap_nil]
  cases n.testBit k <;> rfl
theorem pfWords_len (n k : Nat) : (pfWords n k).length ≤ k := by
  unfold pfWords
  exact Nat.le_trans (List.length_filterMap_le _ _) (by rw [List.length_range]; exact Nat.le_refl _)
theorem pfWords_high (n k j : Nat) (h : n / 2 ^ k = 0) (hj : k ≤ j) : pfWords n j = pfWords n k := by
  induction j with
  | zero => rw [show k = 0 by omega]
  | succ j ih =>
    by_cases e : k = j + 1
    · rw [e]
    · rw [pfWords_succ, ih (by omega)]
      have : n.testBit j = false := by
        apply Nat.testBit_lt_two_pow
        have h1 : n < 2 ^ k := (Nat.div_eq_zero_iff_lt (Nat.two_pow_pos k)).mp h
        exact Nat.lt_of_lt_of_le h1 (Nat.pow_le_pow_right (by decide) (by omega))
      rw [this]; simp
theorem pfWord_len : ∀ i, i < 32 → (pfWord i).length ≤ 40 := by decide +kernel
theorem pfHex_len : ∀ i, i < 32 → (baseText "0x" 16 (2 ^ i)).length ≤ 40 := by decide +kernel
theorem pfWords_sum (n k : Nat) (hk : k ≤ 32) : ((pfWords n k).map (·.length)).sum ≤ 40 * k := by
  induction k with
  | zero => exact Nat.le_refl _
  | succ k ih =>
    rw [pfWords_succ, List.map_append, List.sum_append]
    have h1 := ih (by omega)
    have h2 := pfWord_len k (by omega)
    cases n.testBit k <;> simp only [if_true, if_false, Bool.false_eq_true, List.map_cons, List.map_nil, List.sum_cons, List.sum_nil] <;> omega

end
section
open PySem PySem.W PyProof.Rows PySem.Calls
set_option Elab.async false
set_option maxRecDepth 100000
set_option autoImplicit false
set_option linter.unusedVariables false

/-! the two patterns on a text -/
noncomputable def C1 : Array Nat := #[14, 4, 0, 1, 1, 6, 1, 16, 46, 1]
noncomputable def C2 : Array Nat := #[14, 9, 4, 1, 2, 16, 10, 16, 13, 0, 7, 7, 16, 13, 16, 10, 15, 18, 5, 16, 10, 15, 13, 11, 16, 13, 5, 5, 0, 16, 10, 1, 15, 2, 0, 1]

/-- a state of the machine -/
noncomputable def mst (code text : Array Nat) (start pc pos handed : Nat) (outer : Bool) (frames : List Sre.Frame) (weight : Nat) (answer : Option Bool) (seen : Sre.Seen) (outcome : Option Sre.Outcome) : Sre.M :=
  { code, text, lim := text.size, start, lastStart := text.size, wholeText := false, mustAdvance := false, pc, pos, handed, outermost := outer, marks := #[], lastmark := -1, lastindex := -1, loops := #[], inner := none, frames, weight, answer, seen, outcome }
noncomputable def fst' (s : Nat) (first : Bool) (pc : Nat) : Sre.Frame := { wait := .nextStart, pc, pos := s, outermost := first }

theorem run_zero (m : Sre.M) : m.runFor 0 = m := rfl
theorem run_succ (n : Nat) (m : Sre.M) : m.runFor (n + 1) = if m.outcome.isSome = true then m else m.step.runFor n := rfl
theorem run_done (n : Nat) (m : Sre.M) (h : m.outcome.isSome = true) : m.runFor n = m := by
  cases n with
  | zero => rfl
  | succ n => rw [run_succ, if_pos h]
theorem run_add (a b : Nat) (m : Sre.M) : m.runFor (a + b) = (m.runFor a).runFor b := by
  induction a generalizing m with
  | zero => rw [Nat.zero_add]; rfl
  | succ a ih =>
    rw [show a + 1 + b = (a + b) + 1 by omega, run_succ, run_succ]
    split
    · rename_i h; rw [run_done b m h]
    · exact ih _

/-- m comes to m' in at most k steps -/
noncomputable def Comes (k : Nat) (m m' : Sre.M) : Prop := ∃ j, j ≤ k ∧ m.runFor j = m'
theorem Comes.refl (m : Sre.M) : Comes 0 m m := ⟨0, Nat.le_refl _, rfl⟩
theorem Comes.step {k : Nat} {m m₁ m' : Sre.M} (ho : m.outcome = none) (h : m.step = m₁) (x : Comes k m₁ m') : Comes (k + 1) m m' := by
  obtain ⟨j, hj, e⟩ := x
  refine ⟨j + 1, by omega, ?_⟩
  rw [run_succ, ho, if_neg (by decide), h]; exact e

section
variable {text : Array Nat}
theorem s1_at (s : Nat) (f : List Sre.Frame) (w h : Nat) (seen : Sre.Seen) (first : Bool) : ∃ seen', (mst C1 text s 5 s h first f w none seen none).step =
    if (s == 0 || text.getD (s - 1) 0 == 10) = true then mst C1 text s 7 s h first f w none seen' none else mst C1 text s 5 s h first f w (some false) seen' none := ⟨_, rfl⟩
theorem l_C1_7 (s start : Nat) (f : List Sre.Frame) (w h : Nat) (seen : Sre.Seen) (first : Bool) : (mst C1 text start 7 s h first f w none seen none).step =
    if s ≥ text.size then mst C1 text start 7 s h first f w (some false) (seen.add 16) none else if (text.getD s 0 == 46) = true then mst C1 text start 9 (s + 1) h first f w none (seen.add 16) none else mst C1 text start 7 s h first f w (some false) (seen.add 16) none := by
  show (if s ≥ text.size then _ else match (Except.ok (text.getD s 0 == 46, seen.add 16) : Except String (Bool × Sre.Seen)) with | .error why => _ | .ok (false, seen) => _ | .ok (true, seen) => _) = _
  split
  · rfl
  · cases text.getD s 0 == 46 <;> rfl
theorem l_C2_12 (s start : Nat) (f : List Sre.Frame) (w h : Nat) (seen : Sre.Seen) (first : Bool) : (mst C2 text start 12 s h first f w none seen none).step =
    if s ≥ text.size then mst C2 text start 12 s h first f w (some false) (seen.add 16) none else if (text.getD s 0 == 13) = true then mst C2 text start 14 (s + 1) h first f w none (seen.add 16) none else mst C2 text start 12 s h first f w (some false) (seen.add 16) none := by
  show (if s ≥ text.size then _ else match (Except.ok (text.getD s 0 == 13, seen.add 16) : Except String (Bool × Sre.Seen)) with | .error why => _ | .ok (false, seen) => _ | .ok (true, seen) => _) = _
  split
  · rfl
  · cases text.getD s 0 == 13 <;> rfl
theorem l_C2_14 (s start : Nat) (f : List Sre.Frame) (w h : Nat) (seen : Sre.Seen) (first : Bool) : (mst C2 text start 14 s h first f w none seen none).step =
    if s ≥ text.size then mst C2 text start 14 s h first f w (some false) (seen.add 16) none else if (text.getD s 0 == 10) = true then mst C2 text start 16 (s + 1) h first f w none (seen.add 16) none else mst C2 text start 14 s h first f w (some false) (seen.add 16) none := by
  show (if s ≥ text.size then _ else match (Except.ok (text.getD s 0 == 10, seen.add 16) : Except String (Bool × Sre.Seen)) with | .error why => _ | .ok (false, seen) => _ | .ok (true, seen) => _) = _
  split
  · rfl
  · cases text.getD s 0 == 10 <;> rfl
theorem l_C2_19 (s start : Nat) (f : List Sre.Frame) (w h : Nat) (seen : Sre.Seen) (first : Bool) : (mst C2 text start 19 s h first f w none seen none).step =
    if s ≥ text.size then mst C2 text start 19 s h first f w (some false) (seen.add 16) none else if (text.getD s 0 == 10) = true then mst C2 text start 21 (s + 1) h first f w none (seen.add 16) none else mst C2 text start 19 s h first f w (some false) (seen.add 16) none := by
  show (if s ≥ text.size then _ else match (Except.ok (text.getD s 0 == 10, seen.add 16) : Except String (Bool × Sre.Seen)) with | .error why => _ | .ok (false, seen) => _ | .ok (true, seen) => _) = _
  split
  · rfl
  · cases text.getD s 0 == 10 <;> rfl
theorem l_C2_24 (s start : Nat) (f : List Sre.Frame) (w h : Nat) (seen : Sre.Seen) (first : Bool) : (mst C2 text start 24 s h first f w none seen none).step =
    if s ≥ text.size then mst C2 text start 24 s h first f w (some false) (seen.add 16) none else if (text.getD s 0 == 13) = true then mst C2 text start 26 (s + 1) h first f w none (seen.add 16) none else mst C2 text start 24 s h first f w (some false) (seen.add 16) none := by
  show (if s ≥ text.size then _ else match (Except.ok (text.getD s 0 == 13, seen.add 16) : Except String (Bool × Sre.Seen)) with | .error why => _ | .ok (false, seen) => _ | .ok (true, seen) => _) = _
  split
  · rfl
  · cases text.getD s 0 == 13 <;> rfl
theorem l_C2_29 (s start : Nat) (f : List Sre.Frame) (w h : Nat) (seen : Sre.Seen) (first : Bool) : (mst C2 text start 29 s h first f w none seen none).step =
    if s ≥ text.size then mst C2 text start 29 s h first f w (some false) (seen.add 16) none else if (text.getD s 0 == 10) = true then mst C2 text start 31 (s + 1) h first f w none (seen.add 16) none else mst C2 text start 29 s h first f w (some false) (seen.add 16) none := by
  show (if s ≥ text.size then _ else match (Except.ok (text.getD s 0 == 10, seen.add 16) : Except String (Bool × Sre.Seen)) with | .error why => _ | .ok (false, seen) => _ | .ok (true, seen) => _) = _
  split
  · rfl
  · cases text.getD s 0 == 10 <;> rfl
theorem s1_succ (s start : Nat) (f : List Sre.Frame) (w h : Nat) (seen : Sre.Seen) (first : Bool) : (mst C1 text start 9 s h first f w none seen none).step = mst C1 text start 9 s s first f w (some true) (seen.add 1) none := by
  cases first <;> rfl
theorem s2_succ (s start : Nat) (f : List Sre.Frame) (w h : Nat) (seen : Sre.Seen) (first : Bool) : (mst C2 text start 35 s h first f w none seen none).step = mst C2 text start 35 s s first f w (some true) (seen.add 1) none := by
  cases first <;> rfl
theorem s2_look (s start : Nat) (f : List Sre.Frame) (w h : Nat) (seen : Sre.Seen) (first : Bool) : (mst C2 text start 31 s h first f w none seen none).step = mst C2 text start 31 s s first f w (some true) (seen.add 1) none := by
  cases first <;> rfl
theorem s_pop (code : Array Nat) (s pc start h : Nat) (first : Bool) (p₀ s₀ : Nat) (first₀ : Bool) (seen : Sre.Seen) : (mst code text start pc s h first [fst' s₀ first₀ p₀] 1 (some true) seen none).step = mst code text start p₀ s₀ h first₀ [] 0 (some true) seen none := rfl
theorem s_end (code : Array Nat) (s pc start h : Nat) (first : Bool) (seen : Sre.Seen) (b : Bool) : (mst code text start pc s h first [] 0 (some b) seen none).step = mst code text start pc s h first [] 0 (some b) seen (some (if b then .matched else .failed)) := rfl
theorem s1_next (s start : Nat) (h : Nat) (pc pos : Nat) (first f₀ : Bool) (seen : Sre.Seen) : (mst C1 text start pc pos h first [fst' s f₀ 5] 1 (some false) seen none).step =
    if s < text.size then mst C1 text (s + 1) 5 (s + 1) (s + 1) false [fst' (s + 1) false 5] 1 none seen none else mst C1 text start 5 s h f₀ [] 0 (some false) seen none := rfl
noncomputable def alt' (pc s : Nat) (first : Bool) : Sre.Frame := { wait := .nextBranch, pc, pos := s, outermost := first, kept := { lastmark := -1, lastindex := -1 } }
theorem s2_branch (s start h w : Nat) (f : List Sre.Frame) (first : Bool) (seen : Sre.Seen) (hw : w + 1 ≤ 16777216) : (mst C2 text start 10 s h first f w none seen none).step = mst C2 text start 12 s s first (alt' 11 s first :: f) (w + 1) none (seen.add 7) none := by
  show (if w + 1 + 0 > 16777216 then _ else _) = _
  rw [if_neg (by omega)]
  rfl
theorem s2_jump16 (s start h w : Nat) (f : List Sre.Frame) (first : Bool) (seen : Sre.Seen) : (mst C2 text start 16 s h first f w none seen none).step = mst C2 text start 35 s h first f w none (seen.add 15) none := rfl
theorem s2_jump21 (s start h w : Nat) (f : List Sre.Frame) (first : Bool) (seen : Sre.Seen) : (mst C2 text start 21 s h first f w none seen none).step = mst C2 text start 35 s h first f w none (seen.add 15) none := rfl
theorem s2_jump32 (s start h w : Nat) (f : List Sre.Frame) (first : Bool) (seen : Sre.Seen) : (mst C2 text start 32 s h first f w none seen none).step = mst C2 text start 35 s h first f w none (seen.add 15) none := rfl
theorem s2_alt2 (s pc pos start h w : Nat) (f : List Sre.Frame) (first f₀ : Bool) (seen : Sre.Seen) (hw : w + 1 ≤ 16777216) : (mst C2 text start pc pos h first (alt' 11 s f₀ :: f) (w + 1) (some false) seen none).step = mst C2 text start 19 s s f₀ (alt' 18 s f₀ :: f) (w + 1) none seen none := by
  show (if w + 1 - 1 + 1 + 0 > 16777216 then _ else _) = _
  rw [if_neg (by omega)]
  rfl
theorem s2_alt3 (s pc pos start h w : Nat) (f : List Sre.Frame) (first f₀ : Bool) (seen : Sre.Seen) (hw : w + 1 ≤ 16777216) : (mst C2 text start pc pos h first (alt' 18 s f₀ :: f) (w + 1) (some false) seen none).step = mst C2 text start 24 s s f₀ (alt' 23 s f₀ :: f) (w + 1) none seen none := by
  show (if w + 1 - 1 + 1 + 0 > 16777216 then _ else _) = _
  rw [if_neg (by omega)]
  rfl
theorem s2_yes (s pc q pos start h w : Nat) (f : List Sre.Frame) (first f₀ : Bool) (seen : Sre.Seen) : (mst C2 text start pc pos h first (alt' q s f₀ :: f) (w + 1) (some true) seen none).step = mst C2 text start q s h f₀ f w (some true) seen none := rfl
noncomputable def look' (s : Nat) (first : Bool) : Sre.Frame := { wait := .lookNot, pc := 26, pos := s, outermost := first, kept := { lastmark := -1, lastindex := -1 } }
theorem s2_assert (s start h w : Nat) (f : List Sre.Frame) (first : Bool) (seen : Sre.Seen) (hw : w + 1 ≤ 16777216) : (mst C2 text start 26 s h first f w none seen none).step = mst C2 text start 29 s s false (look' s first :: f) (w + 1) none (seen.add 5) none := by
  show (if w + 1 + 0 > 16777216 then _ else _) = _
  rw [if_neg (by omega)]
  rfl
theorem s2_free (s pc pos start h w : Nat) (f : List Sre.Frame) (first f₀ : Bool) (seen : Sre.Seen) : (mst C2 text start pc pos h first (look' s f₀ :: f) (w + 1) (some false) seen none).step = mst C2 text start 32 s h f₀ f w none seen none := rfl
end

end
section
open PySem PySem.W PyProof.Rows PySem.Calls
set_option Elab.async false
set_option maxRecDepth 100000
set_option autoImplicit false
set_option linter.unusedVariables false

noncomputable def dotAt (text : Array Nat) (p : Nat) : Prop := p < text.size ∧ text.getD p 0 = 46 ∧ (p = 0 ∨ text.getD (p - 1) 0 = 10)
noncomputable def nlAt (text : Array Nat) (p : Nat) : Prop := p < text.size ∧ (text.getD p 0 = 10 ∨ text.getD p 0 = 13)
noncomputable def nlLen (text : Array Nat) (p : Nat) : Nat := if text.getD p 0 = 13 ∧ p + 1 < text.size ∧ text.getD (p + 1) 0 = 10 then 2 else 1

noncomputable def Found (here : Nat → Prop) (len : Nat → Nat) (s : Nat) (m : Sre.M) : Prop :=
  (∃ p, s ≤ p ∧ here p ∧ (∀ q, s ≤ q → q < p → ¬ here q) ∧ m.outcome = some .matched ∧ m.start = p ∧ m.handed = p + len p) ∨ ((∀ q, s ≤ q → ¬ here q) ∧ m.outcome = some .failed)

theorem say_end {X : Sre.M} (h1 : X.frames = []) (h2 : X.outcome = none) : ((X.say false).runFor 1).outcome = some .failed := by
  have h3 : (X.say false).outcome = none := h2
  rw [run_succ, h3, if_neg (by decide), run_zero]
  unfold Sre.M.step Sre.M.say
  simp [h1, h2]

section
variable {text : Array Nat}

theorem find1 : ∀ (k s : Nat) (seen : Sre.Seen) (first : Bool), text.size - s = k → s ≤ text.size → ∃ m', Comes (5 * k + 5) (mst C1 text s 5 s s first [fst' s first 5] 1 none seen none) m' ∧ Found (dotAt text) (fun _ => 1) s m' := by
  intro k
  induction k with
  | zero =>
    intro s seen first hk hs
    have hn : ¬ s < text.size := by omega
    have no : ∀ q, s ≤ q → ¬ dotAt text q := fun q hq h => by have := h.1; omega
    have fin : ∀ (pc : Nat) (seen : Sre.Seen), ∃ m', Comes 2 (mst C1 text s pc s s first [fst' s first 5] 1 (some false) seen none) m' ∧ Found (dotAt text) (fun _ => 1) s m' := fun pc seen =>
      ⟨_, (Comes.refl _).step (by rfl) (s_end C1 s 5 s s first seen false) |>.step (by rfl) (by rw [s1_next, if_neg hn]), .inr ⟨no, rfl⟩⟩
    obtain ⟨a, ha⟩ := s1_at (text := text) s [fst' s first 5] 1 s seen first
    by_cases hb : (s == 0 || text.getD (s - 1) 0 == 10) = true
    · rw [if_pos hb] at ha
      have hl := l_C1_7 (text := text) s s [fst' s first 5] 1 s a first
      rw [if_pos (by omega)] at hl
      obtain ⟨m', x, y⟩ := fin 7 (a.add 16)
      obtain ⟨j, hj, e⟩ := (x.step rfl hl).step rfl ha
      exact ⟨m', ⟨j, by omega, e⟩, y⟩
    · rw [if_neg hb] at ha
      obtain ⟨m', x, y⟩ := fin 5 a
      obtain ⟨j, hj, e⟩ := x.step rfl ha
      exact ⟨m', ⟨j, by omega, e⟩, y⟩
  | succ k ih =>
    intro s seen first hk hs
    have hn : s < text.size := by omega
    have fin : ∀ (pc : Nat) (seen : Sre.Seen), ¬ dotAt text s → ∃ m', Comes (5 * k + 6) (mst C1 text s pc s s first [fst' s first 5] 1 (some false) seen none) m' ∧ Found (dotAt text) (fun _ => 1) s m' := by
      intro pc seen no
      obtain ⟨m', x, y⟩ := ih (s + 1) seen false (by omega) (by omega)
      have hx := s1_next (text := text) s s s pc s first first seen
      rw [if_pos hn] at hx
      refine ⟨m', x.step rfl hx, ?_⟩
      rcases y with ⟨p, h1, h2, h3, h4⟩ | ⟨h1, h2⟩
      · refine .inl ⟨p, by omega, h2, fun q hq hqp => ?_, h4⟩
        by_cases e : q = s
        · rw [e]; exact no
        · exact h3 q (by omega) hqp
      · refine .inr ⟨fun q hq => ?_, h2⟩
        by_cases e : q = s
        · rw [e]; exact no
        · exact h1 q (by omega)
    obtain ⟨a, ha⟩ := s1_at (text := text) s [fst' s first 5] 1 s seen first
    by_cases hb : (s == 0 || text.getD (s - 1) 0 == 10) = true
    · rw [if_pos hb] at ha
      have hb' : s = 0 ∨ text.getD (s - 1) 0 = 10 := by simpa using hb
      have hl := l_C1_7 (text := text) s s [fst' s first 5] 1 s a first
      rw [if_neg (by omega)] at hl
      by_cases hc : (text.getD s 0 == 46) = true
      · rw [if_pos hc] at hl
        have hc' : text.getD s 0 = 46 := by simpa using hc
        have x := (Comes.refl _).step rfl (s_end (text := text) C1 s 5 s (s + 1) first ((a.add 16).add 1) true)
        have x := x.step rfl (s_pop (text := text) C1 (s + 1) 9 s (s + 1) first 5 s first ((a.add 16).add 1))
        have x := x.step rfl (s1_succ (text := text) (s + 1) s [fst' s first 5] 1 s (a.add 16) first)
        obtain ⟨j, hj, e⟩ := (x.step rfl hl).step rfl ha
        exact ⟨_, ⟨j, by omega, e⟩, .inl ⟨s, Nat.le_refl _, ⟨hn, hc', hb'⟩, fun q h1 h2 => by omega, rfl, rfl, rfl⟩⟩
      · rw [if_neg hc] at hl
        have hc' : ¬ text.getD s 0 = 46 := by simpa using hc
        obtain ⟨m', x, y⟩ := fin 7 (a.add 16) fun h => hc' h.2.1
        obtain ⟨j, hj, e⟩ := (x.step rfl hl).step rfl ha
        exact ⟨m', ⟨j, by omega, e⟩, y⟩
    · rw [if_neg hb] at ha
      have hb' : ¬ (s = 0 ∨ text.getD (s - 1) 0 = 10) := by simpa using hb
      obtain ⟨m', x, y⟩ := fin 5 a fun h => hb' h.2.2
      obtain ⟨j, hj, e⟩ := x.step rfl ha
      exact ⟨m', ⟨j, by omega, e⟩, y⟩

theorem search1 (start : Nat) (hs : start ≤ text.size) : ∃ m', Comes (5 * text.size + 10) (Sre.forSearch C1 text 0 start text.size false) m' ∧ Found (dotAt text) (fun _ => 1) start m' := by
  by_cases hn : start < text.size
  · obtain ⟨m', x, y⟩ := find1 (text := text) (text.size - start) start (({} : Sre.Seen).add 14) true rfl hs
    refine ⟨m', ?_, y⟩
    have e : Sre.forSearch C1 text 0 start text.size false = mst C1 text start 5 start start true [fst' start true 5] 1 none (({} : Sre.Seen).add 14) none := by
      show (if (decide (start > text.size) || decide (text.size - start < 1)) = true then _ else _) = _
      rw [if_neg (by simp; omega)]
      rfl
    rw [e]
    obtain ⟨j, hj, e⟩ := x
    exact ⟨j, by omega, e⟩
  · have e : Sre.forSearch C1 text 0 start text.size false = Sre.M.say { mst C1 text start 5 start start true [] 0 none (({} : Sre.Seen).add 14) none with lastStart := 0 } false := by
      show (if (decide (start > text.size) || decide (text.size - start < 1)) = true then _ else _) = _
      rw [if_pos (by simp; omega)]
      rfl
    exact ⟨_, ⟨1, by omega, rfl⟩, .inr ⟨fun q hq h => by have := h.1; omega, by rw [e]; exact say_end rfl rfl⟩⟩

/-! ends of lines -/
theorem inset2 (ch fuel : Nat) (seen : Sre.Seen) : ∃ seen', Sre.inSet C2 ch (fuel + 3) 5 true seen = .ok (ch == 10 || ch == 13, seen') := by
  by_cases h1 : (ch == 10) = true
  · refine ⟨seen.add 16, ?_⟩
    show (if (ch == 10) = true then Except.ok (true, seen.add 16) else _) = _
    rw [if_pos h1, h1]; rfl
  · by_cases h2 : (ch == 13) = true
    · refine ⟨(seen.add 16).add 16, ?_⟩
      show (if (ch == 10) = true then _ else if (ch == 13) = true then Except.ok (true, (seen.add 16).add 16) else _) = _
      rw [if_neg h1, if_pos h2, h2]; simp
    · refine ⟨((seen.add 16).add 16).add 0, ?_⟩
      show (if (ch == 10) = true then _ else if (ch == 13) = true then _ else Except.ok (false, ((seen.add 16).add 16).add 0)) = _
      rw [if_neg h1, if_neg h2]
      rw [Bool.not_eq_true] at h1 h2
      rw [h1, h2]; rfl
theorem adm2 (m : Sre.M) (hc : m.code = C2) (ht : m.text = text) (hl : m.lim = text.size) : ∀ (fuel s : Nat) (seen : Sre.Seen), text.size + 1 - s ≤ fuel → s ≤ text.size →
    (∃ p seen', Sre.M.admitted m fuel s seen = .ok (some p, seen') ∧ s ≤ p ∧ nlAt text p ∧ ∀ q, s ≤ q → q < p → ¬ nlAt text q) ∨ (∃ seen', Sre.M.admitted m fuel s seen = .ok (none, seen') ∧ ∀ q, s ≤ q → ¬ nlAt text q) := by
  intro fuel
  induction fuel with
  | zero => intro s seen h1 h2; omega
  | succ fuel ih =>
    intro s seen h1 h2
    unfold Sre.M.admitted
    rw [hl, hc, ht]
    by_cases hs : s ≥ text.size
    · rw [if_pos hs]
      exact .inr ⟨seen, rfl, fun q hq h => by have := h.1; omega⟩
    · rw [if_neg hs]
      obtain ⟨seen', e⟩ := inset2 (text.getD s 0) 33 seen
      rw [show C2.size = 33 + 3 from rfl, e]
      cases hb : (text.getD s 0 == 10 || text.getD s 0 == 13) with
      | true =>
        refine .inl ⟨s, seen', rfl, Nat.le_refl _, ⟨by omega, by simpa using hb⟩, fun q h1 h2 => by omega⟩
      | false =>
        have no : ¬ nlAt text s := fun h => by
          have := h.2
          simp only [Bool.or_eq_false_iff, beq_eq_false_iff_ne] at hb
          omega
        have ext : ∀ q, s ≤ q → q ≠ s → s + 1 ≤ q := fun q _ _ => by omega
        rcases ih (s + 1) seen' (by omega) (by omega) with ⟨p, s2, e2, h3, h4, h5⟩ | ⟨s2, e2, h3⟩
        · refine .inl ⟨p, s2, e2, by omega, h4, fun q hq hp => ?_⟩
          by_cases e : q = s
          · rw [e]; exact no
          · exact h5 q (ext q hq e) hp
        · refine .inr ⟨s2, e2, fun q hq => ?_⟩
          by_cases e : q = s
          · rw [e]; exact no
          · exact h3 q (ext q hq e)

/-- the match at an end of a line -/
theorem match2 (s : Nat) (seen : Sre.Seen) (h : nlAt text s) : ∃ m', Comes 30 (mst C2 text s 10 s s true [fst' s true 10] 1 none seen none) m' ∧ m'.outcome = some .matched ∧ m'.start = s ∧ m'.handed = s + nlLen text s := by
  obtain ⟨hs, hc⟩ := h
  have fin : ∀ (q pos hd : Nat) (first : Bool) (pc : Nat) (seen : Sre.Seen), ∃ m', Comes 3 (mst C2 text s pc pos hd first (alt' q s true :: [fst' s true 10]) 2 (some true) seen none) m' ∧ m'.outcome = some .matched ∧ m'.start = s ∧ m'.handed = hd := fun q pos hd first pc seen =>
    ⟨_, ((Comes.refl _).step rfl (s_end (text := text) C2 s 10 s hd true seen true)).step rfl (s_pop (text := text) C2 s q s hd true 10 s true seen) |>.step rfl (s2_yes (text := text) s pc q pos s hd 1 [fst' s true 10] first true seen), rfl, rfl, rfl⟩
  have b0 := s2_branch (text := text) s s s 1 [fst' s true 10] true seen (by omega)
  rcases hc with hc | hc
  · -- a feed
    have len : nlLen text s = 1 := by unfold nlLen; rw [if_neg (by omega)]
    rw [len]
    have l1 := l_C2_12 (text := text) s s (alt' 11 s true :: [fst' s true 10]) 2 s (seen.add 7) true
    rw [if_neg (by omega), if_neg (by rw [hc]; decide)] at l1
    have a1 := s2_alt2 (text := text) s 12 s s s 1 [fst' s true 10] true true ((seen.add 7).add 16) (by omega)
    have l2 := l_C2_19 (text := text) s s (alt' 18 s true :: [fst' s true 10]) 2 s ((seen.add 7).add 16) true
    rw [if_neg (by omega), if_pos (by rw [hc]; decide)] at l2
    have j2 := s2_jump21 (text := text) (s + 1) s s 2 (alt' 18 s true :: [fst' s true 10]) true (((seen.add 7).add 16).add 16)
    have k2 := s2_succ (text := text) (s + 1) s (alt' 18 s true :: [fst' s true 10]) 2 s ((((seen.add 7).add 16).add 16).add 15) true
    obtain ⟨m', x, y⟩ := fin 18 (s + 1) (s + 1) true 35 (((((seen.add 7).add 16).add 16).add 15).add 1)
    obtain ⟨j, hj, e⟩ := ((((((x.step rfl k2).step rfl j2).step rfl l2).step rfl a1).step rfl l1).step rfl b0)
    exact ⟨m', ⟨j, by omega, e⟩, y⟩
  · have l1 := l_C2_12 (text := text) s s (alt' 11 s true :: [fst' s true 10]) 2 s (seen.add 7) true
    rw [if_neg (by omega), if_pos (by rw [hc]; decide)] at l1
    by_cases hn : s + 1 < text.size ∧ text.getD (s + 1) 0 = 10
    · -- a return and a feed
      have len : nlLen text s = 2 := by unfold nlLen; rw [if_pos ⟨hc, hn⟩]
      rw [len]
      have l2 := l_C2_14 (text := text) (s + 1) s (alt' 11 s true :: [fst' s true 10]) 2 s ((seen.add 7).add 16) true
      rw [if_neg (by omega), if_pos (by rw [hn.2]; decide)] at l2
      have j2 := s2_jump16 (text := text) (s + 1 + 1) s s 2 (alt' 11 s true :: [fst' s true 10]) true (((seen.add 7).add 16).add 16)
      have k2 := s2_succ (text := text) (s + 1 + 1) s (alt' 11 s true :: [fst' s true 10]) 2 s ((((seen.add 7).add 16).add 16).add 15) true
      obtain ⟨m', x, y⟩ := fin 11 (s + 1 + 1) (s + 1 + 1) true 35 (((((seen.add 7).add 16).add 16).add 15).add 1)
      obtain ⟨j, hj, e⟩ := (((((x.step rfl k2).step rfl j2).step rfl l2).step rfl l1).step rfl b0)
      exact ⟨m', ⟨j, by omega, e⟩, y⟩
    · -- a return alone
      have len : nlLen text s = 1 := by unfold nlLen; rw [if_neg (fun h => hn h.2)]
      rw [len]
      have l2 : (mst C2 text s 14 (s + 1) s true (alt' 11 s true :: [fst' s true 10]) 2 none ((seen.add 7).add 16) none).step = mst C2 text s 14 (s + 1) s true (alt' 11 s true :: [fst' s true 10]) 2 (some false) (((seen.add 7).add 16).add 16) none := by
        rw [l_C2_14]
        by_cases h : s + 1 ≥ text.size
        · rw [if_pos h]
        · rw [if_neg h, if_neg (by simp only [beq_iff_eq]; exact fun e => hn ⟨by omega, e⟩)]
      generalize hs1 : ((seen.add 7).add 16).add 16 = seen1 at l2
      have a1 := s2_alt2 (text := text) s 14 (s + 1) s s 1 [fst' s true 10] true true seen1 (by omega)
      have l3 := l_C2_19 (text := text) s s (alt' 18 s true :: [fst' s true 10]) 2 s seen1 true
      rw [if_neg (by omega), if_neg (by rw [hc]; decide)] at l3
      generalize hs2 : seen1.add 16 = seen2 at l3
      have a2 := s2_alt3 (text := text) s 19 s s s 1 [fst' s true 10] true true seen2 (by omega)
      have l4 := l_C2_24 (text := text) s s (alt' 23 s true :: [fst' s true 10]) 2 s seen2 true
      rw [if_neg (by omega), if_pos (by rw [hc]; decide)] at l4
      generalize hs3 : seen2.add 16 = seen3 at l4
      have as := s2_assert (text := text) (s + 1) s s 2 (alt' 23 s true :: [fst' s true 10]) true seen3 (by omega)
      generalize hs4 : seen3.add 5 = seen4 at as
      have l5 : (mst C2 text s 29 (s + 1) (s + 1) false (look' (s + 1) true :: alt' 23 s true :: [fst' s true 10]) 3 none seen4 none).step = mst C2 text s 29 (s + 1) (s + 1) false (look' (s + 1) true :: alt' 23 s true :: [fst' s true 10]) 3 (some false) (seen4.add 16) none := by
        rw [l_C2_29]
        by_cases h : s + 1 ≥ text.size
        · rw [if_pos h]
        · rw [if_neg h, if_neg (by simp only [beq_iff_eq]; exact fun e => hn ⟨by omega, e⟩)]
      generalize hs5 : seen4.add 16 = seen5 at l5
      have fr := s2_free (text := text) (s + 1) 29 (s + 1) s (s + 1) 2 (alt' 23 s true :: [fst' s true 10]) false true seen5
      have j2 := s2_jump32 (text := text) (s + 1) s (s + 1) 2 (alt' 23 s true :: [fst' s true 10]) true seen5
      have k2 := s2_succ (text := text) (s + 1) s (alt' 23 s true :: [fst' s true 10]) 2 (s + 1) (seen5.add 15) true
      obtain ⟨m', x, y⟩ := fin 23 (s + 1) (s + 1) true 35 ((seen5.add 15).add 1)
      obtain ⟨j, hj, e⟩ := (((((((((((x.step rfl k2).step rfl j2).step rfl fr).step rfl l5).step rfl as).step rfl l4).step rfl a2).step rfl l3).step rfl a1).step rfl l2).step rfl l1).step rfl b0
      exact ⟨m', ⟨j, by omega, e⟩, y⟩

theorem search2 (start : Nat) (hs : start ≤ text.size) : ∃ m', Comes (5 * text.size + 40) (Sre.forSearch C2 text 0 start text.size false) m' ∧ Found (nlAt text) (nlLen text) start m' := by
  by_cases hn : start < text.size
  · have e : Sre.forSearch C2 text 0 start text.size false = match Sre.M.admitted (mst C2 text start 10 start start true [] 0 none (({} : Sre.Seen).add 14) none) (text.size + 1 - start) start (({} : Sre.Seen).add 14) with
        | .ok (some s, seen) => mst C2 text s 10 s s true [fst' s true 10] 1 none seen none
        | .ok (none, seen) => mst C2 text start 10 start start true [] 0 (some false) seen none
        | .error why => mst C2 text start 10 start start true [] 0 none (({} : Sre.Seen).add 14) (some (.stuck why)) := by
      show (if (decide (start > text.size) || decide (text.size - start < 1)) = true then _ else _) = _
      rw [if_neg (by simp; omega)]
      rfl
    rcases adm2 (text := text) (mst C2 text start 10 start start true [] 0 none (({} : Sre.Seen).add 14) none) rfl rfl rfl (text.size + 1 - start) start (({} : Sre.Seen).add 14) (Nat.le_refl _) hs with ⟨p, seen', e2, h3, h4, h5⟩ | ⟨seen', e2, h3⟩
    · rw [e, e2]
      obtain ⟨m', ⟨j, hj, x⟩, y⟩ := match2 p seen' h4
      exact ⟨m', ⟨j, by omega, x⟩, .inl ⟨p, h3, h4, h5, y⟩⟩
    · rw [e, e2]
      exact ⟨_, ⟨1, by omega, rfl⟩, .inr ⟨h3, rfl⟩⟩
  · have e : Sre.forSearch C2 text 0 start text.size false = Sre.M.say { mst C2 text start 10 start start true [] 0 none (({} : Sre.Seen).add 14) none with lastStart := 0 } false := by
      show (if (decide (start > text.size) || decide (text.size - start < 1)) = true then _ else _) = _
      rw [if_pos (by simp; omega)]
      rfl
    exact ⟨_, ⟨1, by omega, rfl⟩, .inr ⟨fun q hq h => by have := h.1; omega, by rw [e]; exact say_end rfl rfl⟩⟩
end

end
section
open PySem PySem.W PyProof.Rows PySem.Calls PySem.Builtin.Re
set_option Elab.async false
set_option maxRecDepth 100000
set_option autoImplicit false
set_option linter.unusedVariables false

theorem plainAttrs_re : PlainAttrs "re.Pattern" :=
  ⟨⟨"object.__getattribute__", by rw [typeLookup_type, builtinLookup_eq_fast]; kernel_rfl, by decide +kernel⟩, by rw [typeLookup_type, builtinLookup_eq_fast]; kernel_rfl⟩
theorem slot_re_sub : Slot "re.Pattern" "sub" "re.Pattern.sub" :=
  .of (owner := "re.Pattern") (n := "sub") (by rw [typeLookup_type, builtinLookup_eq_fast]; kernel_rfl) (by decide +kernel) (by decide +kernel) (by decide +kernel)
    (by first | exact .inl (by decide +kernel) | exact .inr (by decide +kernel)) (by rw [isSubtype_type]; kernel_rfl)
theorem type_re_sub : typeOf (.builtin "re.Pattern.sub") = pure (.type "method_descriptor") := by show builtinType _ = _; rw [builtinType_eq_fast]; kernel_rfl
theorem entry_re_sub : entryFor table "re.Pattern.sub" = some Builtin.«re.Pattern.sub» := entryFor_of_tree (by kernel_rfl)
theorem entry_re_loop : entryFor table "re.Pattern.sub.loop" = some Builtin.«re.Pattern.sub.loop» := entryFor_of_tree (by kernel_rfl)
theorem args_re_sub (a b e : Value) : argsOk "re.Pattern.sub" ⟨[a, b, e], []⟩ := by unfold argsOk; kernel_rfl
theorem plain_re_loop : plainId "re.Pattern.sub.loop" = true := by decide +kernel

section
variable {M : Model} {A : Around} {E : Value → Shared → Prop} {s : Shared}

theorem wp_drive {Q : Sre.M → Shared → Prop} {m' : Sre.M} (q : Q m' s) (ho : m'.outcome.isSome = true) : ∀ (turns j : Nat) (m : Sre.M), m.runFor j = m' → j ≤ 4 * turns → 0 < turns → wpAny M A (reDrive turns m) Q E s := by
  intro turns
  induction turns with
  | zero => intro j m _ _ h; cases h
  | succ turns ih =>
    intro j m hj hle _
    show wpAny M A (if (m.runFor 4).outcome.isSome = true then pure (m.runFor 4) else (do rule "sre.turn"; reDrive turns (m.runFor 4))) Q E s
    by_cases h4 : (m.runFor 4).outcome.isSome = true
    · rw [if_pos h4]
      have e : m.runFor 4 = m' := by
        rcases Nat.lt_or_ge 4 j with h | h
        · rw [← hj, show j = 4 + (j - 4) by omega, run_add, run_done _ _ h4]
        · rw [show 4 = j + (4 - j) by omega, run_add, hj, run_done _ _ ho]
      rw [e]; exact wpAny_pure q
    · rw [if_neg h4]
      have hj4 : 4 < j := by
        rcases Nat.lt_or_ge 4 j with h | h
        · exact h
        · exfalso; apply h4
          rw [show 4 = j + (4 - j) by omega, run_add, hj, run_done _ _ ho]; exact ho
      refine wpAny_bind (wpAny_rule (ih (j - 4) _ ?_ (by omega) ?_))
      · rw [← run_add, show 4 + (j - 4) = j by omega]; exact hj
      · rcases Nat.eq_zero_or_pos turns with h | h
        · omega
        · exact h

theorem wp_quiet {α : Type} {body : α → PUnit → Sem (ForInStep PUnit)} {Q : PUnit → Shared → Prop} (h : ∀ i, wpAny M A (body i ⟨⟩) (fun r s' => r = .yield ⟨⟩ ∧ s' = s) E s) (q : Q ⟨⟩ s) (l : List α) : wpAny M A (forIn l PUnit.unit body) Q E s := by
  induction l with
  | nil => rw [List.forIn_nil]; exact wpAny_pure q
  | cons x l ih =>
    rw [List.forIn_cons]
    refine wpAny_bind (wpAny_mono (h x) (fun r s' h' => ?_) fun _ _ e => e)
    obtain ⟨rfl, rfl⟩ := h'
    exact ih

theorem wp_runToEnd {m m' : Sre.M} {k : Nat} {Q : Option Sre.M → Shared → Prop} (x : Comes k m m') (hk : k ≤ 2 ^ 60) (ho : m'.outcome = some .matched ∨ m'.outcome = some .failed) (q1 : m'.outcome = some .matched → Q (some m') s) (q2 : m'.outcome = some .failed → Q none s) : wpAny M A (reRunToEnd m) Q E s := by
  obtain ⟨j, hj, e⟩ := x
  unfold reRunToEnd
  refine wpAny_bind (wp_drive (m' := m') ?_ ?_ (2 ^ 64) j m e (by omega) (by decide))
  · refine wpAny_bind (wp_quiet (fun i => ?_) ?_ _)
    · split
      · exact wpAny_bind (wpAny_rule (wpAny_pure ⟨rfl, rfl⟩))
      · exact wpAny_pure ⟨rfl, rfl⟩
    · rcases ho with h | h
      · rw [h]; exact wpAny_pure (q1 h)
      · rw [h]; exact wpAny_pure (q2 h)
  · rcases ho with h | h <;> rw [h] <;> rfl

structure IsPat (h : Heap) (p : Addr) (code : Array Nat) : Prop where
  ex : ∃ op vs ct oc cs n, h.get? p = some op ∧ op.data = .fields vs ∧ op.cls = .type "re.Pattern" ∧ op.dict = none ∧ vs.getD 5 .none = .ref ct ∧ vs.getD 6 .none = .int 0 0 ∧ vs.getD 2 .none = .int 0 0 ∧ h.get? ct = some oc ∧ oc.data = .seq cs n ∧ (cs.map reRawOf).map (·.toNat) = code
theorem IsPat.keeps {h h' : Heap} {p : Addr} {code : Array Nat} (x : IsPat h p code) (k : ∀ b o, h.get? b = some o → h'.get? b = some o) : IsPat h' p code :=
  let ⟨op, vs, ct, oc, cs, n, h1, h2, h3, h4, h5, h6, h7, h8, h9⟩ := x.ex; ⟨⟨op, vs, ct, oc, cs, n, k _ _ h1, h2, h3, h4, h5, h6, h7, k _ _ h8, h9⟩⟩

theorem wp_target {p : Addr} {code : Array Nat} {x : Str} {t : Tok} {Q : ReTarget → Shared → Prop} (hp : IsPat s.heap p code) (q : Q ⟨.ref p, .str x t, code, x.cps, 0, 0, 0, x.cps.size⟩ s) : wpAny M A (reWholeTarget (.ref p) (.str x t)) Q E s := by
  obtain ⟨op, vs, ct, oc, cs, n, h1, h2, h3, h4, h5, h6, h7, h8, h9, rfl⟩ := hp.ex
  unfold reWholeTarget
  refine wpAny_bind (wpAny_fieldsOf h1 h2 ?_)
  refine wpAny_bind (m := reTextOf (.str x t)) (wpAny_pure ?_)
  rw [h6, h5, h7]
  show wpAny M A (do
    let items ← reRawItems (.ref ct)
    pure (ReTarget.mk (.ref p) (.str x t) (items.map (·.toNat)) x.cps 0 0 0 x.cps.size)) Q E s
  refine wpAny_bind ?_
  unfold reRawItems
  exact wpAny_bind (wpAny_seqItems h8 h9 (wpAny_pure (wpAny_pure q)))
end

end
section
open PySem PySem.W PyProof.Rows PySem.Calls PySem.Builtin.Re
set_option Elab.async false
set_option maxRecDepth 100000
set_option autoImplicit false
set_option linter.unusedVariables false
set_option maxHeartbeats 4000000

/-- what a substitution leaves behind done -/
inductive SubR (text : List Nat) (here : Nat → Prop) (len : Nat → Nat) (repl : List Nat) : Nat → List Nat → Prop
  | stop {d : Nat} : (∀ q, d ≤ q → ¬ here q) → SubR text here len repl d (text.drop d)
  | go {d p : Nat} {r : List Nat} : d ≤ p → here p → (∀ q, d ≤ q → q < p → ¬ here q) → SubR text here len repl (p + len p) r → SubR text here len repl d ((text.drop d).take (p - d) ++ repl ++ r)

noncomputable def flat (ys : List Str) : List Nat := (ys.map fun y => y.cps.toList).flatten
theorem flat_snoc (ys : List Str) (y : Str) : flat (ys ++ [y]) = flat ys ++ y.cps.toList := by simp [flat]
theorem ext_list (a : Array Nat) (b e : Nat) : (a.extract b e).toList = (a.toList.drop b).take (e - b) := by simp [Array.toList_extract, List.extract_eq_take_drop]
theorem join_empty_cps (ys : List Str) : (Txt.join ⟨#[]⟩ ys).cps.toList = flat ys := by
  show (Builtin.Str.glued ⟨#[]⟩ ys).cps.toList = flat ys
  rw [StrLaws.glued_eq_join]
  induction ys with
  | nil => rfl
  | cons y r ih =>
    cases r with
    | nil => simp [Str.join, flat]
    | cons z r =>
      have : Str.join ⟨#[]⟩ (y :: z :: r) = y ++ ⟨#[]⟩ ++ Str.join ⟨#[]⟩ (z :: r) := rfl
      rw [this]
      show (y.cps ++ #[] ++ (Str.join ⟨#[]⟩ (z :: r)).cps).toList = _
      rw [Array.toList_append, Array.toList_append, ih]
      simp [flat]

section
variable {prog : Program} {w : World} {A : Around} {s : Shared}

theorem wp_pushStr {M : Model} {E : Value → Shared → Prop} {L : Addr} {xs : Array Value} {n : Nat} {ys : List Str} {y : Str} {t : Tok} {Q : Unit → Shared → Prop} {h₀ : Heap}
    (ho : s.heap.get? L = some { cls := .type "list", data := .seq xs n }) (hy : StrsAre xs.toList ys) (hz : ys.length ≤ 2 ^ 22) (hL : h₀.get? L = none) (hk : ∀ b o, h₀.get? b = some o → s.heap.get? b = some o)
    (q : ∀ h' xs' n', h'.get? L = some { cls := .type "list", data := .seq xs' n' } → StrsAre xs'.toList (ys ++ [y]) → (∀ b o, h₀.get? b = some o → h'.get? b = some o) → Q () { s with heap := h' }) : wpAny M A (updateSeq L (·.push (.str y t))) Q E s := by
  have hlen : xs.size = ys.length := by rw [← Array.length_toList]; exact hy.len_eq
  refine wpAny_updateSeq ho rfl (q _ (xs.push (.str y t)) _ (IsL.update (n := n) ho (·.push (.str y t))) ?_ fun b o e => ?_) (by rw [sizeLine_eq]; omega) (by rw [Array.size_push, sizeLine_eq]; omega)
  · rw [Array.toList_push]
    have : ∀ {l : List Value} {ys : List Str}, StrsAre l ys → StrsAre (l ++ [.str y t]) (ys ++ [y]) := by
      intro l ys h
      induction h with
      | nil => exact .cons _ _ .nil
      | cons z u _ ih => exact .cons _ _ ih
    exact this hy
  · rw [Heap.get?_update_other _ _ (fun e2 : L = b => by rw [← e2, hL] at e; cases e)]
    exact hk b o e

theorem wp_subloop {p L : Addr} {code : Array Nat} {x repl : Str} {t u : Tok} {here : Nat → Prop} {len : Nat → Nat} {R : Result → Shared → Prop} {h₀ : Heap}
    (search : ∀ start, start ≤ x.cps.size → ∃ m', Comes (5 * x.cps.size + 40) (Sre.forSearch code x.cps 0 start x.cps.size false) m' ∧ Found here len start m')
    (hlen : ∀ q, here q → 1 ≤ len q ∧ q + len q ≤ x.cps.size) (hx : x.cps.size ≤ 2 ^ 20) (hrep : repl.length ≤ 2) (hL : h₀.get? L = none) (hp : IsPat h₀ p code) :
    ∀ (k done : Nat) (n : Int) (s : Shared) (ys : List Str), x.cps.size - done = k → done ≤ x.cps.size → (∃ xs e, s.heap.get? L = some { cls := .type "list", data := .seq xs e } ∧ StrsAre xs.toList ys) →
      ys.length ≤ 2 * done → (ys.map (·.length)).sum ≤ 3 * done → (∀ b o, h₀.get? b = some o → s.heap.get? b = some o) →
      (∀ r t' h' tk, SubR x.cps.toList here len repl.cps.toList done r → (∀ b o, h₀.get? b = some o → h'.get? b = some o) → R (.ok (.ret (.str ⟨(flat ys ++ r).toArray⟩ t'))) { s with heap := h', toks := tk }) →
      codeAny (model prog w) A (.builtin "re.Pattern.sub.loop" ⟨[.ref p, .str x t, .str repl u, rawInt 0, rawInt 0, rawInt n, rawInt done, rawInt done, .bool false, .ref L, .bool false], []⟩) R s := by
  intro k
  induction k using Nat.strongRecOn with
  | _ k ih =>
  intro done n s ys hk hd ⟨xs, e, ho, hy⟩ hyl hys hkeep q
  refine codeAny_builtin entry_re_loop ?_
  generalize A.under _ = A'
  show wpAny _ _ (do
    let t ← reWholeTarget (.ref p) (.str x t)
    reLiteralCannotBeTurned (.str repl u)
    match ← reNextFound t (Int.toNat done) false with
    | some m => do
      if (Int.toNat done) < m.start then updateSeq L (·.push (← reSlice t.text t.kind (Int.toNat done) m.start))
      let item ← pure (Value.str repl u)
      if item != .none then updateSeq L (·.push item)
      again (.builtin "re.Pattern.sub.loop" ⟨[.ref p, .str x _, .str repl u, rawInt 0, rawInt 0, rawInt (n + 1), rawInt m.handed, rawInt m.handed, .bool (m.handed == m.start), .ref L, .bool false], []⟩)
    | none => _) _ _ s
  rw [Int.toNat_natCast]
  refine wpAny_bind (wp_target (hp.keeps hkeep) ?_)
  refine wpAny_bind (m := reLiteralCannotBeTurned (.str repl u)) (wpAny_pure ?_)
  obtain ⟨m', hc, hf⟩ := search done hd
  have hfit : ∀ y : List Nat, y.length ≤ x.cps.size → (⟨y.toArray⟩ : Str).length ≤ sizeLine := fun y hy => by
    show y.toArray.size ≤ _
    rw [List.size_toArray, sizeLine_eq]; omega
  have hslice : ∀ {Q : Value → Shared → Prop} {A : Around} {E : Value → Shared → Prop} (b e : Nat) (s : Shared), Q (.str ⟨x.cps.extract b e⟩ s.toks) { s with toks := s.toks + 1 } → wpAny (model prog w) A (reSlice x.cps 0 b e) Q E s := fun b e s h => by
    refine wpAny_mkStr h ?_
    show (x.cps.extract b e).size ≤ sizeLine
    rw [Array.size_extract, sizeLine_eq]; omega
  refine wpAny_bind ?_
  show wpAny _ _ (reRunToEnd (Sre.forSearch code x.cps 0 done x.cps.size false)) _ _ s
  refine wp_runToEnd hc (by omega) ?_ (fun hm => ?_) (fun hm => ?_)
  · rcases hf with ⟨_, _, _, _, h, _⟩ | ⟨_, h⟩
    · exact .inl h
    · exact .inr h
  · -- a match
    rcases hf with ⟨q0, h1, h2, h3, _, h5, h6⟩ | ⟨_, h⟩
    · obtain ⟨hl1, hl2⟩ := hlen q0 h2
      have fin : ∀ (s' : Shared) (ys' : List Str) (xs' : Array Value) (e' : Nat), s'.heap.get? L = some { cls := .type "list", data := .seq xs' e' } → StrsAre xs'.toList ys' → ys'.length ≤ ys.length + 1 → (ys'.map (·.length)).sum ≤ (ys.map (·.length)).sum + (q0 - done) →
          flat ys' = flat ys ++ (x.cps.toList.drop done).take (q0 - done) → (∀ b o, h₀.get? b = some o → s'.heap.get? b = some o) → (∃ h' tk, s' = { s with heap := h', toks := tk }) →
          wpAny (model prog w) A' (do
            let item ← pure (Value.str repl u)
            if item != .none then updateSeq L (·.push item)
            again (.builtin "re.Pattern.sub.loop" ⟨[.ref p, .str x t, .str repl u, rawInt 0, rawInt 0, rawInt (n + 1), rawInt m'.handed, rawInt m'.handed, .bool (m'.handed == m'.start), .ref L, .bool false], []⟩))
            (fun fin s' => match fin with | .done f => R (.ok f) s' | .again c' => c'.quiet = true ∧ codeAny (model prog w) A c' R s') (fun e s' => R (.error e) s') s' := by
        intro s' ys' xs' e' ho' hy' hl' hs' hfl hk' ⟨h', tk, es⟩
        refine wpAny_bind (wpAny_pure ?_)
        show wpAny _ _ (do updateSeq L (·.push (.str repl u)); again _) _ _ s'
        refine wpAny_bind (wp_pushStr ho' hy' (by omega) hL hk' fun h2' xs2 n2 ho2 hy2 hk2 => ?_)
        refine wpAny_pure ⟨plainId_quiet plain_re_loop _, ?_⟩
        rw [h5, h6, show (q0 + len q0 == q0) = false by rw [beq_eq_false_iff_ne]; omega]
        refine ih (x.cps.size - (q0 + len q0)) (by omega) (q0 + len q0) (n + 1) _ (ys' ++ [repl]) rfl (by omega) ⟨xs2, n2, ho2, hy2⟩ (by rw [List.length_append, List.length_singleton]; omega) ?_ hk2 ?_
        · rw [List.map_append, List.sum_append]
          simp only [List.map_cons, List.map_nil, List.sum_cons, List.sum_nil]
          omega
        · intro r t' h3' tk3 hr hk3
          have z := q _ t' h3' tk3 (.go h1 h2 h3 hr) hk3
          subst es
          rw [flat_snoc, hfl]
          simpa [List.append_assoc] using z
      by_cases hlt : done < m'.start
      · dsimp only
        rw [if_pos hlt]
        refine wpAny_bind (hslice _ _ _ ?_)
        refine wpAny_bind (wp_pushStr (s := { s with toks := s.toks + 1 }) ho hy (by omega) hL hkeep fun h2' xs2 n2 ho2 hy2 hk2 => ?_)
        refine fin _ _ xs2 n2 ho2 hy2 (by simp) ?_ ?_ hk2 ⟨h2', s.toks + 1, rfl⟩
        · rw [List.map_append, List.sum_append, h5]
          simp only [List.map_cons, List.map_nil, List.sum_cons, List.sum_nil]
          show _ + ((x.cps.extract done q0).size + 0) ≤ _
          rw [Array.size_extract]
          omega
        · rw [flat_snoc, h5]
          show _ ++ (x.cps.extract done q0).toList = _
          rw [ext_list]
      · dsimp only
        rw [if_neg hlt]
        have e0 : q0 = done := by omega
        refine fin s ys xs e ho hy (by omega) (by omega) ?_ hkeep ⟨s.heap, s.toks, rfl⟩
        rw [e0]; simp
    · rw [hm] at h; cases h
  · -- no more
    rcases hf with ⟨_, _, _, _, h, _⟩ | ⟨h1, _⟩
    · rw [hm] at h; cases h
    · have fin : ∀ (s' : Shared) (ys' : List Str) (xs' : Array Value) (e' : Nat), s'.heap.get? L = some { cls := .type "list", data := .seq xs' e' } → StrsAre xs'.toList ys' → ys'.length ≤ ys.length + 1 → (ys'.map (·.length)).sum ≤ (ys.map (·.length)).sum + (x.cps.size - done) →
          flat ys' = flat ys ++ x.cps.toList.drop done → (∀ b o, h₀.get? b = some o → s'.heap.get? b = some o) → (∃ h' tk, s' = { s with heap := h', toks := tk }) →
          wpAny (model prog w) A' (do
            let joiner ← reSlice x.cps 0 0 0
            let items ← seqItems? (.ref L)
            let text ← if (items.getD #[]).isEmpty then pure joiner else call (.builtin "str.join") [joiner, .ref L]
            ret text)
            (fun fin s' => match fin with | .done f => R (.ok f) s' | .again c' => c'.quiet = true ∧ codeAny (model prog w) A c' R s') (fun e s' => R (.error e) s') s' := by
        intro s' ys' xs' e' ho' hy' hl' hs' hfl hk' ⟨h', tk, es⟩
        subst es
        refine wpAny_bind (hslice _ _ _ ?_)
        refine wpAny_bind (wpAny_seqItems (s := { s with heap := h', toks := tk + 1 }) ho' rfl ?_)
        have hr : SubR x.cps.toList here len repl.cps.toList done (x.cps.toList.drop done) := .stop h1
        by_cases hem : ((some xs').getD #[]).isEmpty = true
        · rw [if_pos hem]
          refine wpAny_bind (wpAny_pure (wpAny_pure ?_))
          have hxs : xs'.toList = [] := by simpa using hem
          rw [hxs] at hy'
          cases hy'
          have z := q _ tk h' (tk + 1) hr hk'
          rw [← hfl] at z
          have e3 : (⟨x.cps.extract 0 0⟩ : Str) = ⟨(flat []).toArray⟩ := by
            congr 1
            apply Array.toList_inj.mp
            rw [ext_list]; simp [flat]
          rw [e3]; exact z
        · rw [if_neg hem]
          refine wpAny_bind (join_list (s := { s with heap := h', toks := tk + 1 }) ⟨_, ho', rfl, _, rfl⟩ hy' ?_ fun t' k' => ?_)
          · show _ + ys'.length * (x.cps.extract 0 0).size ≤ _
            rw [Array.size_extract]
            simp only [Nat.min_eq_left (Nat.zero_le _), Nat.sub_zero, Nat.mul_zero]
            omega
          · refine wpAny_pure ?_
            have z := q _ t' h' k' hr hk'
            rw [← hfl] at z
            have e3 : (⟨x.cps.extract 0 0⟩ : Str) = ⟨#[]⟩ := by
              congr 1
              apply Array.toList_inj.mp
              rw [ext_list]; simp
            have e4 : Txt.join ⟨x.cps.extract 0 0⟩ ys' = ⟨(flat ys').toArray⟩ := by
              rw [e3]
              have e5 : (Txt.join ⟨#[]⟩ ys').cps = (flat ys').toArray := Array.toList_inj.mp (by rw [join_empty_cps])
              rw [← e5]
            rw [e4]; exact z
      by_cases hlt : done < x.cps.size
      · dsimp only
        rw [if_pos hlt]
        refine wpAny_bind (hslice _ _ _ ?_)
        refine wpAny_bind (wp_pushStr (s := { s with toks := s.toks + 1 }) ho hy (by omega) hL hkeep fun h2' xs2 n2 ho2 hy2 hk2 => ?_)
        refine fin _ _ xs2 n2 ho2 hy2 (by simp) ?_ ?_ hk2 ⟨h2', s.toks + 1, rfl⟩
        · rw [List.map_append, List.sum_append]
          simp only [List.map_cons, List.map_nil, List.sum_cons, List.sum_nil]
          show _ + ((x.cps.extract done x.cps.size).size + 0) ≤ _
          rw [Array.size_extract]
          omega
        · rw [flat_snoc]
          show _ ++ (x.cps.extract done x.cps.size).toList = _
          rw [ext_list, List.take_of_length_le (by rw [List.length_drop, Array.length_toList]; exact Nat.le_refl _)]
      · dsimp only
        rw [if_neg hlt]
        refine fin s ys xs e ho hy (by omega) (by omega) ?_ hkeep ⟨s.heap, s.toks, rfl⟩
        rw [List.drop_of_length_le (by rw [Array.length_toList]; omega)]; simp
end

end
section
open PySem PySem.W PyProof.Rows PySem.Calls PySem.Builtin.Re
set_option Elab.async false
set_option maxRecDepth 100000
set_option autoImplicit false
set_option linter.unusedVariables false
set_option maxHeartbeats 4000000

theorem str_no_call : typeLookup (.type "str") "__call__" = pure none := by rw [typeLookup_type, builtinLookup_eq_fast]; kernel_rfl

section
variable {prog : Program} {w : World} {A : Around} {E : Value → Shared → Prop} {s : Shared}
theorem wp_sub {p : Addr} {code : Array Nat} {x repl : Str} {t u : Tok} {here : Nat → Prop} {len : Nat → Nat} {Q : Value → Shared → Prop}
    (search : ∀ start, start ≤ x.cps.size → ∃ m', Comes (5 * x.cps.size + 40) (Sre.forSearch code x.cps 0 start x.cps.size false) m' ∧ Found here len start m')
    (hlen : ∀ q, here q → 1 ≤ len q ∧ q + len q ≤ x.cps.size) (hx : x.cps.size ≤ 2 ^ 20) (hrep : repl.length ≤ 2) (hb : repl.cps.contains 92 = false) (hp : IsPat s.heap p code)
    (q : ∀ r t' h' tk, SubR x.cps.toList here len repl.cps.toList 0 r → (∀ b o, s.heap.get? b = some o → h'.get? b = some o) → Q (.str ⟨r.toArray⟩ t') { s with heap := h', toks := tk }) :
    wpAny (model prog w) A (call (.builtin "re.Pattern.sub") [.ref p, .str repl u, .str x t]) Q E s := by
  have hT : s.TypeIs (.ref p) "re.Pattern" := by
    obtain ⟨op, vs, ct, oc, cs, n, h1, h2, h3, _⟩ := hp.ex
    exact ⟨op, h1, h3⟩
  refine wpAny_call (codeAny_call_builtin slot_re_sub.plain entry_re_sub (slot_re_sub.check _ _ _ _ _ _ _ _ hT (args_re_sub _ _ _) ?_))
  have e : reNamed "re.Pattern.sub" "sub" ["repl", "string", "count"] 2 [.str repl u, .str x t] [] = pure [some (.str repl u), some (.str x t), none] := by
    first | rfl | kernel_rfl
  show wpAny _ _ (reSubstitute "re.Pattern.sub" "sub" false ⟨[.ref p, .str repl u, .str x t], []⟩) _ _ s
  unfold reSubstitute
  dsimp only
  refine wpAny_bind (wpAny_of_eq e ?_)
  dsimp only
  refine wpAny_bind (wpAny_pure (wpAny_bind (wpAny_specialOf (typeIs_str _ _ _) str_no_call ?_)))
  rw [if_neg (by decide)]
  refine wpAny_bind (m := asStr? (.str repl u)) (wpAny_pure ?_)
  dsimp only
  rw [hb]
  refine wpAny_bind (wpAny_pure ?_)
  rw [if_neg (by decide), if_pos (by decide)]
  refine wpAny_bind (wpAny_pure (wpAny_bind (wpAny_holding (wp_target hp ?_))))
  dsimp only
  rw [if_neg (by decide)]
  refine wpAny_bind (wpAny_newList ?_ (Nat.zero_le _))
  refine wpAny_pure ⟨plainId_quiet plain_re_loop _, ?_⟩
  have z := wp_subloop (prog := prog) (w := w) (A := A) (R := wants Q E) (u := u) (t := t) (L := s.heap.objs.size) search hlen hx hrep (h₀ := s.heap) (Heap.get?_none_of_le (Nat.le_refl _)) hp (x.cps.size - 0) 0 0
    { s with heap := s.heap.push { cls := .type "list", data := .seq [].toArray } } [] rfl (Nat.zero_le _) ⟨#[], 0, Heap.get?_push_size _ rfl, .nil⟩ (Nat.le_refl _) (Nat.le_refl _) (fun b o e => Heap.get?_push_of_some _ e) (fun r t' h' tk hr hk => ?_)
  · exact z
  · exact q r t' h' tk hr hk
end

section
variable {c : Fx} {d : Nat} {σ : Hp} {Q : V → Hp → Prop}
noncomputable def patIn (K : Frag) (p : Addr) (code : Array Nat) : Bool := match K.lookup p with
  | some ⟨.type "re.Pattern", none, .fields vs, _⟩ => (match vs.getD 5 .none with
    | .ref ct => (match K.lookup ct with
      | some ⟨_, _, .seq cs _, _⟩ => (cs.map reRawOf).map (·.toNat) == code
      | _ => false)
    | _ => false) && (match vs.getD 6 .none with | .int 0 0 => true | _ => false) && (match vs.getD 2 .none with | .int 0 0 => true | _ => false)
  | _ => false
theorem patIn_of {K : Frag} {h : Heap} (X : K.In h) {p : Addr} {code : Array Nat} (e : patIn K p code = true) : IsPat h p code := by
  unfold patIn at e
  split at e
  · rename_i vs sl hp
    rw [Bool.and_eq_true, Bool.and_eq_true] at e
    obtain ⟨⟨e1, e2⟩, e3⟩ := e
    split at e1
    · rename_i ct h5
      split at e1
      · rename_i cl dd cs n sl' hct
        split at e2
        · rename_i h6
          split at e3
          · rename_i h2
            exact ⟨_, vs, ct, _, cs, n, X _ _ hp, rfl, rfl, rfl, h5, h6, h2, X _ _ hct, rfl, by simpa using e1⟩
          · cases e3
        · cases e2
      · cases e1
    · cases e1
  · cases e
theorem METH_re {name : Str} {id : String} {p : Addr} {code : Array Nat} (B : Base c) (hp : patIn c.K p code = true) (sl : Slot "re.Pattern" name id) (ty : typeOf (.builtin id) = pure (.type "method_descriptor")) : METH c name (.obj (.ref p)) id := by
  rintro s μ σ vo hi rfl
  obtain ⟨op, vs, ct, oc, cs, n, h1, h2, h3, h4, _⟩ := (patIn_of (B.ok.kin.keeps hi.keep) hp).ex
  exact ⟨"re.Pattern", plainAttrs_re, sl, ty, ⟨_, h1, h3⟩, fun b e => by cases e; exact ⟨_, h1, h4⟩⟩
theorem CALL_sub1 {p : Addr} {x repl : Str} (B : Base c) (hp : patIn c.K p C1 = true) (hx : x.cps.size ≤ 2 ^ 20) (hrep : repl.length ≤ 2) (hb : repl.cps.contains 92 = false)
    (q : ∀ r, SubR x.cps.toList (dotAt x.cps) (fun _ => 1) repl.cps.toList 0 r → Q (.str ⟨r.toArray⟩) σ) : CALLV c d (.obj (.builtin "re.Pattern.sub")) [.obj (.ref p), .str repl, .str x] [] σ Q := by
  rintro A E s μ vf vs ks ha hi rfl hvs hks
  obtain ⟨_, _, _, rfl, rfl, ⟨u, rfl⟩, t, rfl⟩ := args3 hvs
  obtain rfl := args0 hks
  refine wp_sized (wp_sub (here := dotAt x.cps) (len := fun _ => 1) (fun start hs => ?_) (fun q h => ⟨Nat.le_refl _, h.1⟩) hx hrep hb (patIn_of (B.ok.kin.keeps hi.keep) hp) fun r t' h' tk hr hk hz => .of (q r hr) ⟨_, rfl⟩ ⟨⟨h', tk, rfl⟩, List.prefix_rfl, ⟨fun b o e _ => hk _ _ e⟩, hi.grow hk hz⟩)
  obtain ⟨m', ⟨j, hj, e⟩, y⟩ := search1 (text := x.cps) start hs
  exact ⟨m', ⟨j, by omega, e⟩, y⟩
theorem nlLen_le (text : Array Nat) (q : Nat) (h : nlAt text q) : 1 ≤ nlLen text q ∧ q + nlLen text q ≤ text.size := by
  have h1 := h.1
  by_cases h2 : text.getD q 0 = 13 ∧ q + 1 < text.size ∧ text.getD (q + 1) 0 = 10
  · have e : nlLen text q = 2 := if_pos h2
    have := h2.2.1
    omega
  · have e : nlLen text q = 1 := if_neg h2
    omega
theorem CALL_sub2 {p : Addr} {x repl : Str} (B : Base c) (hp : patIn c.K p C2 = true) (hx : x.cps.size ≤ 2 ^ 20) (hrep : repl.length ≤ 2) (hb : repl.cps.contains 92 = false)
    (q : ∀ r, SubR x.cps.toList (nlAt x.cps) (nlLen x.cps) repl.cps.toList 0 r → Q (.str ⟨r.toArray⟩) σ) : CALLV c d (.obj (.builtin "re.Pattern.sub")) [.obj (.ref p), .str repl, .str x] [] σ Q := by
  rintro A E s μ vf vs ks ha hi rfl hvs hks
  obtain ⟨_, _, _, rfl, rfl, ⟨u, rfl⟩, t, rfl⟩ := args3 hvs
  obtain rfl := args0 hks
  refine wp_sized (wp_sub (here := nlAt x.cps) (len := nlLen x.cps) (fun start hs => ?_) (nlLen_le x.cps) hx hrep hb (patIn_of (B.ok.kin.keeps hi.keep) hp) fun r t' h' tk hr hk hz => .of (q r hr) ⟨_, rfl⟩ ⟨⟨h', tk, rfl⟩, List.prefix_rfl, ⟨fun b o e _ => hk _ _ e⟩, hi.grow hk hz⟩)
  exact search2 (text := x.cps) start hs
end

end
section
open PySem PySem.W PyProof.Rows PySem.Calls
set_option Elab.async false
set_option maxRecDepth 100000
set_option autoImplicit false
set_option linter.unusedVariables false

/-! the substitutions as functions -/
noncomputable def nrm : Bool → List Nat → List Nat
  | _, [] => []
  | p, c :: r => if c = 13 then 13 :: 10 :: nrm true r else if c = 10 then (if p = true then nrm false r else 13 :: 10 :: nrm false r) else c :: nrm false r
noncomputable abbrev norm : List Nat → List Nat := nrm false
noncomputable def dotf : Bool → List Nat → List Nat
  | _, [] => []
  | b, c :: r => if b = true ∧ c = 46 then 46 :: 46 :: dotf false r else c :: dotf (c == 10) r

theorem norm_skip : ∀ (l r : List Nat), (∀ c ∈ l, c ≠ 10 ∧ c ≠ 13) → norm (l ++ r) = l ++ norm r
  | [], r, _ => rfl
  | c :: l, r, h => by
    have hc := h c (.head _)
    rw [List.cons_append, norm, nrm, if_neg hc.2, if_neg hc.1]
    have ih := norm_skip l r fun x hx => h x (.tail _ hx)
    show c :: norm (l ++ r) = _
    rw [ih]
    rfl
theorem norm_lf (r : List Nat) : norm (10 :: r) = 13 :: 10 :: norm r := by rw [norm, nrm, if_neg (by decide), if_pos rfl, if_neg (by decide)]
theorem norm_crlf (r : List Nat) : norm (13 :: 10 :: r) = 13 :: 10 :: norm r := by rw [norm, nrm, if_pos rfl, nrm, if_neg (by decide), if_pos rfl, if_pos rfl]
theorem norm_cr (r : List Nat) (h : r.head? ≠ some 10) : norm (13 :: r) = 13 :: 10 :: norm r := by
  rw [norm, nrm, if_pos rfl]
  cases r with
  | nil => rfl
  | cons c r =>
    have hc : c ≠ 10 := by simpa using h
    rw [nrm, nrm, if_neg hc, if_neg hc]

theorem getD_drop (a : Array Nat) (d : Nat) (hd : d < a.size) : a.toList.drop d = a.getD d 0 :: a.toList.drop (d + 1) := by
  rw [List.drop_eq_getElem_cons (by rw [Array.length_toList]; exact hd)]
  congr 1
  rw [Array.getElem_toList]
  simp [Array.getD, hd]
theorem mem_drop_getD {a : Array Nat} {c d n : Nat} (h : c ∈ (a.toList.drop d).take n) : ∃ q, d ≤ q ∧ q < d + n ∧ q < a.size ∧ a.getD q 0 = c := by
  obtain ⟨i, hi, e⟩ := List.getElem_of_mem h
  rw [List.length_take, List.length_drop, Array.length_toList] at hi
  rw [List.getElem_take, List.getElem_drop, Array.getElem_toList] at e
  refine ⟨d + i, by omega, by omega, by omega, ?_⟩
  simp [Array.getD, show d + i < a.size by omega, e]

theorem sub_norm {text : Array Nat} {d : Nat} {r : List Nat} (h : SubR text.toList (nlAt text) (nlLen text) [13, 10] d r) : r = norm (text.toList.drop d) := by
  induction h with
  | @stop d hno =>
    have := norm_skip (text.toList.drop d) [] fun c hc => by
      have hc' : c ∈ (text.toList.drop d).take text.size := by rw [List.take_of_length_le (by rw [List.length_drop, Array.length_toList]; omega)]; exact hc
      obtain ⟨q, h1, h2, h3, h4⟩ := mem_drop_getD hc'
      have := hno q h1
      unfold nlAt at this
      rw [h4] at this
      constructor
      · intro e; exact this ⟨h3, .inl e⟩
      · intro e; exact this ⟨h3, .inr e⟩
    rw [List.append_nil] at this
    rw [this]; simp [nrm]
  | @go d p r hdp hp hno _ ih =>
    rw [ih]
    have e1 : text.toList.drop d = (text.toList.drop d).take (p - d) ++ text.toList.drop p := by
      conv => lhs; rw [← List.take_append_drop (p - d) (text.toList.drop d), List.drop_drop, show d + (p - d) = p by omega]
    have hs : ∀ c ∈ (text.toList.drop d).take (p - d), c ≠ 10 ∧ c ≠ 13 := fun c hc => by
      obtain ⟨q, h1, h2, h3, h4⟩ := mem_drop_getD hc
      have := hno q h1 (by omega)
      unfold nlAt at this
      rw [h4] at this
      exact ⟨fun e => this ⟨h3, .inl e⟩, fun e => this ⟨h3, .inr e⟩⟩
    rw [show norm (text.toList.drop d) = (text.toList.drop d).take (p - d) ++ norm (text.toList.drop p) by conv => lhs; rw [e1, norm_skip _ _ hs]]
    rw [List.append_assoc]
    congr 1
    obtain ⟨hs, hc⟩ := hp
    rw [getD_drop text p hs]
    by_cases h2 : text.getD p 0 = 13 ∧ p + 1 < text.size ∧ text.getD (p + 1) 0 = 10
    · have e2 : nlLen text p = 2 := if_pos h2
      rw [e2, h2.1, getD_drop text (p + 1) h2.2.1, h2.2.2, norm_crlf]; rfl
    · have e2 : nlLen text p = 1 := if_neg h2
      rw [e2]
      rcases hc with hc | hc
      · rw [hc, norm_lf]; rfl
      · rw [hc, norm_cr]
        · rfl
        · intro h3
          by_cases hn : p + 1 < text.size
          · rw [getD_drop text (p + 1) hn] at h3
            exact h2 ⟨hc, hn, by simpa using h3⟩
          · rw [List.drop_of_length_le (by rw [Array.length_toList]; omega)] at h3; cases h3

theorem dotf_skip {text : Array Nat} : ∀ (n d : Nat), d + n ≤ text.size → (∀ q, d ≤ q → q < d + n → ¬ dotAt text q) → dotf (d == 0 || text.getD (d - 1) 0 == 10) (text.toList.drop d) = (text.toList.drop d).take n ++ dotf (d + n == 0 || text.getD (d + n - 1) 0 == 10) (text.toList.drop (d + n))
  | 0, d, _, _ => by simp
  | n + 1, d, hd, h => by
    have hd' : d < text.size := by omega
    have h0 := h d (Nat.le_refl _) (by omega)
    rw [getD_drop text d hd', dotf]
    have hno : ¬ ((d == 0 || text.getD (d - 1) 0 == 10) = true ∧ text.getD d 0 = 46) := fun ⟨a, b⟩ => h0 ⟨hd', b, by simpa using a⟩
    rw [if_neg hno, List.take_succ_cons, List.cons_append]
    congr 1
    have ih := dotf_skip n (d + 1) (by omega) fun q h1 h2 => h q (by omega) (by omega)
    rw [show d + 1 - 1 = d by omega, show ((d + 1 == 0) || text.getD d 0 == 10) = (text.getD d 0 == 10) by simp, show d + 1 + n = d + (n + 1) by omega] at ih
    exact ih

theorem sub_dotf {text : Array Nat} {d : Nat} {r : List Nat} (h : SubR text.toList (dotAt text) (fun _ => 1) [46, 46] d r) (hd : d ≤ text.size) : r = dotf (d == 0 || text.getD (d - 1) 0 == 10) (text.toList.drop d) := by
  induction h with
  | @stop d hno =>
    have := dotf_skip (text := text) (text.size - d) d (by omega) fun q h1 _ => hno q h1
    rw [this, show d + (text.size - d) = text.size by omega, List.take_of_length_le (by rw [List.length_drop, Array.length_toList]; omega), List.drop_of_length_le (l := text.toList) (i := text.size) (by rw [Array.length_toList]; omega)]
    simp [dotf]
  | @go d p r hdp hp hno _ ih =>
    have hp' := hp
    obtain ⟨h1, h2, h3⟩ := hp'
    rw [ih (by omega)]
    have := dotf_skip (text := text) (p - d) d (by omega) fun q h1 h2 => hno q h1 (by omega)
    rw [show d + (p - d) = p by omega] at this
    rw [this, List.append_assoc]
    congr 1
    rw [getD_drop text p h1, dotf, if_pos ⟨by simpa using h3, h2⟩, show p + 1 - 1 = p by omega, h2]
    simp

/-! rows and ends -/
noncomputable def crlf (rows : List (List Nat)) : List Nat := (rows.map fun r => r ++ [13, 10]).flatten
noncomputable def dotted (r : List Nat) : List Nat := if r.head? = some 46 then 46 :: r else r
noncomputable def rowOk (r : List Nat) : Prop := r ≠ [] ∧ ∀ c ∈ r, c ≠ 10 ∧ c ≠ 13
theorem norm_rows : ∀ (rows : List (List Nat × List Nat)), (∀ p ∈ rows, rowOk p.1 ∧ (p.2 = [10] ∨ p.2 = [13] ∨ p.2 = [13, 10])) → norm (rows.map fun p => p.1 ++ p.2).flatten = crlf (rows.map (·.1))
  | [], _ => rfl
  | (r, e) :: rows, h => by
    have hr := h (r, e) (.head _)
    have ih := norm_rows rows fun p hp => h p (.tail _ hp)
    have hh : ((rows.map fun p => p.1 ++ p.2).flatten).head? ≠ some 10 := by
      cases rows with
      | nil => simp
      | cons p rows =>
        have hp := (h p (.tail _ (.head _))).1
        obtain ⟨r2, e2⟩ := p
        cases r2 with
        | nil => exact absurd rfl hp.1
        | cons c r2 =>
          have := hp.2 c (.head _)
          simpa using this.1
    simp only [List.map_cons, List.flatten_cons, crlf]
    rw [List.append_assoc, norm_skip r _ hr.1.2]
    rw [List.append_assoc]
    congr 1
    rcases hr.2 with rfl | rfl | rfl
    · rw [List.singleton_append, norm_lf, ih]; rfl
    · rw [List.singleton_append, norm_cr _ hh, ih]; rfl
    · show norm (13 :: 10 :: (rows.map fun p => p.1 ++ p.2).flatten) = _
      rw [norm_crlf, ih]; rfl
theorem dotf_row : ∀ (r rest : List Nat), (∀ c ∈ r, c ≠ 10 ∧ c ≠ 13) → dotf false (r ++ [13, 10] ++ rest) = r ++ [13, 10] ++ dotf true rest
  | [], rest, _ => by
    show dotf false (13 :: 10 :: rest) = _
    rw [dotf, if_neg (by simp), dotf, if_neg (by simp)]; rfl
  | c :: r, rest, h => by
    have hc := h c (.head _)
    show dotf false (c :: (r ++ [13, 10] ++ rest)) = _
    rw [dotf, if_neg (by simp), show (c == 10) = false by simpa using hc.1, dotf_row r rest fun x hx => h x (.tail _ hx)]
    rfl
theorem dotf_rows : ∀ (rows : List (List Nat)), (∀ r ∈ rows, rowOk r) → dotf true (crlf rows) = crlf (rows.map dotted)
  | [], _ => rfl
  | r :: rows, h => by
    have hr := h r (.head _)
    have ih := dotf_rows rows fun p hp => h p (.tail _ hp)
    have e : crlf (r :: rows) = r ++ [13, 10] ++ crlf rows := rfl
    rw [e]
    show _ = dotted r ++ [13, 10] ++ crlf (rows.map dotted)
    rw [← ih]
    cases r with
    | nil => exact absurd rfl hr.1
    | cons c r =>
      have hc := hr.2 c (.head _)
      have hrest : ∀ x ∈ r, x ≠ 10 ∧ x ≠ 13 := fun x hx => hr.2 x (.tail _ hx)
      show dotf true (c :: (r ++ [13, 10] ++ crlf rows)) = _
      by_cases h46 : c = 46
      · subst h46
        rw [dotf, if_pos ⟨rfl, rfl⟩, dotf_row r _ hrest]; rfl
      · rw [dotf, if_neg (fun h => h46 h.2), show (c == 10) = false by simpa using hc.1, dotf_row r _ hrest]
        have : dotted (c :: r) = c :: r := if_neg (by simpa using h46)
        rw [this]; rfl
/-- quotedata on rows -/
theorem quote_rows {rows : List (List Nat × List Nat)} (h : ∀ p ∈ rows, rowOk p.1 ∧ (p.2 = [10] ∨ p.2 = [13] ∨ p.2 = [13, 10])) {x : Str} (hx : x.cps.toList = (rows.map fun p => p.1 ++ p.2).flatten) {r2 r1 : List Nat}
    (h2 : SubR x.cps.toList (nlAt x.cps) (nlLen x.cps) [13, 10] 0 r2) (h1 : SubR r2 (dotAt r2.toArray) (fun _ => 1) [46, 46] 0 r1) : r1 = crlf ((rows.map (·.1)).map dotted) := by
  have e2 := sub_norm h2
  rw [List.drop_zero, hx, norm_rows rows h] at e2
  subst e2
  have e1 := sub_dotf (text := (crlf (rows.map (·.1))).toArray) (d := 0) h1 (Nat.zero_le _)
  rw [e1]
  simp only [List.drop_zero, beq_self_eq_true, Bool.true_or]
  exact dotf_rows _ fun r hr => by
    obtain ⟨p, hp, rfl⟩ := List.mem_map.mp hr
    exact (h p hp).1

end
section
open PySem PySem.W PyProof.Rows PySem.Calls
set_option Elab.async false
set_option maxRecDepth 100000
set_option autoImplicit false
set_option linter.unusedVariables false
set_option maxHeartbeats 4000000

/-! the sort keeps like ones in their order -/
noncomputable def Ix (ps : Value → Nat) (xs : Array Keyed) (i : Nat) : Nat := match xs[i]? with
  | some p => ps p.2
  | none => 0
theorem Ix_congr {ps : Value → Nat} {xs ys : Array Keyed} {i j : Nat} (h : xs[i]? = ys[j]?) : Ix ps xs i = Ix ps ys j := by unfold Ix; rw [h]
noncomputable def Lex (ps : Value → Nat) (xs : Array Keyed) (k : Nat) : Prop := ∀ i j, i < j → j < k → K xs i < K xs j ∨ (K xs i = K xs j ∧ Ix ps xs i < Ix ps xs j)
noncomputable def Rev (ps : Value → Nat) (xs : Array Keyed) (k : Nat) : Prop := ∀ i j, i < j → j < k → K xs j < K xs i ∨ (K xs j = K xs i ∧ Ix ps xs j < Ix ps xs i)
noncomputable def Fre (ps : Value → Nat) (n : Nat) (xs : Array Keyed) (k : Nat) : Prop := (∀ i, i < k → Ix ps xs i < k) ∧ ∀ i, k ≤ i → i < n → Ix ps xs i = i
theorem Lex.sorted {ps : Value → Nat} {xs : Array Keyed} {k : Nat} (h : Lex ps xs k) : SortedTo xs k := fun i j hij hj => by
  by_cases e : i = j
  · rw [e]; exact Int.le_refl _
  · have := h i j (by omega) hj; omega
theorem Lex.more {ps : Value → Nat} {n : Nat} {xs : Array Keyed} {a k : Nat} (h : Lex ps xs a) (f : Fre ps n xs a) (hs : SortedTo xs k) (hk : k ≤ n) : Lex ps xs k := fun i j hij hj => by
  by_cases hja : j < a
  · exact h i j hij hja
  · have hj' : Ix ps xs j = j := f.2 j (by omega) (by omega)
    have hi' : Ix ps xs i < j := by
      by_cases hia : i < a
      · have := f.1 i hia; omega
      · rw [f.2 i (by omega) (by omega)]; exact hij
    have := hs i j (by omega) hj
    omega
theorem Fre.more {ps : Value → Nat} {n : Nat} {xs : Array Keyed} {a k : Nat} (f : Fre ps n xs a) (hak : a ≤ k) (hk : k ≤ n) : Fre ps n xs k :=
  ⟨fun i hi => by
    by_cases hia : i < a
    · have := f.1 i hia; omega
    · rw [f.2 i (by omega) (by omega)]; exact hi, fun i h1 h2 => f.2 i (by omega) h2⟩
theorem Ix_mirror {ps : Value → Nat} {xs : Array Keyed} {i j : Nat} (hj : j ≤ xs.size) (k : Nat) : Ix ps (mirror xs i j ((j - i) / 2)) k = if i ≤ k ∧ k < j then Ix ps xs (i + j - 1 - k) else Ix ps xs k := by
  have e := getElem?_mirror_all (i := i) hj k
  by_cases h1 : i ≤ k ∧ k < j
  · rw [if_pos h1] at e ⊢; exact Ix_congr e
  · rw [if_neg h1] at e ⊢; exact Ix_congr e
theorem Ix_bubble {ps : Value → Nat} {xs : Array Keyed} {src d : Nat} (hs : src < xs.size) (hd : d ≤ src) (k : Nat) :
    Ix ps (bubble xs src d) k = if k = src - d then Ix ps xs src else if src - d < k ∧ k ≤ src then Ix ps xs (k - 1) else Ix ps xs k := by
  have e := getElem?_bubble hs d hd k
  by_cases h1 : k = src - d
  · rw [if_pos h1] at e ⊢; exact Ix_congr e
  · rw [if_neg h1] at e ⊢
    by_cases h2 : src - d < k ∧ k ≤ src
    · rw [if_pos h2] at e ⊢; exact Ix_congr e
    · rw [if_neg h2] at e ⊢; exact Ix_congr e
theorem Fre.mirror {ps : Value → Nat} {n : Nat} {xs : Array Keyed} {i j k : Nat} (f : Fre ps n xs k) (hj : j ≤ xs.size) (hjk : j ≤ k) : Fre ps n (mirror xs i j ((j - i) / 2)) k :=
  ⟨fun a ha => by
    rw [Ix_mirror hj]
    split
    · exact f.1 _ (by omega)
    · exact f.1 _ ha, fun a h1 h2 => by
    rw [Ix_mirror hj, if_neg (by omega)]
    exact f.2 a h1 h2⟩

section
variable {prog : Program} {w : World} {A : Around} {E : Value → Shared → Prop} {s : Shared} {a₀ : Array Keyed} {ps : Value → Nat}

theorem st_tail3 {st : SortSt} {n nrem : Nat} {Q : Option Nat → SortSt → Prop} (h0 : IntKeys a₀) (hn : nrem ≤ a₀.size) (h1 : 1 ≤ n) (hnn : n ≤ nrem) (hB : SBase a₀ st)
    (hs : Rev ps (arrOf st) n) (hf : Fre ps a₀.size (arrOf st) n) (h : ∀ m st', SBase a₀ st' → 1 ≤ m → m ≤ nrem → Lex ps (arrOf st') m → Fre ps a₀.size (arrOf st') m → Q (some m) st') :
    wpS (model prog w) A E s (tail3 n nrem) Q st := by
  unfold tail3
  have hsz : n ≤ (arrOf st).size := by rw [hB.size]; omega
  refine wpS_bind (wpS_reverse ?_)
  have hB' : SBase a₀ (setArr st (mirror (arrOf st) 0 n ((n - 0) / 2))) := hB.setArr (mirror_perm _ _ _ _)
  have hL : Lex ps (mirror (arrOf st) 0 n ((n - 0) / 2)) n := fun i j hij hj => by
    rw [K_mirror hsz, K_mirror hsz, Ix_mirror hsz, Ix_mirror hsz, if_pos (by omega), if_pos (by omega), if_pos (by omega), if_pos (by omega)]
    have := hs (0 + n - 1 - j) (0 + n - 1 - i) (by omega) (by omega)
    omega
  have hF : Fre ps a₀.size (mirror (arrOf st) 0 n ((n - 0) / 2)) n := hf.mirror hsz (Nat.le_refl _)
  exact wpS_bind (wpS_ascLoop h0 hn h1 hnn hB' hL.sorted fun m hm1 hm2 hsm _ => wpS_pure (h m _ hB' (by omega) hm2 (hL.more hF hsm (by omega)) (hF.more hm1 (by omega))))

/-- a falling run: the like ones at its end still stand as they came -/
structure Desc (ps : Value → Nat) (xs : Array Keyed) (x q : Nat) : Prop where
  run : ∀ i j, x - (q + 1) ≤ i → i < j → j < x → K xs j = K xs i ∧ Ix ps xs i < Ix ps xs j
  drop : ∀ i j, i < x - (q + 1) → x - (q + 1) ≤ j → j < x → K xs j < K xs i
  old : ∀ i j, i < j → j < x - (q + 1) → K xs j < K xs i ∨ (K xs j = K xs i ∧ Ix ps xs j < Ix ps xs i)
theorem Desc.rev {xs : Array Keyed} {x q : Nat} (h : Desc ps xs x q) (hx : x ≤ xs.size) (hq : q + 1 ≤ x) : Rev ps (mirror xs (x - (q + 1)) x ((x - (x - (q + 1))) / 2)) x := fun i j hij hj => by
  rw [K_mirror hx, K_mirror hx, Ix_mirror hx, Ix_mirror hx]
  by_cases hi : x - (q + 1) ≤ i
  · rw [if_pos (by omega), if_pos (by omega), if_pos (by omega), if_pos (by omega)]
    have := h.run (x - (q + 1) + x - 1 - j) (x - (q + 1) + x - 1 - i) (by omega) (by omega) (by omega)
    omega
  · by_cases hj2 : x - (q + 1) ≤ j
    · rw [if_pos (by omega), if_neg (by omega), if_pos (by omega), if_neg (by omega)]
      exact .inl (h.drop i _ (by omega) (by omega) (by omega))
    · rw [if_neg (by omega), if_neg (by omega), if_neg (by omega), if_neg (by omega)]
      exact h.old i j hij (by omega)
theorem Desc.rev0 {xs : Array Keyed} {x : Nat} (h : Desc ps xs x 0) : Rev ps xs x := fun i j hij hj => by
  by_cases hj2 : x - (0 + 1) ≤ j
  · exact .inl (h.drop i j (by omega) hj2 hj)
  · exact h.old i j hij (by omega)
theorem Rev.step {xs : Array Keyed} {x : Nat} (h : Rev ps xs x) (hx : 1 ≤ x) (hl : K xs x < K xs (x - 1)) : Desc ps xs (x + 1) 0 where
  run := fun i j h1 h2 h3 => by omega
  drop := fun i j h1 h2 h3 => by
    have e : j = x := by omega
    subst e
    by_cases hi : i = j - 1
    · rw [hi]; exact hl
    · have := h i (j - 1) (by omega) (by omega)
      omega
  old := fun i j h1 h2 => h i j h1 (by omega)

theorem st_descLoop {st : SortSt} {n nrem : Nat} {Q : DescSt → SortSt → Prop} (h0 : IntKeys a₀) (hn : nrem ≤ a₀.size) (h1 : 1 ≤ n) (hnn : n ≤ nrem) (hB : SBase a₀ st) (hs : Desc ps (arrOf st) n 0) (hf : Fre ps a₀.size (arrOf st) n)
    (h : ∀ m neq st', SBase a₀ st' → n ≤ m → m ≤ nrem → Desc ps (arrOf st') m neq → Fre ps a₀.size (arrOf st') m → neq + 1 ≤ m → Q (none, m, neq) st') :
    wpS (model prog w) A E s (descLoop n nrem) Q st := by
  unfold descLoop
  refine wpS_forRange (I := fun x c st' => ∃ neq, c = (none, x, neq) ∧ SBase a₀ st' ∧ Desc ps (arrOf st') x neq ∧ Fre ps a₀.size (arrOf st') x ∧ neq + 1 ≤ x) ?step ?fin ⟨0, rfl, hB, hs, hf, by omega⟩
  case fin =>
    rintro c st' ⟨neq, rfl, hB', hs', hf', hq⟩
    rw [show max n nrem = nrem by omega] at hs' hf' hq ⊢
    exact h nrem neq st' hB' hnn (Nat.le_refl _) hs' hf' hq
  case step =>
    rintro x c st' hax hxn ⟨neq, rfl, hB', hs', hf', hq⟩
    dsimp only
    have hsz : x ≤ (arrOf st').size := by rw [hB'.size]; omega
    refine wpS_bind (wpS_ltK hB' h0 (by omega) (by omega) ?_)
    by_cases hless : K (arrOf st') x < K (arrOf st') (x - 1)
    · simp only [hless, decide_true, if_true]
      by_cases hneq : neq > 0
      · rw [if_pos hneq]
        refine wpS_bind (wpS_reverse (wpS_pure ⟨0, rfl, hB'.setArr (mirror_perm _ _ _ _), ?_, (hf'.mirror hsz (Nat.le_refl _)).more (Nat.le_succ _) (by omega), by omega⟩))
        refine Rev.step (xs := mirror (arrOf st') (x - (neq + 1)) x ((x - (x - (neq + 1))) / 2)) (hs'.rev hsz hq) (by omega) ?_
        rw [K_mirror hsz, K_mirror hsz, if_neg (by omega), if_pos (by omega)]
        have := hs'.run (x - (neq + 1)) (x - 1) (by omega) (by omega) (by omega)
        rw [show x - (neq + 1) + x - 1 - (x - 1) = x - (neq + 1) by omega]
        omega
      · rw [if_neg hneq]
        have e : neq = 0 := by omega
        subst e
        exact wpS_pure ⟨0, rfl, hB', hs'.rev0.step (by omega) hless, hf'.more (Nat.le_succ _) (by omega), by omega⟩
    · simp only [hless, decide_false, Bool.false_eq_true, if_false]
      refine wpS_bind (wpS_ltK hB' h0 (by omega) (by omega) ?_)
      by_cases hlarger : K (arrOf st') (x - 1) < K (arrOf st') x
      · simp only [hlarger, decide_true, if_true]
        exact wpS_pure (h x neq st' hB' hax (by omega) hs' hf' hq)
      · simp only [hlarger, decide_false, Bool.false_eq_true, if_false]
        have heqx : K (arrOf st') x = K (arrOf st') (x - 1) := by omega
        have hxI : Ix ps (arrOf st') x = x := hf'.2 x (Nat.le_refl _) (by omega)
        refine wpS_pure ⟨neq + 1, rfl, hB', ⟨fun i j h1 h2 h3 => ?_, fun i j h1 h2 h3 => ?_, fun i j h1 h2 => hs'.old i j h1 (by omega)⟩, hf'.more (Nat.le_succ _) (by omega), by omega⟩
        · by_cases hjx : j < x
          · exact hs'.run i j (by omega) h2 hjx
          · have e : j = x := by omega
            subst e
            have hi := hf'.1 i h2
            refine ⟨?_, by omega⟩
            by_cases e2 : i = j - 1
            · rw [e2]; exact heqx
            · rw [heqx]; exact (hs'.run i (j - 1) (by omega) (by omega) (by omega)).1
        · by_cases hjx : j < x
          · exact hs'.drop i j (by omega) (by omega) hjx
          · have e : j = x := by omega
            subst e
            rw [heqx]; exact hs'.drop i (j - 1) (by omega) (by omega) (by omega)

theorem st_descPart {st : SortSt} {n nrem : Nat} {Q : Option Nat → SortSt → Prop} (h0 : IntKeys a₀) (hn : nrem ≤ a₀.size) (hnn : n + 1 ≤ nrem) (hB : SBase a₀ st) (hs : Desc ps (arrOf st) (n + 1) 0) (hf : Fre ps a₀.size (arrOf st) (n + 1))
    (h : ∀ m st', SBase a₀ st' → 1 ≤ m → m ≤ nrem → Lex ps (arrOf st') m → Fre ps a₀.size (arrOf st') m → Q (some m) st') : wpS (model prog w) A E s (descPart n nrem) Q st := by
  unfold descPart
  refine wpS_bind (wpS_lift (wpAny_rule ⟨rfl, ?_⟩))
  refine wpS_bind (st_descLoop h0 hn (by omega) hnn hB hs hf fun m neq st' hB' hm1 hm2 hs' hf' hq => ?_)
  dsimp only
  have hsz : m ≤ (arrOf st').size := by rw [hB'.size]; omega
  by_cases hneq : neq > 0
  · rw [if_pos hneq]
    exact wpS_bind (wpS_reverse (st_tail3 h0 hn (by omega) hm2 (hB'.setArr (mirror_perm _ _ _ _)) (hs'.rev hsz hq) (hf'.mirror hsz (Nat.le_refl _)) h))
  · rw [if_neg hneq]
    have e : neq = 0 := by omega
    subst e
    exact st_tail3 h0 hn (by omega) hm2 hB' hs'.rev0 hf' h

theorem st_countRun {st : SortSt} {nrem : Nat} {Q : Option Nat → SortSt → Prop} (h0 : IntKeys a₀) (hn : nrem ≤ a₀.size) (h1 : 1 ≤ nrem) (hB : SBase a₀ st) (hf : Fre ps a₀.size (arrOf st) 0)
    (h : ∀ m st', SBase a₀ st' → 1 ≤ m → m ≤ nrem → Lex ps (arrOf st') m → Fre ps a₀.size (arrOf st') m → Q (some m) st') : wpS (model prog w) A E s (countRun' 0 nrem) Q st := by
  rw [countRun0_eq]
  have hL1 : Lex ps (arrOf st) 1 := fun i j h1 h2 => by omega
  have hF1 := hf.more (k := 1) (by omega) (by omega)
  refine wpS_bind (wpS_ascLoop h0 hn (Nat.le_refl 1) h1 hB hL1.sorted fun n hn1 hn2 hsn hor => ?_)
  dsimp only
  have hLn := hL1.more hF1 hsn (by omega)
  have hFn := hF1.more hn1 (by omega)
  by_cases hnn : n = nrem
  · rw [if_pos (by simpa using hnn)]
    exact wpS_pure (h n st hB hn1 hn2 hLn hFn)
  · rw [if_neg (by simpa using hnn)]
    have hlt : K (arrOf st) n < K (arrOf st) (n - 1) := hor.resolve_left hnn
    by_cases hgt : n > 1
    · rw [if_pos hgt]
      refine wpS_bind (wpS_ltK hB h0 (by omega) (by omega) ?_)
      by_cases hrose : K (arrOf st) 0 < K (arrOf st) (n - 1)
      · simp only [hrose, decide_true, if_true]
        exact wpS_pure (h n st hB hn1 hn2 hLn hFn)
      · simp only [hrose, decide_false, Bool.false_eq_true, if_false]
        have hsz : n ≤ (arrOf st).size := by rw [hB.size]; omega
        have hall : ∀ k, k < n → K (arrOf st) k = K (arrOf st) (n - 1) := by
          intro k hk
          have a1 := hsn 0 k (by omega) hk
          have a2 := hsn k (n - 1) (by omega) (by omega)
          omega
        have hR : Rev ps (mirror (arrOf st) 0 n ((n - 0) / 2)) n := fun i j hij hj => by
          rw [K_mirror hsz, K_mirror hsz, Ix_mirror hsz, Ix_mirror hsz, if_pos (by omega), if_pos (by omega), if_pos (by omega), if_pos (by omega)]
          have a1 := hall (0 + n - 1 - i) (by omega)
          have a2 := hall (0 + n - 1 - j) (by omega)
          have a3 := hLn (0 + n - 1 - j) (0 + n - 1 - i) (by omega) (by omega)
          omega
        refine wpS_bind (wpS_reverse (st_descPart h0 hn (by omega) (hB.setArr (mirror_perm _ _ _ _)) (Rev.step hR (by omega) ?_) ((hFn.mirror hsz (Nat.le_refl _)).more (Nat.le_succ _) (by omega)) h))
        rw [K_mirror hsz, K_mirror hsz, if_neg (by omega), if_pos (by omega)]
        have := hall (0 + n - 1 - (n - 1)) (by omega)
        omega
    · rw [if_neg hgt]
      have hn1' : n = 1 := by omega
      subst hn1'
      exact st_descPart h0 hn (by omega) hB (Rev.step (fun i j h1 h2 => by omega) (by omega) hlt) (hFn.more (Nat.le_succ _) (by omega)) h

theorem st_binarySort {st : SortSt} {n ok : Nat} {Q : Bool → SortSt → Prop} (h0 : IntKeys a₀) (hn : n ≤ a₀.size) (hok : ok ≤ n) (hok1 : 1 ≤ ok) (hB : SBase a₀ st) (hs : Lex ps (arrOf st) ok) (hf : Fre ps a₀.size (arrOf st) ok)
    (h : ∀ st', SBase a₀ st' → Lex ps (arrOf st') n → Q true st') : wpS (model prog w) A E s (binarySort' 0 n ok) Q st := by
  rw [binarySort'_eq]
  simp only [Nat.zero_add]
  rw [show max ok 1 = ok by omega]
  refine wpS_bind (wpS_mono (wpS_forRange (I := fun k c st' => c = (none, ()) ∧ SBase a₀ st' ∧ Lex ps (arrOf st') k ∧ Fre ps a₀.size (arrOf st') k)
    (Q := fun c st' => c = (none, ()) ∧ SBase a₀ st' ∧ Lex ps (arrOf st') n) ?step ?fin ⟨rfl, hB, hs, hf⟩) ?post)
  case post =>
    rintro c st' ⟨rfl, hB', hs'⟩
    exact wpS_pure (h st' hB' hs')
  case fin =>
    rintro c st' ⟨hc, hB', hs', _⟩
    rw [show max ok n = n by omega] at hs'
    exact ⟨hc, hB', hs'⟩
  case step =>
    rintro k c st' hak hkn ⟨rfl, hB', hs', hf'⟩
    have hk : k < a₀.size := by omega
    have hso := hs'.sorted
    refine wpS_bind (wpS_mono (wpS_forRange (I := fun x c st'' => st'' = st' ∧ ∃ l r, c = (none, l, r) ∧ l ≤ r ∧ r ≤ k ∧ r - l ≤ k - x ∧
        (∀ i, i < l → K (arrOf st') i ≤ K (arrOf st') k) ∧ (∀ i, r ≤ i → i < k → K (arrOf st') k < K (arrOf st') i))
      (Q := fun c st'' => st'' = st' ∧ ∃ l r, c = (none, l, r) ∧ l ≤ k ∧
        (∀ i, i < l → K (arrOf st') i ≤ K (arrOf st') k) ∧ (∀ i, l ≤ i → i < k → K (arrOf st') k < K (arrOf st') i)) ?istep ?ifin ?iinit) ?ipost)
    case iinit => exact ⟨rfl, 0, k, rfl, by omega, by omega, by omega, fun i hi => by omega, fun i h1 h2 => by omega⟩
    case ifin =>
      rintro c st'' ⟨rfl, l, r, rfl, hlr, hrk, hm, hlo, hhi⟩
      have : l = r := by omega
      subst this
      exact ⟨rfl, l, l, rfl, hrk, hlo, hhi⟩
    case istep =>
      rintro x c st'' _ hxk ⟨rfl, l, r, rfl, hlr, hrk, hm, hlo, hhi⟩
      dsimp only
      by_cases hge : l ≥ r
      · rw [if_pos hge]
        have : l = r := by omega
        subst this
        exact wpS_pure ⟨rfl, l, l, rfl, hrk, hlo, hhi⟩
      · rw [if_neg hge]
        refine wpS_bind (wpS_ltK hB' h0 hk (by omega) ?_)
        by_cases hless : K (arrOf st'') k < K (arrOf st'') ((l + r) / 2)
        · simp only [hless, decide_true, if_true]
          exact wpS_pure ⟨rfl, l, (l + r) / 2, rfl, by omega, by omega, by omega, hlo, fun i h1 h2 => Int.lt_of_lt_of_le hless (hso _ _ h1 h2)⟩
        · simp only [hless, decide_false, Bool.false_eq_true, if_false]
          exact wpS_pure ⟨rfl, (l + r) / 2 + 1, r, rfl, by omega, by omega, by omega, fun i h1 => Int.le_trans (hso i ((l + r) / 2) (by omega) (by omega)) (Int.not_lt.mp hless), hhi⟩
    case ipost =>
      rintro c st'' ⟨rfl, l, r, rfl, hlk, hlo, hhi⟩
      show wpS _ _ _ _ (do moveDown' k l; pure (ForInStep.yield (none, ()))) _ _
      rw [moveDown'_eq]
      have hks : k < (arrOf st'').size := by rw [hB'.size]; exact hk
      have hkI : Ix ps (arrOf st'') k = k := hf'.2 k (Nat.le_refl _) hk
      refine wpS_bind (wpS_modify (wpS_pure ⟨rfl, hB'.setArr (bubble_perm _ _ _), ?_, ?_, ?_⟩))
      · intro i j hij hj
        show K (bubble (arrOf st'') k (k - l)) i < K (bubble (arrOf st'') k (k - l)) j ∨ (K (bubble (arrOf st'') k (k - l)) i = K (bubble (arrOf st'') k (k - l)) j ∧ Ix ps (bubble (arrOf st'') k (k - l)) i < Ix ps (bubble (arrOf st'') k (k - l)) j)
        rw [K_bubble hks (by omega), K_bubble hks (by omega), Ix_bubble hks (by omega), Ix_bubble hks (by omega), show k - (k - l) = l by omega]
        by_cases hil : i = l
        · -- the new one, and one behind it
          simp only [if_pos hil, if_neg (show ¬ j = l by omega), if_pos (show l < j ∧ j ≤ k by omega)]
          exact .inl (hhi (j - 1) (by omega) (by omega))
        · by_cases hjl : j = l
          · simp only [if_neg hil, if_neg (show ¬ (l < i ∧ i ≤ k) by omega), if_pos hjl]
            have a1 := hlo i (by omega)
            have a2 := hf'.1 i (by omega)
            omega
          · simp only [if_neg hil, if_neg hjl]
            by_cases hi2 : l < i ∧ i ≤ k
            · simp only [if_pos hi2, if_pos (show l < j ∧ j ≤ k by omega)]
              exact hs' (i - 1) (j - 1) (by omega) (by omega)
            · simp only [if_neg hi2]
              by_cases hj2 : l < j ∧ j ≤ k
              · simp only [if_pos hj2]
                exact hs' i (j - 1) (by omega) (by omega)
              · simp only [if_neg hj2]
                exact hs' i j hij (by omega)
      · intro i hi
        show Ix ps (bubble (arrOf st'') k (k - l)) i < k + 1
        rw [Ix_bubble hks (by omega), show k - (k - l) = l by omega]
        split
        · omega
        · split
          · have := hf'.1 (i - 1) (by omega); omega
          · by_cases e : i = k
            · omega
            · have := hf'.1 i (by omega); omega
      · intro i h1 h2
        show Ix ps (bubble (arrOf st'') k (k - l)) i = i
        rw [Ix_bubble hks (by omega), if_neg (by omega), if_neg (by omega)]
        exact hf'.2 i (by omega) h2
end

end
section
open PySem PySem.W PyProof.Rows PySem.Calls
set_option Elab.async false
set_option maxRecDepth 100000
set_option autoImplicit false
set_option linter.unusedVariables false
set_option maxHeartbeats 4000000

section
variable {prog : Program} {w : World} {A : Around} {E : Value → Shared → Prop} {s : Shared} {a₀ : Array Keyed} {ps : Value → Nat}
noncomputable def StDone (ps : Value → Nat) (a₀ : Array Keyed) (st : SortSt) : Prop := (arrOf st).Perm a₀ ∧ failedOf st = none ∧ pendingOf st = #[(0, a₀.size, 0)] ∧ Lex ps (arrOf st) a₀.size
theorem stDone {st : SortSt} (hB : SBase a₀ st) (hs : Lex ps (arrOf st) a₀.size) : StDone ps a₀ (setPending st ((pendingOf st).push (0, a₀.size, 0))) :=
  ⟨hB.perm, hB.failed, by show (pendingOf st).push _ = _; rw [hB.pend]; rfl, hs⟩

theorem st_sortRuns {st : SortSt} {Q : Unit → SortSt → Prop} (h0 : IntKeys a₀) (hB : SBase a₀ st) (hf : Fre ps a₀.size (arrOf st) 0) (h2 : 2 ≤ a₀.size) (h64 : a₀.size < 64)
    (h : ∀ st', (arrOf st').Perm a₀ → failedOf st' = none → Lex ps (arrOf st') a₀.size → Q () st') : wpS (model prog w) A E s sortRuns' Q st := by
  rw [sortRuns'_eq]
  refine wpS_bind (wpS_get ?_)
  dsimp only
  have hmr : minRun' a₀.size a₀.size 0 = a₀.size := by
    obtain ⟨f, hf⟩ : ∃ f, a₀.size = f + 1 := ⟨a₀.size - 1, by omega⟩
    have : minRun' (f + 1) a₀.size 0 = a₀.size := by rw [minRun'_succ, if_pos h64]; rfl
    rwa [← hf] at this
  simp only [hB.size, hmr]
  refine wpS_bind (wpS_mono (wpS_forRange (I := fun x c st' => (x = 0 ∧ c = (none, 0) ∧ SBase a₀ st' ∧ Fre ps a₀.size (arrOf st') 0) ∨ (1 ≤ x ∧ c = (none, a₀.size) ∧ StDone ps a₀ st'))
    (Q := fun c st' => c = (none, a₀.size) ∧ StDone ps a₀ st') ?step ?fin (.inl ⟨rfl, rfl, hB, hf⟩)) ?post)
  case fin =>
    rintro c st' (⟨hx, _, _⟩ | ⟨_, hc, hD⟩)
    · omega
    · exact ⟨hc, hD⟩
  case step =>
    rintro x c st' _ hx (⟨rfl, rfl, hB', hf'⟩ | ⟨hx1, rfl, hD⟩)
    · dsimp only
      rw [if_neg (by omega)]
      simp only [Nat.sub_zero, Nat.min_self, Nat.zero_add]
      refine wpS_bind (st_countRun h0 (Nat.le_refl _) (by omega) hB' hf' fun m st2 hB2 hm1 hm2 hs2 hf2 => ?_)
      dsimp only
      by_cases hlt : m < a₀.size
      · rw [if_pos hlt]
        refine wpS_bind (wpS_lift (wpAny_rule ⟨rfl, ?_⟩))
        refine wpS_bind (st_binarySort h0 (Nat.le_refl _) hm2 hm1 hB2 hs2 hf2 fun st3 hB3 hs3 => ?_)
        simp only [Bool.not_true, Bool.false_eq_true, if_false]
        refine wpS_bind (wpS_get ?_)
        have hb : (pendingOf st3).back? = none := by rw [hB3.pend]; rfl
        rw [hb]
        dsimp only
        exact wpS_bind (wpS_modify (wpS_pure (.inr ⟨by omega, rfl, stDone hB3 hs3⟩)))
      · rw [if_neg hlt]
        have hm : m = a₀.size := by omega
        subst hm
        refine wpS_bind (wpS_get ?_)
        have hb : (pendingOf st2).back? = none := by rw [hB2.pend]; rfl
        rw [hb]
        dsimp only
        exact wpS_bind (wpS_modify (wpS_pure (.inr ⟨by omega, rfl, stDone hB2 hs2⟩)))
    · dsimp only
      rw [if_pos (Nat.le_refl _)]
      exact wpS_pure ⟨rfl, hD⟩
  case post =>
    rintro c st' ⟨rfl, hD⟩
    dsimp only
    refine wpS_bind (wpS_mono (wpS_forRange (I := fun _ c st'' => st'' = st' ∧ c = (none, ())) (Q := fun c st'' => st'' = st' ∧ c = (none, ())) ?_ (fun _ _ hh => hh) ⟨rfl, rfl⟩) ?_)
    · rintro x c st'' _ _ ⟨rfl, rfl⟩
      refine wpS_bind (wpS_get ?_)
      rw [if_pos (by rw [hD.2.2.1]; exact Nat.le_refl 1)]
      exact wpS_pure ⟨rfl, rfl⟩
    · rintro c st'' ⟨rfl, rfl⟩
      exact wpS_pure (h _ hD.1 hD.2.1 hD.2.2.2)
end

/-! one more frozen object -/
noncomputable def padG (g : Heap) (a : Addr) : Heap := ⟨g.objs ++ Array.replicate (a - g.objs.size) ({ cls := .none, data := .freed } : Obj), g.life⟩
noncomputable def addG (g : Heap) (a : Addr) (o : Obj) : Heap := (padG g a).push o
theorem padG_size {g : Heap} {a : Addr} (ha : g.objs.size ≤ a) : (padG g a).objs.size = a := by
  show (g.objs ++ Array.replicate (a - g.objs.size) ({ cls := .none, data := .freed } : Obj)).size = a
  rw [Array.size_append, Array.size_replicate]
  exact Nat.add_sub_cancel' ha
theorem padG_get {g : Heap} {a : Addr} (b : Addr) : (padG g a).get? b = g.get? b := by
  unfold Heap.get?
  show (match (g.objs ++ Array.replicate (a - g.objs.size) ({ cls := .none, data := .freed } : Obj))[b]? with | some ⟨_, _, .freed, _⟩ => none | o => o) = _
  rw [Array.getElem?_append]
  by_cases h : b < g.objs.size
  · rw [if_pos h]; rfl
  · have hb : g.objs[b]? = none := Array.getElem?_eq_none_iff.mpr (Nat.le_of_not_lt h)
    rw [if_neg h, hb, Array.getElem?_replicate]
    by_cases h2 : b - g.objs.size < a - g.objs.size
    · rw [if_pos h2]
    · rw [if_neg h2]
theorem addG_old {g : Heap} {a : Addr} {o : Obj} (ha : g.objs.size ≤ a) {b : Addr} {x : Obj} (e : g.get? b = some x) : (addG g a o).get? b = some x := Heap.get?_push_of_some _ (by rw [padG_get]; exact e)
theorem addG_new {g : Heap} {a : Addr} {o : Obj} (ha : g.objs.size ≤ a) (hf : o.isFreed = false) : (addG g a o).get? a = some o := by
  have := Heap.get?_push_size (padG g a) (o := o) hf
  rw [padG_size ha] at this
  exact this
theorem addG_none {g : Heap} {a : Addr} {o : Obj} (ha : g.objs.size ≤ a) {b : Addr} (hb : b ≠ a) (e : g.get? b = none) : (addG g a o).get? b = none := by
  unfold addG
  rw [Heap.get?_push_ne _ _ _ (by rw [padG_size ha]; exact hb), padG_get]; exact e
theorem addG_size {g : Heap} {a : Addr} {o : Obj} (ha : g.objs.size ≤ a) : (addG g a o).objs.size = a + 1 := by
  unfold addG
  rw [Heap.size_push, padG_size ha]

structure Grow (c c' : Fx) : Prop where
  prog : c'.prog = c.prog
  w : c'.w = c.w
  K : c'.K = c.K
  ok : c'.Ok
  bi : c'.mb = c.mb
  tabs : c'.tabs = c.tabs
  sub : ∀ b o, c.g.get? b = some o → c'.g.get? b = some o
theorem Grow.base {c c' : Fx} (x : Grow c c') (B : Base c) : Base c' := ⟨x.ok, fun y hy => by rw [x.bi]; exact B.bi y hy⟩
theorem grow_add {c : Fx} (ok : c.Ok) {a : Addr} {o : Obj} (ha : c.g.objs.size ≤ a) (ht : ∀ t ∈ c.tabs, t.2.1 ≠ a) : Grow c { c with g := addG c.g a o } := by
  have k : ∀ b x, c.g.get? b = some x → (addG c.g a o).get? b = some x := fun b x e => addG_old ha e
  refine ⟨rfl, rfl, rfl, ⟨ok.gns.keeps k, ok.bns.keeps k, ok.lim.keeps k, ok.kin.keeps k, ?_, fun t h => ?_, fun t h => addG_none ha (ht t h) (ok.hid t h), ok.apart⟩, rfl, rfl, k⟩
  · obtain ⟨bm, ob, h1, h2, h3, r⟩ := ok.bmain
    exact ⟨bm, ob, h1, h2, k _ _ h3, r⟩
  · exact (ok.code t h).keeps k

end
section
open PySem PySem.W PyProof.Rows PySem.Calls
set_option Elab.async false
set_option maxRecDepth 100000
set_option autoImplicit false
set_option linter.unusedVariables false
set_option maxHeartbeats 4000000

theorem HInv.froze {c : Fx} {h : Heap} {μ : List Addr} {σ : Hp} (hi : HInv c h μ σ) {a : Addr} {o : Obj} (ho : h.get? a = some o) (hf : o.isFreed = false) (ha : c.g.objs.size ≤ a) (hm : a ∉ μ) (ht : ∀ t ∈ c.tabs, t.2.1 ≠ a) : HInv { c with g := addG c.g a o } h μ σ where
  ok := (grow_add hi.ok ha ht).ok
  keep := fun b x e => by
    by_cases hb : b = a
    · subst hb
      rw [show (Fx.g { c with g := addG c.g b o }) = addG c.g b o from rfl, addG_new ha hf] at e
      cases e; exact ho
    · cases hg : c.g.get? b with
      | none => rw [show (Fx.g { c with g := addG c.g a o }) = addG c.g a o from rfl, addG_none ha hb hg] at e; cases e
      | some y =>
        rw [show (Fx.g { c with g := addG c.g a o }) = addG c.g a o from rfl, addG_old ha hg] at e
        cases e; exact hi.keep _ _ hg
  size := by
    show (addG c.g a o).objs.size ≤ _
    rw [addG_size ha]
    exact Heap.lt_size ho
  tabs := hi.tabs
  len := hi.len
  nodup := hi.nodup
  lst := hi.lst
  new := fun b hb => addG_none ha (fun e => hm (e ▸ hb)) (hi.new b hb)
theorem HInv.thaw {c : Fx} {h : Heap} {μ : List Addr} {σ : Hp} {a : Addr} {o : Obj} (ok : c.Ok) (ha : c.g.objs.size ≤ a) (hf : o.isFreed = false) (hi : HInv { c with g := addG c.g a o } h μ σ) : HInv c h μ σ ∧ h.get? a = some o := by
  refine ⟨⟨ok, fun b x e => hi.keep b x (addG_old ha e), ?_, hi.tabs, hi.len, hi.nodup, hi.lst, fun b hb => ?_⟩, hi.keep a o (addG_new ha hf)⟩
  · have := hi.size
    rw [show (Fx.g { c with g := addG c.g a o }) = addG c.g a o from rfl, addG_size ha] at this
    exact Nat.le_trans ha (Nat.le_of_lt this)
  · have := hi.new b hb
    cases hg : c.g.get? b with
    | none => rfl
    | some y => rw [show (Fx.g { c with g := addG c.g a o }) = addG c.g a o from rfl, addG_old ha hg] at this; cases this

/-- sorted by kf, like ones as they came -/
noncomputable def Stable (kf : Int → Int) (l lo : List Int) : Prop := lo.Perm l ∧ lo.Pairwise fun x y => kf x < kf y ∨ (kf x = kf y ∧ l.idxOf x < l.idxOf y)

theorem stable_out {kf : Int → Int} {l : List Int} (hnd : l.Nodup) {keys us : List Value} (hk : IntsAre keys (l.map kf)) (hu : IntsAre us l) {xs : Array Keyed} (hp : xs.Perm (keys.toArray.zip us.toArray))
    (hL : Lex (fun v => l.idxOf (numOf v)) xs (keys.toArray.zip us.toArray).size) : ∃ lo, IntsAre (xs.map (·.2)).toList lo ∧ Stable kf l lo := by
  have hl : xs.toList.Perm (keys.zip us) := by
    have := Array.perm_iff_toList_perm.mp hp
    rwa [ksk_zip] at this
  have hlen1 := hk.length
  have hlen2 := hu.length
  rw [List.length_map] at hlen1
  have hmem : ∀ p ∈ xs.toList, ∃ y ∈ l, ∃ t u, p = (.int (kf y) t, .int y u) := by
    intro p hp'
    have hz := hl.mem_iff.mp hp'
    have key : ∀ {l : List Int} {keys us : List Value}, IntsAre keys (l.map kf) → IntsAre us l → ∀ p ∈ keys.zip us, ∃ y ∈ l, ∃ t u, p = (Value.int (kf y) t, Value.int y u) := by
      intro l
      induction l with
      | nil => intro keys us h1 h2 p hp; cases h1; cases h2; cases hp
      | cons y l ih =>
        intro keys us h1 h2 p hp
        cases h1 with | cons _ t h1 => cases h2 with | cons _ u h2 =>
        rw [List.zip_cons_cons] at hp
        rcases List.mem_cons.mp hp with rfl | hp
        · exact ⟨y, .head _, t, u, rfl⟩
        · obtain ⟨z, hz, r⟩ := ih h1 h2 p hp
          exact ⟨z, .tail _ hz, r⟩
    exact key hk hu p hz
  refine ⟨xs.toList.map (fun p => numOf p.2), ?_, ?_, ?_⟩
  · have h1 := intsAre_map (xs.toList.map (·.2)) (by
      intro v hv
      obtain ⟨p, hp', rfl⟩ := List.mem_map.mp hv
      obtain ⟨y, _, t, u, rfl⟩ := hmem p hp'
      exact ⟨y, u, rfl⟩)
    rw [List.map_map] at h1
    rw [Array.toList_map]
    exact h1
  · have h1 := hl.map (fun p : Keyed => numOf p.2)
    have e2 : (keys.zip us).map (fun p : Keyed => numOf p.2) = l := by
      have : (keys.zip us).map (fun p : Keyed => numOf p.2) = ((keys.zip us).map Prod.snd).map numOf := by rw [List.map_map]; rfl
      rw [this, List.map_snd_zip (by omega), hu.nums]
    rwa [e2] at h1
  · rw [List.pairwise_map, List.pairwise_iff_getElem]
    intro i j hi hj hij
    have hi' : i < xs.size := by simpa using hi
    have hj' : j < xs.size := by simpa using hj
    have q := hL i j hij (by rw [← hp.size_eq]; exact hj')
    have ei : xs[i]? = some xs[i] := getElem?_pos _ i hi'
    have ej : xs[j]? = some xs[j] := getElem?_pos _ j hj'
    obtain ⟨y, _, t, u, e1⟩ := hmem xs[i] (by simp)
    obtain ⟨z, _, t', u', e2⟩ := hmem xs[j] (by simp)
    unfold Ix K at q
    rw [ei, ej, e1, e2] at q
    show kf (numOf (xs.toList[i]).2) < kf (numOf (xs.toList[j]).2) ∨ _
    rw [Array.getElem_toList, Array.getElem_toList, e1, e2]
    exact q

theorem HInv.off {c : Fx} {h h' : Heap} {μ : List Addr} {σ : Hp} (hi : HInv c h μ σ) {a : Addr} {xs : Array Value} (hp : h.PlainList a xs) (hm : a ∉ μ) (hg : c.g.get? a = none) (hs : Heap.SameBut a h h') : HInv c h' μ σ where
  ok := hi.ok
  keep := fun b x e => hs.extBut b x (fun hb => by rw [hb, hg] at e; cases e) (hi.keep b x e)
  size := by rw [hs.1]; exact hi.size
  tabs := fun t ht => by
    obtain ⟨ps, h1, h2, h3⟩ := hi.tabs t ht
    refine ⟨ps, hs.extBut _ _ (fun hb => ?_) h1, h2, fun pos cv e => codeRec_sameBut hp hs (h3 pos cv e)⟩
    obtain ⟨k, hk⟩ := hp
    rw [hb, hk] at h1; cases h1
  len := hi.len
  nodup := hi.nodup
  new := hi.new
  lst := fun n l e => by
    obtain ⟨b, vs, e1, ⟨k, e2⟩, e3⟩ := hi.lst n l e
    exact ⟨b, vs, e1, ⟨k, hs.extBut _ _ (fun hb => hm (hb ▸ List.mem_of_getElem? e1)) e2⟩, e3⟩
theorem HInv.notab {c : Fx} {h : Heap} {μ : List Addr} {σ : Hp} (hi : HInv c h μ σ) {a : Addr} {xs : Array Value} (hp : h.PlainList a xs) : ∀ t ∈ c.tabs, t.2.1 ≠ a := fun t ht e => by
  obtain ⟨ps, h1, _⟩ := hi.tabs t ht
  obtain ⟨k, hk⟩ := hp
  rw [e, hk] at h1; cases h1

section
variable {c : Fx} {d : Nat} {σ : Hp} {Q : V → Hp → Prop}
theorem in1_ok {d : Nat} {A : Around} (h : AOk (d + 1) A) : AOk d A.in1 := ⟨h.han, by have := h.dep; show A.depth + d ≤ 900; omega, by have := h.uni; show A.units + 1 + 100 * d ≤ 9000; omega⟩

theorem CALL_sortedKey {n : Nat} {l : List Int} {x : Str} {scope : Scope} {body : Expr} {cap : List (Str × Nat)} (kf : Int → Int) (ok : c.Ok) (hl : σ[n]? = some (l.map .int)) (hnd : l.Nodup) (h64 : l.length < 64)
    (hc : ∀ c', Grow c c' → ∀ ys : List V, ∀ y ∈ l, CALLV c' d (.lam x scope body cap) [.int y] [] (σ ++ [ys]) fun r σ' => r = .int (kf y) ∧ σ' = σ ++ [ys])
    (q : ∀ lo, Stable kf l lo → Q (.ref σ.length) (σ ++ [lo.map .int])) : CALLV c (d + 2) (.obj (.builtin "sorted")) [.ref n] [("key", .lam x scope body cap)] σ Q := by
  rintro A E s μ vf vs ks ha hi rfl hvs hks
  obtain ⟨_, rfl, a0, rfl, ea⟩ := args1 hvs
  obtain ⟨f, rfl, hf⟩ := args1 hks
  obtain ⟨us, hp, hr, hz⟩ := hi.get hl ea
  have hI := ints_are hr
  have hlen := hI.length
  have hlam := hf
  obtain ⟨fa, qn, pr, cl, pm, cv, ctv, rfl, _⟩ := hf
  refine call_function_entry_kw kind_sorted plain_sorted entry_sorted (ksk_s1 _ _) ?_
  unfold Builtin.«sorted»
  refine wpAny_bind (m := checkCount "sorted" 1 1 _) (wpAny_pure ?_)
  refine wpAny_bind (collect_list hp.isList ?_ (by rw [sizeLine_eq]; omega))
  refine wpAny_bind (wpAny_newList ?_ (by rw [sizeLine_eq]; omega))
  have hsz : ((s.heap.push (seqObj "list" #[] 0)).update s.heap.objs.size (Obj.mapSeq (· ++ us.toArray))).objs.size = s.heap.objs.size + 1 := by rw [Heap.size_update, size_push']
  have keep : ∀ b o, s.heap.get? b = some o → (((s.heap.push (seqObj "list" #[] 0)).update s.heap.objs.size (Obj.mapSeq (· ++ us.toArray))).push (seqObj "list" us.toArray 0)).get? b = some o := fun b o q => by
    have hlt : b < s.heap.objs.size := Heap.lt_size q
    rw [Heap.get?_push_ne _ _ _ (by rw [hsz]; exact Nat.ne_of_lt (Nat.lt_succ_of_lt hlt)), Heap.get?_update_ne _ _ _ _ (Nat.ne_of_lt hlt), Heap.get?_push_ne _ _ _ (Nat.ne_of_lt hlt)]
    exact q
  have hoL : (((s.heap.push (seqObj "list" #[] 0)).update s.heap.objs.size (Obj.mapSeq (· ++ us.toArray))).push (seqObj "list" us.toArray 0)).get? (s.heap.objs.size + 1) = some (seqObj "list" us.toArray 0) := by
    rw [← hsz]; exact Heap.get?_push_size _ rfl
  have hsize2 : (((s.heap.push (seqObj "list" #[] 0)).update s.heap.objs.size (Obj.mapSeq (· ++ us.toArray))).push (seqObj "list" us.toArray 0)).objs.size = s.heap.objs.size + 2 := by rw [size_push', hsz]
  show wpAny _ _ _ _ _ { s with heap := ((s.heap.push (seqObj "list" #[] 0)).update s.heap.objs.size (Obj.mapSeq (· ++ us.toArray))).push (seqObj "list" us.toArray 0) }
  rw [hsz]
  generalize ((s.heap.push (seqObj "list" #[] 0)).update s.heap.objs.size (Obj.mapSeq (· ++ us.toArray))).push (seqObj "list" us.toArray 0) = h2 at keep hoL hsize2 ⊢
  have haz : s.heap.objs.size ≤ s.heap.objs.size + 1 := Nat.le_succ _
  generalize s.heap.objs.size + 1 = a at hoL haz ⊢
  refine wpAny_bind (wpAny_holding (wpAny_call_entry_kw slot_list_sort ⟨_, hoL, rfl⟩ entry_list_sort ?body (ksk_l1 _ _)))
  case body =>
    show wpAny _ A.in1.in1 (Builtin.«list.sort» ⟨[.ref a], [(Str.ofString "key", .ref fa)]⟩) _ _ _
    rw [ksk_t1]
    unfold ksk_tree
    have i2 : HInv c h2 μ σ := hi.grow keep (by rw [hsize2]; omega)
    have ham : a ∉ μ := fun hm => Nat.lt_irrefl _ (Nat.lt_of_lt_of_le (hi.lt hm) haz)
    have hga : c.g.get? a = none := Heap.get?_none_of_le (Nat.le_trans hi.size haz)
    have hgs : c.g.objs.size ≤ a := Nat.le_trans hi.size haz
    have hp2 : h2.PlainList a us.toArray := ⟨0, hoL⟩
    refine wpAny_bind (listItems_at hoL rfl ?_)
    refine wpAny_bind (listUpdate_at hoL rfl ?_ (by rw [List.size_toArray, sizeLine_eq]; omega) (Nat.zero_le _))
    have s3 := Heap.SameBut.update h2 a (Obj.mapSeq fun _ => (#[] : Array Value))
    obtain ⟨e1, ho3⟩ : ∃ e1, (h2.update a (Obj.mapSeq fun _ => (#[] : Array Value))).get? a = some (seqObj "list" #[] e1) := ⟨_, get?_update_seq hoL fun _ => #[]⟩
    have i3 := i2.off hp2 ham hga s3
    have ev3 : Ev h2 (h2.update a (Obj.mapSeq fun _ => (#[] : Array Value))) := Ev.list hp2 s3
    have ev2 : Ev s.heap h2 := ⟨fun b o e _ => keep b o e⟩
    show wpAny _ _ _ _ _ { s with heap := h2.update a (Obj.mapSeq fun _ => (#[] : Array Value)) }
    generalize h2.update a (Obj.mapSeq fun _ => (#[] : Array Value)) = h3 at ho3 i3 ev3 ⊢
    refine wpAny_bind (seqEpoch_at ho3 rfl ?_)
    refine wpAny_bind (wpAny_newTuple ?_ (by rw [sizeLine_eq]; show us.length ≤ _; omega))
    refine wpAny_bind (wpAny_newList ?_ (Nat.zero_le _))
    have i5 := (i3.push (seqObj "tuple" us.toArray 0)).make (vs := []) (l := []) (k := 0) .nil (Nat.zero_le _)
    have ha3 : a < h3.objs.size := Heap.lt_size ho3
    have ho5 : ((h3.push (seqObj "tuple" us.toArray 0)).push (lobj [] 0)).get? a = some (seqObj "list" #[] e1) := Heap.get?_push_of_some _ (Heap.get?_push_of_some _ ho3)
    have hkS : a < (h3.push (seqObj "tuple" us.toArray 0)).objs.size := by rw [size_push']; exact Nat.lt_succ_of_lt ha3
    have ev5 : Ev s.heap ((h3.push (seqObj "tuple" us.toArray 0)).push (lobj [] 0)) := ((ev2.trans ev3).trans (Ev.push _ _)).trans (Ev.push _ _)
    show wpAny _ _ _ _ _ { s with heap := (h3.push (seqObj "tuple" us.toArray 0)).push (lobj [] 0) }
    generalize hh5 : (h3.push (seqObj "tuple" us.toArray 0)).push (lobj [] 0) = h5 at i5 ho5 ev5 ⊢
    show wpAny _ _ (holding _ (ksk_rest a (.ref fa) false us.toArray e1 (.ref (h3.push (seqObj "tuple" us.toArray 0)).objs.size))) _ _ _
    generalize (h3.push (seqObj "tuple" us.toArray 0)).objs.size = kS at i5 hkS ⊢
    have ham5 : a ∉ μ ++ [kS] := fun hm => by
      rcases List.mem_append.mp hm with h | h
      · exact ham h
      · rw [List.mem_singleton.mp h] at hkS; exact Nat.lt_irrefl _ hkS
    have i6 := i5.froze ho5 rfl hgs ham5 (i3.notab ⟨e1, ho3⟩)
    have gr := grow_add (o := seqObj "list" #[] e1) ok hgs (i3.notab ⟨e1, ho3⟩)
    have hkSm : (μ ++ [kS])[σ.length]? = some kS := by rw [List.getElem?_append_right (Nat.le_of_eq hi.len)]; simp [hi.len]
    refine wpAny_holding ?_
    unfold ksk_rest
    refine wpAny_bind (wpAny_rule ?_)
    rw [← Array.forIn_toList]
    show wpAny _ _ (forIn us PUnit.unit _ >>= _) _ _ _
    refine wpAny_bind (ksk_fold (fun i s' => ∃ h' tk, s' = { s with heap := h', toks := tk } ∧ HInv { c with g := addG c.g a (seqObj "list" #[] e1) } h' (μ ++ [kS]) (σ ++ [((l.take i).map kf).map .int]) ∧ Ev s.heap h') us 0 _ ⟨h5, s.toks, rfl, by simpa using i6, ev5⟩ ?step ?done)
    case step =>
      rintro j v s' hv ⟨h', tk, rfl, i', ev'⟩
      rw [Nat.zero_add] at i' ⊢
      have hj : j < l.length := by rw [← hlen]; exact (List.getElem?_eq_some_iff.mp hv).1
      obtain ⟨t, rfl⟩ : ∃ t, v = .int l[j] t := by
        have := paired_get hr (n := j) (a := .int l[j]) (by rw [List.getElem?_map, List.getElem?_eq_getElem hj]; rfl)
        obtain ⟨b, hb, t, e⟩ := this
        rw [hv] at hb; cases hb; exact ⟨t, e⟩
      have call := hc _ gr (((l.take j).map kf).map .int) l[j] (List.getElem_mem hj) A.in1.in1 (fun _ _ => False) { s with heap := h', toks := tk } (μ ++ [kS]) (.ref fa) [.int l[j] t] [] (in1_ok (in1_ok ha)) i'
        (VRel.mono (c := { c with g := addG c.g a (seqObj "list" #[] e1) }) (h := s.heap) (μ := μ) ev' ⟨[kS], rfl⟩ (show VRel { c with g := addG c.g a (seqObj "list" #[] e1) } s.heap μ (.lam x scope body cap) (.ref fa) from hlam)) (.cons ⟨t, rfl⟩ .nil) .nil
      refine wpAny_bind (wpAny_attempt (wpAny_mono call (fun v' s'' hv' => ?_) fun _ _ hF => hF.elim))
      obtain ⟨w, σ', μ', ⟨rfl, rfl⟩, ⟨t', rfl⟩, x⟩ := hv'
      have eμ : μ' = μ ++ [kS] := by
        obtain ⟨r, er⟩ := x.pre
        have h1 := x.inv.len
        have h2 := hi.len
        rw [← er] at h1
        simp only [List.length_append, List.length_singleton] at h1
        have : r = [] := List.eq_nil_of_length_eq_zero (by omega)
        rw [← er, this, List.append_nil]
      subst eμ
      obtain ⟨h'', tk'', rfl⟩ := x.same
      obtain ⟨ws, ⟨kk, hpk⟩, hrk, hzk⟩ := x.inv.get (n := σ.length) (l := ((l.take j).map kf).map .int) (by rw [List.getElem?_append_right (Nat.le_refl _), Nat.sub_self]; rfl) hkSm
      have hlk := hrk.length
      rw [List.length_map, List.length_map, List.length_take] at hlk
      dsimp only
      refine wpAny_bind (listUpdate_at hpk rfl ?_ (by rw [List.size_toArray, sizeLine_eq]; omega) (by rw [Array.size_push, List.size_toArray, sizeLine_eq]; omega))
      have z := Res.upd x.inv (n := σ.length) hkSm ⟨kk, hpk⟩ (Heap.SameBut.update h'' kS (Obj.mapSeq (·.push (.int (kf l[j]) t')))) (vs := ws ++ [.int (kf l[j]) t']) (plain_upd hpk (·.push (.int (kf l[j]) t')) (ws ++ [.int (kf l[j]) t']) (by simp)) (l := ((l.take (j + 1)).map kf).map .int) (by
          rw [List.take_succ_eq_append_getElem hj, List.map_append, List.map_append]
          exact p_app hrk (.cons ⟨t', rfl⟩ .nil)) (by rw [List.length_map, List.length_map, List.length_take]; omega) tk''
      refine wpAny_pure ⟨rfl, _, tk'', rfl, ?_, (ev'.trans x.ev).trans z.ev⟩
      have hz2 := z.inv
      rw [List.set_append_right _ _ (Nat.le_refl _), Nat.sub_self] at hz2
      exact hz2
    case done =>
      rintro s' ⟨h', tk, rfl, i', ev'⟩
      rw [Nat.zero_add, List.take_of_length_le (by omega)] at i'
      obtain ⟨ws, ⟨kk, hpk⟩, hrk, hzk⟩ := i'.get (n := σ.length) (l := (l.map kf).map .int) (by rw [List.getElem?_append_right (Nat.le_refl _), Nat.sub_self]; rfl) hkSm
      have hIk := ints_are hrk
      obtain ⟨i7, ho7⟩ := HInv.thaw ok hgs rfl i'
      have hlk := hIk.length
      rw [List.length_map] at hlk
      refine wpAny_bind (listItems_at hpk rfl ?_)
      unfold ksk_end
      dsimp only
      rw [if_neg (by decide)]
      have hzs : (ws.toArray.zip us.toArray).size = l.length := by rw [Array.size_zip, List.size_toArray, List.size_toArray, hlk, hlen, Nat.min_self]
      -- the end of the sort
      have tail : ∀ st : SortSt, (arrOf st).Perm (ws.toArray.zip us.toArray) → failedOf st = none → Lex (fun v => l.idxOf (numOf v)) (arrOf st) (ws.toArray.zip us.toArray).size →
          wpAny (model c.prog c.w) A.in1.in1 (ksk_tail a false e1 (.ref kS) st) (fun fin s' => ∃ v, fin = .done (.ret v) ∧ wpAny (model c.prog c.w) A.in1 (ret (.ref a)) (fun fin s' => ∃ v, fin = .done (.ret v) ∧ Post c s μ Q v s') E s') E { s with heap := h', toks := tk } := by
        intro st hperm hfl hlex
        obtain ⟨lo, hlo, hst⟩ := stable_out hnd hIk hI hperm hlex
        have hlol : lo.length = l.length := hst.1.length_eq
        have houts : ((arrOf st).map (·.2)).size = l.length := by rw [Array.size_map, hperm.size_eq, hzs]
        have s8 := Heap.SameBut.update h' kS (Obj.mapSeq fun _ => (#[] : Array Value))
        have hakS : a ≠ kS := Nat.ne_of_lt hkS
        have ho8 : (h'.update kS (Obj.mapSeq fun _ => (#[] : Array Value))).get? a = some (seqObj "list" #[] e1) := (s8.2 a hakS).trans ho7
        have i8 := i7.upd (n := σ.length) (l := []) hkSm ⟨kk, hpk⟩ s8 (plain_upd hpk (fun _ => #[]) [] rfl) .nil (Nat.zero_le _)
        have ev8 : Ev h' (h'.update kS (Obj.mapSeq fun _ => (#[] : Array Value))) := Ev.list ⟨kk, hpk⟩ s8
        unfold ksk_tail
        dsimp only
        refine wpAny_bind (listUpdate_at hpk rfl ?_ (by rw [List.size_toArray, sizeLine_eq]; omega) (Nat.zero_le _))
        refine wpAny_bind (wpAny_letGo ?_)
        show wpAny _ _ _ _ _ { s with heap := h'.update kS (Obj.mapSeq fun _ => (#[] : Array Value)), toks := tk }
        generalize h'.update kS (Obj.mapSeq fun _ => (#[] : Array Value)) = h8 at s8 ho8 i8 ev8 ⊢
        refine wpAny_bind (seqEpoch_at ho8 rfl ?_)
        rw [if_neg (by decide)]
        refine wpAny_bind (listUpdate_at ho8 rfl ?_ (Nat.zero_le _) (by rw [houts, sizeLine_eq]; omega))
        rw [hfl]
        simp only [bne_self_eq_false, Bool.false_eq_true, if_false]
        refine wpAny_pure ⟨_, rfl, ?_⟩
        have s9 := Heap.SameBut.update h8 a (Obj.mapSeq fun _ => (arrOf st).map (·.2))
        have hp8 : h8.PlainList a (#[] : Array Value) := ⟨e1, ho8⟩
        have i9 := i8.off hp8 ham5 hga s9
        have hp9 : Heap.PlainList (h8.update a (Obj.mapSeq fun _ => (arrOf st).map (·.2))) a ((arrOf st).map (·.2)).toList.toArray := plain_upd ho8 (fun _ => (arrOf st).map (·.2)) _ (by rw [Array.toArray_toList])
        have i10 := i9.take σ.length (by
          rw [List.set_append_right _ _ (Nat.le_refl _), List.take_left]
          exact hi.closed)
        rw [List.set_append_right _ _ (Nat.le_refl _), List.take_left, show σ.length = μ.length from hi.len.symm, List.take_left] at i10
        have i11 := i10.addAt (l := lo.map .int) hp9 ham hga (of_intsAre hlo) (by rw [List.length_map, hlol]; omega)
        refine wpAny_pure ⟨_, rfl, .of (q lo hst) ⟨a, rfl, by rw [List.getElem?_append_right (Nat.le_of_eq hi.len)]; simp [hi.len]⟩ ⟨⟨_, tk, rfl⟩, ⟨_, rfl⟩, (ev'.trans ev8).trans (Ev.list hp8 s9), i11⟩⟩
      by_cases h2l : us.toArray.size < 2
      · rw [if_pos h2l, if_pos h2l]
        refine wpAny_bind (wpAny_pure ?_)
        rw [StateT.run_pure]
        refine wpAny_bind (wpAny_pure ?_)
        refine tail (SortSt.mk' general' (ws.toArray.zip us.toArray) #[] 7 none) (Array.Perm.refl _) rfl fun i j hij hj => ?_
        rw [hzs] at hj
        rw [List.size_toArray] at h2l
        omega
      · rw [if_neg h2l, if_neg h2l]
        rw [List.size_toArray] at h2l
        rw [ksk_kind (kz := l.map kf) hIk (by rw [List.size_toArray]; omega)]
        refine wpAny_bind (wpAny_pure ?_)
        have hF : Fre (fun v => l.idxOf (numOf v)) (ws.toArray.zip us.toArray).size (arrOf (SortSt.mk' oneType' (ws.toArray.zip us.toArray) #[] 7 none)) 0 := by
          refine ⟨fun i hi => by omega, fun i _ hi => ?_⟩
          rw [hzs] at hi
          show Ix _ (ws.toArray.zip us.toArray) i = i
          obtain ⟨b, hb, t, rfl⟩ := paired_get hr (n := i) (a := .int l[i]) (by rw [List.getElem?_map, List.getElem?_eq_getElem hi]; rfl)
          have e9 : (ws.toArray.zip us.toArray)[i]? = some (ws[i], .int l[i] t) := by
            rw [← Array.getElem?_toList, ksk_zip]
            have e10 : us[i]? = some (.int l[i] t) := hb
            rw [show ws.toArray.toList = ws from rfl, List.getElem?_zip_eq_some]
            exact ⟨List.getElem?_eq_getElem (by omega), e10⟩
          unfold Ix
          rw [e9]
          show l.idxOf l[i] = i
          exact hnd.idxOf_getElem i hi
        refine wpAny_bind (wpAny_mono (st_sortRuns (ps := fun v => l.idxOf (numOf v)) (a₀ := ws.toArray.zip us.toArray) (st := SortSt.mk' oneType' (ws.toArray.zip us.toArray) #[] 7 none)
          (Q := fun _ st' => (arrOf st').Perm (ws.toArray.zip us.toArray) ∧ failedOf st' = none ∧ Lex (fun v => l.idxOf (numOf v)) (arrOf st') (ws.toArray.zip us.toArray).size)
          (ksk_intKeys (kz := l.map kf) hIk) ⟨Array.Perm.refl _, rfl, rfl, rfl⟩ hF (by rw [hzs]; omega) (by rw [hzs]; exact h64) fun st' a1 a2 a3 => ⟨a1, a2, a3⟩) ?_ fun _ _ e => e)
        rintro ⟨⟨⟩, st'⟩ s' ⟨rfl, hpm, hfl, hlx⟩
        exact tail st' hpm hfl hlx
end

end
section
open PySem PySem.W PyProof.Rows PySem.Calls
set_option Elab.async false
set_option maxRecDepth 100000
set_option autoImplicit false
set_option linter.unusedVariables false

theorem geti {ds : List Int} {k : Nat} (h : k < ds.length) : (ds.map V.int)[k]? = some (.int (ds.getD k 0)) := by
  rw [List.getElem?_map, List.getElem?_eq_getElem h, List.getD_eq_getElem?_getD, List.getElem?_eq_getElem h]; rfl
theorem seti {ds : List Int} {k : Nat} {z : Int} : (ds.map V.int).set k (.int z) = (ds.set k z).map .int := by rw [List.map_set]
theorem getD_set {ds : List Int} {k i : Nat} {z : Int} (h : k < ds.length) : (ds.set k z).getD i 0 = if i = k then z else ds.getD i 0 := by
  rw [List.getD_eq_getElem?_getD, List.getD_eq_getElem?_getD]
  by_cases e : i = k
  · subst e; rw [List.getElem?_set_self h, if_pos rfl]; rfl
  · rw [List.getElem?_set_ne (fun h => e h.symm), if_neg e]
theorem rng_item {a : Nat} {b : Int} {j : Nat} {u : V} (h : (rngItems a b)[j]? = some u) : u = .int ((a + j : Nat) : Int) ∧ ((a + j : Nat) : Int) < b := by
  unfold rngItems at h
  rw [List.getElem?_map] at h
  cases e : (List.range (b - (a : Int)).toNat)[j]? with
  | none => rw [e] at h; cases h
  | some i =>
    rw [e] at h
    have h1 := List.getElem?_eq_some_iff.mp e
    have h2 := h1.1
    rw [List.length_range] at h2
    have h3 := h1.2
    rw [List.getElem_range] at h3
    simp only [Option.map_some, Option.some.injEq] at h
    rw [← h, ← h3]
    constructor
    · congr 1
    · omega
theorem rng0_item {b : Int} {j : Nat} {u : V} (h : (rngItems (0 : Nat) b)[j]? = some u) : u = .int (j : Int) ∧ (j : Int) < b := by
  have := rng_item h
  rwa [Nat.zero_add] at this
theorem rng_len {a : Nat} {b : Nat} : (rngItems a b).length = b - a := by
  unfold rngItems; rw [List.length_map, List.length_range]; omega
theorem rng_items {σ : Hp} {a b : Nat} (h1 : a ≤ 2 ^ 20) (h2 : b ≤ 2 ^ 20) : Items σ (.rng a b) (rngItems a b) := ⟨rfl, by omega, by omega, by omega⟩
/-- the list at the end of the lists -/
theorem at_end {σ : Hp} (l : List V) : (σ ++ [l])[σ.length]? = some l := by rw [List.getElem?_append_right (Nat.le_refl _)]; simp
theorem set_end {σ : Hp} (l l' : List V) : (σ ++ [l]).set σ.length l' = σ ++ [l'] := by rw [List.set_append_right _ _ (Nat.le_refl _)]; simp
theorem at_old {σ τ : Hp} {n : Nat} {l : List V} (h : σ[n]? = some l) : (σ ++ τ)[n]? = some l := by rw [List.getElem?_append_left (List.getElem?_eq_some_iff.mp h).1]; exact h
theorem closed0 (l : List Int) : Closed 0 (l.map .int) := fun n h => by
  obtain ⟨x, _, e⟩ := List.mem_map.mp h; cases e
section
variable {c : Fx} {d : Nat} {env : Env} {ρ : Loc} {σ : Hp} {Q : FV → Loc → Hp → Prop}
theorem SXs_cut {st : Stmt} {rest : List Stmt} (I : Loc → Hp → Prop) (h : SX c d env st ρ σ (Then I Q)) (k : ∀ ρ' σ', I ρ' σ' → SXs c d env rest ρ' σ' Q) : SXs c d env (st :: rest) ρ σ Q :=
  SXs_cons (SX_mono h fun f ρ' σ' t => by cases f <;> first | exact k _ _ t | exact t)
end
noncomputable def S (l : List Nat) : Str := ⟨l.toArray⟩
theorem S_cat (a b : List Nat) : S a ++ S b = S (a ++ b) := by
  show (⟨a.toArray ++ b.toArray⟩ : Str) = ⟨(a ++ b).toArray⟩
  rw [List.append_toArray]
theorem S_len (a : List Nat) : (S a).length = a.length := by show a.toArray.size = _; rw [List.size_toArray]
theorem S_list (a : List Nat) : (S a).cps.toList = a := rfl
theorem S_of (x : Str) : x = S x.cps.toList := rfl
theorem BIN_catS {c : Fx} {d : Nat} {σ : Hp} {Q : V → Hp → Prop} {a b : List Nat} (hs : (S a).length + (S b).length ≤ 2 ^ 24) (q : Q (.str (S (a ++ b))) σ) : BIN c d .Add (.str (S a)) (.str (S b)) σ Q :=
  BIN_cat hs (by rw [S_cat]; exact q)
/-- `range(n)` in one step -/
theorem SE_range {c : Fx} {d : Nat} {env : Env} {ρ : Loc} {σ : Hp} {Q : V → Hp → Prop} {n : Int} {k : Nat} {np p pos : Pos} (B : Base c) (hk : env.kindOf "range" = some .globalImplicit) (hx : nsIn c.K mainGlobals "range" = some none)
    (hs : starEach [.Constant (.int n) k p] env = (false, eval (.Constant (.int n) k p) env) :: starEach [] env) (q : Q (.rng 0 n) σ) : SE c d env (.Call (.Name "range" np) [.Constant (.int n) k p] [] pos) ρ σ Q := by
  refine SE_call (by rw [hs]; rfl) rfl rfl ?_
  refine SE_bi B _ hk hx rfl ?_
  refine SL_cons hs ?_
  refine SE_int ?_
  refine SL_nil ?_
  refine SK_nil ?_
  exact ⟨trivial, rfl, CALL_range1 q⟩
/-- a builtin's call by one name -/
theorem SE_bi1 {c : Fx} {d : Nat} {env : Env} {ρ : Loc} {σ : Hp} {Q : V → Hp → Prop} {f x : Str} {v : Value} {a : V} {np p pos : Pos} (B : Base c) (hk : env.kindOf f = some .globalImplicit) (hx : nsIn c.K mainGlobals f = some none) (hv : bootBuiltins f = some v)
    (hs : starEach [.Name x p] env = (false, eval (.Name x p) env) :: starEach [] env) (ha : ρ.lookup x = some a) (hn : f ≠ "__name__") (hd : (f == ("__debug__" : Str)) = false) (hdx : (x == ("__debug__" : Str)) = false) (hc : Calls c (.obj v)) (q : CALLV c d (.obj v) [a] [] σ Q) :
    SE c d env (.Call (.Name f np) [.Name x p] [] pos) ρ σ Q := by
  refine SE_call (by rw [hs]; rfl) rfl rfl ?_
  refine SE_bi B v hk hx hv ?_ hn hd
  refine SL_cons hs ?_
  refine SE_name ha ?_ hdx
  refine SL_nil ?_
  refine SK_nil ?_
  exact ⟨hc, rfl, q⟩
/-- a def's call by one name -/
theorem SE_gl1 {c : Fx} {d : Nat} {env : Env} {ρ : Loc} {σ : Hp} {Q : V → Hp → Prop} {f x : Str} {a : V} {np p pos : Pos} (B : Base c) (v : Value) (hk : env.kindOf f = some .globalImplicit) (hx : nsIn c.K mainGlobals f = some (some v))
    (hs : starEach [.Name x p] env = (false, eval (.Name x p) env) :: starEach [] env) (ha : ρ.lookup x = some a) (hd : (f == ("__debug__" : Str)) = false) (hdx : (x == ("__debug__" : Str)) = false) (hc : Calls c (.obj v)) (q : CALLV c d (.obj v) [a] [] σ Q) :
    SE c d env (.Call (.Name f np) [.Name x p] [] pos) ρ σ Q := by
  refine SE_call (by rw [hs]; rfl) rfl rfl ?_
  refine SE_gl B v hk hx ?_ hd
  refine SL_cons hs ?_
  refine SE_name ha ?_ hdx
  refine SL_nil ?_
  refine SK_nil ?_
  exact ⟨hc, rfl, q⟩

end
section
open PySem PySem.W PyProof.Rows
set_option Elab.async false
set_option maxRecDepth 100000
set_option maxHeartbeats 8000000
open_top hd for PySem.Challenge.rw_ta0027_01.row

end
local macro_rules | `(tactic| walk_at "se") => `(tactic| first
  | (with_reducible refine SE_name (hx := by with_unfolding_all rfl) (hd := by decide +kernel) ?_)
  | (with_reducible refine SE_int ?_) | (with_reducible refine SE_none ?_)
  | (with_reducible refine SE_cmp (by with_unfolding_all rfl) ?_) | (with_reducible refine SB_cmp (by with_unfolding_all rfl) ?_)
  | (with_reducible refine SL_cons (by with_unfolding_all rfl) ?_) | (with_reducible refine SL_nil ?_) | (with_reducible refine SK_nil ?_) | (with_reducible refine SK_one ?_)
  | (with_reducible refine SE_bin ?_) | (with_reducible refine SE_sub (by with_unfolding_all exact fun _ _ => rfl) ?_)
  | (with_reducible refine SE_call (by with_unfolding_all rfl) (by with_unfolding_all rfl) (by with_unfolding_all rfl) ?_)
  | (with_reducible refine SE_meth (by with_unfolding_all rfl) (by with_unfolding_all rfl) (by decide) (by with_unfolding_all rfl) ?_)
  | (with_reducible refine SE_str ?_) | (with_reducible refine SE_bool ?_)
  | (with_reducible refine SB_not ?_) | (with_reducible refine SB_and ?_))
section
open PySem PySem.W PyProof.Rows PySem.Calls
set_option Elab.async false
set_option maxRecDepth 100000
set_option autoImplicit false
set_option linter.unusedVariables false
set_option maxHeartbeats 4000000
noncomputable abbrev HK : Params → Frag := hd.heap_1

/-- bisect: halves lo..hi by p -/
noncomputable def bis (p : Nat → Bool) : Nat → Nat → Nat → Nat
  | 0, lo, _ => lo
  | n + 1, lo, hi => if lo < hi then (if p ((lo + hi) / 2) then bis p n lo ((lo + hi) / 2) else bis p n ((lo + hi) / 2 + 1) hi) else lo
theorem bis_le (p : Nat → Bool) : ∀ n lo hi, lo ≤ hi → bis p n lo hi ≤ hi
  | 0, _, _, h => h
  | n + 1, lo, hi, h => by
    unfold bis
    split
    · split
      · exact Nat.le_trans (bis_le p n _ _ (by omega)) (by omega)
      · exact bis_le p n _ _ (by omega)
    · exact h
theorem closed_ints (k : Nat) (l : List Int) : Closed k (l.map .int) := fun n h => by
  obtain ⟨x, _, e⟩ := List.mem_map.mp h; cases e

section
variable {c : Fx} {d : Nat} {σ : Hp} {Q : V → Hp → Prop} {P : Params}
noncomputable def fBR (P : Params) : FuncData := fdG (HK P) 56
noncomputable def bBR (P : Params) : List Stmt := bodyG (HK P) 56
theorem DBR (P : Params) : DefOk (HK P) 56 (fBR P) (bBR P) := ⟨rfl, rfl, rfl, rfl, rfl, rfl, rfl, rfl, _, rfl, by kernel_rfl⟩
noncomputable def fBL (P : Params) : FuncData := fdG (HK P) 74
noncomputable def bBL (P : Params) : List Stmt := bodyG (HK P) 74
theorem DBL (P : Params) : DefOk (HK P) 74 (fBL P) (bBL P) := ⟨rfl, rfl, rfl, rfl, rfl, rfl, rfl, rfl, _, rfl, by kernel_rfl⟩
noncomputable def fIR (P : Params) : FuncData := fdG (HK P) 47
noncomputable def bIR (P : Params) : List Stmt := bodyG (HK P) 47
theorem DIR (P : Params) : DefOk (HK P) 47 (fIR P) (bIR P) := ⟨rfl, rfl, rfl, rfl, rfl, rfl, rfl, rfl, _, rfl, by kernel_rfl⟩
noncomputable def fIL (P : Params) : FuncData := fdG (HK P) 65
noncomputable def bIL (P : Params) : List Stmt := bodyG (HK P) 65
theorem DIL (P : Params) : DefOk (HK P) 65 (fIL P) (bIL P) := ⟨rfl, rfl, rfl, rfl, rfl, rfl, rfl, rfl, _, rfl, by kernel_rfl⟩
theorem br_key_body (B : Base c) (hK : c.K = HK P) {n : Nat} {l : List V} {x : Int} {f : V} (kz : Nat → Int) (hl : σ[n]? = some l) (hz : l.length ≤ 2 ^ 20) (hf : Calls c f) (hn : isNoneV f = some false)
    (hc : ∀ i v, l[i]? = some v → CALLV c d f [v] [] σ fun r σ' => r = .int (kz i) ∧ σ' = σ) {L : Addr} {Q1 : FV → Loc → Hp → Prop} (q : ∀ ρ', Q1 (.rt (.int (bis (fun i => decide (x < kz i)) l.length 0 l.length))) ρ' σ) :
    SXs c d (callEnvC (fBR P) L 56) (bBR P) [("a", .ref n), ("x", .int x), ("lo", .int 0), ("hi", .none), ("key", f)] σ Q1 := by
  refine SXs_cons (SX_if ?_)
  walk_at "se"; walk_at "se"; walk_at "se"
  refine CMP_lt ⟨fun h => by simp at h, fun _ => SXs_nil ?_⟩
  refine SXs_cons (SX_if ?_)
  walk_at "se"; walk_at "se"; walk_at "se"
  refine CMP_isNone rfl ⟨fun _ => ?_, fun h => by simp at h⟩
  refine SXs_one (SX_assign rfl ?_)
  walk_at "se"
  refine SE_bi B _ rfl (by rw [hK]; kernel_rfl) rfl ?_
  walk_at "se"; walk_at "se"; walk_at "se"; walk_at "se"
  refine ⟨trivial, rfl, CALL_len_list hl ⟨.inl rfl, ?_⟩⟩
  refine SXs_cons (SX_if ?_)
  walk_at "se"; walk_at "se"; walk_at "se"
  refine CMP_isNone hn ⟨fun h => (nomatch h), fun h => ?_⟩
  refine SXs_one (WHILE (S := Nat × Nat) (fun y => [("a", .ref n), ("x", .int x), ("lo", .int y.1), ("hi", .int y.2), ("key", f)])
    (fun y σ' => σ' = σ ∧ y.1 ≤ y.2 ∧ y.2 ≤ l.length ∧ ∃ k, y.2 - y.1 ≤ k ∧ bis (fun i => decide (x < kz i)) k y.1 y.2 = bis (fun i => decide (x < kz i)) l.length 0 l.length) (fun y => y.2 - y.1) (0, l.length) ⟨rfl, Nat.zero_le _, Nat.le_refl _, _, Nat.le_refl _, rfl⟩ ⟨rfl, rfl, rfl, rfl, rfl, trivial⟩ ?_)
  rintro ⟨lo, hi⟩ _ ⟨rfl, h1, h2, k, h3, h4⟩
  dsimp only at h1 h2 h3 h4 ⊢
  walk_at "se"; walk_at "se"; walk_at "se"
  refine CMP_lt ⟨fun hb => ?_, fun hb => ?_⟩
  · have hlt : lo < hi := by simpa using hb
    have hk : k = k - 1 + 1 := by omega
    rw [hk, bis, if_pos hlt] at h4
    refine SXs_cons (SX_assign rfl ?_)
    walk_at "se"; walk_at "se"; walk_at "se"; walk_at "se"
    refine BIN_add ?_
    walk_at "se"
    have hmid : ((lo : Int) + (hi : Int)) / 2 = (((lo + hi) / 2 : Nat) : Int) := by omega
    have hml : (lo + hi) / 2 < l.length := by omega
    refine BIN_divs (by decide) (by decide) ?_
    rw [hmid]
    refine ⟨.inl rfl, ?_⟩
    refine SXs_one (SX_if ?_)
    walk_at "se"
    walk_at "se"
    walk_at "se"
    refine SE_name (v := f) rfl ?_
    walk_at "se"; walk_at "se"; walk_at "se"; walk_at "se"
    refine GET_list hl (Int.natCast_nonneg _) (v := l[(lo + hi) / 2]) (by rw [Int.toNat_natCast]; exact List.getElem?_eq_getElem hml) ?_
    walk_at "se"; walk_at "se"
    refine ⟨hf, rfl, (hc _ _ (List.getElem?_eq_getElem hml)).mono ?_⟩
    rintro v σ₁ ⟨rfl, rfl⟩
    refine CMP_lt ⟨fun hb2 => ?_, fun hb2 => ?_⟩
    · rw [if_pos hb2] at h4
      refine SXs_one (SX_assign rfl ?_)
      walk_at "se"
      exact ⟨.inl rfl, (lo, (lo + hi) / 2), by dsimp only; omega, ⟨rfl, by dsimp only; omega, by dsimp only; omega, k - 1, by dsimp only; omega, h4⟩, rfl, rfl, rfl, rfl, rfl, trivial⟩
    · rw [if_neg (by rw [hb2]; decide)] at h4
      refine SXs_one (SX_assign rfl ?_)
      walk_at "se"; walk_at "se"; walk_at "se"
      exact BIN_add ⟨.inl rfl, ((lo + hi) / 2 + 1, hi), by dsimp only; omega, ⟨rfl, by dsimp only; omega, by dsimp only; omega, k - 1, by dsimp only; omega, h4⟩, rfl, rfl, rfl, rfl, rfl, trivial⟩
  · have hge : ¬ lo < hi := by simpa using hb
    refine SXs_nil ?_
    have e : bis (fun i => decide (x < kz i)) k lo hi = lo := by cases k <;> simp [bis, hge]
    rw [← h4, e] at q
    refine SXs_one (SX_return ?_)
    walk_at "se"
    exact q _

theorem br_key (B : Base c) (hK : c.K = HK P) {n : Nat} {l : List V} {x : Int} {f : V} (kz : Nat → Int) (hl : σ[n]? = some l) (hz : l.length ≤ 2 ^ 20) (hf : Calls c f) (hn : isNoneV f = some false)
    (hc : ∀ i v, l[i]? = some v → CALLV c d f [v] [] σ fun r σ' => r = .int (kz i) ∧ σ' = σ) (q : Q (.int (bis (fun i => decide (x < kz i)) l.length 0 l.length)) σ) :
    CALLV c (d + 1) (.obj (.ref 56)) [.ref n, .int x, .int 0, .none] [("key", f)] σ Q := by
  refine CALL_def [("a", .ref n), ("x", .int x), ("lo", .int 0), ("hi", .none), ("key", f)] B (hK ▸ DBR P) ?_ (by dsimp only [List.map]; decide +kernel) ?_ fun hcl L => ?_
  · simp only [List.forall_mem_cons]
    exact ⟨.inl rfl, .inl rfl, .inl rfl, .inl rfl, .inl rfl, fun _ h => nomatch h⟩
  · intro h μ vs ks hv hk
    obtain ⟨v1, v2, v3, v4, rfl, r1, r2, r3, r4⟩ := args4 hv
    obtain ⟨k1, rfl, s1⟩ := args1 hk
    refine ⟨[("a", v1), ("x", v2), ("lo", v3), ("hi", v4), ("key", k1)], fun S => by rw [hK]; kernel_rfl, ?_⟩
    exact .cons ⟨rfl, r1⟩ (.cons ⟨rfl, r2⟩ (.cons ⟨rfl, r3⟩ (.cons ⟨rfl, r4⟩ (.cons ⟨rfl, s1⟩ .nil))))
  · exact br_key_body B hK kz hl hz hf hn hc fun _ => ⟨_, _, _, .inl rfl, fun m hm => hcl m (List.mem_of_mem_take hm), .drop _ rfl, by rw [List.take_length]; exact q⟩

theorem br_key2 (B : Base c) (hK : c.K = HK P) {n : Nat} {l : List V} {x : Int} {f : V} (kz : Nat → Int) (hl : σ[n]? = some l) (hz : l.length ≤ 2 ^ 20) (hf : Calls c f) (hn : isNoneV f = some false)
    (hc : ∀ i v, l[i]? = some v → CALLV c d f [v] [] σ fun r σ' => r = .int (kz i) ∧ σ' = σ) (q : Q (.int (bis (fun i => decide (x < kz i)) l.length 0 l.length)) σ) :
    CALLV c (d + 1) (.obj (.ref 56)) [.ref n, .int x] [("key", f)] σ Q := by
  refine CALL_def [("a", .ref n), ("x", .int x), ("lo", .int 0), ("hi", .none), ("key", f)] B (hK ▸ DBR P) ?_ (by dsimp only [List.map]; decide +kernel) ?_ fun hcl L => ?_
  · simp only [List.forall_mem_cons]
    exact ⟨.inl rfl, .inl rfl, .inl rfl, .inl rfl, .inl rfl, fun _ h => nomatch h⟩
  · intro h μ vs ks hv hk
    obtain ⟨v1, v2, rfl, r1, r2⟩ := args2 hv
    obtain ⟨k1, rfl, s1⟩ := args1 hk
    refine ⟨[("a", v1), ("x", v2), ("lo", .int 0 313), ("hi", .none), ("key", k1)], fun S => by rw [hK]; kernel_rfl, ?_⟩
    exact .cons ⟨rfl, r1⟩ (.cons ⟨rfl, r2⟩ (.cons ⟨rfl, _, rfl⟩ (.cons ⟨rfl, rfl⟩ (.cons ⟨rfl, s1⟩ .nil))))
  · exact br_key_body B hK kz hl hz hf hn hc fun _ => ⟨_, _, _, .inl rfl, fun m hm => hcl m (List.mem_of_mem_take hm), .drop _ rfl, by rw [List.take_length]; exact q⟩

theorem bl_key_body (B : Base c) (hK : c.K = HK P) {n : Nat} {l : List V} {x : Int} {f : V} (kz : Nat → Int) (hl : σ[n]? = some l) (hz : l.length ≤ 2 ^ 20) (hf : Calls c f) (hn : isNoneV f = some false)
    (hc : ∀ i v, l[i]? = some v → CALLV c d f [v] [] σ fun r σ' => r = .int (kz i) ∧ σ' = σ) {L : Addr} {Q1 : FV → Loc → Hp → Prop} (q : ∀ ρ', Q1 (.rt (.int (bis (fun i => !decide (kz i < x)) l.length 0 l.length))) ρ' σ) :
    SXs c d (callEnvC (fBL P) L 74) (bBL P) [("a", .ref n), ("x", .int x), ("lo", .int 0), ("hi", .none), ("key", f)] σ Q1 := by
  refine SXs_cons (SX_if ?_)
  walk_at "se"; walk_at "se"; walk_at "se"
  refine CMP_lt ⟨fun h => by simp at h, fun _ => SXs_nil ?_⟩
  refine SXs_cons (SX_if ?_)
  walk_at "se"; walk_at "se"; walk_at "se"
  refine CMP_isNone rfl ⟨fun _ => ?_, fun h => by simp at h⟩
  refine SXs_one (SX_assign rfl ?_)
  walk_at "se"
  refine SE_bi B _ rfl (by rw [hK]; kernel_rfl) rfl ?_
  walk_at "se"; walk_at "se"; walk_at "se"; walk_at "se"
  refine ⟨trivial, rfl, CALL_len_list hl ⟨.inl rfl, ?_⟩⟩
  refine SXs_cons (SX_if ?_)
  walk_at "se"; walk_at "se"; walk_at "se"
  refine CMP_isNone hn ⟨fun h => (nomatch h), fun h => ?_⟩
  refine SXs_one (WHILE (S := Nat × Nat) (fun y => [("a", .ref n), ("x", .int x), ("lo", .int y.1), ("hi", .int y.2), ("key", f)])
    (fun y σ' => σ' = σ ∧ y.1 ≤ y.2 ∧ y.2 ≤ l.length ∧ ∃ k, y.2 - y.1 ≤ k ∧ bis (fun i => !decide (kz i < x)) k y.1 y.2 = bis (fun i => !decide (kz i < x)) l.length 0 l.length) (fun y => y.2 - y.1) (0, l.length) ⟨rfl, Nat.zero_le _, Nat.le_refl _, _, Nat.le_refl _, rfl⟩ ⟨rfl, rfl, rfl, rfl, rfl, trivial⟩ ?_)
  rintro ⟨lo, hi⟩ _ ⟨rfl, h1, h2, k, h3, h4⟩
  dsimp only at h1 h2 h3 h4 ⊢
  walk_at "se"; walk_at "se"; walk_at "se"
  refine CMP_lt ⟨fun hb => ?_, fun hb => ?_⟩
  · have hlt : lo < hi := by simpa using hb
    have hk : k = k - 1 + 1 := by omega
    rw [hk, bis, if_pos hlt] at h4
    refine SXs_cons (SX_assign rfl ?_)
    walk_at "se"; walk_at "se"; walk_at "se"; walk_at "se"
    refine BIN_add ?_
    walk_at "se"
    have hmid : ((lo : Int) + (hi : Int)) / 2 = (((lo + hi) / 2 : Nat) : Int) := by omega
    have hml : (lo + hi) / 2 < l.length := by omega
    refine BIN_divs (by decide) (by decide) ?_
    rw [hmid]
    refine ⟨.inl rfl, ?_⟩
    refine SXs_one (SX_if ?_)
    walk_at "se"
    walk_at "se"
    refine SE_name (v := f) rfl ?_
    walk_at "se"; walk_at "se"; walk_at "se"; walk_at "se"
    refine GET_list hl (Int.natCast_nonneg _) (v := l[(lo + hi) / 2]) (by rw [Int.toNat_natCast]; exact List.getElem?_eq_getElem hml) ?_
    walk_at "se"; walk_at "se"
    refine ⟨hf, rfl, (hc _ _ (List.getElem?_eq_getElem hml)).mono ?_⟩
    rintro v σ₁ ⟨rfl, rfl⟩
    walk_at "se"
    refine CMP_lt ⟨fun hb2 => ?_, fun hb2 => ?_⟩
    · rw [if_neg (by rw [hb2]; decide)] at h4
      refine SXs_one (SX_assign rfl ?_)
      walk_at "se"; walk_at "se"; walk_at "se"
      exact BIN_add ⟨.inl rfl, ((lo + hi) / 2 + 1, hi), by dsimp only; omega, ⟨rfl, by dsimp only; omega, by dsimp only; omega, k - 1, by dsimp only; omega, h4⟩, rfl, rfl, rfl, rfl, rfl, trivial⟩
    · rw [if_pos (by rw [hb2]; decide)] at h4
      refine SXs_one (SX_assign rfl ?_)
      walk_at "se"
      exact ⟨.inl rfl, (lo, (lo + hi) / 2), by dsimp only; omega, ⟨rfl, by dsimp only; omega, by dsimp only; omega, k - 1, by dsimp only; omega, h4⟩, rfl, rfl, rfl, rfl, rfl, trivial⟩
  · have hge : ¬ lo < hi := by simpa using hb
    refine SXs_nil ?_
    have e : bis (fun i => !decide (kz i < x)) k lo hi = lo := by cases k <;> simp [bis, hge]
    rw [← h4, e] at q
    refine SXs_one (SX_return ?_)
    walk_at "se"
    exact q _

theorem bl_key (B : Base c) (hK : c.K = HK P) {n : Nat} {l : List V} {x : Int} {f : V} (kz : Nat → Int) (hl : σ[n]? = some l) (hz : l.length ≤ 2 ^ 20) (hf : Calls c f) (hn : isNoneV f = some false)
    (hc : ∀ i v, l[i]? = some v → CALLV c d f [v] [] σ fun r σ' => r = .int (kz i) ∧ σ' = σ) (q : Q (.int (bis (fun i => !decide (kz i < x)) l.length 0 l.length)) σ) :
    CALLV c (d + 1) (.obj (.ref 74)) [.ref n, .int x, .int 0, .none] [("key", f)] σ Q := by
  refine CALL_def [("a", .ref n), ("x", .int x), ("lo", .int 0), ("hi", .none), ("key", f)] B (hK ▸ DBL P) ?_ (by dsimp only [List.map]; decide +kernel) ?_ fun hcl L => ?_
  · simp only [List.forall_mem_cons]
    exact ⟨.inl rfl, .inl rfl, .inl rfl, .inl rfl, .inl rfl, fun _ h => nomatch h⟩
  · intro h μ vs ks hv hk
    obtain ⟨v1, v2, v3, v4, rfl, r1, r2, r3, r4⟩ := args4 hv
    obtain ⟨k1, rfl, s1⟩ := args1 hk
    refine ⟨[("a", v1), ("x", v2), ("lo", v3), ("hi", v4), ("key", k1)], fun S => by rw [hK]; kernel_rfl, ?_⟩
    exact .cons ⟨rfl, r1⟩ (.cons ⟨rfl, r2⟩ (.cons ⟨rfl, r3⟩ (.cons ⟨rfl, r4⟩ (.cons ⟨rfl, s1⟩ .nil))))
  · exact bl_key_body B hK kz hl hz hf hn hc fun _ => ⟨_, _, _, .inl rfl, fun m hm => hcl m (List.mem_of_mem_take hm), .drop _ rfl, by rw [List.take_length]; exact q⟩

theorem bl_key2 (B : Base c) (hK : c.K = HK P) {n : Nat} {l : List V} {x : Int} {f : V} (kz : Nat → Int) (hl : σ[n]? = some l) (hz : l.length ≤ 2 ^ 20) (hf : Calls c f) (hn : isNoneV f = some false)
    (hc : ∀ i v, l[i]? = some v → CALLV c d f [v] [] σ fun r σ' => r = .int (kz i) ∧ σ' = σ) (q : Q (.int (bis (fun i => !decide (kz i < x)) l.length 0 l.length)) σ) :
    CALLV c (d + 1) (.obj (.ref 74)) [.ref n, .int x] [("key", f)] σ Q := by
  refine CALL_def [("a", .ref n), ("x", .int x), ("lo", .int 0), ("hi", .none), ("key", f)] B (hK ▸ DBL P) ?_ (by dsimp only [List.map]; decide +kernel) ?_ fun hcl L => ?_
  · simp only [List.forall_mem_cons]
    exact ⟨.inl rfl, .inl rfl, .inl rfl, .inl rfl, .inl rfl, fun _ h => nomatch h⟩
  · intro h μ vs ks hv hk
    obtain ⟨v1, v2, rfl, r1, r2⟩ := args2 hv
    obtain ⟨k1, rfl, s1⟩ := args1 hk
    refine ⟨[("a", v1), ("x", v2), ("lo", .int 0 340), ("hi", .none), ("key", k1)], fun S => by rw [hK]; kernel_rfl, ?_⟩
    exact .cons ⟨rfl, r1⟩ (.cons ⟨rfl, r2⟩ (.cons ⟨rfl, _, rfl⟩ (.cons ⟨rfl, rfl⟩ (.cons ⟨rfl, s1⟩ .nil))))
  · exact bl_key_body B hK kz hl hz hf hn hc fun _ => ⟨_, _, _, .inl rfl, fun m hm => hcl m (List.mem_of_mem_take hm), .drop _ rfl, by rw [List.take_length]; exact q⟩

theorem br_none (B : Base c) (hK : c.K = HK P) {n : Nat} {l : List V} {x : Int} (kz : Nat → Int) (hl : σ[n]? = some l) (hz : l.length ≤ 2 ^ 20) 
    (hc : ∀ (i : Nat) (v : V), l[i]? = some v → v = .int (kz i)) (q : Q (.int (bis (fun i => decide (x < kz i)) l.length 0 l.length)) σ) :
    CALLV c (d + 1) (.obj (.ref 56)) [.ref n, .int x, .int 0, .none] [] σ Q := by
  refine CALL_def [("a", .ref n), ("x", .int x), ("lo", .int 0), ("hi", .none), ("key", .none)] B (hK ▸ DBR P) ?_ (by dsimp only [List.map]; decide +kernel) ?_ fun hcl L => ?_
  · simp only [List.forall_mem_cons]
    exact ⟨.inl rfl, .inl rfl, .inl rfl, .inl rfl, .inl rfl, fun _ h => nomatch h⟩
  · intro h μ vs ks hv hk
    obtain ⟨v1, v2, v3, v4, rfl, r1, r2, r3, r4⟩ := args4 hv
    obtain rfl := args0 hk
    refine ⟨[("a", v1), ("x", v2), ("lo", v3), ("hi", v4), ("key", .none)], fun S => by rw [hK]; kernel_rfl, ?_⟩
    exact .cons ⟨rfl, r1⟩ (.cons ⟨rfl, r2⟩ (.cons ⟨rfl, r3⟩ (.cons ⟨rfl, r4⟩ (.cons ⟨rfl, rfl⟩ .nil))))
  · refine SXs_cons (SX_if ?_)
    walk_at "se"; walk_at "se"; walk_at "se"
    refine CMP_lt ⟨fun h => by simp at h, fun _ => SXs_nil ?_⟩
    refine SXs_cons (SX_if ?_)
    walk_at "se"; walk_at "se"; walk_at "se"
    refine CMP_isNone rfl ⟨fun _ => ?_, fun h => by simp at h⟩
    refine SXs_one (SX_assign rfl ?_)
    walk_at "se"
    refine SE_bi B _ rfl (by rw [hK]; kernel_rfl) rfl ?_
    walk_at "se"; walk_at "se"; walk_at "se"; walk_at "se"
    refine ⟨trivial, rfl, CALL_len_list hl ⟨.inl rfl, ?_⟩⟩
    refine SXs_cons (SX_if ?_)
    walk_at "se"; walk_at "se"; walk_at "se"
    refine CMP_isNone rfl ⟨fun h => ?_, fun h => (nomatch h)⟩
    refine SXs_one (WHILE (S := Nat × Nat) (fun y => [("a", .ref n), ("x", .int x), ("lo", .int y.1), ("hi", .int y.2), ("key", .none)])
      (fun y σ' => σ' = σ ∧ y.1 ≤ y.2 ∧ y.2 ≤ l.length ∧ ∃ k, y.2 - y.1 ≤ k ∧ bis (fun i => decide (x < kz i)) k y.1 y.2 = bis (fun i => decide (x < kz i)) l.length 0 l.length) (fun y => y.2 - y.1) (0, l.length) ⟨rfl, Nat.zero_le _, Nat.le_refl _, _, Nat.le_refl _, rfl⟩ ⟨rfl, rfl, rfl, rfl, rfl, trivial⟩ ?_)
    rintro ⟨lo, hi⟩ _ ⟨rfl, h1, h2, k, h3, h4⟩
    dsimp only at h1 h2 h3 h4 ⊢
    walk_at "se"; walk_at "se"; walk_at "se"
    refine CMP_lt ⟨fun hb => ?_, fun hb => ?_⟩
    · have hlt : lo < hi := by simpa using hb
      have hk : k = k - 1 + 1 := by omega
      rw [hk, bis, if_pos hlt] at h4
      refine SXs_cons (SX_assign rfl ?_)
      walk_at "se"; walk_at "se"; walk_at "se"; walk_at "se"
      refine BIN_add ?_
      walk_at "se"
      have hmid : ((lo : Int) + (hi : Int)) / 2 = (((lo + hi) / 2 : Nat) : Int) := by omega
      have hml : (lo + hi) / 2 < l.length := by omega
      refine BIN_divs (by decide) (by decide) ?_
      rw [hmid]
      refine ⟨.inl rfl, ?_⟩
      refine SXs_one (SX_if ?_)
      walk_at "se"
      walk_at "se"
      walk_at "se"; walk_at "se"; walk_at "se"
      refine GET_list hl (Int.natCast_nonneg _) (v := .int (kz ((lo + hi) / 2))) (by rw [Int.toNat_natCast, List.getElem?_eq_getElem hml, hc _ _ (List.getElem?_eq_getElem hml)]) ?_
      refine CMP_lt ⟨fun hb2 => ?_, fun hb2 => ?_⟩
      · rw [if_pos hb2] at h4
        refine SXs_one (SX_assign rfl ?_)
        walk_at "se"
        exact ⟨.inl rfl, (lo, (lo + hi) / 2), by dsimp only; omega, ⟨rfl, by dsimp only; omega, by dsimp only; omega, k - 1, by dsimp only; omega, h4⟩, rfl, rfl, rfl, rfl, rfl, trivial⟩
      · rw [if_neg (by rw [hb2]; decide)] at h4
        refine SXs_one (SX_assign rfl ?_)
        walk_at "se"; walk_at "se"; walk_at "se"
        exact BIN_add ⟨.inl rfl, ((lo + hi) / 2 + 1, hi), by dsimp only; omega, ⟨rfl, by dsimp only; omega, by dsimp only; omega, k - 1, by dsimp only; omega, h4⟩, rfl, rfl, rfl, rfl, rfl, trivial⟩
    · have hge : ¬ lo < hi := by simpa using hb
      refine SXs_nil ?_
      have e : bis (fun i => decide (x < kz i)) k lo hi = lo := by cases k <;> simp [bis, hge]
      rw [← h4, e] at q
      refine SXs_one (SX_return ?_)
      walk_at "se"
      exact ⟨_, _, _, .inl rfl, fun m hm => hcl m (List.mem_of_mem_take hm), .drop _ rfl, by rw [List.take_length]; exact q⟩

theorem ir_key (B : Base c) (hK : c.K = HK P) {n : Nat} {l : List Int} {x : Int} {f : V} (kf : Int → Int) (hl : σ[n]? = some (l.map .int)) (hz : l.length < 2 ^ 20) (hf : Calls c f) (hn : isNoneV f = some false)
    (hc : ∀ y, y ∈ l ∨ y = x → CALLV c d f [.int y] [] σ fun r σ' => r = .int (kf y) ∧ σ' = σ) (q : Q .none (σ.set n ((l.take (bis (fun i => decide (kf x < kf (l.getD i 0))) l.length 0 l.length) ++ x :: l.drop (bis (fun i => decide (kf x < kf (l.getD i 0))) l.length 0 l.length)).map .int))) :
    CALLV c (d + 2) (.obj (.ref 47)) [.ref n, .int x] [("key", f)] σ Q := by
  refine CALL_def [("a", .ref n), ("x", .int x), ("lo", .int 0), ("hi", .none), ("key", f)] B (hK ▸ DIR P) ?_ (by dsimp only [List.map]; decide +kernel) ?_ fun hcl L => ?_
  · simp only [List.forall_mem_cons]
    exact ⟨.inl rfl, .inl rfl, .inl rfl, .inl rfl, .inl rfl, fun _ h => nomatch h⟩
  · intro h μ vs ks hv hk
    obtain ⟨v1, v2, rfl, r1, r2⟩ := args2 hv
    obtain ⟨k1, rfl, s1⟩ := args1 hk
    refine ⟨[("a", v1), ("x", v2), ("lo", .int 0 300), ("hi", .none), ("key", k1)], fun S => by rw [hK]; kernel_rfl, ?_⟩
    exact .cons ⟨rfl, r1⟩ (.cons ⟨rfl, r2⟩ (.cons ⟨rfl, _, rfl⟩ (.cons ⟨rfl, rfl⟩ (.cons ⟨rfl, s1⟩ .nil))))
  · have hget : ∀ i v, (l.map V.int)[i]? = some v → v = .int (l.getD i 0) ∧ l.getD i 0 ∈ l := by
      intro i v e
      rw [List.getElem?_map] at e
      cases e2 : l[i]? with
      | none => rw [e2] at e; cases e
      | some y => rw [e2] at e; cases e; simp only [List.getD_eq_getElem?_getD, e2, Option.getD_some]; exact ⟨trivial, List.mem_of_getElem? e2⟩
    have hnl : n < σ.length := (List.getElem?_eq_some_iff.mp hl).1
    refine SXs_cons (SX_if ?_)
    walk_at "se"; walk_at "se"; walk_at "se"
    refine CMP_isNone hn ⟨fun h => (nomatch h), fun h => ?_⟩
    refine SXs_one (SX_assign rfl ?_)
    walk_at "se"
    refine SE_gl B (.ref 56) rfl (by rw [hK]; kernel_rfl) ?_
    walk_at "se"; walk_at "se"; walk_at "se"
    walk_at "se"
    refine SE_name (v := f) rfl ?_
    walk_at "se"; walk_at "se"; walk_at "se"; walk_at "se"
    refine ⟨hf, rfl, (hc x (.inr rfl)).up.mono ?_⟩
    rintro v σ₁ ⟨rfl, rfl⟩
    walk_at "se"; walk_at "se"; walk_at "se"; walk_at "se"; walk_at "se"
    walk_at "se"
    refine SE_name (v := f) rfl ?_
    refine ⟨Calls_def B (hK ▸ DBR P), rfl, br_key B hK (fun i => kf (l.getD i 0)) hl (by rw [List.length_map]; omega) hf hn (fun i v e => ?_) ?_⟩
    · obtain ⟨rfl, hm⟩ := hget i v e
      exact hc _ (.inl hm)
    rw [List.length_map]
    have hb := bis_le (fun i => decide (kf x < kf (l.getD i 0))) l.length 0 l.length (Nat.zero_le _)
    generalize bis (fun i => decide (kf x < kf (l.getD i 0))) l.length 0 l.length = p at hb q ⊢
    refine ⟨.inl rfl, ?_⟩
    refine SXs_one (SX_expr rfl rfl ?_)
    walk_at "se"; walk_at "se"
    refine ⟨_, METH_ref F.slot_list_insert F.type_list_insert, ?_⟩
    walk_at "se"; walk_at "se"; walk_at "se"; walk_at "se"; walk_at "se"
    refine CALL_insert hl (by rw [List.length_map]; exact hb) rfl (by rw [List.length_map]; exact hz) ?_
    have e : (l.map V.int).take p ++ V.int x :: (l.map V.int).drop p = (l.take p ++ x :: l.drop p).map .int := by
      rw [List.map_append, List.map_cons, List.map_take, List.map_drop]
    rw [e]
    refine ⟨.none, _, _, .inr ⟨rfl, rfl⟩, ?_, .drop _ rfl, ?_⟩
    · rw [List.take_of_length_le (by rw [List.length_set]; exact Nat.le_refl _)]
      intro m hm
      rcases List.mem_or_eq_of_mem_set hm with hm | rfl
      · exact hcl m hm
      · exact closed_ints _ _
    · rw [List.take_of_length_le (by rw [List.length_set]; exact Nat.le_refl _)]; exact q

theorem il_key (B : Base c) (hK : c.K = HK P) {n : Nat} {l : List Int} {x : Int} {f : V} (kf : Int → Int) (hl : σ[n]? = some (l.map .int)) (hz : l.length < 2 ^ 20) (hf : Calls c f) (hn : isNoneV f = some false)
    (hc : ∀ y, y ∈ l ∨ y = x → CALLV c d f [.int y] [] σ fun r σ' => r = .int (kf y) ∧ σ' = σ) (q : Q .none (σ.set n ((l.take (bis (fun i => !decide (kf (l.getD i 0) < kf x)) l.length 0 l.length) ++ x :: l.drop (bis (fun i => !decide (kf (l.getD i 0) < kf x)) l.length 0 l.length)).map .int))) :
    CALLV c (d + 2) (.obj (.ref 65)) [.ref n, .int x] [("key", f)] σ Q := by
  refine CALL_def [("a", .ref n), ("x", .int x), ("lo", .int 0), ("hi", .none), ("key", f)] B (hK ▸ DIL P) ?_ (by dsimp only [List.map]; decide +kernel) ?_ fun hcl L => ?_
  · simp only [List.forall_mem_cons]
    exact ⟨.inl rfl, .inl rfl, .inl rfl, .inl rfl, .inl rfl, fun _ h => nomatch h⟩
  · intro h μ vs ks hv hk
    obtain ⟨v1, v2, rfl, r1, r2⟩ := args2 hv
    obtain ⟨k1, rfl, s1⟩ := args1 hk
    refine ⟨[("a", v1), ("x", v2), ("lo", .int 0 327), ("hi", .none), ("key", k1)], fun S => by rw [hK]; kernel_rfl, ?_⟩
    exact .cons ⟨rfl, r1⟩ (.cons ⟨rfl, r2⟩ (.cons ⟨rfl, _, rfl⟩ (.cons ⟨rfl, rfl⟩ (.cons ⟨rfl, s1⟩ .nil))))
  · have hget : ∀ i v, (l.map V.int)[i]? = some v → v = .int (l.getD i 0) ∧ l.getD i 0 ∈ l := by
      intro i v e
      rw [List.getElem?_map] at e
      cases e2 : l[i]? with
      | none => rw [e2] at e; cases e
      | some y => rw [e2] at e; cases e; simp only [List.getD_eq_getElem?_getD, e2, Option.getD_some]; exact ⟨trivial, List.mem_of_getElem? e2⟩
    have hnl : n < σ.length := (List.getElem?_eq_some_iff.mp hl).1
    refine SXs_cons (SX_if ?_)
    walk_at "se"; walk_at "se"; walk_at "se"
    refine CMP_isNone hn ⟨fun h => (nomatch h), fun h => ?_⟩
    refine SXs_one (SX_assign rfl ?_)
    walk_at "se"
    refine SE_gl B (.ref 74) rfl (by rw [hK]; kernel_rfl) ?_
    walk_at "se"; walk_at "se"; walk_at "se"
    walk_at "se"
    refine SE_name (v := f) rfl ?_
    walk_at "se"; walk_at "se"; walk_at "se"; walk_at "se"
    refine ⟨hf, rfl, (hc x (.inr rfl)).up.mono ?_⟩
    rintro v σ₁ ⟨rfl, rfl⟩
    walk_at "se"; walk_at "se"; walk_at "se"; walk_at "se"; walk_at "se"
    walk_at "se"
    refine SE_name (v := f) rfl ?_
    refine ⟨Calls_def B (hK ▸ DBL P), rfl, bl_key B hK (fun i => kf (l.getD i 0)) hl (by rw [List.length_map]; omega) hf hn (fun i v e => ?_) ?_⟩
    · obtain ⟨rfl, hm⟩ := hget i v e
      exact hc _ (.inl hm)
    rw [List.length_map]
    have hb := bis_le (fun i => !decide (kf (l.getD i 0) < kf x)) l.length 0 l.length (Nat.zero_le _)
    generalize bis (fun i => !decide (kf (l.getD i 0) < kf x)) l.length 0 l.length = p at hb q ⊢
    refine ⟨.inl rfl, ?_⟩
    refine SXs_one (SX_expr rfl rfl ?_)
    walk_at "se"; walk_at "se"
    refine ⟨_, METH_ref F.slot_list_insert F.type_list_insert, ?_⟩
    walk_at "se"; walk_at "se"; walk_at "se"; walk_at "se"; walk_at "se"
    refine CALL_insert hl (by rw [List.length_map]; exact hb) rfl (by rw [List.length_map]; exact hz) ?_
    have e : (l.map V.int).take p ++ V.int x :: (l.map V.int).drop p = (l.take p ++ x :: l.drop p).map .int := by
      rw [List.map_append, List.map_cons, List.map_take, List.map_drop]
    rw [e]
    refine ⟨.none, _, _, .inr ⟨rfl, rfl⟩, ?_, .drop _ rfl, ?_⟩
    · rw [List.take_of_length_le (by rw [List.length_set]; exact Nat.le_refl _)]
      intro m hm
      rcases List.mem_or_eq_of_mem_set hm with hm | rfl
      · exact hcl m hm
      · exact closed_ints _ _
    · rw [List.take_of_length_le (by rw [List.length_set]; exact Nat.le_refl _)]; exact q

theorem ir_none (B : Base c) (hK : c.K = HK P) {n : Nat} {l : List Int} {x : Int} (hl : σ[n]? = some (l.map .int)) (hz : l.length < 2 ^ 20) 
     (q : Q .none (σ.set n ((l.take (bis (fun i => decide (x < l.getD i 0)) l.length 0 l.length) ++ x :: l.drop (bis (fun i => decide (x < l.getD i 0)) l.length 0 l.length)).map .int))) :
    CALLV c (d + 2) (.obj (.ref 47)) [.ref n, .int x] [] σ Q := by
  refine CALL_def [("a", .ref n), ("x", .int x), ("lo", .int 0), ("hi", .none), ("key", .none)] B (hK ▸ DIR P) ?_ (by dsimp only [List.map]; decide +kernel) ?_ fun hcl L => ?_
  · simp only [List.forall_mem_cons]
    exact ⟨.inl rfl, .inl rfl, .inl rfl, .inl rfl, .inl rfl, fun _ h => nomatch h⟩
  · intro h μ vs ks hv hk
    obtain ⟨v1, v2, rfl, r1, r2⟩ := args2 hv
    obtain rfl := args0 hk
    refine ⟨[("a", v1), ("x", v2), ("lo", .int 0 300), ("hi", .none), ("key", .none)], fun S => by rw [hK]; kernel_rfl, ?_⟩
    exact .cons ⟨rfl, r1⟩ (.cons ⟨rfl, r2⟩ (.cons ⟨rfl, _, rfl⟩ (.cons ⟨rfl, rfl⟩ (.cons ⟨rfl, rfl⟩ .nil))))
  · have hget : ∀ i v, (l.map V.int)[i]? = some v → v = .int (l.getD i 0) ∧ l.getD i 0 ∈ l := by
      intro i v e
      rw [List.getElem?_map] at e
      cases e2 : l[i]? with
      | none => rw [e2] at e; cases e
      | some y => rw [e2] at e; cases e; simp only [List.getD_eq_getElem?_getD, e2, Option.getD_some]; exact ⟨trivial, List.mem_of_getElem? e2⟩
    have hnl : n < σ.length := (List.getElem?_eq_some_iff.mp hl).1
    refine SXs_cons (SX_if ?_)
    walk_at "se"; walk_at "se"; walk_at "se"
    refine CMP_isNone rfl ⟨fun h => ?_, fun h => (nomatch h)⟩
    refine SXs_one (SX_assign rfl ?_)
    walk_at "se"
    refine SE_gl B (.ref 56) rfl (by rw [hK]; kernel_rfl) ?_
    walk_at "se"; walk_at "se"; walk_at "se"
    walk_at "se"
    walk_at "se"; walk_at "se"; walk_at "se"; walk_at "se"; walk_at "se"
    walk_at "se"
    refine ⟨Calls_def B (hK ▸ DBR P), rfl, br_none B hK (fun i => l.getD i 0) hl (by rw [List.length_map]; omega) (fun i v e => (hget i v e).1) ?_⟩
    rw [List.length_map]
    have hb := bis_le (fun i => decide (x < l.getD i 0)) l.length 0 l.length (Nat.zero_le _)
    generalize bis (fun i => decide (x < l.getD i 0)) l.length 0 l.length = p at hb q ⊢
    refine ⟨.inl rfl, ?_⟩
    refine SXs_one (SX_expr rfl rfl ?_)
    walk_at "se"; walk_at "se"
    refine ⟨_, METH_ref F.slot_list_insert F.type_list_insert, ?_⟩
    walk_at "se"; walk_at "se"; walk_at "se"; walk_at "se"; walk_at "se"
    refine CALL_insert hl (by rw [List.length_map]; exact hb) rfl (by rw [List.length_map]; exact hz) ?_
    have e : (l.map V.int).take p ++ V.int x :: (l.map V.int).drop p = (l.take p ++ x :: l.drop p).map .int := by
      rw [List.map_append, List.map_cons, List.map_take, List.map_drop]
    rw [e]
    refine ⟨.none, _, _, .inr ⟨rfl, rfl⟩, ?_, .drop _ rfl, ?_⟩
    · rw [List.take_of_length_le (by rw [List.length_set]; exact Nat.le_refl _)]
      intro m hm
      rcases List.mem_or_eq_of_mem_set hm with hm | rfl
      · exact hcl m hm
      · exact closed_ints _ _
    · rw [List.take_of_length_le (by rw [List.length_set]; exact Nat.le_refl _)]; exact q

end

end
section
open PySem PySem.W PyProof.Rows PySem.Calls
set_option Elab.async false
set_option maxRecDepth 100000
set_option autoImplicit false
set_option linter.unusedVariables false
set_option maxHeartbeats 4000000

section
variable {c : Fx} {d : Nat} {σ : Hp} {Q : V → Hp → Prop} {P : Params}
noncomputable def fPF (P : Params) : FuncData := fdG (HK P) 82
noncomputable def bPF (P : Params) : List Stmt := bodyG (HK P) 82
theorem DPF (P : Params) : DefOk (HK P) 82 (fPF P) (bPF P) := ⟨rfl, rfl, rfl, rfl, rfl, rfl, rfl, rfl, _, rfl, by kernel_rfl⟩
theorem pf_spec (B : Base c) (hK : c.K = HK P) {n : Nat} (hn : n < 2 ^ 32) (q : Q (.str (pfText n)) σ) : CALLV c (d + 1) (.obj (.ref 82)) [.int (n : Int)] [] σ Q := by
  refine CALL_def [("flags", .int n)] B (hK ▸ DPF P) ?_ (by dsimp only [List.map]; decide +kernel) ?_ fun hcl L => ?_
  · simp only [List.forall_mem_cons]
    exact ⟨.inl rfl, fun _ h => nomatch h⟩
  · intro h μ vs ks hv hk
    obtain ⟨v1, rfl, r1⟩ := args1 hv
    obtain rfl := args0 hk
    exact ⟨[("flags", v1)], fun S => by rw [hK]; kernel_rfl, .cons ⟨rfl, r1⟩ .nil⟩
  · refine SXs_post fun Q1 hQ1 => ?_
    refine SXs_cons (SX_assign rfl ?_)
    refine SE_list ?_
    walk_at "se"
    refine ⟨rfl, Nat.zero_le _, .inl rfl, ?_⟩
    -- the end: the words are joined
    have fin : ∀ (m : Int) (ws : List Str), Txt.join ", " ws = pfText n → (ws.map (·.length)).sum + ws.length * 2 ≤ 16777216 → ∀ ρ : Loc, List.lookup (Str.ofString "names") ρ = some (V.ref σ.length) →
        SXs c d (callEnvC (fPF P) L 82) ((bPF P).drop 2) ρ (σ ++ [ws.map .str]) Q1 := by
      intro m ws e1 e2 ρ hρ
      refine SXs_one (SX_return ?_)
      walk_at "se"; walk_at "se"
      refine ⟨_, METH_str F.slot_str_join F.type_str_join, ?_⟩
      walk_at "se"
      refine SE_name hρ ?_
      walk_at "se"
      refine CALL_join (l := ws) (by rw [List.getElem?_append_right (Nat.le_refl _)]; simp) e2 ?_
      rw [e1]
      refine hQ1 _ _ _ ⟨_, _, _, .inl rfl, ?_, .drop _ rfl, ?_⟩
      · rw [List.take_left]; exact hcl
      · rw [List.take_left]; exact q
    refine SXs_cons (FOR (S := Unit) (fun k _ => [("flags", .int ((n / 2 ^ k * 2 ^ k : Nat) : Int)), ("names", .ref σ.length)]) (fun k _ σ' => σ' = σ ++ [(pfWords n k).map .str] ∧ (n ≠ 0 → n / 2 ^ k ≠ 0)) (fun _ => rfl) ?_)
    with_reducible refine SE_range B (by with_unfolding_all rfl) (by rw [hK]; kernel_rfl) (by with_unfolding_all rfl) ?_
    refine ⟨rngItems 0 32, (), ⟨rfl, by simp⟩, ⟨by simp only [Nat.pow_zero, Nat.div_one, Nat.mul_one]; rfl, rfl, trivial⟩, fun k y σ' _ _ => ⟨rfl, by decide, by decide, by decide⟩, ?_, ?_⟩
    · rintro k _ _ u hu ⟨rfl, hne⟩
      have hk : k < 32 := by
        have := (List.getElem?_eq_some_iff.mp hu).1
        simpa [rngItems] using this
      have hu' : u = .int (k : Int) := by
        unfold rngItems at hu
        rw [List.getElem?_map, List.getElem?_range (by simpa using hk)] at hu
        simpa using hu.symm
      subst hu'
      refine ⟨.inl rfl, ?_⟩
      refine SXs_cons (SX_assign rfl ?_)
      walk_at "se"; walk_at "se"; walk_at "se"
      refine BIN_shl (Int.natCast_nonneg k) (by omega) (by decide) ?_
      rw [Int.toNat_natCast, show (1 : Int) * 2 ^ k = ((2 ^ k : Nat) : Int) by rw [Int.one_mul, Int.natCast_pow]; rfl]
      refine ⟨.inl rfl, ?_⟩
      refine SXs_one (SX_if (SB_val rfl ?_))
      walk_at "se"; walk_at "se"; walk_at "se"
      refine BIN_and ?_
      rw [pf_and]
      cases hb : n.testBit k with
      | false =>
        refine TRU_int ⟨fun h => by simp at h, fun _ => SXs_nil ⟨(), ⟨by rw [pfWords_succ, hb]; simp, fun h0 h1 => hne h0 ?_⟩, ?_, rfl, trivial⟩⟩
        · have := high_step n k
          rw [hb, h1] at this
          simp only [Nat.zero_mul, Bool.toNat_false, Nat.add_zero] at this
          exact (Nat.mul_eq_zero.mp this).resolve_right (Nat.ne_of_gt (Nat.two_pow_pos k))
        · have := high_step n k
          rw [hb] at this
          simp only [Bool.toNat_false, Nat.zero_mul, Nat.add_zero] at this
          rw [← this]; rfl
      | true =>
        refine TRU_int ⟨fun _ => ?_, fun h => ?_⟩
        · refine SXs_cons (SX_expr rfl rfl ?_)
          walk_at "se"; walk_at "se"
          refine ⟨_, METH_ref F.slot_list_append F.type_list_append, ?_⟩
          walk_at "se"
          walk_at "se"
          refine SE_gl B (.ref 75) rfl (by rw [hK]; kernel_rfl) ?_
          refine ⟨_, METH_dict B (by rw [hK]; rfl) rfl rfl F.slot_dict_get F.type_dict_get, ?_⟩
          walk_at "se"; walk_at "se"; walk_at "se"; walk_at "se"
          refine SE_bi B _ rfl (by rw [hK]; kernel_rfl) rfl ?_
          walk_at "se"; walk_at "se"; walk_at "se"; walk_at "se"
          have h40 := pfHex_len k hk
          refine ⟨trivial, rfl, CALL_hex (by rw [Int.natCast_pow]; rw [sizeLine_eq]; exact Nat.le_trans h40 (by decide)) ?_⟩
          walk_at "se"
          refine CALL_dget B FLAGS (by rw [hK]; kernel_rfl) ?_
          rw [show (txtAt ((2 ^ k : Nat) : Int) FLAGS).getD (baseText "0x" 16 ((2 ^ k : Nat) : Int)) = pfWord k by rw [Int.natCast_pow]; rfl]
          walk_at "se"
          refine CALL_append (l := (pfWords n k).map .str) (by rw [List.getElem?_append_right (Nat.le_refl _)]; simp) rfl (by rw [List.length_map]; have := pfWords_len n k; omega) ?_
          have hs : (σ ++ [(pfWords n k).map V.str]).set σ.length ((pfWords n k).map V.str ++ [V.str (pfWord k)]) = σ ++ [(pfWords n (k + 1)).map .str] := by
            rw [List.set_append_right _ _ (Nat.le_refl _), pfWords_succ, hb]; simp
          rw [hs]
          refine SXs_cons (SX_aug rfl ?_)
          walk_at "se"
          refine INP_xor ?_
          rw [pf_xor n k hb]
          refine ⟨.inl rfl, ?_⟩
          refine SXs_one (SX_if (SB_not (SB_val rfl ?_)))
          walk_at "se"
          refine TRU_int ⟨fun h => ?_, fun h => ?_⟩
          · have hz : n / 2 ^ (k + 1) = 0 := by
              have h0 : ((n / 2 ^ (k + 1) * 2 ^ (k + 1) : Nat) : Int) = 0 := by simpa using h
              have h1 : n / 2 ^ (k + 1) * 2 ^ (k + 1) = 0 := by omega
              exact (Nat.mul_eq_zero.mp h1).resolve_right (Nat.ne_of_gt (Nat.two_pow_pos _))
            have hn0 : n ≠ 0 := fun e => by rw [e] at hb; simp at hb
            have hw := pfWords_high n (k + 1) 32 hz (by omega)
            refine SXs_one (SX_break ?_)
            refine fin 0 _ ?_ ?_ _ rfl
            · unfold pfText; rw [if_neg hn0, hw]
            · have h1 := pfWords_sum n (k + 1) (by omega)
              have h2 := pfWords_len n (k + 1)
              omega
          · have hz : n / 2 ^ (k + 1) ≠ 0 := fun e => by rw [e] at h; simp at h
            exact SXs_nil ⟨(), ⟨rfl, fun _ => hz⟩, rfl, rfl, trivial⟩
        · exfalso
          have h1 : ((true.toNat * 2 ^ k : Nat) : Int) = 0 := by simpa using h
          have h2 := Nat.two_pow_pos k
          simp only [Bool.toNat_true, Nat.one_mul] at h1
          omega
    · rintro _ _ ⟨rfl, hne⟩
      have hlen : (rngItems 0 32).length = 32 := rfl
      rw [hlen] at hne ⊢
      have hz : n / 2 ^ 32 = 0 := Nat.div_eq_of_lt hn
      have hn0 : n = 0 := Classical.byContradiction fun h => hne h hz
      subst hn0
      have hw : pfWords 0 32 = [] := by decide
      rw [hw]
      refine SXs_one (SX_expr rfl rfl ?_)
      walk_at "se"; walk_at "se"
      refine ⟨_, METH_ref F.slot_list_append F.type_list_append, ?_⟩
      walk_at "se"
      with_reducible refine SE_bi1 (v := .builtin "hex") B (by with_unfolding_all rfl) (by rw [hK]; kernel_rfl) (by with_unfolding_all rfl) (by with_unfolding_all rfl) (by with_unfolding_all rfl) (by decide +kernel) (by decide +kernel) (by decide +kernel) (by with_unfolding_all exact trivial) ?_
      refine CALL_hex (by decide +kernel) ?_
      walk_at "se"
      refine CALL_append (l := []) (by rw [List.getElem?_append_right (Nat.le_refl _)]; simp) rfl (by decide) ?_
      have hs : (σ ++ [List.map V.str []]).set σ.length ([] ++ [V.str (baseText "0x" 16 ((0 / 2 ^ 32 * 2 ^ 32 : Nat) : Int))]) = σ ++ [[baseText "0x" 16 0].map .str] := by
        rw [List.set_append_right _ _ (Nat.le_refl _)]; simp
      rw [hs]
      exact fin 0 _ rfl (by decide +kernel) _ rfl

end

end
section
open PySem PySem.W PyProof.Rows PySem.Calls
set_option Elab.async false
set_option maxRecDepth 100000
set_option autoImplicit false
set_option linter.unusedVariables false
set_option maxHeartbeats 4000000

section
variable {c : Fx} {d : Nat} {σ : Hp} {Q : V → Hp → Prop} {P : Params}
noncomputable def fEM (P : Params) : FuncData := fdG (HK P) 38
noncomputable def bEM (P : Params) : List Stmt := bodyG (HK P) 38
theorem DEM (P : Params) : DefOk (HK P) 38 (fEM P) (bEM P) := ⟨rfl, rfl, rfl, rfl, rfl, rfl, rfl, rfl, _, rfl, by kernel_rfl⟩
/-! the match, as a function of the parts -/
noncomputable def emLoop (got : Str) : List Str → Int → Int → Bool
  | [], _, _ => true
  | w :: r, s, e => if find4 got w s e < 0 then false else emLoop got r (find4 got w s e + w.length) e
noncomputable def emEnd (got : Str) (ws : List Str) (s e : Int) : Bool := if e < s then false else emLoop got ws s e
noncomputable def emMid (got : Str) (ws : List Str) (s : Int) : Bool := match ws.getLast? with
  | none => false
  | some w => if (w.length : Int) != 0 then (if Txt.endswith got w then emEnd got ws.dropLast s (got.length - w.length) else false) else emEnd got ws s got.length
noncomputable def em (got : Str) : List Str → Bool
  | [] => false
  | w :: r => if (w.length : Int) != 0 then (if Txt.startswith got w then emMid got r w.length else false) else emMid got (w :: r) 0

theorem em_spec (B : Base c) (hK : c.K = HK P) {want got : Str} (hc : Txt.contains want "..." = true) (hz : want.length + 2 ≤ 2 ^ 20) (hg : got.length ≤ 2 ^ 20) (h2 : 2 ≤ (Txt.split want "...").length) (h3 : (Txt.split want "...").length ≤ 2 ^ 20) (h4 : ∀ w ∈ Txt.split want "...", w.length ≤ 2 ^ 20)
    (q : Q (.bool (em got (Txt.split want "..."))) σ) : CALLV c (d + 1) (.obj (.ref 38)) [.str want, .str got] [] σ Q := by
  refine CALL_def [("want", .str want), ("got", .str got)] B (hK ▸ DEM P) ?_ (by dsimp only [List.map]; decide +kernel) ?_ fun hcl L => ?_
  · simp only [List.forall_mem_cons]
    exact ⟨.inl rfl, .inl rfl, fun _ h => nomatch h⟩
  · intro h μ vs ks hv hk
    obtain ⟨v1, v2, rfl, r1, r2⟩ := args2 hv
    obtain rfl := args0 hk
    exact ⟨[("want", v1), ("got", v2)], fun S => by rw [hK]; kernel_rfl, .cons ⟨rfl, r1⟩ (.cons ⟨rfl, r2⟩ .nil)⟩
  · refine SXs_post fun Q1 hQ1 => ?_
    generalize hws : Txt.split want "..." = ws at h2 h3 h4 q
    have hat : ∀ l : List V, (σ ++ [l])[σ.length]? = some l := fun l => by rw [List.getElem?_append_right (Nat.le_refl _)]; simp
    have hset : ∀ l l' : List V, (σ ++ [l]).set σ.length l' = σ ++ [l'] := fun l l' => by rw [List.set_append_right _ _ (Nat.le_refl _)]; simp
    -- the end of a walk
    have ret : ∀ (b : Bool) (l : List V), b = em got ws → ∃ v v'' σ'', (FV.rt (.bool b) = .rt v ∨ (FV.rt (.bool b) = .nx ∧ v = .none)) ∧ (∀ m ∈ (σ ++ [l]).take σ.length, Closed σ.length m) ∧ Exit σ.length (σ ++ [l]) v v'' σ'' ∧ Q v'' σ'' := by
      rintro b l rfl
      exact ⟨_, _, _, .inl rfl, by rw [List.take_left]; exact hcl, .drop _ rfl, by rw [List.take_left]; exact q⟩
    refine SXs_cons (SX_if ?_)
    walk_at "se"
    refine SE_gls B "..." 284 rfl (by rw [hK]; kernel_rfl) ?_
    walk_at "se"
    refine CMP_notInStr ?_
    rw [hc]
    refine ⟨fun h => by simp at h, fun _ => SXs_nil ?_⟩
    refine SXs_cons (SX_assign rfl ?_)
    walk_at "se"; walk_at "se"
    refine ⟨_, METH_str F.slot_str_split F.type_str_split, ?_⟩
    walk_at "se"
    refine SE_gls B "..." 284 rfl (by rw [hK]; kernel_rfl) ?_
    walk_at "se"
    refine CALL_split (by decide +kernel) hz (by rw [hws]; exact h3) ?_
    rw [hws]
    refine ⟨.inl rfl, ?_⟩
    refine SXs_cons (SX_assert ?_)
    walk_at "se"
    with_reducible refine SE_bi1 (v := .builtin "len") B (by with_unfolding_all rfl) (by rw [hK]; kernel_rfl) (by with_unfolding_all rfl) (by with_unfolding_all rfl) (by with_unfolding_all rfl) (by decide +kernel) (by decide +kernel) (by decide +kernel) (by with_unfolding_all exact trivial) ?_
    refine CALL_len_list (hat _) ?_
    walk_at "se"
    refine CMP_ge ⟨by rw [List.length_map]; exact decide_eq_true (by omega), ?_⟩
    refine SXs_cons (SX_two rfl rfl ?_)
    refine SE_tuple ?_
    walk_at "se"; walk_at "se"; walk_at "se"
    with_reducible refine SE_bi1 (v := .builtin "len") B (by with_unfolding_all rfl) (by rw [hK]; kernel_rfl) (by with_unfolding_all rfl) (by with_unfolding_all rfl) (by with_unfolding_all rfl) (by decide +kernel) (by decide +kernel) (by decide +kernel) (by with_unfolding_all exact trivial) ?_
    refine CALL_len_str (by omega) ?_
    walk_at "se"
    refine ⟨rfl, by show (2 : Nat) ≤ 2 ^ 20; decide, _, _, rfl, .inl rfl, .inl rfl, ?_⟩
    -- the last part
    have fend : ∀ (us : List Str) (s e : Int), (∀ w ∈ us, w.length ≤ 2 ^ 20) → emEnd got us s e = em got ws → ∀ ρ : Loc, Has ρ [("got", .str got), ("ws", .ref σ.length), ("startpos", .int s), ("endpos", .int e)] →
        SXs c d (callEnvC (fEM P) L 38) ((bEM P).drop 8) ρ (σ ++ [us.map .str]) Q1 := by
      intro us s e hu he ρ hρ
      refine SXs_has _ hρ ?_
      refine SXs_cons (SX_if ?_)
      walk_at "se"; walk_at "se"; walk_at "se"
      unfold emEnd at he
      refine CMP_gt ⟨fun h => ?_, fun h => SXs_nil ?_⟩
      · refine SXs_one (SX_return ?_)
        walk_at "se"
        rw [if_pos (by simpa using h)] at he
        exact hQ1 _ _ _ (ret _ _ he)
      · rw [if_neg (by simpa using h)] at he
        refine SXs_cons (FOR (S := Int) (fun k y => [("got", .str got), ("startpos", .int y), ("endpos", .int e)]) (fun k y σ' => σ' = σ ++ [us.map .str] ∧ emLoop got (us.drop k) y e = em got ws) (fun _ => rfl) ?_)
        walk_at "se"
        refine ⟨us.map .str, s, ⟨rfl, he⟩, ⟨rfl, rfl, rfl, trivial⟩, fun k y σ' _ ⟨h, _⟩ => by subst h; exact hat _, ?_, ?_⟩
        · rintro k y _ u hu9 ⟨rfl, hy⟩
          obtain ⟨w, hw, rfl⟩ : ∃ w, us[k]? = some w ∧ V.str w = u := by
            rw [List.getElem?_map] at hu9
            cases e : us[k]? with
            | none => rw [e] at hu9; cases hu9
            | some w => rw [e] at hu9; exact ⟨w, rfl, by simpa using hu9⟩
          have hk := (List.getElem?_eq_some_iff.mp hw)
          rw [List.drop_eq_getElem_cons hk.1, hk.2, emLoop] at hy
          refine ⟨.inl rfl, ?_⟩
          refine SXs_cons (SX_assign rfl ?_)
          walk_at "se"; walk_at "se"
          refine ⟨_, METH_str F.slot_str_find F.type_str_find, ?_⟩
          walk_at "se"; walk_at "se"; walk_at "se"; walk_at "se"; walk_at "se"; walk_at "se"; walk_at "se"
          refine CALL_find4 ⟨.inl rfl, ?_⟩
          refine SXs_cons (SX_if ?_)
          walk_at "se"; walk_at "se"; walk_at "se"
          refine CMP_lt ⟨fun h => ?_, fun h => SXs_nil ?_⟩
          · refine SXs_one (SX_return ?_)
            walk_at "se"
            rw [if_pos (by simpa using h)] at hy
            exact hQ1 _ _ _ (ret _ _ hy)
          · rw [if_neg (by simpa using h)] at hy
            refine SXs_one (SX_aug rfl ?_)
            with_reducible refine SE_bi1 (v := .builtin "len") B (by with_unfolding_all rfl) (by rw [hK]; kernel_rfl) (by with_unfolding_all rfl) (by with_unfolding_all rfl) (by with_unfolding_all rfl) (by decide +kernel) (by decide +kernel) (by decide +kernel) (by with_unfolding_all exact trivial) ?_
            refine CALL_len_str (by have := hu w (List.mem_of_getElem? hw); omega) ?_
            exact INP_add ⟨.inl rfl, _, ⟨rfl, hy⟩, rfl, rfl, rfl, trivial⟩
        · rintro y _ ⟨rfl, hy⟩
          refine SXs_nil ?_
          refine SXs_one (SX_return ?_)
          walk_at "se"
          rw [List.length_map, List.drop_length] at hy
          exact hQ1 _ _ _ (ret _ _ hy)
    -- the part behind
    have fmid : ∀ (us : List Str) (s : Int), us ≠ [] → us.length ≤ 2 ^ 20 → (∀ w ∈ us, w.length ≤ 2 ^ 20) → emMid got us s = em got ws → ∀ ρ : Loc, Has ρ [("got", .str got), ("ws", .ref σ.length), ("startpos", .int s), ("endpos", .int got.length)] →
        SXs c d (callEnvC (fEM P) L 38) ((bEM P).drop 6) ρ (σ ++ [us.map .str]) Q1 := by
      intro us s hne hu hul he ρ hρ
      refine SXs_has _ hρ ?_
      obtain ⟨init, w, rfl⟩ : ∃ init w, us = init ++ [w] := ⟨us.dropLast, us.getLast hne, (List.dropLast_concat_getLast hne).symm⟩
      have hw : w.length ≤ 2 ^ 20 := hul w (by simp)
      have hlen : (init ++ [w]).length = init.length + 1 := by simp
      unfold emMid at he
      rw [List.getLast?_concat] at he
      simp only [List.dropLast_concat] at he
      refine SXs_cons (SX_assign rfl ?_)
      walk_at "se"; walk_at "se"
      refine SE_neg ?_
      walk_at "se"
      refine ⟨1, rfl, GET_list_neg (v := .str w) (hat _) (by decide) (by rw [List.length_map, hlen]; omega) ?_ ⟨.inl rfl, ?_⟩⟩
      · rw [List.length_map, hlen, show ((-1 : Int) + ((init.length + 1 : Nat) : Int)).toNat = init.length by omega]
        simp
      refine SXs_cons (SX_if (SB_val rfl ?_))
      walk_at "se"
      refine TRU_str (by omega) ⟨fun h => ?_, fun h => SXs_nil ?_⟩
      · rw [if_pos h] at he
        refine SXs_one (SX_if (SB_val rfl ?_))
        walk_at "se"; walk_at "se"
        refine ⟨_, METH_str F.slot_str_endswith F.type_str_endswith, ?_⟩
        walk_at "se"; walk_at "se"; walk_at "se"
        refine CALL_endswith (TRU_bool ⟨fun h5 => ?_, fun h5 => ?_⟩)
        · rw [if_pos h5] at he
          refine SXs_cons (SX_aug rfl ?_)
          with_reducible refine SE_bi1 (v := .builtin "len") B (by with_unfolding_all rfl) (by rw [hK]; kernel_rfl) (by with_unfolding_all rfl) (by with_unfolding_all rfl) (by with_unfolding_all rfl) (by decide +kernel) (by decide +kernel) (by decide +kernel) (by with_unfolding_all exact trivial) ?_
          refine CALL_len_str (by omega) ?_
          refine INP_sub ⟨.inl rfl, ?_⟩
          refine SXs_one (SX_del ?_)
          walk_at "se"
          refine ⟨_, rfl, ?_⟩
          refine SE_neg ?_
          walk_at "se"
          refine ⟨1, rfl, -1, _, init.length, rfl, hat _, ?_, by decide, ?_⟩
          · unfold seqIndex?
            rw [List.length_map, hlen]
            simp only [show ((-1 : Int) < 0) by decide, if_true]
            rw [if_pos (by simp only [Bool.and_eq_true, decide_eq_true_eq]; omega)]
            congr 1
            omega
          · rw [hset]
            have e9 : ((init ++ [w]).map V.str).eraseIdx init.length = init.map .str := by
              rw [List.map_append, List.eraseIdx_append_of_length_le (by simp)]
              simp
            rw [e9]
            exact fend _ _ _ (fun x hx => hul x (by simp [hx])) he _ ⟨rfl, rfl, rfl, rfl, trivial⟩
        · rw [if_neg (by rw [h5]; decide)] at he
          refine SXs_one (SX_return ?_)
          walk_at "se"
          exact hQ1 _ _ _ (ret _ _ he)
      · rw [if_neg (by rw [h]; decide)] at he
        exact fend _ _ _ hul he _ ⟨rfl, rfl, rfl, rfl, trivial⟩
    -- the part ahead
    obtain ⟨w, rest, rfl⟩ : ∃ w rest, ws = w :: rest := by
      cases ws with
      | nil => simp at h2
      | cons w r => exact ⟨w, r, rfl⟩
    have hw : w.length ≤ 2 ^ 20 := h4 w (.head _)
    have hrest : rest ≠ [] := fun e => by rw [e] at h2; simp at h2
    refine SXs_cons (SX_assign rfl ?_)
    walk_at "se"; walk_at "se"; walk_at "se"
    refine GET_list (v := .str w) (hat _) (by decide) rfl ⟨.inl rfl, ?_⟩
    refine SXs_cons (SX_if (SB_val rfl ?_))
    walk_at "se"
    refine TRU_str (by omega) ⟨fun h => ?_, fun h => SXs_nil ?_⟩
    · refine SXs_one (SX_if (SB_val rfl ?_))
      walk_at "se"; walk_at "se"
      refine ⟨_, METH_str F.slot_str_startswith F.type_str_startswith, ?_⟩
      walk_at "se"; walk_at "se"; walk_at "se"
      refine CALL_startswith (TRU_bool ⟨fun h5 => ?_, fun h5 => ?_⟩)
      · refine SXs_cons (SX_assign rfl ?_)
        with_reducible refine SE_bi1 (v := .builtin "len") B (by with_unfolding_all rfl) (by rw [hK]; kernel_rfl) (by with_unfolding_all rfl) (by with_unfolding_all rfl) (by with_unfolding_all rfl) (by decide +kernel) (by decide +kernel) (by decide +kernel) (by with_unfolding_all exact trivial) ?_
        refine CALL_len_str (by omega) ⟨.inl rfl, ?_⟩
        refine SXs_one (SX_del ?_)
        walk_at "se"
        refine ⟨_, rfl, ?_⟩
        walk_at "se"
        refine ⟨0, _, 0, rfl, hat _, by unfold seqIndex?; simp, by decide, ?_⟩
        rw [hset]
        refine fmid rest w.length hrest (by simp only [List.length_cons] at h3; omega) (fun x hx => h4 x (.tail _ hx)) ?_ _ ⟨rfl, rfl, rfl, rfl, trivial⟩
        rw [em, if_pos h, if_pos h5]
      · refine SXs_one (SX_return ?_)
        walk_at "se"
        exact hQ1 _ _ _ (ret _ _ (by rw [em, if_pos h, if_neg (by rw [h5]; decide)]))
    · refine fmid (w :: rest) 0 (by simp) h3 h4 ?_ _ ⟨rfl, rfl, rfl, rfl, trivial⟩
      rw [em, if_neg (by rw [h]; decide)]

end

end
section
open PySem PySem.W PyProof.Rows PySem.Calls
set_option Elab.async false
set_option maxRecDepth 100000
set_option autoImplicit false
set_option linter.unusedVariables false
set_option maxHeartbeats 4000000

section
variable {c : Fx} {d : Nat} {σ : Hp} {Q : V → Hp → Prop} {P : Params}
noncomputable def fQD (P : Params) : FuncData := fdG (HK P) 99
noncomputable def bQD (P : Params) : List Stmt := bodyG (HK P) 99
theorem DQD (P : Params) : DefOk (HK P) 99 (fQD P) (bQD P) := ⟨rfl, rfl, rfl, rfl, rfl, rfl, rfl, rfl, _, rfl, by kernel_rfl⟩
theorem qd_spec (B : Base c) (hK : c.K = HK P) {rows : List (List Nat × List Nat)} {x : Str} (h : ∀ p ∈ rows, rowOk p.1 ∧ (p.2 = [10] ∨ p.2 = [13] ∨ p.2 = [13, 10])) (hx : x.cps.toList = (rows.map fun p => p.1 ++ p.2).flatten)
    (hz : x.cps.size ≤ 2 ^ 20) (hz2 : (crlf (rows.map (·.1))).length ≤ 2 ^ 20) (q : Q (.str ⟨(crlf ((rows.map (·.1)).map dotted)).toArray⟩) σ) : CALLV c (d + 1) (.obj (.ref 99)) [.str x] [] σ Q := by
  refine CALL_def [("data", .str x)] B (hK ▸ DQD P) ?_ (by dsimp only [List.map]; decide +kernel) ?_ fun hcl L => ?_
  · simp only [List.forall_mem_cons]
    exact ⟨.inl rfl, fun _ h => nomatch h⟩
  · intro h μ vs ks hv hk
    obtain ⟨v1, rfl, r1⟩ := args1 hv
    obtain rfl := args0 hk
    exact ⟨[("data", v1)], fun S => by rw [hK]; kernel_rfl, .cons ⟨rfl, r1⟩ .nil⟩
  · refine SXs_one (SX_return ?_)
    walk_at "se"
    refine SE_gl B (.ref 87) rfl (by rw [hK]; kernel_rfl) ?_
    refine ⟨_, METH_re B (code := C1) (by rw [hK]; kernel_rfl) slot_re_sub type_re_sub, ?_⟩
    walk_at "se"; walk_at "se"; walk_at "se"; walk_at "se"
    refine SE_gl B (.ref 92) rfl (by rw [hK]; kernel_rfl) ?_
    refine ⟨_, METH_re B (code := C2) (by rw [hK]; kernel_rfl) slot_re_sub type_re_sub, ?_⟩
    walk_at "se"
    refine SE_gls B "\r\n" 457 rfl (by rw [hK]; kernel_rfl) ?_
    walk_at "se"; walk_at "se"; walk_at "se"
    refine CALL_sub2 B (by rw [hK]; kernel_rfl) hz (by decide +kernel) (by decide +kernel) fun r2 h2 => ?_
    walk_at "se"
    have e2 : r2 = crlf (rows.map (·.1)) := by
      have e := sub_norm h2
      rw [List.drop_zero, hx, norm_rows rows h] at e
      exact e
    refine CALL_sub1 B (by rw [hK]; kernel_rfl) (by show r2.toArray.size ≤ _; rw [List.size_toArray, e2]; exact hz2) (by decide +kernel) (by decide +kernel) fun r1 h1 => ?_
    have e1 := quote_rows h hx h2 h1
    rw [e1]
    exact ⟨_, _, _, .inl rfl, fun m hm => hcl m (List.mem_of_mem_take hm), .drop _ rfl, by rw [List.take_length]; exact q⟩

end

end
section
open PySem PySem.W PyProof.Rows PySem.Calls
set_option Elab.async false
set_option maxRecDepth 100000
set_option autoImplicit false
set_option linter.unusedVariables false
theorem fa0 {α : Type} {P : α → Prop} : ∀ p ∈ ([] : List α), P p := fun _ h => nomatch h
theorem fa {α : Type} {P : α → Prop} {a : α} {l : List α} (h : P a) (t : ∀ p ∈ l, P p) : ∀ p ∈ a :: l, P p := List.forall_mem_cons.mpr ⟨h, t⟩
theorem tk_le {σ₀ σ : Hp} (h : σ.take σ₀.length = σ₀) : σ₀.length ≤ σ.length := by
  have := congrArg List.length h
  rw [List.length_take] at this; omega
theorem tk_app {σ₀ σ τ : Hp} (h : σ.take σ₀.length = σ₀) : (σ ++ τ).take σ₀.length = σ₀ := by
  rw [List.take_append_of_le_length (tk_le h)]; exact h
theorem tk_set {σ₀ σ : Hp} {n : Nat} {l : List V} (h : σ.take σ₀.length = σ₀) (hn : σ₀.length ≤ n) : (σ.set n l).take σ₀.length = σ₀ := by
  rw [List.take_set_of_le hn]; exact h
theorem at_lt {σ : Hp} {n : Nat} {l : List V} (h : σ[n]? = some l) : n < σ.length := (List.getElem?_eq_some_iff.mp h).1
theorem at_ne {σ : Hp} {n m : Nat} {l x : List V} (h : σ[n]? = some l) (hn : m ≠ n) : (σ.set m x)[n]? = some l := by
  rw [List.getElem?_set_ne hn]; exact h
theorem at_self {σ : Hp} {n : Nat} {l x : List V} (h : σ[n]? = some l) : (σ.set n x)[n]? = some x := List.getElem?_set_self (at_lt h)
/-- how the law ends: True, and what it had is as it was -/
noncomputable def QT (σ₀ : Hp) : FV → Loc → Hp → Prop := fun f _ σ' => f = .rt (.bool true) ∧ σ'.take σ₀.length = σ₀
theorem int_item {l : List Int} {k : Nat} {u : V} (hu : (l.map V.int)[k]? = some u) : k < l.length ∧ u = .int (l.getD k 0) := by
  rw [List.getElem?_map] at hu
  cases e : l[k]? with
  | none => rw [e] at hu; cases hu
  | some x =>
    rw [e] at hu
    obtain ⟨h, e2⟩ := List.getElem?_eq_some_iff.mp e
    refine ⟨h, ?_⟩
    rw [List.getD_eq_getElem?_getD, e]
    simpa using hu.symm
theorem str_item {l : List (List Nat)} {k : Nat} {u : V} (hu : (l.map fun r => V.str (S r))[k]? = some u) : k < l.length ∧ u = .str (S (l.getD k [])) := by
  rw [List.getElem?_map] at hu
  cases e : l[k]? with
  | none => rw [e] at hu; cases hu
  | some x =>
    rw [e] at hu
    obtain ⟨h, e2⟩ := List.getElem?_eq_some_iff.mp e
    refine ⟨h, ?_⟩
    rw [List.getD_eq_getElem?_getD, e]
    simpa using hu.symm
theorem take_map_snoc {α β : Type} {l : List α} {k : Nat} (d : α) (f : α → β) (h : k < l.length) : (l.take k).map f ++ [f (l.getD k d)] = (l.take (k + 1)).map f := by
  rw [List.take_succ_eq_append_getElem h, List.map_append, List.getD_eq_getElem?_getD, List.getElem?_eq_getElem h]; rfl
theorem SE_sliceT {c : Fx} {d : Nat} {env : Env} {ρ : Loc} {σ : Hp} {value : Expr} {lower upper : Option Expr} {p pos : Pos} {Q : V → Hp → Prop} {T id : String} (hl : typeLookup (.type T) "__getitem__" = pure (some (.builtin id)))
    (h : SE c d env value ρ σ fun o σ₁ => SP c d env lower ρ σ₁ fun l σ₂ => SP c d env upper ρ σ₂ fun u σ₃ => GSL c d T o l u σ₃ Q) :
    SE c d env (.Subscript value (.Slice lower upper none p) pos) ρ σ Q := fun A E s μ ha hi he => by
  rw [eval_Subscript]
  refine wpAny_bind (wp_seq (h A E s μ ha hi he) fun o vo σ₁ μ₁ s₁ q r x => ?_)
  refine wpAny_bind (wpAny_holding ?_)
  refine wpAny_Slice (wpAny_mono (q A E s₁ μ₁ ha x.inv (he.mono x.ev x.pre)) (fun vl s₂ ⟨l, σ₂, μ₂, q₂, r₂, x₂⟩ => ?_) fun _ _ e => e)
  refine wpAny_mono (q₂ A E s₂ μ₂ ha x₂.inv (he.mono (x.trans x₂).ev (x.trans x₂).pre)) (fun vu s₃ ⟨u, σ₃, μ₃, q₃, r₃, x₃⟩ => ?_) fun _ _ e => e
  rw [evalPart_none]
  refine wpAny_pure ?_
  refine wpAny_bind (wpAny_standAt ?_)
  have xx := (x.trans x₂).trans x₃
  obtain ⟨hT, hg⟩ := q₃ A E s₃ μ₃ vo vl vu ha x₃.inv (r.mono (x₂.trans x₃).ev (x₂.trans x₃).pre) r₂ r₃
  exact tail_any (TypeIs.ev hT fun _ _ e => Heap.get?_push_of_some _ e) hl (wpAny_mono hg (fun _ _ p => Post.trans xx p) fun _ _ e => e) rfl

end
section
open PySem PySem.W PyProof.Rows PySem.Calls
set_option Elab.async false
set_option maxRecDepth 100000
set_option autoImplicit false
set_option linter.unusedVariables false
set_option maxHeartbeats 1000000

section
variable {c : Fx} {d : Nat} {σ : Hp} {Q : V → Hp → Prop} {P : Params}
noncomputable def fBAL (P : Params) : FuncData := fdG (HK P) 106
noncomputable def bBAL (P : Params) : List Stmt := bodyG (HK P) 106
theorem DBAL (P : Params) : DefOk (HK P) 106 (fBAL P) (bBAL P) := ⟨rfl, rfl, rfl, rfl, rfl, rfl, rfl, rfl, _, rfl, by kernel_rfl⟩
/-- a ballot from its last place up -/
noncomputable def balGo (n : Int) : Nat → Int × Int × List Int
  | 0 => (0, 4, [])
  | k + 1 => if n / 2 ^ k % 2 = 1 then ((balGo n k).1, (balGo n k).2.1 - 1, (balGo n k).2.1 :: (balGo n k).2.2) else ((balGo n k).1 + 1, (balGo n k).2.1, (balGo n k).1 :: (balGo n k).2.2)
noncomputable def ballot (n : Int) : List Int := (balGo n 4).1 :: (balGo n 4).2.2
theorem balGo_len (n : Int) : ∀ k, (balGo n k).2.2.length = k
  | 0 => rfl
  | k + 1 => by unfold balGo; split <;> simp [balGo_len n k]
theorem bal_spec (B : Base c) (hK : c.K = HK P) {n : Int} (q : Q (.ref σ.length) (σ ++ [(ballot n).map .int])) : CALLV c (d + 1) (.obj (.ref 106)) [.int n] [] σ Q := by
  refine CALL_def [("number", .int n)] B (hK ▸ DBAL P) ?_ (by dsimp only [List.map]; decide +kernel) ?_ fun hcl L => ?_
  · simp only [List.forall_mem_cons]
    exact ⟨.inl rfl, fun _ h => nomatch h⟩
  · intro h μ vs ks hv hk
    obtain ⟨v1, rfl, r1⟩ := args1 hv
    obtain rfl := args0 hk
    exact ⟨[("number", v1)], fun S => by rw [hK]; kernel_rfl, .cons ⟨rfl, r1⟩ .nil⟩
  · refine SXs_post fun Q1 hQ1 => ?_
    refine SXs_cons (SX_assign rfl ?_)
    walk_at "se"
    refine ⟨.inl rfl, ?_⟩
    refine SXs_cons (SX_assign rfl ?_)
    walk_at "se"
    refine ⟨.inl rfl, ?_⟩
    refine SXs_cons (SX_assign rfl ?_)
    refine SE_list ?_
    walk_at "se"
    refine ⟨rfl, Nat.zero_le _, .inl rfl, ?_⟩
    refine SXs_cons (FOR (S := Nat) (fun k nb => [("number", .int n), ("low", .int (balGo n k).1), ("high", .int (balGo n k).2.1), ("ballot", .ref nb)])
      (fun k nb σ' => σ'.take σ.length = σ ∧ σ.length ≤ nb ∧ σ'[nb]? = some ((balGo n k).2.2.map .int)) (fun _ => rfl) ?_)
    walk_at "se"
    refine SE_bi B _ rfl (by rw [hK]; kernel_rfl) rfl ?_
    walk_at "se"; walk_at "se"; walk_at "se"; walk_at "se"
    refine ⟨trivial, rfl, CALL_range1 ⟨rngItems (0 : Nat) (4 : Nat), σ.length, ⟨by rw [List.take_left], Nat.le_refl _, at_end _⟩, ⟨rfl, rfl, rfl, rfl, trivial⟩, fun k y σ' _ _ => rng_items (by decide) (by decide), ?_, ?_⟩⟩
    · rintro k nb σ' u hu ⟨htk, hge, hb⟩
      obtain ⟨rfl, hk⟩ := rng0_item hu
      have hk4 : k < 4 := by omega
      have hl := balGo_len n k
      refine ⟨.inl rfl, SXs_post fun Q2 hQ2 => ?_⟩
      refine SXs_one (SX_if ?_)
      walk_at "se"; walk_at "se"; walk_at "se"; walk_at "se"; walk_at "se"; walk_at "se"; walk_at "se"
      refine BIN_pow (Int.natCast_nonneg _) (by omega) (by decide) ?_
      rw [Int.toNat_natCast]
      have h2 : (0 : Int) < 2 ^ k := Int.pow_pos (by decide)
      have h3 : (2 : Int) ^ k < 1073741824 := by
        have : ∀ j, j < 4 → (2 : Int) ^ j < 1073741824 := by decide
        exact this k hk4
      refine BIN_divs h2 h3 ?_
      walk_at "se"
      refine BIN_mods (by decide) ?_
      walk_at "se"
      refine CMP_eq ⟨fun h => ?_, fun h => ?_⟩
      · have h' : n / 2 ^ k % 2 = 1 := by simpa using h
        refine SXs_cons (SX_assign rfl ?_)
        walk_at "se"
        refine SE_list ?_
        walk_at "se"; walk_at "se"; walk_at "se"
        refine ⟨rfl, by show (1 : Nat) ≤ 2 ^ 20; decide, ?_⟩
        walk_at "se"
        refine BIN_catl (at_end _) (at_old hb) (by rw [List.length_map, hl]; show 1 + k ≤ _; omega) ⟨.inl rfl, ?_⟩
        refine SXs_one (SX_aug rfl ?_)
        walk_at "se"
        refine INP_sub ⟨.inl rfl, hQ2 _ _ _ ⟨(σ' ++ [[V.int (balGo n k).2.1]]).length, ⟨tk_app (tk_app htk), ?_, ?_⟩, rfl, ?_, ?_, rfl, trivial⟩⟩
        · rw [List.length_append]; have := tk_le htk; omega
        · rw [at_end, balGo, if_pos h']; rfl
        · rw [balGo, if_pos h']; rfl
        · rw [balGo, if_pos h']; rfl
      · have h' : ¬ n / 2 ^ k % 2 = 1 := by simpa using h
        refine SXs_cons (SX_assign rfl ?_)
        walk_at "se"
        refine SE_list ?_
        walk_at "se"; walk_at "se"; walk_at "se"
        refine ⟨rfl, by show (1 : Nat) ≤ 2 ^ 20; decide, ?_⟩
        walk_at "se"
        refine BIN_catl (at_end _) (at_old hb) (by rw [List.length_map, hl]; show 1 + k ≤ _; omega) ⟨.inl rfl, ?_⟩
        refine SXs_one (SX_aug rfl ?_)
        walk_at "se"
        refine INP_add ⟨.inl rfl, hQ2 _ _ _ ⟨(σ' ++ [[V.int (balGo n k).1]]).length, ⟨tk_app (tk_app htk), ?_, ?_⟩, rfl, ?_, ?_, rfl, trivial⟩⟩
        · rw [List.length_append]; have := tk_le htk; omega
        · rw [at_end, balGo, if_neg h']; rfl
        · rw [balGo, if_neg h']; rfl
        · rw [balGo, if_neg h']; rfl
    · rintro nb σ' ⟨htk, hge, hb⟩
      rw [rng_len, Nat.sub_zero] at hb ⊢
      have hl := balGo_len n 4
      refine SXs_nil ?_
      refine SXs_one (SX_return ?_)
      walk_at "se"
      refine SE_list ?_
      walk_at "se"; walk_at "se"; walk_at "se"
      refine ⟨rfl, by show (1 : Nat) ≤ 2 ^ 20; decide, ?_⟩
      walk_at "se"
      refine BIN_catl (at_end _) (at_old hb) (by rw [List.length_map, hl]; show 1 + 4 ≤ _; decide) ?_
      have e : [V.int (balGo n 4).1] ++ (balGo n 4).2.2.map V.int = (ballot n).map .int := rfl
      rw [e]
      have h1 := tk_le htk
      refine hQ1 _ _ _ ⟨_, _, _, .inl rfl, ?_, .pick _ ((ballot n).map .int) (by rw [List.length_append]; omega) (at_end _) (closed0 _), ?_⟩
      · rw [tk_app (tk_app htk)]; exact hcl
      · rw [tk_app (tk_app htk)]; exact q
end

end
section
open PySem PySem.W PyProof.Rows PySem.Calls
set_option Elab.async false
set_option maxRecDepth 100000
set_option autoImplicit false
set_option linter.unusedVariables false
set_option maxHeartbeats 1000000

section
variable {c : Fx} {d : Nat} {σ : Hp} {Q : V → Hp → Prop} {P : Params}
noncomputable def fROW (P : Params) : FuncData := fdG (HK P) 113
noncomputable def bROW (P : Params) : List Stmt := bodyG (HK P) 113
theorem DROW (P : Params) : DefOk (HK P) 113 (fROW P) (bROW P) := ⟨rfl, rfl, rfl, rfl, rfl, rfl, rfl, rfl, _, rfl, by kernel_rfl⟩
noncomputable def chrL (mk one : Int) : Nat := if one = mk then 46 else 97 + one.toNat
noncomputable def rowF (st : List Int) (mk : Int) (row : List Nat) (one : Int) : List Nat := if st.any (· == one) = true then chrL mk one :: row else row
noncomputable def rowL (st : List Int) (mk : Int) (l : List Int) : List Nat := l.foldl (rowF st mk) []
theorem rowL_len (st : List Int) (mk : Int) : ∀ l : List Int, (rowL st mk l).length ≤ l.length := by
  have go : ∀ (l : List Int) (r : List Nat), (l.foldl (rowF st mk) r).length ≤ r.length + l.length := by
    intro l
    induction l with
    | nil => intro r; exact Nat.le_refl _
    | cons x l ih =>
      intro r
      have := ih (rowF st mk r x)
      have h2 : (rowF st mk r x).length ≤ r.length + 1 := by unfold rowF; split <;> simp
      rw [List.foldl_cons, List.length_cons]; omega
  intro l
  have := go l []
  unfold rowL
  simpa using this
theorem rowL_step {st : List Int} {mk : Int} {l : List Int} {k : Nat} (h : k < l.length) : rowL st mk (l.take (k + 1)) = rowF st mk (rowL st mk (l.take k)) (l.getD k 0) := by
  unfold rowL
  rw [List.take_succ_eq_append_getElem h, List.foldl_append, List.getD_eq_getElem?_getD, List.getElem?_eq_getElem h]; rfl
theorem getD_memI {l : List Int} {k : Nat} (h : k < l.length) : l.getD k 0 ∈ l := by
  rw [List.getD_eq_getElem?_getD, List.getElem?_eq_getElem h]; exact List.getElem_mem h
theorem abc_list : (("abcde" : Str)).cps.toList = [97, 98, 99, 100, 101] := by decide +kernel
theorem abc_get {i : Int} (h0 : 0 ≤ i) (h5 : i < 5) : (("abcde" : Str)).cps.toList[i.toNat]? = some (97 + i.toNat) := by
  rw [abc_list]
  have : ∀ k, k < 5 → ([97, 98, 99, 100, 101] : List Nat)[k]? = some (97 + k) := by decide
  exact this _ (by omega)
theorem row_spec (B : Base c) (hK : c.K = HK P) {nb ns : Nat} {bl st : List Int} {mk : Int} (hb : σ[nb]? = some (bl.map .int)) (hs : σ[ns]? = some (st.map .int)) (h5 : ∀ x ∈ bl, 0 ≤ x ∧ x < 5) (hlen : bl.length ≤ 1000) (q : Q (.str (S (rowL st mk bl))) σ) :
    CALLV c (d + 1) (.obj (.ref 113)) [.ref nb, .ref ns, .int mk] [] σ Q := by
  refine CALL_def [("ballot", .ref nb), ("standing", .ref ns), ("marked", .int mk)] B (hK ▸ DROW P) ?_ (by dsimp only [List.map]; decide +kernel) ?_ fun hcl L => ?_
  · simp only [List.forall_mem_cons]
    exact ⟨.inl rfl, .inl rfl, .inl rfl, fun _ h => nomatch h⟩
  · intro h μ vs ks hv hk
    obtain ⟨v1, v2, v3, rfl, r1, r2, r3⟩ := args3 hv
    obtain rfl := args0 hk
    exact ⟨[("ballot", v1), ("standing", v2), ("marked", v3)], fun S => by rw [hK]; kernel_rfl, .cons ⟨rfl, r1⟩ (.cons ⟨rfl, r2⟩ (.cons ⟨rfl, r3⟩ .nil))⟩
  · refine SXs_post fun Q1 hQ1 => ?_
    refine SXs_cons (SX_assign rfl ?_)
    walk_at "se"
    refine ⟨.inl rfl, ?_⟩
    have e0 : (("" : Str)) = S (rowL st mk (bl.take 0)) := by rw [List.take_zero]; show _ = S []; decide +kernel
    rw [e0]
    refine SXs_cons (FOR (S := Unit) (fun k _ => [("standing", .ref ns), ("marked", .int mk), ("row", .str (S (rowL st mk (bl.take k))))]) (fun k _ σ' => σ' = σ) (fun _ => rfl) ?_)
    walk_at "se"
    refine ⟨bl.map .int, (), rfl, ⟨rfl, rfl, rfl, trivial⟩, fun k y σ' _ h => by subst h; exact hb, ?_, ?_⟩
    · rintro k _ _ u hu rfl
      obtain ⟨hk, rfl⟩ := int_item hu
      have hm := h5 _ (getD_memI hk)
      have hstep := rowL_step (st := st) (mk := mk) hk
      have hl := rowL_len st mk (bl.take k)
      rw [List.length_take] at hl
      generalize bl.getD k 0 = one at hm hstep ⊢
      generalize rowL st mk (bl.take k) = row at hl hstep ⊢
      refine ⟨.inl rfl, SXs_post fun Q2 hQ2 => ?_⟩
      refine SXs_one (SX_if ?_)
      walk_at "se"; walk_at "se"; walk_at "se"
      refine CMP_inInts hs ⟨fun h => ?_, fun h => SXs_nil (hQ2 _ _ _ ⟨(), rfl, rfl, rfl, ?_, trivial⟩)⟩
      · refine SXs_one (SX_assign rfl ?_)
        walk_at "se"
        refine SE_if ?_
        walk_at "se"; walk_at "se"; walk_at "se"
        refine CMP_eq ⟨fun h2 => ?_, fun h2 => ?_⟩
        · have h2' : one = mk := by simpa using h2
          walk_at "se"; walk_at "se"
          rw [show ("." : Str) = S [46] from by decide +kernel]
          refine BIN_catS (by rw [S_len, S_len]; show 1 + _ ≤ _; omega) ?_
          refine ⟨.inl rfl, hQ2 _ _ _ ⟨(), rfl, rfl, rfl, ?_, trivial⟩⟩
          rw [hstep, rowF, if_pos h, chrL, if_pos h2']; rfl
        · have h2' : ¬ one = mk := by simpa using h2
          walk_at "se"; walk_at "se"; walk_at "se"
          refine GET_str hm.1 (by omega) (abc_get hm.1 hm.2) ?_
          walk_at "se"
          rw [show (⟨#[97 + one.toNat]⟩ : Str) = S [97 + one.toNat] from rfl]
          refine BIN_catS (by rw [S_len, S_len]; show 1 + _ ≤ _; omega) ?_
          refine ⟨.inl rfl, hQ2 _ _ _ ⟨(), rfl, rfl, rfl, ?_, trivial⟩⟩
          rw [hstep, rowF, if_pos h, chrL, if_neg h2']; rfl
      · rw [hstep, rowF, if_neg (by rw [h]; decide)]; rfl
    · rintro _ _ rfl
      rw [List.length_map, List.take_length]
      refine SXs_nil ?_
      refine SXs_one (SX_return ?_)
      walk_at "se"
      exact hQ1 _ _ _ ⟨_, _, _, .inl rfl, fun m hm => hcl m (List.mem_of_mem_take hm), .drop _ rfl, by rw [List.take_length]; exact q⟩
end

end
section
open PySem PySem.W PyProof.Rows PySem.Calls
set_option Elab.async false
set_option maxRecDepth 100000
set_option autoImplicit false
set_option linter.unusedVariables false
noncomputable def insRt (kf : Int → Int) (l : List Int) (x : Int) : List Int := l.take (bis (fun i => decide (kf x < kf (l.getD i 0))) l.length 0 l.length) ++ x :: l.drop (bis (fun i => decide (kf x < kf (l.getD i 0))) l.length 0 l.length)
noncomputable def insLt (kf : Int → Int) (l : List Int) (x : Int) : List Int := l.take (bis (fun i => !decide (kf (l.getD i 0) < kf x)) l.length 0 l.length) ++ x :: l.drop (bis (fun i => !decide (kf (l.getD i 0) < kf x)) l.length 0 l.length)
theorem bis_cut {p : Nat → Bool} {N : Nat} (hm : ∀ i j, i ≤ j → j < N → p i = true → p j = true) : ∀ n lo hi, hi - lo ≤ n → lo ≤ hi → hi ≤ N → (∀ i, i < lo → p i = false) → (∀ i, hi ≤ i → i < N → p i = true) →
    (∀ i, i < bis p n lo hi → p i = false) ∧ ∀ i, bis p n lo hi ≤ i → i < N → p i = true
  | 0, lo, hi, h, h1, h2, h3, h4 => by
    have : lo = hi := by omega
    subst this
    exact ⟨h3, h4⟩
  | n + 1, lo, hi, h, h1, h2, h3, h4 => by
    unfold bis
    by_cases hlt : lo < hi
    · rw [if_pos hlt]
      cases hp : p ((lo + hi) / 2) with
      | true =>
        rw [if_pos rfl]
        exact bis_cut hm n lo _ (by omega) (by omega) (by omega) h3 fun i a b => hm _ _ a b hp
      | false =>
        rw [if_neg (by decide)]
        refine bis_cut hm n _ hi (by omega) (by omega) h2 (fun i a => ?_) h4
        cases hi' : p i with
        | false => rfl
        | true => rw [hm i ((lo + hi) / 2) (by omega) (by omega) hi'] at hp; cases hp
    · rw [if_neg hlt]
      have : lo = hi := by omega
      subst this
      exact ⟨h3, h4⟩

theorem cut_split {p : Int → Bool} {l : List Int} (hm : l.Pairwise fun a b => p a = true → p b = true) :
    (∀ a ∈ l.take (bis (fun i => p (l.getD i 0)) l.length 0 l.length), p a = false) ∧ ∀ b ∈ l.drop (bis (fun i => p (l.getD i 0)) l.length 0 l.length), p b = true := by
  have e : ∀ i, (h : i < l.length) → l.getD i 0 = l[i] := fun i h => by simp [h]
  have hm' : ∀ i j, i ≤ j → j < l.length → p (l.getD i 0) = true → p (l.getD j 0) = true := by
    intro i j hij hj h
    by_cases e0 : i = j
    · rw [← e0]; exact h
    · rw [List.pairwise_iff_getElem] at hm
      rw [e i (by omega)] at h; rw [e j hj]
      exact hm i j (by omega) hj (by omega) h
  obtain ⟨h1, h2⟩ := bis_cut (p := fun i => p (l.getD i 0)) (N := l.length) hm' l.length 0 l.length (by omega) (by omega) (Nat.le_refl _) (fun i a => by omega) (fun i a b => by omega)
  generalize bis (fun i => p (l.getD i 0)) l.length 0 l.length = q at h1 h2
  constructor
  · intro a ha
    obtain ⟨i, hi, e1⟩ := List.getElem_of_mem ha
    rw [List.length_take] at hi
    rw [List.getElem_take] at e1
    have := h1 i (by omega)
    rw [e i (by omega), e1] at this
    exact this
  · intro b hb
    obtain ⟨i, hi, e1⟩ := List.getElem_of_mem hb
    rw [List.length_drop] at hi
    rw [List.getElem_drop] at e1
    have := h2 (q + i) (Nat.le_add_right _ i) (by omega)
    rw [e (q + i) (by omega), e1] at this
    exact this
theorem insRt_split {kf : Int → Int} {l : List Int} (x : Int) (hs : (l.map kf).Pairwise (· ≤ ·)) : ∃ l₁ l₂, l = l₁ ++ l₂ ∧ insRt kf l x = l₁ ++ x :: l₂ ∧ (∀ a ∈ l₁, kf a ≤ kf x) ∧ ∀ b ∈ l₂, kf x < kf b := by
  rw [List.pairwise_map] at hs
  have hm : l.Pairwise fun a b => decide (kf x < kf a) = true → decide (kf x < kf b) = true := hs.imp fun {a b} h q => by
    rw [decide_eq_true_iff] at q ⊢
    omega
  obtain ⟨h1, h2⟩ := cut_split (p := fun y => decide (kf x < kf y)) (l := l) hm
  refine ⟨_, _, (List.take_append_drop _ _).symm, rfl, fun a ha => ?_, fun b hb => ?_⟩
  · have := h1 a ha
    rw [decide_eq_false_iff_not] at this
    omega
  · have := h2 b hb
    rwa [decide_eq_true_iff] at this
theorem insLt_split {kf : Int → Int} {l : List Int} (x : Int) (hs : (l.map kf).Pairwise (· ≤ ·)) : ∃ l₁ l₂, l = l₁ ++ l₂ ∧ insLt kf l x = l₁ ++ x :: l₂ ∧ (∀ a ∈ l₁, kf a < kf x) ∧ ∀ b ∈ l₂, kf x ≤ kf b := by
  rw [List.pairwise_map] at hs
  have hm : l.Pairwise fun a b => (!decide (kf a < kf x)) = true → (!decide (kf b < kf x)) = true := hs.imp fun {a b} h q => by
    rw [Bool.not_eq_true', decide_eq_false_iff_not] at q ⊢
    omega
  obtain ⟨h1, h2⟩ := cut_split (p := fun y => !decide (kf y < kf x)) (l := l) hm
  refine ⟨_, _, (List.take_append_drop _ _).symm, rfl, fun a ha => ?_, fun b hb => ?_⟩
  · have := h1 a ha
    rw [Bool.not_eq_false', decide_eq_true_iff] at this
    exact this
  · have := h2 b hb
    rw [Bool.not_eq_true', decide_eq_false_iff_not] at this
    omega
/-! the line laid by insort_right -/
noncomputable def chain (kf : Int → Int) : Nat → List Int
  | 0 => []
  | k + 1 => insRt kf (chain kf k) (k : Int)
theorem chain_spec (kf : Int → Int) : ∀ k, (chain kf k).Perm ((List.range k).map fun n : Nat => (n : Int)) ∧ (chain kf k).Pairwise fun x y => kf x < kf y ∨ (kf x = kf y ∧ x < y)
  | 0 => ⟨.refl _, .nil⟩
  | k + 1 => by
    obtain ⟨h1, h2⟩ := chain_spec kf k
    have hs : ((chain kf k).map kf).Pairwise (· ≤ ·) := by
      rw [List.pairwise_map]
      exact h2.imp fun {a b} h => by rcases h with h | ⟨h, _⟩ <;> omega
    obtain ⟨l1, l2, e1, e2, b1, b2⟩ := insRt_split (k : Int) hs
    have hlt : ∀ a ∈ chain kf k, a < (k : Int) := fun a ha => by
      have := h1.mem_iff.mp ha
      obtain ⟨n, hn, rfl⟩ := List.mem_map.mp this
      have := List.mem_range.mp hn
      omega
    show (insRt kf (chain kf k) k).Perm _ ∧ (insRt kf (chain kf k) k).Pairwise _
    constructor
    · rw [e2, List.range_succ, List.map_append]
      refine List.perm_middle.trans ?_
      refine ((e1 ▸ h1).cons (k : Int)).trans ?_
      exact (List.perm_append_comm (l₁ := [(k : Int)]))
    · rw [e1] at h2 hlt
      rw [List.pairwise_append] at h2
      rw [e2, List.pairwise_append, List.pairwise_cons]
      refine ⟨h2.1, ⟨fun b hb => .inl (b2 b hb), h2.2.1⟩, fun a ha b hb => ?_⟩
      rcases List.mem_cons.mp hb with rfl | hb
      · have := b1 a ha
        have := hlt a (by simp [ha])
        omega
      · exact h2.2.2 a ha b hb
theorem chain_len (kf : Int → Int) (k : Nat) : (chain kf k).length = k := by
  rw [(chain_spec kf k).1.length_eq, List.length_map, List.length_range]
theorem chain_mem {kf : Int → Int} {k : Nat} {x : Int} (h : x ∈ chain kf k) : 0 ≤ x ∧ x < k := by
  obtain ⟨n, hn, rfl⟩ := List.mem_map.mp ((chain_spec kf k).1.mem_iff.mp h)
  have := List.mem_range.mp hn
  omega
theorem chain_nodup (kf : Int → Int) (k : Nat) : (chain kf k).Nodup := by
  refine (chain_spec kf k).1.nodup_iff.mpr ?_
  rw [List.nodup_iff_pairwise_ne, List.pairwise_map]
  have := List.nodup_range (n := k)
  rw [List.nodup_iff_pairwise_ne] at this
  exact this.imp fun {a b} h e => h (by omega)

/-- the list laid by insort_left -/
noncomputable def chainL (kf : Int → Int) : Nat → List Int
  | 0 => []
  | k + 1 => insLt kf (chainL kf k) (k : Int)
theorem chainL_spec (kf : Int → Int) : ∀ k, (chainL kf k).Perm ((List.range k).map fun n : Nat => (n : Int)) ∧ (chainL kf k).Pairwise fun x y => kf x < kf y ∨ (kf x = kf y ∧ y < x)
  | 0 => ⟨.refl _, .nil⟩
  | k + 1 => by
    obtain ⟨h1, h2⟩ := chainL_spec kf k
    have hs : ((chainL kf k).map kf).Pairwise (· ≤ ·) := by
      rw [List.pairwise_map]
      exact h2.imp fun {a b} h => by rcases h with h | ⟨h, _⟩ <;> omega
    obtain ⟨l1, l2, e1, e2, b1, b2⟩ := insLt_split (k : Int) hs
    have hlt : ∀ a ∈ chainL kf k, a < (k : Int) := fun a ha => by
      have := h1.mem_iff.mp ha
      obtain ⟨n, hn, rfl⟩ := List.mem_map.mp this
      have := List.mem_range.mp hn
      omega
    show (insLt kf (chainL kf k) k).Perm _ ∧ (insLt kf (chainL kf k) k).Pairwise _
    constructor
    · rw [e2, List.range_succ, List.map_append]
      refine List.perm_middle.trans ?_
      refine ((e1 ▸ h1).cons (k : Int)).trans ?_
      exact (List.perm_append_comm (l₁ := [(k : Int)]))
    · rw [e1] at h2 hlt
      rw [List.pairwise_append] at h2
      rw [e2, List.pairwise_append, List.pairwise_cons]
      refine ⟨h2.1, ⟨fun b hb => ?_, h2.2.1⟩, fun a ha b hb => ?_⟩
      · have := b2 b hb
        have := hlt b (by simp [hb])
        omega
      · rcases List.mem_cons.mp hb with rfl | hb
        · exact .inl (b1 a ha)
        · exact h2.2.2 a ha b hb
theorem chainL_len (kf : Int → Int) (k : Nat) : (chainL kf k).length = k := by
  rw [(chainL_spec kf k).1.length_eq, List.length_map, List.length_range]
theorem chainL_mem {kf : Int → Int} {k : Nat} {x : Int} (h : x ∈ chainL kf k) : 0 ≤ x ∧ x < k := by
  obtain ⟨n, hn, rfl⟩ := List.mem_map.mp ((chainL_spec kf k).1.mem_iff.mp h)
  have := List.mem_range.mp hn
  omega
theorem order5 {kf : Int → Int} {lo : List Int} (h : Stable kf [0, 1, 2, 3, 4] lo) : lo = chain kf 5 := by
  obtain ⟨h1, h2⟩ := h
  obtain ⟨c1, c2⟩ := chain_spec kf 5
  have hx : ∀ x ∈ ([0, 1, 2, 3, 4] : List Int), (([0, 1, 2, 3, 4] : List Int).idxOf x : Int) = x := by decide
  have h3 : lo.Pairwise fun x y => kf x < kf y ∨ (kf x = kf y ∧ x < y) := by
    refine List.Pairwise.imp_of_mem (fun {a b} ha hb h => ?_) h2
    have e1 := hx a (h1.mem_iff.mp ha)
    have e2 := hx b (h1.mem_iff.mp hb)
    rcases h with h | ⟨h, h'⟩
    · exact .inl h
    · exact .inr ⟨h, by omega⟩
  exact List.Perm.eq_of_pairwise (fun a b _ _ p q => by omega) h3 c2 (h1.trans c1.symm)
theorem order5L {kf : Int → Int} {lo : List Int} (h : Stable kf [4, 3, 2, 1, 0] lo) : lo = chainL kf 5 := by
  obtain ⟨h1, h2⟩ := h
  obtain ⟨c1, c2⟩ := chainL_spec kf 5
  have hx : ∀ x ∈ ([4, 3, 2, 1, 0] : List Int), (([4, 3, 2, 1, 0] : List Int).idxOf x : Int) = 4 - x := by decide
  have h3 : lo.Pairwise fun x y => kf x < kf y ∨ (kf x = kf y ∧ y < x) := by
    refine List.Pairwise.imp_of_mem (fun {a b} ha hb h => ?_) h2
    have e1 := hx a (h1.mem_iff.mp ha)
    have e2 := hx b (h1.mem_iff.mp hb)
    rcases h with h | ⟨h, h'⟩
    · exact .inl h
    · exact .inr ⟨h, by omega⟩
  have h4 : ([4, 3, 2, 1, 0] : List Int).Perm ((List.range 5).map fun n : Nat => (n : Int)) := by decide
  exact List.Perm.eq_of_pairwise (fun a b _ _ p q => by omega) h3 c2 (h1.trans (h4.trans c1.symm))
/-- where a cut falls: as many as are not p -/
theorem cut_count {p : Int → Bool} {l : List Int} (hm : l.Pairwise fun a b => p a = true → p b = true) : bis (fun i => p (l.getD i 0)) l.length 0 l.length = l.countP fun x => !p x := by
  obtain ⟨h1, h2⟩ := cut_split hm
  have hle := bis_le (fun i => p (l.getD i 0)) l.length 0 l.length (Nat.zero_le _)
  generalize bis (fun i => p (l.getD i 0)) l.length 0 l.length = q at h1 h2 hle
  conv => rhs; rw [← List.take_append_drop q l]
  rw [List.countP_append]
  have e1 : (l.take q).countP (fun x => !p x) = (l.take q).length := List.countP_eq_length.mpr fun a ha => by rw [h1 a ha]; rfl
  have e2 : (l.drop q).countP (fun x => !p x) = 0 := List.countP_eq_zero.mpr fun a ha => by rw [h2 a ha]; decide
  rw [e1, e2, List.length_take]; omega

end
section
open PySem PySem.W PyProof.Rows PySem.Calls
set_option Elab.async false
set_option maxRecDepth 100000
set_option autoImplicit false
set_option linter.unusedVariables false
set_option maxHeartbeats 1000000

section
variable {c : Fx} {d : Nat} {σ : Hp} {Q : V → Hp → Prop} {P : Params}
noncomputable def fWDS (P : Params) : FuncData := fdG (HK P) 120
noncomputable def bWDS (P : Params) : List Stmt := bodyG (HK P) 120
theorem DWDS (P : Params) : DefOk (HK P) 120 (fWDS P) (bWDS P) := ⟨rfl, rfl, rfl, rfl, rfl, rfl, rfl, rfl, _, rfl, by kernel_rfl⟩
noncomputable def fRCH (P : Params) : FuncData := fdG (HK P) 127
noncomputable def bRCH (P : Params) : List Stmt := bodyG (HK P) 127
theorem DRCH (P : Params) : DefOk (HK P) 127 (fRCH P) (bRCH P) := ⟨rfl, rfl, rfl, rfl, rfl, rfl, rfl, rfl, _, rfl, by kernel_rfl⟩
theorem ne_local {env : Env} {y : Str} {k : NameKind} (h : env.kindOf y = some k) (hk : k ≠ .local) : env.kindOf y ≠ some .local := fun e => by rw [h] at e; exact hk (Option.some.inj e)
noncomputable def at' (xs : List Int) (i : Int) : Int := xs.getD i.toNat 0
/-- `lambda x: peak[x]` -/
theorem key_peak {x : Str} {scope : Scope} {body : Expr} {nL : Nat} {ls : List Int} (hco : scope.isCoroutine = false) (hgen : scope.isGenerator = false) (hk : scope.kind = .function) (hcell : ∀ y ∈ scope.names, y.2 ≠ .cell) (hx : scope.names.lookup x = some .local)
    (hf : scope.names.lookup (Str.ofString "peak") = some .free) (hxn : (x == Str.ofString "peak") = false) (hl : σ[nL]? = some (ls.map .int)) (y : Int) (hy : 0 ≤ y ∧ y < ls.length)
    {p1 p2 p3 : Pos} (hb : body = .Subscript (.Name "peak" p1) (.Name x p2) p3) (hd : (x == ("__debug__" : Str)) = false) : CALLV c (d + 1) (.lam x scope body [("peak", nL)]) [.int y] [] σ fun r σ' => r = .int (at' ls y) ∧ σ' = σ := by
  subst hb
  refine CALL_lam hco hgen hk hcell hx (fun p hp => by rw [List.mem_singleton.mp hp]; exact ⟨hf, by show ("peak" : Str) ≠ "__classdict__"; decide +kernel⟩) fun L clos qual f cv => ?_
  refine SE_sub (fun _ _ => rfl) ?_
  refine SE_name (v := .ref nL) ?_ (SE_name (v := .int y) ?_ ?_ hd) (by decide +kernel)
  · rw [List.lookup_cons, show (("peak" : Str) == x) = false from by rw [BEq.comm]; exact hxn]
    rfl
  · rw [List.lookup_cons, beq_self_eq_true]
  · exact GET_list hl hy.1 (v := .int (at' ls y)) (geti (by omega)) ⟨rfl, rfl⟩
/-- how many of the line have it or one to its left as first choice -/
noncomputable def reach (pk l : List Int) (one : Int) : Int := (bis (fun i => decide (one < at' pk (l.getD i 0))) l.length 0 l.length : Nat)
theorem reach_spec (B : Base c) (hK : c.K = HK P) (tq : Addr × Addr) (hT : ((tq.1, tq.2, (("_law_reached" : Str) ++ ".<locals>." ++ "<lambda>" : Str)) ∈ c.tabs)) (hcode : ∀ L, (callEnvC (fRCH P) L 127).code = .ref tq.1)
    {nl np : Nat} {l pk : List Int} {one : Int} (hl : σ[nl]? = some (l.map .int)) (hp : σ[np]? = some (pk.map .int)) (hlp : ∀ y ∈ l, 0 ≤ y ∧ y < pk.length) (hz : l.length ≤ 1000) (q : Q (.int (reach pk l one)) σ) :
    CALLV c (d + 3) (.obj (.ref 127)) [.ref nl, .ref np, .int one] [] σ Q := by
  refine CALL_def [("line", .ref nl), ("peak", .ref np), ("one", .int one)] B (hK ▸ DRCH P) ?_ (by dsimp only [List.map]; decide +kernel) ?_ fun hcl L => ?_
  · simp only [List.forall_mem_cons]
    exact ⟨.inl rfl, .inr ⟨rfl, fun _ => rfl⟩, .inl rfl, fun _ h => nomatch h⟩
  · intro h μ vs ks hv hk
    obtain ⟨v1, v2, v3, rfl, r1, r2, r3⟩ := args3 hv
    obtain rfl := args0 hk
    exact ⟨[("line", v1), ("peak", v2), ("one", v3)], fun S => by rw [hK]; kernel_rfl, .cons ⟨rfl, r1⟩ (.cons ⟨rfl, r2⟩ (.cons ⟨rfl, r3⟩ .nil))⟩
  · refine SXs_post fun Q1 hQ1 => ?_
    refine SXs_one (SX_return ?_)
    walk_at "se"
    refine SE_gl B (.ref 56) rfl (by rw [hK]; kernel_rfl) ?_
    walk_at "se"; walk_at "se"; walk_at "se"; walk_at "se"; walk_at "se"; walk_at "se"
    refine SE_lam (cap := [("peak", np)]) hT (hcode L) rfl rfl ⟨rfl, rfl, rfl, rfl, rfl⟩ rfl ?_ ?_
    · intro y m hm
      obtain ⟨rfl, rfl⟩ : y = "peak" ∧ m = np := by simpa using hm
      exact ⟨_, rfl, rfl, ne_local (k := .cell) rfl (by decide), rfl⟩
    refine ⟨Calls_def B (hK ▸ DBR P), rfl, br_key2 B hK (fun i => at' pk (l.getD i 0)) hl (by rw [List.length_map]; omega) trivial rfl (fun i v e => ?_) ?_⟩
    · obtain ⟨hi, rfl⟩ := int_item e
      have hm := hlp _ (getD_memI hi)
      exact key_peak rfl rfl rfl (by decide +kernel) (by decide +kernel) (by decide +kernel) (by decide +kernel) hp _ hm rfl (by decide +kernel)
    · rw [List.length_map]
      exact hQ1 _ _ _ ⟨_, _, _, .inl rfl, fun m hm => hcl m (List.mem_of_mem_take hm), .drop _ rfl, by rw [List.take_length]; exact q⟩
end

end
section
open PySem PySem.W PyProof.Rows PySem.Calls
set_option Elab.async false
set_option maxRecDepth 100000
set_option autoImplicit false
set_option linter.unusedVariables false
open Builtin.Str StrLaws in
theorem find4_spec (x y : Str) (i j : Nat) (hj : j ≤ x.length) :
    (find4 x y i j = -1 ∧ ∀ k, i ≤ k → ¬ At x y j k) ∨ ∃ k : Nat, find4 x y i j = (k : Int) ∧ i ≤ k ∧ At x y j k ∧ ∀ m, i ≤ m → m < k → ¬ At x y j m := by
  have f1 : ∀ n : Nat, fromIndex x.length (n : Int) = n := fun n => by unfold fromIndex; rw [if_neg (by omega)]; omega
  have f2 : min (fromIndex x.length (j : Int)) x.length = j := by rw [f1]; omega
  unfold find4
  rw [f1, f2, occ_eq]
  rcases occ_first x y j 1 (Nat.le_refl 1) (List.range' i (j + 1 - i)) i (fun m hm => by have := List.mem_range'_1.mp hm; omega) with ⟨h0, hn⟩ | ⟨pre, a, post, e, h0, ha, hn⟩
  · rw [h0]
    exact .inl ⟨rfl, fun k hk hA => hn k (by have := hA.1; rw [List.mem_range'_1]; omega) hA⟩
  · have hs := range'_split_from e
    refine .inr ⟨a, ?_, hs.1, ha, fun m h1 h2 => hn m (hs.2 m h1 h2)⟩
    generalize (forIn (List.range' i (j + 1 - i)) ((#[] : Array Nat), i) (occBody x y j 1)).run.fst = arr at h0
    have h1 : arr.toList[0]? = some a := by simpa using h0
    cases hL : arr.toList with
    | nil => rw [hL] at h1; cases h1
    | cons b t => rw [hL] at h1; simp at h1; rw [h1]

noncomputable def Occ (t w : List Nat) (i : Nat) : Prop := ∀ j, j < w.length → t[i + j]? = w[j]?
theorem at_occ {x y : Str} {hi i : Nat} (h : hi ≤ x.length) (hy : y.cps.toList ≠ []) : StrLaws.At x y hi i ↔ Occ (x.cps.toList.take hi) y.cps.toList i := by
  have hl : y.length = y.cps.toList.length := by rw [Array.length_toList]; rfl
  have hx : x.length = x.cps.toList.length := by rw [Array.length_toList]; rfl
  have hp : 0 < y.cps.toList.length := List.length_pos_iff.mpr hy
  unfold StrLaws.At
  rw [StrLaws.subAt_eq, beq_iff_eq, hl]
  generalize y.cps.toList = w at *
  rw [hx] at h
  generalize x.cps.toList = t at *
  constructor
  · rintro ⟨h1, h2⟩ j hj
    rw [List.getElem?_take_of_lt (by omega), ← h2, List.getElem?_take_of_lt hj, List.getElem?_drop]
  · intro hO
    have h1 : i + w.length ≤ hi := by
      have := hO (w.length - 1) (by omega)
      rw [List.getElem?_eq_getElem (l := w) (by omega)] at this
      have := (List.getElem?_eq_some_iff.mp this).1
      rw [List.length_take] at this; omega
    refine ⟨h1, List.ext_getElem? fun j => ?_⟩
    by_cases hj : j < w.length
    · rw [List.getElem?_take_of_lt hj, List.getElem?_drop]
      have := hO j hj
      rw [List.getElem?_take_of_lt (by omega)] at this
      exact this
    · rw [List.getElem?_eq_none (by rw [List.length_take]; omega), List.getElem?_eq_none (by omega)]
noncomputable def isL (c : Nat) : Bool := decide (65 ≤ c ∧ c ≤ 90)
inductive Txs : List (List Nat) → List Nat → Prop
  | nil {t : List Nat} : (∀ c ∈ t, isL c = false) → Txs [] t
  | cons {a u t : List Nat} {us : List (List Nat)} : (∀ c ∈ a, isL c = false) → u ≠ [] → (∀ c, t.head? = some c → isL c = false) → Txs us t → Txs (u :: us) (a ++ (u ++ t))
theorem find4_nil {got : Str} {s e : Nat} (he : e ≤ got.length) (hs : s ≤ e) : find4 got (S []) s e = (s : Int) := by
  have hA : StrLaws.At got (S []) e s := ⟨hs, by rw [StrLaws.subAt_eq]; rfl⟩
  rcases find4_spec got (S []) s e he with ⟨h0, hn⟩ | ⟨k, h0, h1, h2, h3⟩
  · exact absurd hA (hn s (Nat.le_refl _))
  · rw [h0]
    have : k = s := by
      by_cases h : s < k
      · exact absurd hA (h3 s (Nat.le_refl _) h)
      · omega
    rw [this]

end
section
open PySem PySem.W PyProof.Rows PySem.Calls
set_option Elab.async false
set_option maxRecDepth 100000
set_option autoImplicit false
set_option linter.unusedVariables false
noncomputable abbrev d3 : List Nat := [46, 46, 46]
theorem dots_list : (("..." : Str)).cps.toList = d3 := by decide +kernel
theorem S_eq {x : Str} {l : List Nat} (h : x.cps.toList = l) : x = S l := by rw [S_of x, h]
open Builtin.Str StrLaws in
theorem chain_parts {x : Str} : ∀ (rest : List (List Nat)) (p : List Nat) (a : Nat) (cuts : List Nat) (f : Nat), ChainG x "..." x.length a cuts f → (∀ k, f ≤ k → ¬ At x "..." x.length k) →
    x.cps.toList.drop a = p ++ (rest.map (d3 ++ ·)).flatten → 46 ∉ p → (∀ q ∈ rest, 46 ∉ q) → a ≤ x.length → partsFrom x 3 a cuts = S p :: rest.map S := by
  have hlx : x.length = x.cps.toList.length := by rw [Array.length_toList]; rfl
  have hat : ∀ k, At x "..." x.length k ↔ Occ x.cps.toList d3 k := fun k => by
    rw [at_occ (Nat.le_refl _) (by rw [dots_list]; exact fun h => nomatch h), dots_list, hlx, List.take_length]
  have hdot : ∀ {k}, Occ x.cps.toList d3 k → x.cps.toList[k]? = some 46 := fun h => h 0 (by decide)
  intro rest
  induction rest with
  | nil =>
    intro p a cuts f hG hn hd hp _ ha
    rw [List.map_nil, List.flatten_nil, List.append_nil] at hd
    cases cuts with
    | nil =>
      show [strSub x a x.length] = [S p]
      rw [S_eq (x := strSub x a x.length) (l := p) (by rw [strSub_toList, hd, List.take_of_length_le]; rw [← hd, List.length_drop]; omega)]
    | cons c r =>
      have h1 := hdot ((hat c).mp hG.2.1)
      have : (x.cps.toList.drop a)[c - a]? = some 46 := by rw [List.getElem?_drop, show a + (c - a) = c by have := hG.1; omega]; exact h1
      rw [hd] at this
      exact absurd (List.mem_of_getElem? this) hp
  | cons q rest ih =>
    intro p a cuts f hG hn hd hp hr ha
    have hd' : x.cps.toList.drop a = p ++ (d3 ++ (q ++ (rest.map (d3 ++ ·)).flatten)) := by rw [hd, List.map_cons, List.flatten_cons, List.append_assoc]
    have hO : Occ x.cps.toList d3 (a + p.length) := fun j hj => by
      rw [Nat.add_assoc, ← List.getElem?_drop, hd', List.getElem?_append_right (by omega), show p.length + j - p.length = j by omega, List.getElem?_append_left hj]
    have hlt : a + p.length + 3 ≤ x.length := by
      have := hO 2 (by decide)
      have := (List.getElem?_eq_some_iff.mp this).1
      omega
    cases cuts with
    | nil => exact absurd ((hat _).mpr hO) (hn _ (by have : f = a := hG; omega))
    | cons c r =>
      have h1 := hdot ((hat c).mp hG.2.1)
      have hc : c = a + p.length := by
        by_cases e1 : c < a + p.length
        · have : (x.cps.toList.drop a)[c - a]? = some 46 := by rw [List.getElem?_drop, show a + (c - a) = c by have := hG.1; omega]; exact h1
          rw [hd', List.getElem?_append_left (by have := hG.1; omega)] at this
          exact absurd (List.mem_of_getElem? this) hp
        · by_cases e2 : a + p.length < c
          · exact absurd ((hat _).mpr hO) (hG.2.2.1 _ (by omega) e2)
          · omega
      subst hc
      show strSub x a (a + p.length) :: partsFrom x 3 (a + p.length + 3) r = S p :: S q :: rest.map S
      have hG' : ChainG x "..." x.length (a + p.length + 3) r f := hG.2.2.2
      rw [ih q (a + p.length + 3) r f hG' hn (by
        rw [show a + p.length + 3 = a + (p ++ d3).length by rw [List.length_append]; rfl, ← List.drop_drop, hd', ← List.append_assoc, List.drop_left]) (hr q (by simp)) (fun q' h => hr q' (by simp [h])) hlt]
      rw [S_eq (x := strSub x a (a + p.length)) (l := p) (by rw [strSub_toList, hd', show a + p.length - a = p.length by omega, List.take_left])]
open Builtin.Str StrLaws in
theorem split_parts {x : Str} {p q : List Nat} {rest : List (List Nat)} (hx : x.cps.toList = p ++ ((q :: rest).map (d3 ++ ·)).flatten) (hp : 46 ∉ p) (hr : ∀ q' ∈ q :: rest, 46 ∉ q') :
    Txt.split x "..." = S p :: (q :: rest).map S ∧ Txt.contains x "..." = true := by
  have hlx : x.length = x.cps.toList.length := by rw [Array.length_toList]; rfl
  have h3 : (("..." : Str)).length = 3 := by decide +kernel
  have hO : Occ x.cps.toList d3 p.length := fun j hj => by
    rw [hx, List.getElem?_append_right (by omega), show p.length + j - p.length = j by omega, List.map_cons, List.flatten_cons, List.append_assoc, List.getElem?_append_left hj]
  have hA : At x "..." x.length p.length := by
    rw [at_occ (Nat.le_refl _) (by rw [dots_list]; exact fun h => nomatch h), dots_list, hlx, List.take_length]
    exact hO
  obtain ⟨f, hG, hn⟩ := occ_tight x "..." (by rw [h3]; decide)
  constructor
  · unfold Txt.split
    rw [if_neg, if_neg, partsBetween_eq, h3]
    · exact chain_parts _ p 0 _ f hG hn (by rw [List.drop_zero]; exact hx) hp hr (Nat.zero_le _)
    · intro h
      rw [List.isEmpty_iff.mp h] at hG
      have : f = 0 := hG
      exact hn p.length (by omega) hA
    · rw [Bool.or_eq_true, decide_eq_true_eq, decide_eq_true_eq]
      rintro (h | h)
      · have := hA.1; omega
      · have := W.kind_le x "..." hA.2; omega
  · unfold Txt.contains
    rcases occ_head x "..." 1 (Nat.le_refl _) with ⟨h, h2⟩ | ⟨i, r, h, _⟩
    · exact absurd hA (h2 _)
    · rw [h]; rfl
/-! texts -/
noncomputable def joinL : List (List Nat) → List Nat
  | [] => []
  | [x] => x
  | x :: y :: r => x ++ ([44, 32] ++ joinL (y :: r))
theorem comma_list : ((", " : Str)).cps.toList = [44, 32] := by decide +kernel
theorem join_S : ∀ us : List (List Nat), Txt.join ", " (us.map S) = S (joinL us) := by
  intro us
  show Builtin.Str.glued _ _ = _
  rw [StrLaws.glued_eq_join]
  induction us with
  | nil => rfl
  | cons x r ih =>
    cases r with
    | nil => rfl
    | cons y r =>
      show S x ++ (", " : Str) ++ Str.join ", " ((y :: r).map S) = _
      rw [ih, S_of (", " : Str), comma_list, S_cat, S_cat]
      show S (x ++ [44, 32] ++ joinL (y :: r)) = S (x ++ ([44, 32] ++ joinL (y :: r)))
      rw [List.append_assoc]
theorem join_empty : ∀ us : List (List Nat), Txt.join "" (us.map S) = S us.flatten := by
  intro us
  have : ("" : Str) = ⟨#[]⟩ := by decide +kernel
  rw [this]
  refine S_eq ?_
  rw [join_empty_cps]
  induction us with
  | nil => rfl
  | cons x r ih => 
    show flat (S x :: r.map S) = _
    unfold flat at ih ⊢
    rw [List.flatten_cons]
    simp only [List.flatMap_cons, List.map_cons, List.flatten_cons] at ih ⊢
    rw [ih]; rfl

end
section
open PySem PySem.W PyProof.Rows PySem.Calls
set_option Elab.async false
set_option maxRecDepth 100000
set_option autoImplicit false
set_option linter.unusedVariables false
/-! the sixteen ballots -/
noncomputable def B16 : List (List Int) := (List.range 16).map fun i : Nat => ballot (i : Int)
theorem balGo_congr {n m : Int} : ∀ k, (∀ j, j < k → n / 2 ^ j % 2 = m / 2 ^ j % 2) → balGo n k = balGo m k
  | 0, _ => rfl
  | k + 1, h => by
    unfold balGo
    rw [balGo_congr k fun j hj => h j (by omega), h k (Nat.lt_succ_self k)]
theorem ballot_mem (n : Int) : ballot n ∈ B16 := by
  have e : ballot n = ballot (n % 16) := by
    unfold ballot
    rw [balGo_congr (n := n) (m := n % 16) 4 fun j hj => ?_]
    match j, hj with
    | 0, _ => show n / 1 % 2 = n % 16 / 1 % 2; omega
    | 1, _ => show n / 2 % 2 = n % 16 / 2 % 2; omega
    | 2, _ => show n / 4 % 2 = n % 16 / 4 % 2; omega
    | 3, _ => show n / 8 % 2 = n % 16 / 8 % 2; omega
  have h0 : 0 ≤ n % 16 := Int.emod_nonneg _ (by decide)
  have h1 : n % 16 < 16 := Int.emod_lt_of_pos _ (by decide)
  rw [e]
  exact List.mem_map.mpr ⟨(n % 16).toNat, List.mem_range.mpr (by omega), by rw [Int.toNat_of_nonneg h0]⟩
noncomputable def ahead (b : List Int) (x y : Int) : Bool := decide (b.idxOf x < b.idxOf y)
noncomputable def ivl (lo n : Nat) : List Int := (List.range n).map fun i : Nat => ((lo + i : Nat) : Int)
noncomputable def txt (b : List Int) : List Nat := b.map fun x => 97 + x.toNat
noncomputable def pk1 (b : List Int) : Int := b.getD 0 0
theorem bal_len : ∀ b ∈ B16, b.length = 5 := by decide +kernel
theorem bal_in : ∀ b ∈ B16, ∀ x ∈ b, 0 ≤ x ∧ x < 5 := by decide +kernel
theorem bal_pk : ∀ b ∈ B16, 0 ≤ pk1 b ∧ pk1 b < 5 := by decide +kernel
/-- all but one way round -/
theorem bal_anti : ∀ b ∈ B16, ∀ x, x < 5 → ∀ y, y < 5 → x ≠ y → ahead b (y : Nat) (x : Nat) = !ahead b (x : Nat) (y : Nat) := by decide +kernel
theorem bal_irr : ∀ b ∈ B16, ∀ x, x < 5 → ahead b (x : Nat) (x : Nat) = false := by decide +kernel
/-- falls away to both sides -/
theorem bal_lo : ∀ b ∈ B16, ∀ hi, hi < 5 → ∀ x, x ≤ hi → ∀ lo, lo < x → ahead b (hi : Nat) (lo : Nat) = true → ahead b (x : Nat) (lo : Nat) = true := by decide +kernel
theorem bal_hi : ∀ b ∈ B16, ∀ hi, hi < 5 → ∀ x, x < hi → ∀ lo, lo ≤ x → ahead b (lo : Nat) (hi : Nat) = true → ahead b (x : Nat) (hi : Nat) = true := by decide +kernel
theorem bal_left : ∀ b ∈ B16, ∀ y, y < 5 → ∀ x, x < y → pk1 b ≤ (x : Nat) → ahead b (x : Nat) (y : Nat) = true := by decide +kernel
theorem bal_right : ∀ b ∈ B16, ∀ y, y < 5 → ∀ x, x < y → ((y : Nat) : Int) ≤ pk1 b → ahead b (y : Nat) (x : Nat) = true := by decide +kernel
/-- of neighbours -/
theorem bal_next : ∀ b ∈ B16, ∀ x, x < 4 → ahead b (x : Nat) ((x + 1 : Nat) : Int) = decide (pk1 b ≤ (x : Nat)) := by decide +kernel
/-- a row of the mail -/
theorem row_ok : ∀ b ∈ B16, ∀ n, n < 6 → ∀ lo, lo < 6 - n → ∀ mk, mk < 5 → (rowL (ivl lo n) (mk : Nat) b).length = n ∧ ∀ ch ∈ rowL (ivl lo n) (mk : Nat) b, ch ≠ 10 ∧ ch ≠ 13 := by decide +kernel
theorem row_lo : ∀ b ∈ B16, ∀ n, n < 6 → 2 ≤ n → ∀ lo, lo < 6 - n → decide ((rowL (ivl lo n) (lo : Nat) b).head? = some 46) = ahead b ((lo + n - 1 : Nat) : Int) (lo : Nat) := by decide +kernel
theorem row_hi : ∀ b ∈ B16, ∀ n, n < 6 → 2 ≤ n → ∀ lo, lo < 6 - n → decide ((rowL (ivl lo n) ((lo + n - 1 : Nat) : Int) b).head? = some 46) = ahead b (lo : Nat) ((lo + n - 1 : Nat) : Int) := by decide +kernel
/-- the places of letters -/
theorem find_ok : ∀ b ∈ B16, ∀ x, x < 5 → Txt.find (S (txt b)) (S [97 + x]) = (b.idxOf ((x : Nat) : Int) : Int) := by decide +kernel
theorem em_two : ∀ b ∈ B16, ∀ x, x < 5 → ∀ y, y < 5 → x ≠ y → em (S (txt b)) [S [], S [97 + x], S [97 + y], S []] = ahead b (x : Nat) (y : Nat) := by decide +kernel

end
section
open PySem PySem.W PyProof.Rows PySem.Calls
set_option Elab.async false
set_option maxRecDepth 100000
set_option autoImplicit false
set_option linter.unusedVariables false
structure Bal (bs : List (List Int)) : Prop where
  len : bs.length = 5
  mem : ∀ b ∈ bs, b ∈ B16
noncomputable def votes (bs : List (List Int)) (x y : Nat) : Nat := bs.countP fun b => ahead b (x : Nat) (y : Nat)
noncomputable def win (bs : List (List Int)) (x y : Nat) : Bool := decide (2 < votes bs x y)
theorem votes_sum : ∀ {bs : List (List Int)} (h : ∀ b ∈ bs, b ∈ B16) {x y : Nat} (hx : x < 5) (hy : y < 5) (hn : x ≠ y), votes bs x y + votes bs y x = bs.length
  | [], _, _, _, _, _, _ => rfl
  | b :: bs, h, x, y, hx, hy, hn => by
    have ih := votes_sum (fun b' hb => h b' (List.mem_cons_of_mem _ hb)) hx hy hn
    have a := bal_anti b (h b (by simp)) x hx y hy hn
    unfold votes at ih ⊢
    rw [List.countP_cons, List.countP_cons, List.length_cons, a]
    cases ahead b (x : Nat) (y : Nat) <;> simp <;> omega
theorem votes_irr {bs : List (List Int)} (h : ∀ b ∈ bs, b ∈ B16) {x : Nat} (hx : x < 5) : votes bs x x = 0 :=
  List.countP_eq_zero.mpr fun b hb => by rw [bal_irr b (h b hb) x hx]; decide
theorem win_irr {bs : List (List Int)} (B : Bal bs) {x : Nat} (hx : x < 5) : win bs x x = false := by unfold win; rw [votes_irr B.mem hx]; rfl
theorem win_anti {bs : List (List Int)} (B : Bal bs) {x y : Nat} (hx : x < 5) (hy : y < 5) (hn : x ≠ y) : win bs y x = !win bs x y := by
  have := votes_sum B.mem hx hy hn
  rw [B.len] at this
  unfold win
  rw [Bool.eq_iff_iff, Bool.not_eq_true', decide_eq_true_iff, decide_eq_false_iff_not]; omega
theorem win_mono {bs : List (List Int)} {x y x' y' : Nat} (h : ∀ b ∈ bs, ahead b (x : Nat) (y : Nat) = true → ahead b (x' : Nat) (y' : Nat) = true) (w : win bs x y = true) : win bs x' y' = true := by
  unfold win votes at *
  rw [decide_eq_true_iff] at *
  exact Nat.lt_of_lt_of_le w (List.countP_mono_left h)
/-! the one with most last places is struck out -/
noncomputable def co (w : Nat → Nat → Bool) : Nat → Nat × List Nat
  | 0 => (0, [])
  | k + 1 => if w ((co w k).1 + (4 - k)) (co w k).1 = true then ((co w k).1 + 1, (co w k).2 ++ [(co w k).1]) else ((co w k).1, (co w k).2 ++ [(co w k).1 + (4 - k)])
structure CoInv (w : Nat → Nat → Bool) (k lo : Nat) (st : List Nat) : Prop where
  lo_le : lo ≤ k
  len : st.length = k
  out : ∀ y, y < 5 → (y ∈ st ↔ (y < lo ∨ lo + (4 - k) < y))
  lt : ∀ y ∈ st, y < 5
  over : ∀ x, lo ≤ x → x ≤ lo + (4 - k) → ∀ y ∈ st, w x y = true
  pw : st.Pairwise fun a b => w b a = true
theorem co_inv {bs : List (List Int)} (B : Bal bs) : ∀ k, k ≤ 4 → CoInv (win bs) k (co (win bs) k).1 (co (win bs) k).2
  | 0, _ => ⟨Nat.le_refl _, rfl, fun y hy => ⟨fun h => (nomatch h), fun h => by simp [co] at h; omega⟩, fun y h => (nomatch h), fun x _ _ y h => (nomatch h), .nil⟩
  | k + 1, hk => by
    have ih := co_inv B k (by omega)
    unfold co
    generalize (co (win bs) k).1 = lo at ih ⊢
    generalize (co (win bs) k).2 = st at ih ⊢
    obtain ⟨h1, h2, h3, h4, h5, h6⟩ := ih
    by_cases hw : win bs (lo + (4 - k)) lo = true
    · rw [if_pos hw]
      refine ⟨by dsimp only; omega, by dsimp only; rw [List.length_append, h2]; rfl, fun y hy => ?_, fun y hy => ?_, fun x hx1 hx2 y hy => ?_, ?_⟩
      · dsimp only
        rw [List.mem_append, List.mem_singleton, h3 y hy]; omega
      · rcases List.mem_append.mp hy with h | h
        · exact h4 y h
        · rw [List.mem_singleton.mp h]; omega
      · dsimp only at hx1 hx2
        rcases List.mem_append.mp hy with h | h
        · exact h5 x (by omega) (by omega) y h
        · rw [List.mem_singleton.mp h]
          refine win_mono (fun b hb => ?_) hw
          exact bal_lo b (B.mem b hb) _ (by omega) x (by omega) lo (by omega)
      · dsimp only
        rw [List.pairwise_append]
        exact ⟨h6, List.pairwise_singleton _ _, fun a ha b hb => by rw [List.mem_singleton.mp hb]; exact h5 lo (Nat.le_refl _) (by omega) a ha⟩
    · rw [if_neg hw]
      have hw2 : win bs lo (lo + (4 - k)) = true := by
        rw [win_anti B (x := lo + (4 - k)) (y := lo) (by omega) (by omega) (by omega)]
        rw [Bool.not_eq_true] at hw
        rw [hw]; rfl
      refine ⟨by dsimp only; omega, by dsimp only; rw [List.length_append, h2]; rfl, fun y hy => ?_, fun y hy => ?_, fun x hx1 hx2 y hy => ?_, ?_⟩
      · dsimp only
        rw [List.mem_append, List.mem_singleton, h3 y hy]; omega
      · rcases List.mem_append.mp hy with h | h
        · exact h4 y h
        · rw [List.mem_singleton.mp h]; omega
      · dsimp only at hx1 hx2
        rcases List.mem_append.mp hy with h | h
        · exact h5 x (by omega) (by omega) y h
        · rw [List.mem_singleton.mp h]
          refine win_mono (fun b hb => ?_) hw2
          exact bal_hi b (B.mem b hb) _ (by omega) x (by omega) lo (by omega)
      · dsimp only
        rw [List.pairwise_append]
        exact ⟨h6, List.pairwise_singleton _ _, fun a ha b hb => by rw [List.mem_singleton.mp hb]; exact h5 _ (by omega) (Nat.le_refl _) a ha⟩
/-- the order in which they fall, the last one standing at the end -/
noncomputable def fin5 (w : Nat → Nat → Bool) : List Nat := (co w 4).2 ++ [(co w 4).1]
structure FinOk (w : Nat → Nat → Bool) (l : List Nat) : Prop where
  len : l.length = 5
  all : ∀ y, y < 5 → y ∈ l
  lt : ∀ y ∈ l, y < 5
  pw : l.Pairwise fun a b => w b a = true
theorem fin_ok {bs : List (List Int)} (B : Bal bs) : FinOk (win bs) (fin5 (win bs)) := by
  obtain ⟨h1, h2, h3, h4, h5, h6⟩ := co_inv B 4 (Nat.le_refl _)
  unfold fin5
  generalize (co (win bs) 4).1 = lo at *
  generalize (co (win bs) 4).2 = st at *
  refine ⟨by rw [List.length_append, h2]; rfl, fun y hy => ?_, fun y hy => ?_, ?_⟩
  · rw [List.mem_append, List.mem_singleton, h3 y hy]; omega
  · rcases List.mem_append.mp hy with h | h
    · exact h4 y h
    · rw [List.mem_singleton.mp h]; omega
  · rw [List.pairwise_append]
    exact ⟨h6, List.pairwise_singleton _ _, fun a ha b hb => by rw [List.mem_singleton.mp hb]; exact h5 lo (Nat.le_refl _) (by omega) a ha⟩
theorem take_any {bs : List (List Int)} (B : Bal bs) {l : List Nat} (F : FinOk (win bs) l) {p : Nat} (hp : p < 5) {y : Nat} (hy : y < 5) : (l.take p).any (· == y) = win bs (l.getD p 0) y := by
  obtain ⟨f1, f2, f3, f4⟩ := F
  have hg : ∀ i, (h : i < l.length) → l.getD i 0 = l[i] := fun i h => by simp [h]
  obtain ⟨q, hq, e⟩ := List.getElem_of_mem (f2 y hy)
  have pw : ∀ i j (hi : i < l.length) (hj : j < l.length), i < j → win bs l[j] l[i] = true := List.pairwise_iff_getElem.mp f4
  have hlt : ∀ i (hi : i < l.length), l[i] < 5 := fun i hi => f3 _ (List.getElem_mem hi)
  have inj : ∀ i j (hi : i < l.length) (hj : j < l.length), i < j → l[i] ≠ l[j] := fun i j hi hj h e => by
    have := pw i j hi hj h
    rw [e, win_irr B (hlt j hj)] at this; cases this
  rw [hg p (by omega), Bool.eq_iff_iff, List.any_eq_true]
  have hpl : p < l.length := by omega
  constructor
  · rintro ⟨z, hz, ez⟩
    have ez := beq_iff_eq.mp ez
    obtain ⟨i, hi, e2⟩ := List.getElem_of_mem hz
    rw [List.length_take] at hi
    rw [List.getElem_take] at e2
    rw [← ez, ← e2]
    exact pw i p (by omega) hpl (by omega)
  · intro h
    refine ⟨y, ?_, beq_iff_eq.mpr rfl⟩
    by_cases hqp : q < p
    · rw [← e]
      have : (l.take p)[q]'(by rw [List.length_take]; omega) = l[q] := List.getElem_take
      rw [← this]; exact List.getElem_mem _
    · by_cases hqe : q = p
      · subst hqe
        rw [e, win_irr B hy] at h; cases h
      · have h2 := pw p q hpl hq (by omega)
        rw [e] at h2
        have hne : y ≠ l[p] := fun e3 => inj p q hpl hq (by omega) (by rw [← e3, e])
        rw [win_anti B hy (hlt p hpl) hne, h2] at h
        cases h
/-! the middle one -/
noncomputable def cntLe (bs : List (List Int)) (c : Int) : Nat := bs.countP fun b => decide (pk1 b ≤ c)
theorem cnt_mono {bs : List (List Int)} {c d : Int} (h : c ≤ d) : cntLe bs c ≤ cntLe bs d := List.countP_mono_left fun b _ e => by
  rw [decide_eq_true_iff] at e ⊢; omega
theorem cnt_next {bs : List (List Int)} (B : Bal bs) {x : Nat} (hx : x < 4) : votes bs x (x + 1) = cntLe bs (x : Nat) := List.countP_congr fun b hb => by
  rw [bal_next b (B.mem b hb) x hx]
theorem mid_spec {bs : List (List Int)} (B : Bal bs) {l : List Nat} (F : FinOk (win bs) l) : l.getD 4 0 < 5 ∧ 2 < cntLe bs (l.getD 4 0 : Nat) ∧ ∀ c : Int, c < (l.getD 4 0 : Nat) → cntLe bs c ≤ 2 := by
  have h4 : 4 < l.length := by rw [F.len]; decide
  have hg : l.getD 4 0 = l[4] := by simp [h4]
  have hl : l.getD 4 0 < 5 := by rw [hg]; exact F.lt _ (List.getElem_mem h4)
  have beats : ∀ y, y < 5 → y ≠ l.getD 4 0 → win bs (l.getD 4 0) y = true := fun y hy hn => by
    rw [← take_any B F (by decide) hy, List.any_eq_true]
    obtain ⟨q, hq, e⟩ := List.getElem_of_mem (F.all y hy)
    have hq4 : q < 4 := by
      have := F.len
      by_cases h : q = 4
      · subst h; exact absurd (by rw [hg, e]) hn
      · omega
    refine ⟨y, ?_, beq_iff_eq.mpr rfl⟩
    have : (l.take 4)[q]'(by rw [List.length_take]; omega) = l[q] := List.getElem_take
    rw [← e, ← this]; exact List.getElem_mem _
  generalize l.getD 4 0 = m at hl beats ⊢
  refine ⟨hl, ?_, fun c hc => ?_⟩
  · by_cases h : m = 4
    · subst h
      have : cntLe bs ((4 : Nat) : Int) = bs.length := List.countP_eq_length.mpr fun b hb => by
        have := bal_pk b (B.mem b hb)
        rw [decide_eq_true_iff]; omega
      rw [this, B.len]; decide
    · have := beats (m + 1) (by omega) (by omega)
      unfold win at this
      rw [decide_eq_true_iff, cnt_next B (by omega)] at this
      exact this
  · by_cases h : m = 0
    · subst h
      have : cntLe bs c = 0 := List.countP_eq_zero.mpr fun b hb => by
        have := bal_pk b (B.mem b hb)
        rw [decide_eq_true_iff]; omega
      omega
    · have h1 := beats (m - 1) (by omega) (by omega)
      have h2 := win_anti B (x := m) (y := m - 1) hl (by omega) (by omega)
      rw [h1] at h2
      unfold win at h2
      have h3 := cnt_next B (x := m - 1) (by omega)
      rw [show m - 1 + 1 = m by omega] at h3
      rw [Bool.not_true, decide_eq_false_iff_not, h3] at h2
      have := cnt_mono (bs := bs) (c := c) (d := ((m - 1 : Nat) : Int)) (by omega)
      omega
/-- where the count first passes two -/
theorem bis_mid {f : Nat → Nat} {m : Nat} (hm : m < 5) (h1 : 2 < f m) (h2 : ∀ c, c < m → f c ≤ 2) (mono : ∀ i j, i ≤ j → f i ≤ f j) {p : Nat → Bool} (hp : ∀ i, i < 5 → p i = decide (2 < f i)) : bis p 5 0 5 = m := by
  have hcut := bis_cut (p := p) (N := 5) (fun i j a b c => by
    rw [hp j b, decide_eq_true_iff]
    rw [hp i (by omega), decide_eq_true_iff] at c
    have := mono i j a
    omega) 5 0 5 (by decide) (by decide) (Nat.le_refl _) (fun i a => by omega) (fun i a b => by omega)
  have hle := bis_le p 5 0 5 (by decide)
  generalize bis p 5 0 5 = q at hcut hle ⊢
  obtain ⟨a, b⟩ := hcut
  by_cases e1 : q < m
  · have := b q (Nat.le_refl _) (by omega)
    rw [hp q (by omega), decide_eq_true_iff] at this
    have := h2 q e1
    omega
  · by_cases e2 : m < q
    · have := a m e2
      rw [hp m hm, decide_eq_false_iff_not] at this
      omega
    · omega
/-! the peaks -/
noncomputable def pks (bs : List (List Int)) : List Int := bs.map pk1
noncomputable def lineK (bs : List (List Int)) : List Int := chain (at' (pks bs)) 5
noncomputable def backK (bs : List (List Int)) : List Int := chainL (at' (pks bs)) 5
theorem r5_map {l : List Int} (h : l.length = 5) : ((List.range 5).map fun n : Nat => (n : Int)).map (at' l) = l := by
  match l, h with
  | [a, b, c, d, e], _ => rfl
theorem line_cnt {bs : List (List Int)} (B : Bal bs) {l : List Int} (hl : l.Perm ((List.range 5).map fun n : Nat => (n : Int))) (c : Int) : (l.countP fun x => decide (at' (pks bs) x ≤ c)) = cntLe bs c := by
  have h5 : (pks bs).length = 5 := by unfold pks; rw [List.length_map, B.len]
  have e : (l.countP fun x => decide (at' (pks bs) x ≤ c)) = (l.map (at' (pks bs))).countP fun y => decide (y ≤ c) := by rw [List.countP_map]; rfl
  rw [e, ((hl.map (at' (pks bs))).countP_eq _), r5_map h5]
  unfold pks
  rw [List.countP_map]; rfl
theorem line_mono (bs : List (List Int)) : (lineK bs).Pairwise fun x y => at' (pks bs) x ≤ at' (pks bs) y := (chain_spec _ 5).2.imp fun {a b} h => by rcases h with h | ⟨h, _⟩ <;> omega
theorem back_mono (bs : List (List Int)) : (backK bs).Pairwise fun x y => at' (pks bs) x ≤ at' (pks bs) y := (chainL_spec _ 5).2.imp fun {a b} h => by rcases h with h | ⟨h, _⟩ <;> omega
theorem reach_gen {bs : List (List Int)} (B : Bal bs) {l : List Int} (hl : l.Perm ((List.range 5).map fun n : Nat => (n : Int))) (hs : l.Pairwise fun x y => at' (pks bs) x ≤ at' (pks bs) y) (one : Int) : bis (fun i => decide (one < at' (pks bs) (l.getD i 0))) l.length 0 l.length = cntLe bs one := by
  have := cut_count (p := fun x => decide (one < at' (pks bs) x)) (l := l) (hs.imp fun {a b} h e => by rw [decide_eq_true_iff] at e ⊢; omega)
  rw [this, ← line_cnt B hl one]
  refine List.countP_congr fun x _ => ?_
  rw [Bool.not_eq_true', decide_eq_false_iff_not, decide_eq_true_iff]; omega
theorem reachL_gen {bs : List (List Int)} (B : Bal bs) {l : List Int} (hl : l.Perm ((List.range 5).map fun n : Nat => (n : Int))) (hs : l.Pairwise fun x y => at' (pks bs) x ≤ at' (pks bs) y) (one : Int) : bis (fun i => !decide (at' (pks bs) (l.getD i 0) < one + 1)) l.length 0 l.length = cntLe bs one := by
  have := cut_count (p := fun x => !decide (at' (pks bs) x < one + 1)) (l := l) (hs.imp fun {a b} h e => by rw [Bool.not_eq_true', decide_eq_false_iff_not] at e ⊢; omega)
  rw [this, ← line_cnt B hl one]
  refine List.countP_congr fun x _ => ?_
  rw [Bool.not_not, decide_eq_true_iff, decide_eq_true_iff]; omega
theorem line_perm (bs : List (List Int)) : (lineK bs).Perm ((List.range 5).map fun n : Nat => (n : Int)) := (chain_spec _ 5).1
theorem back_perm (bs : List (List Int)) : (backK bs).Perm ((List.range 5).map fun n : Nat => (n : Int)) := (chainL_spec _ 5).1

end
section
open PySem PySem.W PyProof.Rows PySem.Calls
set_option Elab.async false
set_option maxRecDepth 100000
set_option autoImplicit false
set_option linter.unusedVariables false
/-! who beats whom, as binary places -/
noncomputable def maskB (f : Nat → Bool) : Nat := (f 0).toNat + (f 1).toNat * 2 + (f 2).toNat * 4 + (f 3).toNat * 8 + (f 4).toNat * 16
theorem maskB_lt (f : Nat → Bool) : maskB f < 32 := by
  unfold maskB
  have h : ∀ b : Bool, b.toNat ≤ 1 := by decide
  have := h (f 0); have := h (f 1); have := h (f 2); have := h (f 3); have := h (f 4)
  omega
theorem maskB_congr {f g : Nat → Bool} (h : ∀ i, i < 5 → f i = g i) : maskB f = maskB g := by
  unfold maskB
  rw [h 0 (by decide), h 1 (by decide), h 2 (by decide), h 3 (by decide), h 4 (by decide)]
noncomputable def btS (w : Nat → Nat → Bool) (a b : Nat) (bt : List Int) : List Int := if w a b = true then bt.set a (bt.getD a 0 + ((2 ^ b : Nat) : Int)) else bt.set b (bt.getD b 0 + ((2 ^ a : Nat) : Int))
noncomputable def btI (w : Nat → Nat → Bool) (a : Nat) : Nat → List Int → List Int
  | 0, bt => bt
  | k + 1, bt => btS w a (a + 1 + k) (btI w a k bt)
noncomputable def btO (w : Nat → Nat → Bool) : Nat → List Int
  | 0 => [0, 0, 0, 0, 0]
  | k + 1 => btI w k (4 - k) (btO w k)
theorem btS_len (w : Nat → Nat → Bool) (a b : Nat) (bt : List Int) : (btS w a b bt).length = bt.length := by unfold btS; split <;> rw [List.length_set]
theorem btI_len (w : Nat → Nat → Bool) (a : Nat) : ∀ k bt, (btI w a k bt).length = bt.length
  | 0, _ => rfl
  | k + 1, bt => by unfold btI; rw [btS_len, btI_len w a k]
theorem btO_len (w : Nat → Nat → Bool) : ∀ k, (btO w k).length = 5
  | 0 => rfl
  | k + 1 => by unfold btO; rw [btI_len, btO_len w k]
/-- what one pair adds -/
theorem btS_get {w : Nat → Nat → Bool} {a b : Nat} {bt : List Int} (hl : bt.length = 5) (ha : a < 5) (hb : b < 5) (x : Nat) :
    (btS w a b bt).getD x 0 = bt.getD x 0 + (if x = a then (((w a b).toNat * 2 ^ b : Nat) : Int) else 0) + (if x = b then (((!w a b).toNat * 2 ^ a : Nat) : Int) else 0) := by
  unfold btS
  by_cases hw : w a b = true
  · rw [if_pos hw, getD_set (by omega), hw]
    show _ = _ + (if x = a then ((1 * 2 ^ b : Nat) : Int) else 0) + (if x = b then ((0 * 2 ^ a : Nat) : Int) else 0)
    rw [Nat.one_mul, Nat.zero_mul]
    by_cases h1 : x = a
    · rw [if_pos h1, if_pos h1, h1]
      split <;> simp
    · rw [if_neg h1, if_neg h1]
      split <;> simp
  · rw [Bool.not_eq_true] at hw
    rw [hw, if_neg (by decide), getD_set (by omega)]
    show _ = _ + (if x = a then ((0 * 2 ^ b : Nat) : Int) else 0) + (if x = b then ((1 * 2 ^ a : Nat) : Int) else 0)
    rw [Nat.one_mul, Nat.zero_mul]
    by_cases h1 : x = b
    · rw [if_pos h1, if_pos h1, h1]
      split <;> simp
    · rw [if_neg h1, if_neg h1]
      split <;> simp
noncomputable def sumI (w : Nat → Nat → Bool) (a x : Nat) : Nat → Int
  | 0 => 0
  | k + 1 => sumI w a x k + (if x = a then (((w a (a + 1 + k)).toNat * 2 ^ (a + 1 + k) : Nat) : Int) else 0) + (if x = a + 1 + k then (((!w a (a + 1 + k)).toNat * 2 ^ a : Nat) : Int) else 0)
theorem btI_get {w : Nat → Nat → Bool} {a : Nat} {bt : List Int} (hl : bt.length = 5) (x : Nat) : ∀ k, a + k < 5 → (btI w a k bt).getD x 0 = bt.getD x 0 + sumI w a x k
  | 0, _ => by show _ = _ + 0; rw [Int.add_zero]; rfl
  | k + 1, h => by
    unfold btI sumI
    rw [btS_get (by rw [btI_len, hl]) (by omega) (by omega), btI_get hl x k (by omega)]
    omega
noncomputable def sumO (w : Nat → Nat → Bool) (x : Nat) : Nat → Int
  | 0 => 0
  | k + 1 => sumO w x k + sumI w k x (4 - k)
theorem btO_get {w : Nat → Nat → Bool} (x : Nat) : ∀ k, k ≤ 5 → (btO w k).getD x 0 = sumO w x k
  | 0, _ => by
    show ([0, 0, 0, 0, 0] : List Int).getD x 0 = 0
    match x with
    | 0 => rfl | 1 => rfl | 2 => rfl | 3 => rfl | 4 => rfl
    | n + 5 => rfl
  | k + 1, h => by
    unfold btO sumO
    rw [btI_get (btO_len w k) x (4 - k) (by omega), btO_get x k (by omega)]
theorem bt_fin {bs : List (List Int)} (B : Bal bs) : btO (win bs) 5 = (List.range 5).map fun x => ((maskB (win bs x) : Nat) : Int) := by
  have hl := btO_len (win bs) 5
  have hx := fun x => btO_get (w := win bs) x 5 (Nat.le_refl _)
  have an := fun (x y : Nat) (hx : x < 5) (hy : y < 5) (hn : x ≠ y) => win_anti B hx hy hn
  have ir := fun (x : Nat) (hx : x < 5) => win_irr B hx
  generalize win bs = w at *
  generalize btO w 5 = l at *
  match l, hl with
  | [p, q, r, s, t], _ =>
    have h0 : p = sumO w 0 5 := hx 0
    have h1 : q = sumO w 1 5 := hx 1
    have h2 : r = sumO w 2 5 := hx 2
    have h3 : s = sumO w 3 5 := hx 3
    have h4 : t = sumO w 4 5 := hx 4
    show [p, q, r, s, t] = [((maskB (w 0) : Nat) : Int), ((maskB (w 1) : Nat) : Int), ((maskB (w 2) : Nat) : Int), ((maskB (w 3) : Nat) : Int), ((maskB (w 4) : Nat) : Int)]
    have e0 : sumO w 0 5 = 0 + ((w 0 1).toNat * 2 : Nat) + ((w 0 2).toNat * 4 : Nat) + ((w 0 3).toNat * 8 : Nat) + ((w 0 4).toNat * 16 : Nat) := by simp [sumO, sumI]
    have e1 : sumO w 1 5 = ((!w 0 1).toNat : Nat) + ((w 1 2).toNat * 4 : Nat) + ((w 1 3).toNat * 8 : Nat) + ((w 1 4).toNat * 16 : Nat) := by simp [sumO, sumI]; omega
    have e2 : sumO w 2 5 = ((!w 0 2).toNat : Nat) + ((!w 1 2).toNat * 2 : Nat) + ((w 2 3).toNat * 8 : Nat) + ((w 2 4).toNat * 16 : Nat) := by simp [sumO, sumI]; omega
    have e3 : sumO w 3 5 = ((!w 0 3).toNat : Nat) + ((!w 1 3).toNat * 2 : Nat) + ((!w 2 3).toNat * 4 : Nat) + ((w 3 4).toNat * 16 : Nat) := by simp [sumO, sumI]
    have e4 : sumO w 4 5 = ((!w 0 4).toNat : Nat) + ((!w 1 4).toNat * 2 : Nat) + ((!w 2 4).toNat * 4 : Nat) + ((!w 3 4).toNat * 8 : Nat) := by simp [sumO, sumI]
    rw [h0, h1, h2, h3, h4, e0, e1, e2, e3, e4]
    rw [← an 0 1 (by decide) (by decide) (by decide), ← an 0 2 (by decide) (by decide) (by decide), ← an 0 3 (by decide) (by decide) (by decide), ← an 0 4 (by decide) (by decide) (by decide), ← an 1 2 (by decide) (by decide) (by decide),
      ← an 1 3 (by decide) (by decide) (by decide), ← an 1 4 (by decide) (by decide) (by decide), ← an 2 3 (by decide) (by decide) (by decide), ← an 2 4 (by decide) (by decide) (by decide), ← an 3 4 (by decide) (by decide) (by decide)]
    unfold maskB
    rw [ir 0 (by decide), ir 1 (by decide), ir 2 (by decide), ir 3 (by decide), ir 4 (by decide)]
    simp only [Bool.toNat_false, Nat.zero_mul]
    refine List.cons_eq_cons.mpr ⟨by omega, List.cons_eq_cons.mpr ⟨by omega, List.cons_eq_cons.mpr ⟨by omega, List.cons_eq_cons.mpr ⟨by omega, List.cons_eq_cons.mpr ⟨by omega, rfl⟩⟩⟩⟩⟩
/-! the words -/
noncomputable def nmC : List (List Nat) := [[79, 80, 84, 73, 77, 73, 90, 69, 68], [78, 69, 87, 76, 79, 67, 65, 76, 83], [86, 65, 82, 65, 82, 71, 83], [86, 65, 82, 75, 69, 89, 87, 79, 82, 68, 83], [78, 69, 83, 84, 69, 68], [71, 69, 78, 69, 82, 65, 84, 79, 82], [78, 79, 70, 82, 69, 69], [67, 79, 82, 79, 85, 84, 73, 78, 69],
  [73, 84, 69, 82, 65, 66, 76, 69, 95, 67, 79, 82, 79, 85, 84, 73, 78, 69], [65, 83, 89, 78, 67, 95, 71, 69, 78, 69, 82, 65, 84, 79, 82]]
noncomputable def names10 : List Str := ["OPTIMIZED", "NEWLOCALS", "VARARGS", "VARKEYWORDS", "NESTED", "GENERATOR", "NOFREE", "COROUTINE", "ITERABLE_COROUTINE", "ASYNC_GENERATOR"]
theorem names10_S : names10 = nmC.map S := by decide +kernel
noncomputable def wdC (i : Nat) : List Nat := if i < 10 then nmC.getD i [] else [48, 120] ++ [[49, 50, 52, 56].getD (i % 4) 0] ++ List.replicate (i / 4) 48
theorem pfWord_C : ∀ i, i < 32 → pfWord i = S (wdC i) := by decide +kernel
noncomputable def wdsL (f : Nat → Bool) (s : Nat) : List (List Nat) := ((List.range 5).filter f).map fun y => wdC (y + s)
noncomputable def lwText (f : Nat → Bool) (s : Nat) : List Nat := if wdsL f s = [] then [48, 120, 48] else joinL (wdsL f s)
theorem bits_bools {s m : Nat} (hs : s < 28) (hm : m < 32) : (List.range 32).filter (m * 2 ^ s).testBit = ((List.range 5).filter m.testBit).map (· + s) := by
  have hb : ∀ i, (m * 2 ^ s).testBit i = (decide (s ≤ i) && m.testBit (i - s)) := fun i => by rw [Nat.testBit_mul_two_pow]
  have hr : ∀ a b : Nat, List.range (a + b) = List.range a ++ (List.range b).map (· + a) := fun a b => by
    rw [List.range_add]
    congr 1
    exact List.map_congr_left fun i _ => Nat.add_comm _ _
  have h0 : (List.range s).filter (m * 2 ^ s).testBit = [] := List.filter_eq_nil_iff.mpr fun i hi => by
    have := List.mem_range.mp hi
    rw [hb, decide_eq_false (by omega), Bool.false_and]; decide
  have h1 : ∀ l : List Nat, (l.map (· + s)).filter (m * 2 ^ s).testBit = (l.filter m.testBit).map (· + s) := fun l => by
    rw [List.filter_map]
    congr 1
    refine List.filter_congr fun i _ => ?_
    show (m * 2 ^ s).testBit (i + s) = _
    rw [hb, decide_eq_true (by omega), Bool.true_and, Nat.add_sub_cancel]
  have h2 : ((List.range (27 - s)).map (· + 5)).filter m.testBit = [] := List.filter_eq_nil_iff.mpr fun i hi => by
    obtain ⟨k, _, rfl⟩ := List.mem_map.mp hi
    rw [Nat.testBit_lt_two_pow (Nat.lt_of_lt_of_le (show m < 2 ^ 5 from hm) (Nat.pow_le_pow_right (by decide) (by omega)))]; decide
  rw [show 32 = s + (5 + (27 - s)) by omega, hr s, List.filter_append, h0, List.nil_append, h1, hr 5, List.filter_append, h2, List.append_nil]
theorem mask_bits (f : Nat → Bool) : ∀ i, i < 5 → (maskB f).testBit i = f i := by
  have key : ∀ a b c d e : Bool, ∀ i, i < 5 → (maskB fun i => [a, b, c, d, e].getD i false).testBit i = [a, b, c, d, e].getD i false := by decide +kernel
  intro i hi
  have h := key (f 0) (f 1) (f 2) (f 3) (f 4) i hi
  have e : ∀ j, j < 5 → [f 0, f 1, f 2, f 3, f 4].getD j false = f j := fun j hj => by
    match j, hj with
    | 0, _ => rfl
    | 1, _ => rfl
    | 2, _ => rfl
    | 3, _ => rfl
    | 4, _ => rfl
  rw [e i hi, maskB_congr e] at h
  exact h
theorem mask_zero (f : Nat → Bool) : maskB f = 0 ↔ (List.range 5).filter f = [] := by
  rw [List.filter_eq_nil_iff]
  constructor
  · intro h i hi
    rw [← mask_bits f i (List.mem_range.mp hi), h, Nat.zero_testBit]; decide
  · intro h
    rw [maskB_congr (g := fun _ => false) fun i hi => by have := h i (List.mem_range.mpr hi); rwa [Bool.not_eq_true] at this]
    rfl
theorem pf_zero : Txt.join ", " [baseText "0x" 16 0] = S [48, 120, 48] := by decide +kernel
theorem pf_text {f : Nat → Bool} {s : Nat} (hs : s < 28) : pfText (maskB f * 2 ^ s) = S (lwText f s) := by
  unfold pfText lwText
  have hm := maskB_lt f
  have hz : wdsL f s = [] ↔ maskB f = 0 := by unfold wdsL; rw [List.map_eq_nil_iff, mask_zero]
  by_cases h0 : maskB f = 0
  · rw [if_pos (hz.mpr h0), if_pos (by rw [h0, Nat.zero_mul])]; exact pf_zero
  · have hp : 0 < 2 ^ s := Nat.two_pow_pos s
    rw [if_neg fun h => h0 (hz.mp h), if_neg (by have := Nat.mul_pos (Nat.pos_of_ne_zero h0) hp; omega)]
    have e : pfWords (maskB f * 2 ^ s) 32 = (wdsL f s).map S := by
      unfold pfWords wdsL
      have e3 : ∀ (g : Nat → Bool) (l : List Nat), (∀ i ∈ l, i < 32) → l.filterMap (fun i => if g i = true then some (pfWord i) else none) = (l.filter g).map fun i => S (wdC i) := by
        intro g l hl
        induction l with
        | nil => rfl
        | cons x r ih =>
          have ih := ih fun i hi => hl i (by simp [hi])
          rw [List.filterMap_cons, List.filter_cons]
          by_cases hf : g x = true
          · rw [if_pos hf, if_pos hf]
            show pfWord x :: _ = _
            rw [ih, pfWord_C x (hl x (by simp)), List.map_cons]
          · rw [if_neg hf, if_neg hf]
            exact ih
      rw [e3 _ _ (fun i hi => List.mem_range.mp hi), bits_bools hs hm, List.map_map, List.map_map]
      have ef : (List.range 5).filter (maskB f).testBit = (List.range 5).filter f := List.filter_congr fun i hi => mask_bits f i (List.mem_range.mp hi)
      rw [ef]; rfl
    rw [e, join_S]
/-! two parts with three dots between -/
theorem starts_S {g h : List Nat} : Txt.startswith (S g) (S h) = (decide (h.length ≤ g.length) && (g.take h.length == h)) := by
  unfold Txt.startswith
  rw [StrLaws.subAt_eq, S_list, S_list, S_len, S_len, Nat.zero_add, List.drop_zero]
theorem ends_S {g h : List Nat} : Txt.endswith (S g) (S h) = (decide (h.length ≤ g.length) && ((g.drop (g.length - h.length)).take h.length == h)) := by
  unfold Txt.endswith
  rw [StrLaws.subAt_eq, S_list, S_list, S_len, S_len, Nat.zero_add]
theorem nz {n : Nat} : ((n : Int) != 0) = decide (n ≠ 0) := by
  rw [Bool.eq_iff_iff, bne_iff_ne, decide_eq_true_iff]; omega
theorem em_ends {g h t : List Nat} (hh : h.length ≤ g.length) (ht : t.length ≤ g.length) :
    em (S g) [S h, S t] = (decide (h.length + t.length ≤ g.length) && (g.take h.length == h && g.drop (g.length - t.length) == t)) := by
  have hdt : (g.drop (g.length - t.length)).take t.length = g.drop (g.length - t.length) := List.take_of_length_le (by rw [List.length_drop]; omega)
  have last : ∀ (ws : List Str) (s : Nat), s ≤ g.length → (∀ e : Nat, s ≤ e → e ≤ g.length → emLoop (S g) ws s e = true) → (t = [] → emLoop (S g) (ws ++ [S []]) s g.length = true) →
      emMid (S g) (ws ++ [S t]) s = (decide (s + t.length ≤ g.length) && g.drop (g.length - t.length) == t) := by
    intro ws s hs hl h0
    unfold emMid
    rw [List.getLast?_concat]
    show (if (((S t).length : Nat) : Int) != 0 then (if Txt.endswith (S g) (S t) = true then emEnd (S g) (ws ++ [S t]).dropLast s _ else false) else _) = _
    rw [List.dropLast_concat, S_len, S_len, nz, ends_S, hdt, decide_eq_true ht, Bool.true_and]
    by_cases e : t.length = 0
    · have e' : t = [] := List.length_eq_zero_iff.mp e
      rw [if_neg (by rw [e]; decide)]
      subst e'
      unfold emEnd
      rw [if_neg (by omega), h0 rfl, List.length_nil, Nat.add_zero, Nat.sub_zero, List.drop_length, decide_eq_true hs]
      rfl
    · rw [if_pos (by rw [decide_eq_true_iff]; exact e)]
      cases hb : (g.drop (g.length - t.length) == t) with
      | false => rw [if_neg (by decide), Bool.and_false]
      | true =>
        rw [if_pos rfl, Bool.and_true]
        unfold emEnd
        by_cases hlt : s + t.length ≤ g.length
        · rw [if_neg (by omega), decide_eq_true hlt]
          have := hl (g.length - t.length) (by omega) (by omega)
          rw [show ((g.length : Nat) : Int) - ((t.length : Nat) : Int) = ((g.length - t.length : Nat) : Int) by omega]
          exact this
        · rw [if_pos (by omega), decide_eq_false hlt]
  have f0 : ∀ s e : Nat, s ≤ e → e ≤ g.length → find4 (S g) (S []) s e = (s : Int) := fun s e h1 h2 => find4_nil (by rw [S_len]; exact h2) h1
  have l1 : ∀ s e : Nat, s ≤ e → e ≤ g.length → emLoop (S g) [S []] s e = true := fun s e h1 h2 => by
    show (if find4 (S g) (S []) s e < 0 then false else true) = true
    rw [f0 s e h1 h2, if_neg (by omega)]
  have l2 : ∀ s e : Nat, s ≤ e → e ≤ g.length → emLoop (S g) [S [], S []] s e = true := fun s e h1 h2 => by
    show (if find4 (S g) (S []) s e < 0 then false else emLoop (S g) [S []] (find4 (S g) (S []) s e + (S []).length) e) = true
    rw [f0 s e h1 h2, if_neg (by omega)]
    exact l1 s e h1 h2
  rw [em, S_len, nz, starts_S, decide_eq_true hh, Bool.true_and]
  by_cases e : h.length = 0
  · have e' : h = [] := List.length_eq_zero_iff.mp e
    subst e'
    rw [if_neg (by decide)]
    have := last [S []] 0 (Nat.zero_le _) (fun e _ h2 => l1 0 e (Nat.zero_le _) h2) (fun _ => l2 0 _ (Nat.zero_le _) (Nat.le_refl _))
    show emMid (S g) ([S []] ++ [S t]) ((0 : Nat) : Int) = _
    rw [this]
    rfl
  · rw [if_pos (by rw [decide_eq_true_iff]; exact e)]
    cases hb : (g.take h.length == h) with
    | false => rw [if_neg (by decide), Bool.false_and, Bool.and_false]
    | true =>
      rw [if_pos rfl, Bool.true_and]
      exact last [] h.length hh (fun e _ _ => rfl) (fun _ => l1 _ _ hh (Nat.le_refl _))
/-! a voter whose first choice is put in as an end of the line -/
noncomputable def othersK (bs : List (List Int)) (v : Int) : List Int := ((lineK bs).filter fun x => x != v).map (at' (pks bs))
noncomputable def marksK (bs : List (List Int)) (v lie : Int) : List Int := insRt (fun x => x) (othersK bs v) lie
theorem marks_ok {l : List Int} (hs : l.Pairwise (· ≤ ·)) (x : Int) : (insRt (fun x => x) l x).Perm (l ++ [x]) ∧ (insRt (fun x => x) l x).Pairwise (· ≤ ·) := by
  obtain ⟨l1, l2, e1, e2, b1, b2⟩ := insRt_split (kf := fun x => x) (l := l) x (by rw [List.map_id']; exact hs)
  rw [e2]
  constructor
  · rw [e1]
    refine List.perm_middle.trans ?_
    exact (List.perm_append_comm (l₁ := [x])).trans (.refl _)
  · subst e1
    rw [List.pairwise_append] at hs ⊢
    refine ⟨hs.1, List.pairwise_cons.mpr ⟨fun b hb => by have := b2 b hb; omega, hs.2.1⟩, fun a ha b hb => ?_⟩
    rcases List.mem_cons.mp hb with rfl | hb
    · exact b1 a ha
    · exact hs.2.2 a ha b hb
theorem third {l : List Int} (h5 : l.length = 5) (hs : l.Pairwise (· ≤ ·)) : 2 < l.countP (fun x => decide (x ≤ l.getD 2 0)) ∧ ∀ c : Int, c < l.getD 2 0 → l.countP (fun x => decide (x ≤ c)) ≤ 2 := by
  match l, h5 with
  | [a, b, m, d, e], _ =>
    simp only [List.pairwise_cons, List.mem_cons, List.not_mem_nil, or_false, forall_eq_or_imp, forall_eq] at hs
    show 2 < List.countP (fun x => decide (x ≤ m)) [a, b, m, d, e] ∧ ∀ c, c < m → List.countP (fun x => decide (x ≤ c)) [a, b, m, d, e] ≤ 2
    constructor
    · rw [List.countP_cons_of_pos (by rw [decide_eq_true_iff]; omega), List.countP_cons_of_pos (by rw [decide_eq_true_iff]; omega), List.countP_cons_of_pos (by rw [decide_eq_true_iff]; omega)]
      omega
    · intro c hc
      have h0 : List.countP (fun x => decide (x ≤ c)) [m, d, e] = 0 := List.countP_eq_zero.mpr fun x hx => by
        rw [decide_eq_true_iff]
        simp only [List.mem_cons, List.not_mem_nil, or_false] at hx
        omega
      rw [List.countP_cons, List.countP_cons, h0]
      split <;> split <;> omega
theorem others_sorted (bs : List (List Int)) (v : Int) : (othersK bs v).Pairwise (· ≤ ·) := by
  unfold othersK
  rw [List.pairwise_map]
  exact (line_mono bs).filter _
theorem split_cnt {l : List Int} {v : Int} (hn : l.Nodup) (hv : v ∈ l) (p : Int → Bool) : l.countP p = (l.filter fun x => x != v).countP p + (p v).toNat := by
  induction l with
  | nil => cases hv
  | cons x r ih =>
    rw [List.nodup_cons] at hn
    by_cases e : x = v
    · subst e
      have ef : (x :: r).filter (fun y => y != x) = r := by
        rw [List.filter_cons_of_neg (by simp), List.filter_eq_self]
        intro y hy
        exact bne_iff_ne.mpr fun e => hn.1 (e ▸ hy)
      rw [ef, List.countP_cons]
      cases p x <;> rfl
    · have hv' : v ∈ r := by rcases List.mem_cons.mp hv with h | h; exact absurd h.symm e; exact h
      have := ih hn.2 hv'
      rw [List.filter_cons_of_pos (by exact bne_iff_ne.mpr e), List.countP_cons, List.countP_cons, this]
      omega
theorem others_len {bs : List (List Int)} {v : Int} (hv : 0 ≤ v ∧ v < 5) : (othersK bs v).length = 4 := by
  have hm : v ∈ lineK bs := (line_perm bs).mem_iff.mpr (List.mem_map.mpr ⟨v.toNat, List.mem_range.mpr (by omega), by omega⟩)
  have := split_cnt (chain_nodup _ 5) hm (fun _ => true)
  unfold othersK
  rw [List.length_map]
  have hl : (lineK bs).length = 5 := chain_len _ _
  have h1 : ∀ l : List Int, l.countP (fun _ => true) = l.length := fun l => List.countP_eq_length.mpr fun _ _ => rfl
  rw [h1, h1] at this
  have : (lineK bs).length = ((lineK bs).filter fun x => x != v).length + 1 := this
  omega
theorem moulin {bs : List (List Int)} (B : Bal bs) {m : Nat} (hm : m < 5) (h1 : 2 < cntLe bs m) (h2 : ∀ c : Int, c < m → cntLe bs c ≤ 2) {v : Nat} (hv : v < 5) {lie : Int} (hlie : lie = 0 ∨ lie = 4) :
    0 ≤ (marksK bs v lie).getD 2 0 ∧ (marksK bs v lie).getD 2 0 < 5 ∧ ((marksK bs v lie).getD 2 0 ≠ m → ahead (bs.getD v []) m ((marksK bs v lie).getD 2 0) = true) := by
  obtain ⟨p1, p2⟩ := marks_ok (others_sorted bs v) lie
  have hlen : (marksK bs v lie).length = 5 := by
    have := p1.length_eq
    rw [List.length_append, others_len (by omega)] at this
    exact this
  have hv' : ((v : Nat) : Int) ∈ lineK bs := (line_perm bs).mem_iff.mpr (List.mem_map.mpr ⟨v, List.mem_range.mpr hv, rfl⟩)
  obtain ⟨t1, t2⟩ := third hlen p2
  have cnt : ∀ c : Int, (marksK bs v lie).countP (fun x => decide (x ≤ c)) + (decide (at' (pks bs) v ≤ c)).toNat = cntLe bs c + (decide (lie ≤ c)).toNat := fun c => by
    have e1 : (marksK bs v lie).countP (fun x => decide (x ≤ c)) = _ := p1.countP_eq (fun x => decide (x ≤ c))
    have e2 := split_cnt (chain_nodup _ 5) hv' (fun x => decide (at' (pks bs) x ≤ c))
    have e3 := line_cnt B (line_perm bs) c
    have e4 : (othersK bs v).countP (fun x => decide (x ≤ c)) = ((lineK bs).filter fun x => x != (v : Int)).countP (fun x => decide (at' (pks bs) x ≤ c)) := by unfold othersK; rw [List.countP_map]; rfl
    have e2 : (lineK bs).countP (fun x => decide (at' (pks bs) x ≤ c)) = ((lineK bs).filter fun x => x != (v : Int)).countP (fun x => decide (at' (pks bs) x ≤ c)) + (decide (at' (pks bs) v ≤ c)).toNat := e2
    rw [e1, List.countP_append, e4, ← e3, e2]
    have : List.countP (fun x => decide (x ≤ c)) [lie] = (decide (lie ≤ c)).toNat := by
      rw [List.countP_cons, List.countP_nil]
      cases decide (lie ≤ c) <;> rfl
    omega
  have hvl : v < bs.length := by rw [B.len]; exact hv
  have hb : bs.getD v [] ∈ B16 := B.mem _ (by rw [List.getD_eq_getElem?_getD, List.getElem?_eq_getElem hvl]; exact List.getElem_mem hvl)
  have hpk : at' (pks bs) v = pk1 (bs.getD v []) := by
    unfold at' pks
    rw [Int.toNat_natCast, List.getD_eq_getElem?_getD, List.getElem?_map, List.getD_eq_getElem?_getD, List.getElem?_eq_getElem hvl]; rfl
  have hmem : ∀ x ∈ marksK bs v lie, 0 ≤ x ∧ x < 5 := fun x hx => by
    have := p1.mem_iff.mp hx
    rcases List.mem_append.mp this with h | h
    · obtain ⟨y, hy, rfl⟩ := List.mem_map.mp h
      have hy := chain_mem (List.mem_filter.mp hy).1
      unfold at' pks
      rw [List.getD_eq_getElem?_getD, List.getElem?_map]
      have hyl : y.toNat < bs.length := by rw [B.len]; omega
      rw [List.getElem?_eq_getElem hyl]
      exact bal_pk _ (B.mem _ (List.getElem_mem hyl))
    · rw [List.mem_singleton.mp h]; omega
  have h2l : 2 < (marksK bs v lie).length := by omega
  have hm2 := hmem ((marksK bs v lie).getD 2 0) (by rw [List.getD_eq_getElem?_getD, List.getElem?_eq_getElem h2l]; exact List.getElem_mem h2l)
  generalize (marksK bs v lie).getD 2 0 = z at t1 t2 hm2 ⊢
  rw [hpk] at cnt
  refine ⟨hm2.1, hm2.2, fun hne => ?_⟩
  have bt : ∀ b : Bool, b.toNat ≤ 1 := by decide
  have d1 : ∀ a b : Int, a ≤ b → (decide (a ≤ b)).toNat = 1 := fun a b h => by rw [decide_eq_true h]; rfl
  have d0 : ∀ a b : Int, ¬ a ≤ b → (decide (a ≤ b)).toNat = 0 := fun a b h => by rw [decide_eq_false h]; rfl
  rcases Int.lt_or_gt_of_ne hne with hlt | hgt
  · -- a lie to the left
    have c1 := cnt z
    have := h2 z hlt
    have hpz : ¬ pk1 (bs.getD v []) ≤ z := fun h => by
      rw [d1 _ _ h] at c1
      have := bt (decide (lie ≤ z))
      omega
    rw [d0 _ _ hpz] at c1
    have hlz : lie ≤ z := by
      by_cases h : lie ≤ z
      · exact h
      · rw [d0 _ _ h] at c1; omega
    rw [d1 _ _ hlz] at c1
    have hmp : ((m : Nat) : Int) ≤ pk1 (bs.getD v []) := by
      by_cases h : ((m : Nat) : Int) ≤ pk1 (bs.getD v [])
      · exact h
      · have c2 := cnt (pk1 (bs.getD v []))
        rw [d1 _ _ (Int.le_refl _), d1 _ _ (show lie ≤ pk1 (bs.getD v []) by omega)] at c2
        have := h2 (pk1 (bs.getD v [])) (by omega)
        have mono : (marksK bs v lie).countP (fun x => decide (x ≤ z)) ≤ (marksK bs v lie).countP (fun x => decide (x ≤ pk1 (bs.getD v []))) := List.countP_mono_left fun x _ e => by
          rw [decide_eq_true_iff] at e ⊢; omega
        omega
    have := bal_right _ hb m hm z.toNat (by omega) hmp
    rwa [Int.toNat_of_nonneg hm2.1] at this
  · -- to the right
    have c1 := cnt m
    have := t2 m hgt
    have hpm : pk1 (bs.getD v []) ≤ m := by
      by_cases h : pk1 (bs.getD v []) ≤ m
      · exact h
      · rw [d0 _ _ h] at c1; omega
    have := bal_left _ hb z.toNat (by omega) m (by omega) hpm
    rwa [Int.toNat_of_nonneg hm2.1] at this

end
section
open PySem PySem.W PyProof.Rows PySem.Calls
set_option Elab.async false
set_option maxRecDepth 100000
set_option autoImplicit false
set_option linter.unusedVariables false
noncomputable def ez (t : Int) : List Nat := if t % 3 = 0 then [10] else if t % 3 = 1 then [13] else [13, 10]
theorem ez_ok (t : Int) : ez t = [10] ∨ ez t = [13] ∨ ez t = [13, 10] := by
  unfold ez
  split
  · exact .inl rfl
  · split
    · exact .inr (.inl rfl)
    · exact .inr (.inr rfl)
theorem ez_len (t : Int) : (ez t).length ≤ 2 := by
  rcases ez_ok t with h | h | h <;> rw [h] <;> decide
theorem ez_get {a b e : Str} (ha : a = S [10]) (hb : b = S [13]) (he : e = S [13, 10]) (t : Int) : ([V.str a, .str b, .str e] : List V)[(t % 3).toNat]? = some (.str (S (ez t))) := by
  subst ha; subst hb; subst he
  have h0 : 0 ≤ t % 3 := Int.emod_nonneg _ (by decide)
  have h1 : t % 3 < 3 := Int.emod_lt_of_pos _ (by decide)
  unfold ez
  by_cases e0 : t % 3 = 0
  · rw [if_pos e0, e0]; rfl
  · rw [if_neg e0]
    by_cases e1 : t % 3 = 1
    · rw [if_pos e1, e1]; rfl
    · rw [if_neg e1, show t % 3 = 2 by omega]; rfl
theorem strs_SS (l : List (List Nat)) : (l.map fun r => V.str (S r)) = (l.map S).map V.str := by rw [List.map_map]; rfl
theorem slice_S {r : List Nat} {c : Nat} (h : c ≤ r.length) : Txt.slice (S r) (some (c : Int)) none = S (r.drop c) := by
  rw [slice_from_eq (b := (r.length : Int)) (Int.natCast_nonneg _) (by rw [S_len]; omega) (by rw [S_len]), S_list, Int.toNat_natCast]
  show S _ = S _
  rw [List.take_of_length_le]
  rw [List.length_drop]; omega
theorem sum_bound {b : Nat} : ∀ {l : List Nat}, (∀ x ∈ l, x ≤ b) → l.sum ≤ b * l.length
  | [], _ => Nat.le_refl _
  | x :: r, h => by
    have := sum_bound fun y hy => h y (List.mem_cons_of_mem _ hy)
    have := h x (by simp)
    rw [List.sum_cons, List.length_cons, Nat.mul_add]; omega
theorem getD_mem' {α : Type} {l : List α} {k : Nat} {x : α} (h : k < l.length) : l.getD k x ∈ l := by
  rw [List.getD_eq_getElem?_getD, List.getElem?_eq_getElem h]; exact List.getElem_mem h
theorem tk_at {σ₀ σ : Hp} {n : Nat} {l : List V} (h : σ.take σ₀.length = σ₀) (hl : σ₀[n]? = some l) : σ[n]? = some l := by
  have := at_lt hl
  rw [← h, List.getElem?_take_of_lt this] at hl; exact hl
theorem crlf_len (l : List (List Nat)) : (crlf l).length = (l.map fun r => r.length + 2).sum := by
  unfold crlf
  rw [List.length_flatten, List.map_map]
  congr 1
  exact List.map_congr_left fun r _ => by simp
theorem dotted_len (r : List Nat) : (dotted r).length = r.length + (decide (r.head? = some 46)).toNat := by
  unfold dotted
  by_cases h : r.head? = some 46
  · rw [if_pos h, decide_eq_true h]; rfl
  · rw [if_neg h, decide_eq_false h]; rfl
theorem tk_trans {σ₀ σ₁ σ₂ : Hp} (h1 : σ₁.take σ₀.length = σ₀) (h2 : σ₂.take σ₁.length = σ₁) : σ₂.take σ₀.length = σ₀ := by
  have h := tk_le h1
  have := congrArg (List.take σ₀.length) h2
  rw [List.take_take, Nat.min_eq_left h, h1] at this
  exact this
theorem ref_item {l : List Nat} {k : Nat} {u : V} (hu : (l.map V.ref)[k]? = some u) : k < l.length ∧ u = .ref (l.getD k 0) := by
  rw [List.getElem?_map] at hu
  cases e : l[k]? with
  | none => rw [e] at hu; cases hu
  | some x =>
    rw [e] at hu
    obtain ⟨h, e2⟩ := List.getElem?_eq_some_iff.mp e
    refine ⟨h, ?_⟩
    rw [List.getD_eq_getElem?_getD, e]
    simpa using hu.symm
theorem dat_ok {l : List (List Nat)} (h : ∀ w ∈ l, ∀ ch ∈ w, ch < 128) : (l.map fun w => V.str (S w)).all datOk = true := by
  rw [List.all_map, List.all_eq_true]
  intro w hw
  show (w.toArray.all fun ch => decide (ch < 1114112)) = true
  rw [Array.all_eq_true']
  intro ch hc
  have := h w hw ch (by simpa using hc)
  exact decide_eq_true (by omega)
theorem eqv_nil (l : List (List Nat)) : PyData.eqvAll ((l.map fun w => V.str (S w)).map dat) (([] : List V).map dat) = decide (l = []) := by
  cases l with
  | nil => rfl
  | cons w r => rw [List.map_cons, List.map_cons, List.map_nil, PyData.eqvAll]; rfl
theorem take_filter_step {α : Type} {l : List α} {k : Nat} (dflt : α) (f : α → Bool) (h : k < l.length) : (l.take (k + 1)).filter f = (l.take k).filter f ++ (if f (l.getD k dflt) = true then [l.getD k dflt] else []) := by
  rw [List.take_succ_eq_append_getElem h, List.filter_append, List.getD_eq_getElem?_getD, List.getElem?_eq_getElem h]
  congr 1
  show [l[k]].filter f = if f l[k] = true then [l[k]] else []
  rw [List.filter_cons]
  split <;> rfl
theorem bool_pair (t : Bool) : PyData.eqvAll ([V.bool (t == true), .bool (t == false)].map dat) ([V.bool t, .bool (!t)].map dat) = true := by
  cases t <;> rfl

end
section
open PySem PySem.W PyProof.Rows PySem.Calls
set_option Elab.async false
set_option maxRecDepth 100000
set_option autoImplicit false
set_option linter.unusedVariables false
set_option maxHeartbeats 1000000

section
variable {c : Fx} {d : Nat} {σ : Hp} {Q : V → Hp → Prop} {P : Params}
theorem sorted_uniq {l l' m : List Int} (h1 : l.Perm m) (h2 : l'.Perm m) (s1 : l.Pairwise (· ≤ ·)) (s2 : l'.Pairwise (· ≤ ·)) : l = l' :=
  List.Perm.eq_of_pairwise (fun a b _ _ p q => by omega) s1 s2 (h1.trans h2.symm)
theorem hex_word : ∀ b, b < 32 → 10 ≤ b → (("0x" : Str) ++ S [[49, 50, 52, 56].getD (b % 4) 0] ++ Txt.mul "0" ((b / 4 : Nat) : Int) : Str) = S (wdC b) := by decide +kernel
theorem hex_len : ∀ b, b < 32 → (("0x" : Str) ++ S [[49, 50, 52, 56].getD (b % 4) 0] : Str).length = 3 ∧ (Txt.mul "0" ((b / 4 : Nat) : Int)).length ≤ 8 := by decide +kernel
theorem one248 : ∀ b, b < 4 → (("1248" : Str)).cps.toList[b]? = some ([49, 50, 52, 56].getD b 0) := by decide +kernel
theorem mul_ok : ∀ k, k < 8 → MulOk ("0" : Str) ((k : Nat) : Int) := by unfold MulOk; decide +kernel
theorem wdsL_c {f : Nat → Bool} {s : Nat} (hs : s < 28) : ∀ w ∈ wdsL f s, w.length ≤ 18 ∧ ∀ ch ∈ w, ch < 128 := fun w hw => by
  obtain ⟨y, hy, rfl⟩ := List.mem_map.mp hw
  have := List.mem_range.mp (List.mem_filter.mp hy).1
  have key : ∀ i, i < 32 → (wdC i).length ≤ 18 ∧ ∀ ch ∈ wdC i, ch < 128 := by decide +kernel
  exact key _ (by omega)
theorem wdsL_len (f : Nat → Bool) (s : Nat) : (wdsL f s).length ≤ 5 := by
  unfold wdsL; rw [List.length_map]
  have := List.length_filter_le f (List.range 5)
  rw [List.length_range] at this; exact this
theorem wds_spec (B : Base c) (hK : c.K = HK P) {np : Nat} {pl : List Int} {s : Nat} (f : Nat → Bool) (hs : s < 28) (hp : σ[np]? = some (pl.map .int)) (hpl : pl.Perm (((List.range 5).filter f).map fun n : Nat => (n : Int))) (q : Q (.str (S (lwText f s))) σ) :
    CALLV c (d + 1) (.obj (.ref 120)) [.ref np, .int (s : Int)] [] σ Q := by
  refine CALL_def [("places", .ref np), ("start", .int (s : Int))] B (hK ▸ DWDS P) ?_ (by dsimp only [List.map]; decide +kernel) ?_ fun hcl L => ?_
  · simp only [List.forall_mem_cons]
    exact ⟨.inl rfl, .inl rfl, fun _ h => nomatch h⟩
  · intro h μ vs ks hv hk
    obtain ⟨v1, v2, rfl, r1, r2⟩ := args2 hv
    obtain rfl := args0 hk
    exact ⟨[("places", v1), ("start", v2)], fun S => by rw [hK]; kernel_rfl, .cons ⟨rfl, r1⟩ (.cons ⟨rfl, r2⟩ .nil)⟩
  · refine SXs_post ?_
    intro Q1 hQ1
    refine SXs_cons ?_
    refine SX_assign ?_ ?_
    · rfl
    refine SE_tuple ?_
    iterate 21 walk_at "se"
    refine ⟨rfl, by show (10 : Nat) ≤ 2 ^ 20; decide, .inl rfl, ?_⟩
    refine SXs_cons (SX_assign rfl ?_)
    refine SE_list ?_
    walk_at "se"
    refine ⟨rfl, Nat.zero_le _, .inl rfl, ?_⟩
    refine SXs_has [("words", .ref σ.length), ("names", .tup (names10.map .str)), ("places", .ref np), ("start", .int (s : Int))] ⟨rfl, by kernel_rfl, rfl, rfl, trivial⟩ ?_
    have hnp := at_lt hp
    have hys : ∀ y ∈ (List.range 5).filter f, y < 5 := fun y hy => List.mem_range.mp (List.mem_filter.mp hy).1
    have hyl : ((List.range 5).filter f).length ≤ 5 := by have := List.length_filter_le f (List.range 5); rwa [List.length_range] at this
    have hwe : (((List.range 5).filter f).map fun y => wdC (y + s)) = wdsL f s := rfl
    have hpw : (((List.range 5).filter f).map fun n : Nat => (n : Int)).Pairwise (· ≤ ·) := by
      rw [List.pairwise_map]
      have : (List.range 5).Pairwise fun a b : Nat => (a : Int) ≤ (b : Int) := List.pairwise_le_range.imp fun {a b} h => by omega
      exact this.filter _
    generalize (List.range 5).filter f = ys at hpl hys hyl hwe hpw
    refine SXs_cons (FOR (S := Unit) (fun k _ => [("words", .ref σ.length), ("names", .tup (names10.map .str)), ("start", .int (s : Int))])
      (fun k _ σ' => σ' = σ ++ [((ys.take k).map fun y => wdC (y + s)).map (fun w => .str (S w)), (ys.map fun n : Nat => (n : Int)).map .int]) (fun _ => rfl) ?_)
    with_reducible refine SE_bi1 (v := .builtin "sorted") B (by with_unfolding_all rfl) (by rw [hK]; kernel_rfl) (by with_unfolding_all rfl) (by with_unfolding_all rfl) (by with_unfolding_all rfl) (by decide +kernel) (by decide +kernel) (by decide +kernel) (by with_unfolding_all exact trivial) ?_
    refine CALL_sorted (at_old hp) (by rw [hpl.length_eq, List.length_map]; omega) fun l' h1 h2 => ?_
    have el : l' = ys.map fun n : Nat => (n : Int) := sorted_uniq (h1.trans hpl) (.refl _) h2 hpw
    rw [el]
    have e2 : ∀ k, (σ ++ [((ys.take k).map fun y => wdC (y + s)).map (fun w => V.str (S w)), (ys.map fun n : Nat => (n : Int)).map .int])[(σ ++ [([] : List V)]).length]? = some ((ys.map fun n : Nat => (n : Int)).map .int) := fun k => by
      rw [List.length_append, List.getElem?_append_right (by omega), show σ.length + [([] : List V)].length - σ.length = 1 by simp]; rfl
    have e1 : ∀ k, (σ ++ [((ys.take k).map fun y => wdC (y + s)).map (fun w => V.str (S w)), (ys.map fun n : Nat => (n : Int)).map .int])[σ.length]? = some (((ys.take k).map fun y => wdC (y + s)).map (fun w => V.str (S w))) := fun k => by
      rw [List.getElem?_append_right (Nat.le_refl _), Nat.sub_self]; rfl
    refine ⟨(ys.map fun n : Nat => (n : Int)).map .int, (), by rw [List.append_assoc]; rfl, ⟨rfl, rfl, rfl, trivial⟩, fun k y σ' _ h => by subst h; exact e2 k, ?_, ?_⟩
    · rintro k _ _ u hu rfl
      obtain ⟨hk, rfl⟩ := int_item hu
      rw [List.length_map] at hk
      have hgy : (ys.map fun n : Nat => (n : Int)).getD k 0 = ((ys.getD k 0 : Nat) : Int) := by
        rw [List.getD_eq_getElem?_getD, List.getElem?_map, List.getD_eq_getElem?_getD, List.getElem?_eq_getElem hk]; rfl
      rw [hgy]
      have hy5 : ys.getD k 0 < 5 := hys _ (getD_mem' hk)
      have hstep : (ys.take (k + 1)).map (fun y => wdC (y + s)) = (ys.take k).map (fun y => wdC (y + s)) ++ [wdC (ys.getD k 0 + s)] := by
        rw [← take_map_snoc 0 _ hk]
      generalize ys.getD k 0 = y at hy5 hstep ⊢
      have fin : (σ ++ [((ys.take k).map fun y => wdC (y + s)).map (fun w => V.str (S w)), (ys.map fun n : Nat => (n : Int)).map .int]).set σ.length (((ys.take k).map fun y => wdC (y + s)).map (fun w => V.str (S w)) ++ [V.str (S (wdC (y + s)))]) =
          σ ++ [((ys.take (k + 1)).map fun y => wdC (y + s)).map (fun w => V.str (S w)), (ys.map fun n : Nat => (n : Int)).map .int] := by
        rw [List.set_append_right _ _ (Nat.le_refl _), Nat.sub_self, hstep, List.map_append]; rfl
      have hlk : (((ys.take k).map fun y => wdC (y + s)).map (fun w => V.str (S w))).length < 2 ^ 20 := by rw [List.length_map, List.length_map, List.length_take]; omega
      have h1k := e1 k
      generalize σ ++ [((ys.take k).map fun y => wdC (y + s)).map (fun w => V.str (S w)), (ys.map fun n : Nat => (n : Int)).map .int] = σ1 at h1k fin ⊢
      generalize ((ys.take k).map fun y => wdC (y + s)).map (fun w => V.str (S w)) = acc at h1k fin hlk
      refine ⟨.inl rfl, SXs_post fun Q2 hQ2 => ?_⟩
      refine SXs_cons (SX_assign rfl ?_)
      walk_at "se"; walk_at "se"; walk_at "se"
      refine BIN_add ⟨.inl rfl, ?_⟩
      have hb : (y : Int) + (s : Int) = ((y + s : Nat) : Int) := by omega
      rw [hb]
      generalize hbb : y + s = b at fin ⊢
      have hb32 : b < 32 := by omega
      refine SXs_one (SX_if ?_)
      walk_at "se"; walk_at "se"; walk_at "se"
      refine CMP_lt ⟨fun h => ?_, fun h => ?_⟩
      · have h10 : b < 10 := by have := of_decide_eq_true h; omega
        refine SXs_one (SX_expr rfl rfl ?_)
        walk_at "se"; walk_at "se"
        refine ⟨_, METH_ref F.slot_list_append F.type_list_append, ?_⟩
        walk_at "se"; walk_at "se"; walk_at "se"; walk_at "se"
        refine GET_tup (Int.natCast_nonneg _) (v := .str (S (wdC b))) ?_ ?_
        · rw [Int.toNat_natCast, names10_S, List.getElem?_map, List.getElem?_map, List.getElem?_eq_getElem (by show b < 10; exact h10)]
          unfold wdC
          rw [if_pos h10, List.getD_eq_getElem?_getD, List.getElem?_eq_getElem (by show b < 10; exact h10)]; rfl
        walk_at "se"
        refine CALL_append h1k rfl hlk ?_
        rw [fin]
        exact hQ2 _ _ _ ⟨(), rfl, rfl, rfl, rfl, trivial⟩
      · have h10 : 10 ≤ b := by have := of_decide_eq_false h; omega
        refine SXs_one (SX_expr rfl rfl ?_)
        walk_at "se"; walk_at "se"
        refine ⟨_, METH_ref F.slot_list_append F.type_list_append, ?_⟩
        walk_at "se"; walk_at "se"; walk_at "se"; walk_at "se"; walk_at "se"; walk_at "se"; walk_at "se"; walk_at "se"; walk_at "se"
        refine BIN_mods (by decide) ?_
        have hm : (b : Int) % 4 = ((b % 4 : Nat) : Int) := by omega
        rw [hm]
        refine GET_str (Int.natCast_nonneg _) (by omega) (by rw [Int.toNat_natCast]; exact one248 (b % 4) (by omega)) ?_
        rw [show (⟨#[[49, 50, 52, 56].getD (b % 4) 0]⟩ : Str) = S [[49, 50, 52, 56].getD (b % 4) 0] from rfl]
        refine BIN_cat (by show 2 + 1 ≤ _; decide) ?_
        walk_at "se"; walk_at "se"; walk_at "se"; walk_at "se"; walk_at "se"
        refine BIN_divs (by decide) (by decide) ?_
        have hd4 : (b : Int) / 4 = ((b / 4 : Nat) : Int) := by omega
        rw [hd4]
        have hl := hex_len b hb32
        refine BIN_rep (mul_ok _ (by omega)) ?_
        have hw := hex_word b hb32 h10
        refine BIN_cat (by omega) ?_
        walk_at "se"
        rw [hw]
        refine CALL_append h1k rfl hlk ?_
        rw [fin]
        exact hQ2 _ _ _ ⟨(), rfl, rfl, rfl, rfl, trivial⟩
    · rintro _ _ rfl
      rw [List.length_map, List.length_map, List.take_length, hwe]
      have e1' : (σ ++ [(wdsL f s).map (fun w => V.str (S w)), (ys.map fun n : Nat => (n : Int)).map .int])[σ.length]? = some ((wdsL f s).map (fun w => V.str (S w))) := by rw [List.getElem?_append_right (Nat.le_refl _), Nat.sub_self]; rfl
      have htk : (σ ++ [(wdsL f s).map (fun w => V.str (S w)), (ys.map fun n : Nat => (n : Int)).map .int]).take σ.length = σ := by rw [List.take_left]
      generalize σ ++ [(wdsL f s).map (fun w => V.str (S w)), (ys.map fun n : Nat => (n : Int)).map .int] = σ1 at e1' htk ⊢
      have fin : ∀ (ρ' : Loc) (τ : Hp), τ.take σ.length = σ → Q1 (.rt (.str (S (lwText f s)))) ρ' τ := fun ρ' τ ht => hQ1 _ _ _ ⟨_, _, _, .inl rfl, fun m hm => hcl m (by rw [ht] at hm; exact hm), .drop _ rfl, by rw [ht]; exact q⟩
      have hok : ((wdsL f s).map fun w => V.str (S w)).all datOk = true := dat_ok fun w hw => (wdsL_c hs w hw).2
      refine SXs_nil ?_
      refine SXs_one (SX_return ?_)
      refine SE_if ?_
      walk_at "se"; walk_at "se"
      refine SE_list ?_
      walk_at "se"
      refine ⟨rfl, Nat.zero_le _, ?_⟩
      refine CMP_neDat (at_old e1') (at_end _) hok rfl ?_
      rw [eqv_nil]
      refine ⟨fun h => ?_, fun h => ?_⟩
      · have hne : ¬ wdsL f s = [] := fun e => by rw [decide_eq_true e] at h; cases h
        walk_at "se"; walk_at "se"
        refine ⟨_, METH_str F.slot_str_join F.type_str_join, ?_⟩
        walk_at "se"; walk_at "se"; walk_at "se"
        refine CALL_join (l := (wdsL f s).map S) (by rw [at_old e1', strs_SS]) ?_ ?_
        · have h1 := sum_bound (b := 18) (l := ((wdsL f s).map S).map (·.length)) fun x hx => by
            rw [List.map_map] at hx
            obtain ⟨e, he, rfl⟩ := List.mem_map.mp hx
            show (S e).length ≤ 18
            rw [S_len]; exact (wdsL_c hs e he).1
          have h0 : ((", " : Str)).length = 2 := by decide +kernel
          have h2 := wdsL_len f s
          rw [List.length_map, List.length_map] at h1
          rw [List.length_map, h0]
          omega
        rw [join_S, show joinL (wdsL f s) = lwText f s from by unfold lwText; rw [if_neg hne]]
        exact fin _ _ (tk_app htk)
      · have he : wdsL f s = [] := by
          cases hd : decide (wdsL f s = []) with
          | true => exact of_decide_eq_true hd
          | false => rw [hd] at h; cases h
        walk_at "se"
        have e0 : ("0x0" : Str) = S (lwText f s) := by unfold lwText; rw [if_pos he]; decide +kernel
        rw [e0]
        exact fin _ _ (tk_app htk)
end

end
section
open PySem PySem.W PyProof.Rows PySem.Calls
set_option Elab.async false
set_option maxRecDepth 100000
set_option autoImplicit false
set_option linter.unusedVariables false
set_option maxHeartbeats 1000000

section
variable {c : Fx} {d : Nat} {σ : Hp} {P : Params} {Q : FV → Loc → Hp → Prop}
noncomputable def fLAW (P : Params) : FuncData := fdG (HK P) 132
noncomputable def bLAW (P : Params) : List Stmt := bodyG (HK P) 132
theorem DLAW (P : Params) : DefOk (HK P) 132 (fLAW P) (bLAW P) := ⟨rfl, rfl, rfl, rfl, rfl, rfl, rfl, rfl, _, rfl, by kernel_rfl⟩
/-- the ballots as lists -/
structure Bals (σ : Hp) (bN : Nat) (as : List Nat) (ns : List Int) (k : Nat) : Prop where
  len : as.length = k
  at' : σ[bN]? = some (as.map .ref)
  each : ∀ i, i < k → bN < as.getD i 0 ∧ σ[as.getD i 0]? = some ((ballot (ns.getD i 0)).map .int)
theorem Bals.app {σ τ : Hp} {bN k : Nat} {as : List Nat} {ns : List Int} (h : Bals σ bN as ns k) : Bals (σ ++ τ) bN as ns k := ⟨h.len, at_old h.at', fun i hi => ⟨(h.each i hi).1, at_old (h.each i hi).2⟩⟩
theorem Bals.tk {σ τ : Hp} {bN k : Nat} {as : List Nat} {ns : List Int} (h : Bals σ bN as ns k) (ht : τ.take σ.length = σ) : Bals τ bN as ns k := ⟨h.len, tk_at ht h.at', fun i hi => ⟨(h.each i hi).1, tk_at ht (h.each i hi).2⟩⟩
theorem Bals.snoc {σ : Hp} {bN k : Nat} {as : List Nat} {ns : List Int} (h : Bals σ bN as ns k) :
    Bals ((σ ++ [(ballot (ns.getD k 0)).map V.int]).set bN (as.map .ref ++ [.ref σ.length])) bN (as ++ [σ.length]) ns (k + 1) := by
  have hlt := at_lt h.at'
  have hb : (σ ++ [(ballot (ns.getD k 0)).map V.int])[bN]? = some (as.map .ref) := at_old h.at'
  refine ⟨by rw [List.length_append, h.len]; rfl, by rw [at_self hb, List.map_append]; rfl, fun i hi => ?_⟩
  by_cases hik : i < k
  · have h1 := h.each i hik
    have e : (as ++ [σ.length]).getD i 0 = as.getD i 0 := by
      rw [List.getD_eq_getElem?_getD, List.getD_eq_getElem?_getD, List.getElem?_append_left (by rw [h.len]; exact hik)]
    rw [e]
    exact ⟨h1.1, at_ne (at_old h1.2) (by omega)⟩
  · have hik : i = k := by omega
    subst hik
    have e : (as ++ [σ.length]).getD i 0 = σ.length := by
      rw [List.getD_eq_getElem?_getD, List.getElem?_append_right (by rw [h.len]; omega), h.len, Nat.sub_self]; rfl
    rw [e]
    exact ⟨hlt, at_ne (at_end _) (by omega)⟩
theorem law1 (B : Base c) (hK : c.K = HK P) {L : Addr} {xs : List Int} (hx : xs.length ≤ 63)
    (k : ∀ (σ' : Hp) (ns : List Int) (s nN bN pN : Nat) (as : List Nat), s < 28 → ns.length = 5 → σ'.take σ.length = σ → σ'[nN]? = some (ns.map .int) → Bals σ' bN as ns 5 → σ'[pN]? = some ((pks (ns.map ballot)).map .int) →
      SXs c (d + 1) (callEnvC (fLAW P) L 132) ((bLAW P).drop 4) [("peak", .ref pN), ("ballots", .ref bN), ("start", .int (s : Int)), ("numbers", .ref nN)] σ' Q) :
    SXs c (d + 1) (callEnvC (fLAW P) L 132) (bLAW P) [("script", .fl (xs.map .int))] σ Q := by
  refine SXs_cons (SX_assign rfl ?_)
  refine SE_comp (cl := _) [("script", .fl (xs.map .int))] ⟨fun _ => rfl, rfl, rfl, by decide +kernel, fa ⟨rfl, rfl⟩ (fa0), fa ⟨rfl, .inl rfl, _, rfl, rfl, fun n => rfl⟩ (fa0), fa ⟨by show ("script" : Str) ≠ "k"; decide +kernel, rfl⟩ (fa0), rfl⟩ ?_
  with_reducible refine SE_range B (by with_unfolding_all rfl) (by rw [hK]; kernel_rfl) (by with_unfolding_all rfl) ?_
  refine ⟨rngItems (0 : Nat) (5 : Nat), fun k τ => ∃ ns : List Int, ns.length = k ∧ τ = σ ++ [ns.map .int], rng_items (by decide) (by decide), ⟨[], rfl, rfl⟩, fun k τ _ _ => rng_items (by decide) (by decide), ?_, ?_⟩
  · rintro k _ u hu ⟨ns, hk, rfl⟩ C
    obtain ⟨rfl, hk5⟩ := rng0_item hu
    refine ⟨.inl rfl, TST_nil ⟨fun h => (nomatch h), fun _ => ?_⟩⟩
    have fin : ∀ z : Int, atom (.int z) = true ∧ ∃ acc, (σ ++ [ns.map V.int])[σ.length]? = some acc ∧ acc.length < 2 ^ 20 ∧ ∃ ns' : List Int, ns'.length = k + 1 ∧ (σ ++ [ns.map V.int]).set σ.length (acc ++ [.int z]) = σ ++ [ns'.map .int] := fun z =>
      ⟨rfl, _, at_end _, by rw [List.length_map]; omega, ns ++ [z], by simp [hk], by rw [set_end, List.map_append]; rfl⟩
    refine SE_if ?_
    walk_at "se"; walk_at "se"
    with_reducible refine SE_bi1 (v := .builtin "len") B (by with_unfolding_all rfl) (by rw [hK]; kernel_rfl) (by with_unfolding_all rfl) (by with_unfolding_all rfl) (by with_unfolding_all rfl) (by decide +kernel) (by decide +kernel) (by decide +kernel) (by with_unfolding_all exact trivial) ?_
    refine CALL_len_fl ?_
    refine CMP_lt ⟨fun h => ?_, fun h => ?_⟩
    · have h' : k < xs.length := by have : (k : Int) < ((xs.map V.int).length : Nat) := by simpa using h
                                    rw [List.length_map] at this; omega
      walk_at "se"; walk_at "se"; walk_at "se"; walk_at "se"
      refine GET_fl (Int.natCast_nonneg _) (v := .int (xs.getD k 0)) (by rw [Int.toNat_natCast]; exact geti h') ?_
      walk_at "se"; walk_at "se"; walk_at "se"
      refine BIN_pow (by decide) (by decide) (by decide) ?_
      refine BIN_mods (by decide) ?_
      exact fin _
    · walk_at "se"
      refine SE_tuple ?_
      walk_at "se"; walk_at "se"; walk_at "se"; walk_at "se"; walk_at "se"; walk_at "se"; walk_at "se"; walk_at "se"; walk_at "se"; walk_at "se"; walk_at "se"
      refine ⟨rfl, by show (5 : Nat) ≤ 2 ^ 20; decide, ?_⟩
      walk_at "se"
      refine GET_tup (Int.natCast_nonneg _) (v := .int (([395, 1221, 1054, 579, 200] : List Int).getD k 0)) ?_ (fin _)
      rw [Int.toNat_natCast]
      exact geti (ds := [395, 1221, 1054, 579, 200]) (by show k < 5; omega)
  · rintro _ ⟨ns, hn, rfl⟩
    rw [rng_len] at hn
    refine ⟨.inr ⟨rfl, rfl, rfl⟩, ?_⟩
    have tk1 : (σ ++ [ns.map V.int]).take σ.length = σ := by rw [List.take_left]
    have hN1 : (σ ++ [ns.map V.int])[σ.length]? = some (ns.map .int) := at_end _
    generalize σ ++ [ns.map V.int] = σ1 at tk1 hN1 ⊢
    generalize σ.length = nN at hN1 ⊢
    -- start
    refine SXs_cons (SX_assign rfl ?_)
    walk_at "se"; walk_at "se"
    refine SE_bi B _ rfl (by rw [hK]; kernel_rfl) rfl ?_
    walk_at "se"
    refine SE_comp (cl := _) [] ⟨fun _ => rfl, rfl, rfl, by decide +kernel, fa0, fa0, fa0, rfl⟩ ?_
    refine SE_sliceT F.slot_list_getitem.lookup ?_
    walk_at "se"
    refine SP_none (SP_some ?_)
    walk_at "se"
    refine ⟨_, rfl, GSL_fl (by show (0 : Int) ≤ 63; decide) ?_⟩
    have ep : pick (xs.map V.int) none (some 63) = xs.map V.int := by
      show (xs.map V.int).take 63 = _
      exact List.take_of_length_le (by rw [List.length_map]; exact hx)
    rw [ep]
    have tk2 := tk_app (τ := [xs.map V.int]) tk1
    have hN2 := at_old (τ := [xs.map V.int]) hN1
    have hX2 : (σ1 ++ [xs.map V.int])[σ1.length]? = some (xs.map .int) := at_end _
    generalize σ1 ++ [xs.map V.int] = σ2 at tk2 hN2 hX2 ⊢
    refine ⟨xs.map .int, fun k τ => τ = σ2 ++ [((xs.take k).map fun x => x % 28).map .int], hX2, rfl, fun k τ _ h => by subst h; exact at_old hX2, ?_, ?_⟩
    · rintro k _ u hu rfl C
      obtain ⟨hk, rfl⟩ := int_item hu
      refine ⟨.inl rfl, TST_nil ⟨fun h => (nomatch h), fun _ => ?_⟩⟩
      walk_at "se"; walk_at "se"; walk_at "se"
      refine BIN_mods (by decide) ⟨rfl, _, at_end _, by rw [List.length_map, List.length_map, List.length_take]; omega, ?_⟩
      show _ = σ2 ++ [((xs.take (k + 1)).map fun x => x % 28).map V.int]
      rw [set_end, ← take_map_snoc 0 (fun x => x % 28) hk, List.map_append]
      rfl
    · rintro _ rfl
      rw [List.length_map, List.take_length]
      walk_at "se"; walk_at "se"
      refine ⟨trivial, rfl, CALL_sum (at_end _) ?_⟩
      walk_at "se"
      refine BIN_mods (by decide) ?_
      obtain ⟨s, hs, hs28⟩ : ∃ s : Nat, (xs.map fun x => x % 28).sum % 28 = (s : Int) ∧ s < 28 := ⟨((xs.map fun x => x % 28).sum % 28).toNat, by omega, by omega⟩
      rw [hs]
      refine ⟨.inl rfl, ?_⟩
      have tk3 := tk_app (τ := [(xs.map fun x => x % 28).map V.int]) tk2
      have hN3 := at_old (τ := [(xs.map fun x => x % 28).map V.int]) hN2
      generalize σ2 ++ [(xs.map fun x => x % 28).map V.int] = σ3 at tk3 hN3 ⊢
      -- ballots
      refine SXs_cons (SX_comp (cl := _) [] rfl ⟨fun _ => rfl, rfl, rfl, by decide +kernel, fa0, fa0, fa0, rfl⟩ ?_)
      walk_at "se"
      have hnl := at_lt hN3
      refine ⟨ns.map .int, fun k τ => τ.take σ3.length = σ3 ∧ ∃ as, Bals τ σ3.length as ns k, hN3, ⟨by rw [List.take_left], [], rfl, at_end _, fun i hi => absurd hi (Nat.not_lt_zero i)⟩, fun k τ _ h => tk_at h.1 hN3, ?_, .inl rfl, ?_⟩
      · rintro k τ u hu ⟨htk, as, hA⟩ C
        obtain ⟨hk, rfl⟩ := int_item hu
        refine ⟨.inl rfl, TST_nil ⟨fun h => (nomatch h), fun _ => ?_⟩⟩
        with_reducible refine SE_gl1 B (.ref 106) (by with_unfolding_all rfl) (by rw [hK]; kernel_rfl) (by with_unfolding_all rfl) (by with_unfolding_all rfl) (by decide +kernel) (by decide +kernel) (Calls_def B (hK ▸ DBAL P)) ?_
        refine bal_spec B hK ⟨rfl, _, at_old hA.at', by rw [List.length_map, hA.len]; omega, tk_set (tk_app htk) (Nat.le_refl _), _, hA.snoc⟩
      · rintro τ ⟨htk, as, hA⟩
        rw [List.length_map, hn] at hA
        have tk4 := tk_trans tk3 htk
        have hN4 := tk_at htk hN3
        generalize σ3.length = bN at hA ⊢
        -- peak
        refine SXs_cons (SX_assign rfl ?_)
        refine SE_comp (cl := _) [] ⟨fun _ => rfl, rfl, rfl, by decide +kernel, fa0, fa0, fa0, rfl⟩ ?_
        walk_at "se"
        refine ⟨as.map .ref, fun k ω => ω = τ ++ [((List.range k).map fun i => pk1 (ballot (ns.getD i 0))).map .int], hA.at', rfl, fun k ω _ h => by subst h; exact at_old hA.at', ?_, ?_⟩
        · rintro k _ u hu rfl C
          obtain ⟨hk, rfl⟩ := ref_item hu
          rw [hA.len] at hk
          refine ⟨.inl rfl, TST_nil ⟨fun h => (nomatch h), fun _ => ?_⟩⟩
          walk_at "se"; walk_at "se"; walk_at "se"
          refine GET_list (at_old (hA.each k hk).2) (by decide) (v := .int (pk1 (ballot (ns.getD k 0)))) (geti (k := 0) (by rw [bal_len _ (ballot_mem _)]; decide)) ⟨rfl, _, at_end _, by rw [List.length_map, List.length_map, List.length_range]; omega, ?_⟩
          rw [set_end]
          show _ = τ ++ [((List.range (k + 1)).map fun i => pk1 (ballot (ns.getD i 0))).map V.int]
          rw [List.range_succ, List.map_append, List.map_append]
          rfl
        · rintro _ rfl
          rw [List.length_map, hA.len]
          refine ⟨.inr ⟨rfl, rfl, rfl⟩, ?_⟩
          have ep : ((List.range 5).map fun i => pk1 (ballot (ns.getD i 0))) = pks (ns.map ballot) := by
            match ns, hn with
            | [a, b, c, d, e], _ => rfl
          rw [ep]
          refine SXs_has [("peak", .ref τ.length), ("ballots", .ref bN), ("start", .int (s : Int)), ("numbers", .ref nN)] ⟨rfl, rfl, rfl, rfl, trivial⟩ ?_
          exact k _ ns s nN bN _ as hs28 hn (tk_app tk4) (at_old hN4) hA.app (at_end _)
end

end
section
open PySem PySem.W PyProof.Rows PySem.Calls
set_option Elab.async false
set_option maxRecDepth 100000
set_option autoImplicit false
set_option linter.unusedVariables false
set_option maxHeartbeats 1000000

section
variable {c : Fx} {d : Nat} {σ : Hp} {P : Params} {Q : FV → Loc → Hp → Prop}
theorem p2a {σ : Hp} (a b : List V) : (σ ++ [a, b])[σ.length]? = some a := by rw [List.getElem?_append_right (Nat.le_refl _), Nat.sub_self]; rfl
theorem p2b {σ : Hp} (a b : List V) : (σ ++ [a, b])[σ.length + 1]? = some b := by rw [List.getElem?_append_right (by omega), show σ.length + 1 - σ.length = 1 by omega]; rfl
theorem s2a {σ : Hp} (a b a' : List V) : (σ ++ [a, b]).set σ.length a' = σ ++ [a', b] := by rw [List.set_append_right _ _ (Nat.le_refl _), Nat.sub_self]; rfl
theorem s2b {σ : Hp} (a b b' : List V) : (σ ++ [a, b]).set (σ.length + 1) b' = σ ++ [a, b'] := by rw [List.set_append_right _ _ (by omega), show σ.length + 1 - σ.length = 1 by omega]; rfl
theorem law2 (B : Base c) (hK : c.K = HK P) (hT : ((131 : Addr), (129 : Addr), (("law" : Str) ++ ".<locals>." ++ "<lambda>" : Str)) ∈ c.tabs) {L : Addr} {nN bN pN s : Nat} {pk : List Int} (hP : σ[pN]? = some (pk.map .int)) (hp5 : pk.length = 5)
    (k : ∀ (σ' : Hp) (lN kN : Nat), σ'.take σ.length = σ → σ'[lN]? = some ((chain (at' pk) 5).map .int) → σ'[kN]? = some ((chainL (at' pk) 5).map .int) →
      SXs c (d + 3) (callEnvC (fLAW P) L 132) ((bLAW P).drop 9) [("line", .ref lN), ("back", .ref kN), ("peak", .ref pN), ("ballots", .ref bN), ("start", .int (s : Int)), ("numbers", .ref nN)] σ' Q) :
    SXs c (d + 3) (callEnvC (fLAW P) L 132) ((bLAW P).drop 4) [("peak", .ref pN), ("ballots", .ref bN), ("start", .int (s : Int)), ("numbers", .ref nN)] σ Q := by
  have hpn := at_lt hP
  refine SXs_cons (SX_assign rfl ?_)
  refine SE_list ?_
  walk_at "se"
  refine ⟨rfl, Nat.zero_le _, .inr ⟨rfl, rfl, rfl⟩, ?_⟩
  refine SXs_cons (SX_assign rfl ?_)
  refine SE_list ?_
  walk_at "se"
  refine ⟨rfl, Nat.zero_le _, .inr ⟨rfl, rfl, rfl⟩, ?_⟩
  rw [List.append_assoc, show (σ ++ [([] : List V)]).length = σ.length + 1 from List.length_append]
  refine SXs_cons (FOR (S := Unit) (fun k _ => [("back", .ref (σ.length + 1)), ("line", .ref σ.length), ("peak", .ref pN), ("ballots", .ref bN), ("start", .int (s : Int)), ("numbers", .ref nN)])
    (fun k _ σ' => σ' = σ ++ [(chain (at' pk) k).map .int, (chainL (at' pk) k).map .int]) (fun _ => rfl) ?_)
  with_reducible refine SE_range B (by with_unfolding_all rfl) (by rw [hK]; kernel_rfl) (by with_unfolding_all rfl) ?_
  refine ⟨rngItems (0 : Nat) (5 : Nat), (), rfl, ⟨rfl, rfl, rfl, rfl, rfl, rfl, trivial⟩, fun k y σ' _ _ => rng_items (by decide) (by decide), ?_, ?_⟩
  · rintro k _ _ u hu rfl
    obtain ⟨rfl, hk⟩ := rng0_item hu
    refine ⟨.inr ⟨rfl, rfl, rfl⟩, SXs_post fun Q2 hQ2 => ?_⟩
    have hc1 := chain_len (at' pk) k
    have hc2 := chainL_len (at' pk) k
    refine SXs_cons (SX_expr rfl rfl ?_)
    walk_at "se"
    refine SE_gl B (.ref 47) rfl (by rw [hK]; kernel_rfl) ?_
    walk_at "se"; walk_at "se"; walk_at "se"; walk_at "se"; walk_at "se"; walk_at "se"
    refine SE_lam (cap := [("peak", pN)]) hT rfl rfl rfl ⟨rfl, rfl, rfl, rfl, rfl⟩ rfl ?_ ?_
    · intro y m hm
      obtain ⟨rfl, rfl⟩ : y = "peak" ∧ m = pN := by simpa using hm
      exact ⟨_, rfl, rfl, ne_local (k := .cell) rfl (by decide), rfl⟩
    refine ⟨Calls_def B (hK ▸ DIR P), rfl, ir_key B hK (at' pk) (p2a _ _) (by omega) trivial rfl (fun y hy => ?_) ?_⟩
    · refine key_peak rfl rfl rfl (by decide +kernel) (by decide +kernel) (by decide +kernel) (by decide +kernel) (at_old hP) y ?_ rfl (by decide +kernel)
      rcases hy with hy | rfl
      · have := chain_mem hy; omega
      · omega
    rw [s2a]
    show SXs _ _ _ _ _ (σ ++ [(chain (at' pk) (k + 1)).map .int, (chainL (at' pk) k).map .int]) _
    refine SXs_one (SX_expr rfl rfl ?_)
    walk_at "se"
    refine SE_gl B (.ref 65) rfl (by rw [hK]; kernel_rfl) ?_
    walk_at "se"; walk_at "se"; walk_at "se"; walk_at "se"; walk_at "se"; walk_at "se"
    refine SE_lam (cap := [("peak", pN)]) hT rfl rfl rfl ⟨rfl, rfl, rfl, rfl, rfl⟩ rfl ?_ ?_
    · intro y m hm
      obtain ⟨rfl, rfl⟩ : y = "peak" ∧ m = pN := by simpa using hm
      exact ⟨_, rfl, rfl, ne_local (k := .cell) rfl (by decide), rfl⟩
    refine ⟨Calls_def B (hK ▸ DIL P), rfl, il_key B hK (at' pk) (p2b _ _) (by omega) trivial rfl (fun y hy => ?_) ?_⟩
    · refine key_peak rfl rfl rfl (by decide +kernel) (by decide +kernel) (by decide +kernel) (by decide +kernel) (at_old hP) y ?_ rfl (by decide +kernel)
      rcases hy with hy | rfl
      · have := chainL_mem hy; omega
      · omega
    rw [s2b]
    exact hQ2 _ _ _ ⟨(), rfl, rfl, rfl, rfl, rfl, rfl, rfl, trivial⟩
  · rintro _ _ rfl
    rw [rng_len, Nat.sub_zero]
    refine SXs_nil ?_
    have tk1 : (σ ++ [(chain (at' pk) 5).map V.int, (chainL (at' pk) 5).map .int]).take σ.length = σ := by rw [List.take_left]
    have hL1 : (σ ++ [(chain (at' pk) 5).map V.int, (chainL (at' pk) 5).map .int])[σ.length]? = _ := p2a _ _
    have hB1 : (σ ++ [(chain (at' pk) 5).map V.int, (chainL (at' pk) 5).map .int])[σ.length + 1]? = _ := p2b _ _
    have hP1 : (σ ++ [(chain (at' pk) 5).map V.int, (chainL (at' pk) 5).map .int])[pN]? = some (pk.map .int) := at_old hP
    generalize σ ++ [(chain (at' pk) 5).map V.int, (chainL (at' pk) 5).map .int] = σ1 at tk1 hL1 hB1 hP1 ⊢
    generalize σ.length + 1 = kN at hB1 ⊢
    generalize hlN : σ.length = lN at hL1 tk1 ⊢
    subst hlN
    refine SXs_cons (SX_if ?_)
    walk_at "se"; walk_at "se"; walk_at "se"
    refine SE_bi B _ rfl (by rw [hK]; kernel_rfl) rfl ?_
    walk_at "se"
    refine SE_list ?_
    walk_at "se"; walk_at "se"; walk_at "se"; walk_at "se"; walk_at "se"; walk_at "se"; walk_at "se"; walk_at "se"; walk_at "se"; walk_at "se"; walk_at "se"
    refine ⟨rfl, by show (5 : Nat) ≤ 2 ^ 20; decide, ?_⟩
    walk_at "se"; walk_at "se"
    refine SE_lam (cap := [("peak", pN)]) hT rfl rfl rfl ⟨rfl, rfl, rfl, rfl, rfl⟩ rfl ?_ ?_
    · intro y m hm
      obtain ⟨rfl, rfl⟩ : y = "peak" ∧ m = pN := by simpa using hm
      exact ⟨_, rfl, rfl, ne_local (k := .cell) rfl (by decide), rfl⟩
    show _ ∧ _ ∧ CALLV c _ _ _ _ (σ1 ++ [([0, 1, 2, 3, 4] : List Int).map .int]) _
    refine ⟨trivial, rfl, CALL_sortedKey (at' pk) B.ok (at_end _) (by decide) (by decide) (fun c' _ ys y hy => ?_) fun lo hS => ?_⟩
    · refine key_peak rfl rfl rfl (by decide +kernel) (by decide +kernel) (by decide +kernel) (by decide +kernel) (at_old (at_old hP1)) y ?_ rfl (by decide +kernel)
      have : ∀ y ∈ ([0, 1, 2, 3, 4] : List Int), 0 ≤ y ∧ y < 5 := by decide
      have := this y hy
      omega
    rw [order5 hS]
    generalize hcl : chain (at' pk) 5 = cl at hL1 ⊢
    refine CMP_neInts (l := cl) (l' := cl) (at_old (at_old hL1)) (at_end _) ⟨fun h => ?_, fun _ => SXs_nil ?_⟩
    · simp at h
    have tk2 := tk_app (τ := [cl.map V.int]) (tk_app (τ := [([0, 1, 2, 3, 4] : List Int).map V.int]) tk1)
    have hL2 := at_old (τ := [cl.map V.int]) (at_old (τ := [([0, 1, 2, 3, 4] : List Int).map V.int]) hL1)
    have hB2 := at_old (τ := [cl.map V.int]) (at_old (τ := [([0, 1, 2, 3, 4] : List Int).map V.int]) hB1)
    have hP2 := at_old (τ := [cl.map V.int]) (at_old (τ := [([0, 1, 2, 3, 4] : List Int).map V.int]) hP1)
    show SXs _ _ _ _ _ (σ1 ++ [([0, 1, 2, 3, 4] : List Int).map .int] ++ [cl.map .int]) _
    generalize σ1 ++ [([0, 1, 2, 3, 4] : List Int).map V.int] ++ [cl.map V.int] = σ2 at tk2 hL2 hB2 hP2 ⊢
    refine SXs_cons (SX_if ?_)
    walk_at "se"; walk_at "se"; walk_at "se"
    refine SE_bi B _ rfl (by rw [hK]; kernel_rfl) rfl ?_
    walk_at "se"
    refine SE_list ?_
    walk_at "se"; walk_at "se"; walk_at "se"; walk_at "se"; walk_at "se"; walk_at "se"; walk_at "se"; walk_at "se"; walk_at "se"; walk_at "se"; walk_at "se"
    refine ⟨rfl, by show (5 : Nat) ≤ 2 ^ 20; decide, ?_⟩
    walk_at "se"; walk_at "se"
    refine SE_lam (cap := [("peak", pN)]) hT rfl rfl rfl ⟨rfl, rfl, rfl, rfl, rfl⟩ rfl ?_ ?_
    · intro y m hm
      obtain ⟨rfl, rfl⟩ : y = "peak" ∧ m = pN := by simpa using hm
      exact ⟨_, rfl, rfl, ne_local (k := .cell) rfl (by decide), rfl⟩
    show _ ∧ _ ∧ CALLV c _ _ _ _ (σ2 ++ [([4, 3, 2, 1, 0] : List Int).map .int]) _
    refine ⟨trivial, rfl, CALL_sortedKey (at' pk) B.ok (at_end _) (by decide) (by decide) (fun c' _ ys y hy => ?_) fun lo hS => ?_⟩
    · refine key_peak rfl rfl rfl (by decide +kernel) (by decide +kernel) (by decide +kernel) (by decide +kernel) (at_old (at_old hP2)) y ?_ rfl (by decide +kernel)
      have : ∀ y ∈ ([4, 3, 2, 1, 0] : List Int), 0 ≤ y ∧ y < 5 := by decide
      have := this y hy
      omega
    rw [order5L hS]
    generalize hcb : chainL (at' pk) 5 = cb at hB2 ⊢
    refine CMP_neInts (l := cb) (l' := cb) (at_old (at_old hB2)) (at_end _) ⟨fun h => ?_, fun _ => SXs_nil ?_⟩
    · simp at h
    refine SXs_has [("line", .ref σ.length), ("back", .ref kN), ("peak", .ref pN), ("ballots", .ref bN), ("start", .int (s : Int)), ("numbers", .ref nN)] ⟨rfl, rfl, rfl, rfl, rfl, rfl, trivial⟩ ?_
    refine k _ _ _ (tk_app (tk_app tk2)) (at_old (at_old (hcl ▸ hL2))) (at_old (at_old (hcb ▸ hB2)))
end

end
section
open PySem PySem.W PyProof.Rows PySem.Calls
set_option Elab.async false
set_option maxRecDepth 100000
set_option autoImplicit false
set_option linter.unusedVariables false
set_option maxHeartbeats 1000000

section
variable {c : Fx} {d : Nat} {σ : Hp} {P : Params} {Q : FV → Loc → Hp → Prop}
theorem crlf_cnt {n : Nat} : ∀ {R : List (List Nat)}, (∀ r ∈ R, r.length = n) → (crlf (R.map dotted)).length = R.length * (n + 2) + R.countP fun r => decide (r.head? = some 46)
  | [], _ => by rw [List.length_nil, Nat.zero_mul]; rfl
  | r :: R, h => by
    have ih := crlf_cnt fun r' hr => h r' (List.mem_cons_of_mem _ hr)
    have h1 := h r (by simp)
    rw [crlf_len] at ih ⊢
    rw [List.map_cons, List.map_cons, List.sum_cons, ih, dotted_len, h1, List.countP_cons, List.length_cons, Nat.add_mul]
    cases decide (r.head? = some 46) <;> simp <;> omega
theorem ivl_len (lo n : Nat) : (ivl lo n).length = n := by unfold ivl; rw [List.length_map, List.length_range]
theorem ivl_get {lo n i : Nat} (h : i < n) : (ivl lo n)[i]? = some ((lo + i : Nat) : Int) := by unfold ivl; rw [List.getElem?_map, List.getElem?_range h]; rfl
theorem ivl_cons (lo n : Nat) : ivl lo (n + 1) = (lo : Int) :: ivl (lo + 1) n := by
  unfold ivl
  rw [List.range_succ_eq_map, List.map_cons, List.map_map]
  congr 1
  refine List.map_congr_left fun i _ => ?_
  show ((lo + (i + 1) : Nat) : Int) = ((lo + 1 + i : Nat) : Int)
  omega
theorem ivl_snoc (lo n : Nat) : ivl lo (n + 1) = ivl lo n ++ [((lo + n : Nat) : Int)] := by
  unfold ivl
  rw [List.range_succ, List.map_append]; rfl
noncomputable def wBody : Stmt → List Stmt
  | .While _ b _ _ => b
  | _ => []
noncomputable def fBody : Stmt → List Stmt
  | .For _ _ b _ _ => b
  | _ => []
noncomputable def bMK (P : Params) : List Stmt := fBody ((wBody ((bLAW P).getD 11 (.Pass default))).getD 1 (.Pass default))
/-- one mail: rows, mail, due, sent -/
theorem law_mail (B : Base c) (hK : c.K = HK P) {L : Addr} {nN bN pN lN kN sN uN aN lo n : Nat} {st : Int} {ns : List Int} {as : List Nat} {mk : Int} {la : List Int} (hN : σ[nN]? = some (ns.map .int)) (hn5 : ns.length = 5) (hA : Bals σ bN as ns 5)
    (hS : σ[sN]? = some ((ivl lo n).map .int)) (hn2 : 1 ≤ n) (hn6 : n < 6) (hrow : ∀ b ∈ B16, (rowL (ivl lo n) mk b).length = n ∧ ∀ ch ∈ rowL (ivl lo n) mk b, ch ≠ 10 ∧ ch ≠ 13)
    (hLa : σ[aN]? = some (la.map .int)) (hla : la.length < 10)
    (hQ : ∀ (σ' : Hp) (ρ' : Loc), σ'.take σ.length = σ.set aN ((la ++ [(((ns.map ballot).countP fun b => decide ((rowL (ivl lo n) mk b).head? = some 46) : Nat) : Int)]).map .int) →
      Has ρ' [("lasts", .ref aN), ("struck", .ref uN), ("standing", .ref sN), ("line", .ref lN), ("back", .ref kN), ("peak", .ref pN), ("ballots", .ref bN), ("start", .int st), ("numbers", .ref nN)] → Q .nx ρ' σ') :
    SXs c (d + 1) (callEnvC (fLAW P) L 132) (bMK P) [("marked", .int mk), ("lasts", .ref aN), ("struck", .ref uN), ("standing", .ref sN), ("line", .ref lN), ("back", .ref kN), ("peak", .ref pN), ("ballots", .ref bN), ("start", .int st), ("numbers", .ref nN)] σ Q := by
  have hn0 : ∀ i, i < 5 → ballot (ns.getD i 0) ∈ B16 := fun i _ => ballot_mem _
  -- rows
  refine SXs_cons (SX_assign rfl ?_)
  refine SE_comp (cl := _) [("standing", .ref sN), ("marked", .int mk)] ⟨fun _ => rfl, rfl, rfl, by decide +kernel, fa ⟨rfl, rfl⟩ (fa ⟨rfl, rfl⟩ (fa0)), fa ⟨rfl, .inl rfl, _, rfl, rfl, fun n => rfl⟩ (fa ⟨rfl, .inl rfl, _, rfl, rfl, fun n => rfl⟩ (fa0)), fa ⟨by show ("standing" : Str) ≠ "ballot"; decide +kernel, rfl⟩ (fa ⟨by show ("marked" : Str) ≠ "ballot"; decide +kernel, rfl⟩ (fa0)), rfl⟩ ?_
  walk_at "se"
  refine ⟨as.map .ref, fun k τ => τ = σ ++ [((List.range k).map fun i => rowL (ivl lo n) mk (ballot (ns.getD i 0))).map fun r => .str (S r)], hA.at', rfl, fun k τ _ h => by subst h; exact at_old hA.at', ?_, ?_⟩
  · rintro k _ u hu rfl C
    obtain ⟨hk, rfl⟩ := ref_item hu
    rw [hA.len] at hk
    refine ⟨.inl rfl, TST_nil ⟨fun h => (nomatch h), fun _ => ?_⟩⟩
    walk_at "se"
    refine SE_gl B (.ref 113) rfl (by rw [hK]; kernel_rfl) ?_
    walk_at "se"; walk_at "se"; walk_at "se"; walk_at "se"; walk_at "se"; walk_at "se"; walk_at "se"; walk_at "se"
    refine ⟨Calls_def B (hK ▸ DROW P), rfl, row_spec B hK (at_old (hA.each k hk).2) (at_old hS) (bal_in _ (ballot_mem _)) (by rw [bal_len _ (ballot_mem _)]; decide) ⟨rfl, _, at_end _, by rw [List.length_map, List.length_map, List.length_range]; omega, ?_⟩⟩
    rw [set_end]
    show _ = σ ++ [((List.range (k + 1)).map fun i => rowL (ivl lo n) mk (ballot (ns.getD i 0))).map fun r => V.str (S r)]
    rw [List.range_succ, List.map_append, List.map_append]
    rfl
  rintro _ rfl
  rw [List.length_map, hA.len]
  refine ⟨.inr ⟨rfl, rfl, rfl⟩, ?_⟩
  have hcnt : (ns.map ballot).countP (fun b => decide ((rowL (ivl lo n) mk b).head? = some 46)) = ((List.range 5).map fun i => rowL (ivl lo n) mk (ballot (ns.getD i 0))).countP fun r => decide (r.head? = some 46) := by
    match ns, hn5 with
    | [a, b, c, d, e], _ => rw [List.countP_map, List.countP_map]; rfl
  rw [hcnt] at hQ
  have hR5 : ((List.range 5).map fun i => rowL (ivl lo n) mk (ballot (ns.getD i 0))).length = 5 := by rw [List.length_map, List.length_range]
  have hRl : ∀ r ∈ ((List.range 5).map fun i => rowL (ivl lo n) mk (ballot (ns.getD i 0))), r.length = n := fun r hr => by
    obtain ⟨i, _, rfl⟩ := List.mem_map.mp hr
    exact (hrow _ (ballot_mem _)).1
  have hRc : ∀ r ∈ ((List.range 5).map fun i => rowL (ivl lo n) mk (ballot (ns.getD i 0))), ∀ ch ∈ r, ch ≠ 10 ∧ ch ≠ 13 := fun r hr => by
    obtain ⟨i, _, rfl⟩ := List.mem_map.mp hr
    exact (hrow _ (ballot_mem _)).2
  generalize ((List.range 5).map fun i => rowL (ivl lo n) mk (ballot (ns.getD i 0))) = R at hcnt hR5 hRl hRc hQ ⊢
  have htk1 : (σ ++ [R.map fun r => V.str (S r)]).take σ.length = σ := by rw [List.take_left]
  have hN1 := at_old (τ := [R.map fun r => V.str (S r)]) hN
  have hR1 : (σ ++ [R.map fun r => V.str (S r)])[σ.length]? = some (R.map fun r => .str (S r)) := at_end _
  generalize σ ++ [R.map fun r => V.str (S r)] = σ2 at htk1 hN1 hR1 ⊢
  generalize hrN : σ.length = rN at hR1 ⊢
  -- mail
  refine SXs_cons (SX_assign rfl ?_)
  walk_at "se"; walk_at "se"
  refine ⟨_, METH_str F.slot_str_join F.type_str_join, ?_⟩
  walk_at "se"
  refine SE_comp (cl := _) [("rows", .ref rN), ("numbers", .ref nN)] ⟨fun _ => rfl, rfl, rfl, by decide +kernel, fa ⟨rfl, rfl⟩ (fa ⟨rfl, rfl⟩ (fa0)), fa ⟨rfl, .inl rfl, _, rfl, rfl, fun n => rfl⟩ (fa ⟨rfl, .inl rfl, _, rfl, rfl, fun n => rfl⟩ (fa0)), fa ⟨by show ("rows" : Str) ≠ "k"; decide +kernel, rfl⟩ (fa ⟨by show ("numbers" : Str) ≠ "k"; decide +kernel, rfl⟩ (fa0)), rfl⟩ ?_
  with_reducible refine SE_range B (by with_unfolding_all rfl) (by rw [hK]; kernel_rfl) (by with_unfolding_all rfl) ?_
  refine ⟨rngItems (0 : Nat) (5 : Nat), fun k τ => τ = σ2 ++ [((List.range k).map fun j : Nat => R.getD j [] ++ ez (ns.getD j 0 / 16)).map fun r => .str (S r)], rng_items (by decide) (by decide), rfl, fun k τ _ _ => rng_items (by decide) (by decide), ?_, ?_⟩
  · rintro k _ u hu rfl C
    obtain ⟨rfl, hk5⟩ := rng0_item hu
    have hkR : k < R.length := by omega
    have hrl := hRl _ (getD_mem' (x := []) hkR)
    have hel := ez_len (ns.getD k 0 / 16)
    refine ⟨.inl rfl, TST_nil ⟨fun h => (nomatch h), fun _ => ?_⟩⟩
    walk_at "se"; walk_at "se"; walk_at "se"; walk_at "se"
    refine GET_list (at_old hR1) (Int.natCast_nonneg _) (v := .str (S (R.getD k []))) (by rw [Int.toNat_natCast, List.getElem?_map, List.getD_eq_getElem?_getD, List.getElem?_eq_getElem hkR]; rfl) ?_
    walk_at "se"
    refine SE_tuple ?_
    walk_at "se"; walk_at "se"; walk_at "se"; walk_at "se"; walk_at "se"; walk_at "se"; walk_at "se"
    refine ⟨rfl, by show (3 : Nat) ≤ 2 ^ 20; decide, ?_⟩
    walk_at "se"; walk_at "se"; walk_at "se"; walk_at "se"; walk_at "se"
    refine GET_list (at_old hN1) (Int.natCast_nonneg _) (v := .int (ns.getD k 0)) (by rw [Int.toNat_natCast]; exact geti (by omega)) ?_
    walk_at "se"
    refine BIN_divs (by decide) (by decide) ?_
    walk_at "se"
    refine BIN_mods (by decide) ?_
    refine GET_tup (Int.emod_nonneg _ (by decide)) (ez_get (by decide +kernel) (by decide +kernel) (by decide +kernel) _) ?_
    refine BIN_catS (by rw [S_len, S_len]; omega) ?_
    refine ⟨rfl, _, at_end _, by rw [List.length_map, List.length_map, List.length_range]; omega, ?_⟩
    rw [set_end]
    show _ = σ2 ++ [((List.range (k + 1)).map fun j : Nat => R.getD j [] ++ ez (ns.getD j 0 / 16)).map fun r => V.str (S r)]
    rw [List.range_succ, List.map_append, List.map_append]
    rfl
  rintro _ rfl
  rw [rng_len, Nat.sub_zero]
  generalize hM : ((List.range 5).map fun j : Nat => R.getD j [] ++ ez (ns.getD j 0 / 16)) = MM
  have hMl : ∀ e ∈ MM, e.length ≤ 8 := fun e he => by
    rw [← hM] at he
    obtain ⟨j, hj, rfl⟩ := List.mem_map.mp he
    have hj := List.mem_range.mp hj
    have := hRl _ (getD_mem' (x := []) (show j < R.length by omega))
    have := ez_len (ns.getD j 0 / 16)
    rw [List.length_append]; omega
  have hM6 : MM.length = 5 := by rw [← hM, List.length_map, List.length_range]
  walk_at "se"
  have eM : (σ2 ++ [MM.map fun r => V.str (S r)])[σ2.length]? = some ((MM.map S).map .str) := by rw [at_end, strs_SS]
  refine CALL_join eM ?_ ?_
  · have := sum_bound (b := 8) (l := (MM.map S).map (·.length)) fun x hx => by
      rw [List.map_map] at hx
      obtain ⟨e, he, rfl⟩ := List.mem_map.mp hx
      show (S e).length ≤ 8
      rw [S_len]; exact hMl e he
    have h0 : (("" : Str)).length = 0 := by decide +kernel
    rw [List.length_map, List.length_map] at this
    rw [List.length_map, h0]
    omega
  rw [join_empty]
  refine ⟨.inl rfl, ?_⟩
  have htk2 := tk_app (τ := [MM.map fun r => V.str (S r)]) htk1
  have hR2 := at_old (τ := [MM.map fun r => V.str (S r)]) hR1
  generalize σ2 ++ [MM.map fun r => V.str (S r)] = σ3 at htk2 hR2 ⊢
  refine SXs_has [("mail", .str (S MM.flatten)), ("rows", .ref rN), ("lasts", .ref aN), ("struck", .ref uN), ("standing", .ref sN), ("line", .ref lN), ("back", .ref kN), ("peak", .ref pN), ("ballots", .ref bN), ("start", .int st), ("numbers", .ref nN)] ⟨rfl, rfl, rfl, rfl, rfl, rfl, rfl, rfl, rfl, rfl, rfl, trivial⟩ ?_
  -- due
  refine SXs_cons (SX_assign rfl ?_)
  walk_at "se"; walk_at "se"
  refine ⟨_, METH_str F.slot_str_join F.type_str_join, ?_⟩
  walk_at "se"
  refine SE_comp (cl := _) [] ⟨fun _ => rfl, rfl, rfl, by decide +kernel, fa0, fa0, fa0, rfl⟩ ?_
  walk_at "se"
  refine ⟨R.map fun r => .str (S r), fun k τ => τ = σ3 ++ [((R.take k).map fun r => dotted r ++ [13, 10]).map fun r => .str (S r)], hR2, by simp, fun k τ _ h => by subst h; exact at_old hR2, ?_, ?_⟩
  · rintro k _ u hu rfl C
    obtain ⟨hkR, rfl⟩ := str_item hu
    have hrl := hRl _ (getD_mem' (x := []) hkR)
    generalize hr : R.getD k [] = r at hrl ⊢
    refine ⟨.inl rfl, TST_nil ⟨fun h => (nomatch h), fun _ => ?_⟩⟩
    have hcl : 0 < r.length := by omega
    have hhd : r.head? = some r[0] := by rw [List.head?_eq_getElem?, List.getElem?_eq_getElem hcl]
    have e13 : (("\r\n" : Str)) = S [13, 10] := by decide +kernel
    walk_at "se"; walk_at "se"
    refine SE_if ?_
    walk_at "se"; walk_at "se"; walk_at "se"; walk_at "se"
    refine GET_str (by decide) (by decide) (ch := r[0]) (by show (S r).cps.toList[0]? = _; rw [S_list, List.getElem?_eq_getElem hcl]) ?_
    walk_at "se"
    rw [show ("." : Str) = S [46] from by decide +kernel]
    refine CMP_eqs ⟨fun h => ?_, fun h => ?_⟩
    · have hch : r[0] = 46 := by
        have h2 : S [r[0]] = S [46] := beq_iff_eq.mp h
        have h3 := congrArg (fun x : Str => x.cps.toList) h2
        exact (List.cons.inj h3).1
      have hpre : dotted r = [46] ++ r := by unfold dotted; rw [hhd, if_pos (by rw [hch])]; rfl
      walk_at "se"; walk_at "se"
      refine BIN_catS (by rw [S_len, S_len]; show 1 + _ ≤ _; omega) ?_
      walk_at "se"
      rw [e13]
      refine BIN_catS (by rw [S_len, S_len, List.length_append]; show 1 + _ + 2 ≤ _; omega) ?_
      refine ⟨rfl, _, at_end _, by rw [List.length_map, List.length_map, List.length_take]; omega, ?_⟩
      rw [set_end]
      show _ = σ3 ++ [((R.take (k + 1)).map fun r => dotted r ++ [13, 10]).map fun r => V.str (S r)]
      rw [← take_map_snoc [] (fun r => dotted r ++ [13, 10]) hkR, hr, List.map_append, hpre]
      rfl
    · have hch : r[0] ≠ 46 := fun e => by
        rw [e] at h
        have : (S [46] == S [46]) = false := h
        rw [beq_self_eq_true] at this; cases this
      have hpre : dotted r = [] ++ r := by unfold dotted; rw [hhd, if_neg (by intro e; exact hch (Option.some.inj e))]; rfl
      walk_at "se"
      rw [show ("" : Str) = S [] from by decide +kernel]
      walk_at "se"
      refine BIN_catS (by rw [S_len, S_len]; show 0 + _ ≤ _; omega) ?_
      walk_at "se"
      rw [e13]
      refine BIN_catS (by rw [S_len, S_len, List.length_append]; show 0 + _ + 2 ≤ _; omega) ?_
      refine ⟨rfl, _, at_end _, by rw [List.length_map, List.length_map, List.length_take]; omega, ?_⟩
      rw [set_end]
      show _ = σ3 ++ [((R.take (k + 1)).map fun r => dotted r ++ [13, 10]).map fun r => V.str (S r)]
      rw [← take_map_snoc [] (fun r => dotted r ++ [13, 10]) hkR, hr, List.map_append, hpre]
      rfl
  rintro _ rfl
  rw [List.length_map, List.take_length]
  have eD : (σ3 ++ [(R.map fun r => dotted r ++ [13, 10]).map fun r => V.str (S r)])[σ3.length]? = some (((R.map fun r => dotted r ++ [13, 10]).map S).map .str) := by rw [at_end, strs_SS]
  walk_at "se"
  have hDl : ∀ e ∈ (R.map fun r => dotted r ++ [13, 10]), e.length ≤ 9 := fun e he => by
    obtain ⟨r, hr, rfl⟩ := List.mem_map.mp he
    have := hRl r hr
    rw [List.length_append, dotted_len]
    have : (decide (r.head? = some 46)).toNat ≤ 1 := by cases decide (r.head? = some 46) <;> decide
    show _ + 2 ≤ 9
    omega
  refine CALL_join eD ?_ ?_
  · have := sum_bound (b := 9) (l := (((R.map fun r => dotted r ++ [13, 10]).map S).map (·.length))) fun x hx => by
      obtain ⟨y, hy, rfl⟩ := List.mem_map.mp hx
      obtain ⟨e, he, rfl⟩ := List.mem_map.mp hy
      rw [S_len]; exact hDl e he
    have h0 : (("" : Str)).length = 0 := by decide +kernel
    rw [List.length_map, List.length_map, List.length_map, hR5] at this
    rw [List.length_map, List.length_map, h0]
    omega
  rw [join_empty]
  refine ⟨.inl rfl, ?_⟩
  have eC : (R.map fun r => dotted r ++ [13, 10]).flatten = crlf (R.map dotted) := by unfold crlf; rw [List.map_map]; rfl
  rw [eC]
  have hC := crlf_cnt hRl
  rw [hR5] at hC
  generalize hCC : crlf (R.map dotted) = CC at hC ⊢
  generalize hD4 : ((R.map fun r => dotted r ++ [13, 10]).map fun r => V.str (S r)) = DD
  have htk4 := tk_app (τ := [DD]) htk2
  generalize σ3 ++ [DD] = σ4 at htk4 ⊢
  -- sent
  refine SXs_cons (SX_assign rfl ?_)
  with_reducible refine SE_gl1 B (.ref 99) (by with_unfolding_all rfl) (by rw [hK]; kernel_rfl) (by with_unfolding_all rfl) (by with_unfolding_all rfl) (by decide +kernel) (by decide +kernel) (Calls_def B (hK ▸ DQD P)) ?_
  have hcle : (R.countP fun r => decide (r.head? = some 46)) ≤ 5 := by have := List.countP_le_length (p := fun r : List Nat => decide (r.head? = some 46)) (l := R); omega
  refine qd_spec (rows := (List.range 5).map fun j : Nat => (R.getD j [], ez (ns.getD j 0 / 16))) B hK ?_ ?_ ?_ ?_ ?_
  · intro p hp
    obtain ⟨j, hj, rfl⟩ := List.mem_map.mp hp
    have hj := List.mem_range.mp hj
    have hm := getD_mem' (l := R) (x := []) (show j < R.length by omega)
    have hl := hRl _ hm
    refine ⟨⟨fun e => ?_, fun ch hch => hRc _ hm ch hch⟩, ez_ok _⟩
    have := congrArg List.length e
    have h0 : ([] : List Nat).length = 0 := rfl
    dsimp only at this
    omega
  · rw [S_list, List.map_map, ← hM]; rfl
  · show (S MM.flatten).length ≤ _
    rw [S_len, List.length_flatten]
    have := sum_bound (b := 8) (l := MM.map List.length) fun x hx => by
      obtain ⟨e, he, rfl⟩ := List.mem_map.mp hx
      exact hMl e he
    rw [List.length_map] at this
    omega
  · rw [crlf_len]
    have := sum_bound (b := 8) (l := (((List.range 5).map fun j : Nat => (R.getD j [], ez (ns.getD j 0 / 16))).map (·.1)).map fun r => r.length + 2) fun x hx => by
      obtain ⟨y, hy, rfl⟩ := List.mem_map.mp hx
      obtain ⟨p, hp, rfl⟩ := List.mem_map.mp hy
      obtain ⟨j, hj, rfl⟩ := List.mem_map.mp hp
      have hj := List.mem_range.mp hj
      have := hRl _ (getD_mem' (l := R) (x := []) (show j < R.length by omega))
      dsimp only; omega
    rw [List.length_map, List.length_map, List.length_map, List.length_range] at this
    omega
  have e1 : (((List.range 5).map fun j : Nat => (R.getD j [], ez (ns.getD j 0 / 16))).map (·.1)).map dotted = R.map dotted := by
    match R, hR5 with
    | [a, b, c, d, e], _ => rfl
  rw [e1, hCC]
  refine ⟨.inl rfl, ?_⟩
  refine SXs_cons (SX_if ?_)
  walk_at "se"; walk_at "se"; walk_at "se"
  refine CMP_nes ⟨fun h => ?_, fun _ => SXs_nil ?_⟩
  · have : (S CC != S CC) = true := h
    rw [bne_self_eq_false] at this; cases this
  refine SXs_one (SX_expr rfl rfl ?_)
  walk_at "se"; walk_at "se"
  refine ⟨_, METH_ref F.slot_list_append F.type_list_append, ?_⟩
  walk_at "se"; walk_at "se"; walk_at "se"
  refine SE_bi B _ rfl (by rw [hK]; kernel_rfl) rfl ?_
  walk_at "se"; walk_at "se"; walk_at "se"; walk_at "se"
  refine ⟨trivial, rfl, CALL_len_str (x := S CC) (by rw [S_len]; omega) ?_⟩
  rw [S_len]
  walk_at "se"; walk_at "se"; walk_at "se"; walk_at "se"
  refine SE_bi B _ rfl (by rw [hK]; kernel_rfl) rfl ?_
  walk_at "se"; walk_at "se"; walk_at "se"; walk_at "se"
  subst hrN
  refine ⟨trivial, rfl, CALL_len_list (tk_at htk4 hS) ?_⟩
  rw [List.length_map, ivl_len]
  walk_at "se"
  refine BIN_add ?_
  refine BIN_muls (by decide) (by decide) ?_
  refine BIN_sub ?_
  walk_at "se"
  have ev : (CC.length : Int) - 5 * ((n : Int) + 2) = ((R.countP fun r => decide (r.head? = some 46) : Nat) : Int) := by rw [hC]; omega
  rw [ev]
  refine CALL_append (tk_at htk4 hLa) rfl (by rw [List.length_map]; omega) ?_
  refine hQ _ _ ?_ ⟨rfl, rfl, rfl, rfl, rfl, rfl, rfl, rfl, rfl, trivial⟩
  rw [List.map_append, List.take_set, htk4]
  rfl
end

end
section
open PySem PySem.W PyProof.Rows PySem.Calls
set_option Elab.async false
set_option maxRecDepth 100000
set_option autoImplicit false
set_option linter.unusedVariables false
set_option maxHeartbeats 1000000

section
variable {c : Fx} {d : Nat} {σ : Hp} {P : Params} {Q : FV → Loc → Hp → Prop}
noncomputable def stK (w : Nat → Nat → Bool) (k : Nat) : List Int := (co w k).2.map fun n : Nat => (n : Int)
theorem tk_mid {σ σ' τ : Hp} {n : Nat} {l : List V} (h : σ'.take σ.length = σ) (hn : σ.length ≤ n) (hτ : τ.take σ'.length = σ'.set n l) : τ.take σ.length = σ := by
  have h1 := congrArg (List.take σ.length) hτ
  have hle := tk_le h
  rw [List.take_take, Nat.min_eq_left hle, List.take_set_of_le hn, h] at h1
  exact h1
theorem tk_midat {σ' τ : Hp} {n m : Nat} {l x : List V} (hτ : τ.take σ'.length = σ'.set n l) (h : (σ'.set n l)[m]? = some x) : τ[m]? = some x := by
  have h1 := at_lt h
  rw [List.length_set] at h1
  rw [← hτ, List.getElem?_take_of_lt h1] at h; exact h
theorem law3 (B : Base c) (hK : c.K = HK P) {L : Addr} {nN bN pN lN kN : Nat} {st : Int} {ns : List Int} {as : List Nat} (hN : σ[nN]? = some (ns.map .int)) (hn5 : ns.length = 5) (hA : Bals σ bN as ns 5)
    (kk : ∀ (σ' : Hp) (uN : Nat), σ'.take σ.length = σ → σ'[uN]? = some (((fin5 (win (ns.map ballot))).map fun n : Nat => (n : Int)).map .int) →
      SXs c (d + 1) (callEnvC (fLAW P) L 132) ((bLAW P).drop 14) [("middle", .int ((fin5 (win (ns.map ballot))).getD 4 0 : Nat)), ("struck", .ref uN), ("line", .ref lN), ("back", .ref kN), ("peak", .ref pN), ("ballots", .ref bN), ("start", .int st), ("numbers", .ref nN)] σ' Q) :
    SXs c (d + 1) (callEnvC (fLAW P) L 132) ((bLAW P).drop 9) [("line", .ref lN), ("back", .ref kN), ("peak", .ref pN), ("ballots", .ref bN), ("start", .int st), ("numbers", .ref nN)] σ Q := by
  have BB : Bal (ns.map ballot) := ⟨by rw [List.length_map, hn5], fun b hb => by obtain ⟨x, _, rfl⟩ := List.mem_map.mp hb; exact ballot_mem _⟩
  refine SXs_cons (SX_assign rfl ?_)
  refine SE_list ?_
  walk_at "se"; walk_at "se"; walk_at "se"; walk_at "se"; walk_at "se"; walk_at "se"; walk_at "se"; walk_at "se"; walk_at "se"; walk_at "se"; walk_at "se"
  refine ⟨rfl, by show (5 : Nat) ≤ 2 ^ 20; decide, .inr ⟨rfl, rfl, rfl⟩, ?_⟩
  refine SXs_cons (SX_assign rfl ?_)
  refine SE_list ?_
  walk_at "se"
  refine ⟨rfl, Nat.zero_le _, .inl rfl, ?_⟩
  refine SXs_cons (WHILE (S := Nat) (fun _ => [("struck", .ref (σ ++ [[V.int 0, V.int 1, V.int 2, V.int 3, V.int 4]]).length), ("standing", .ref σ.length), ("line", .ref lN), ("back", .ref kN), ("peak", .ref pN), ("ballots", .ref bN), ("start", .int st), ("numbers", .ref nN)])
    (fun k σ' => k ≤ 4 ∧ σ'.take σ.length = σ ∧ σ'[σ.length]? = some ((ivl (co (win (ns.map ballot)) k).1 (5 - k)).map .int) ∧ σ'[σ.length + 1]? = some ((stK (win (ns.map ballot)) k).map .int)) (fun k => 5 - k) 0 ⟨by decide, ?_, ?_, ?_⟩ ⟨rfl, rfl, rfl, rfl, rfl, rfl, rfl, rfl, trivial⟩ ?_)
  · rw [List.append_assoc, List.take_left]
  · rw [List.append_assoc]; exact p2a _ _
  · rw [List.append_assoc]; exact p2b _ _
  rw [show (σ ++ [[V.int 0, V.int 1, V.int 2, V.int 3, V.int 4]]).length = σ.length + 1 from List.length_append]
  rintro k σ1 ⟨hk4, htk, hS, hU⟩
  have hN1 := tk_at htk hN
  have hA1 := hA.tk htk
  obtain ⟨c1, c2, c3, c4, c5, c6⟩ := co_inv BB k hk4
  have hco : co (win (ns.map ballot)) (k + 1) = if win (ns.map ballot) ((co (win (ns.map ballot)) k).1 + (4 - k)) (co (win (ns.map ballot)) k).1 = true then ((co (win (ns.map ballot)) k).1 + 1, (co (win (ns.map ballot)) k).2 ++ [(co (win (ns.map ballot)) k).1]) else ((co (win (ns.map ballot)) k).1, (co (win (ns.map ballot)) k).2 ++ [(co (win (ns.map ballot)) k).1 + (4 - k)]) := rfl
  have hUl : (stK (win (ns.map ballot)) k).length = k := by unfold stK; rw [List.length_map, c2]
  generalize hlo : (co (win (ns.map ballot)) k).1 = lo at *
  walk_at "se"; walk_at "se"
  refine SE_bi B _ rfl (by rw [hK]; kernel_rfl) rfl ?_
  walk_at "se"; walk_at "se"; walk_at "se"; walk_at "se"
  refine ⟨trivial, rfl, CALL_len_list hS ?_⟩
  rw [List.length_map, ivl_len]
  walk_at "se"
  refine CMP_gt ⟨fun hgt => ?_, fun hgt => ?_⟩
  · have hk3 : k < 4 := by have := of_decide_eq_true hgt; omega
    refine SXs_post fun Q2 hQ2 => ?_
    have hh := row_lo
    have hi0 : (ivl lo (5 - k))[0]? = some ((lo : Nat) : Int) := ivl_get (i := 0) (by omega)
    have hi1 : (ivl lo (5 - k))[4 - k]? = some ((lo + (4 - k) : Nat) : Int) := ivl_get (by omega)
    -- lasts
    refine SXs_cons (SX_assign rfl ?_)
    refine SE_list ?_
    walk_at "se"
    refine ⟨rfl, Nat.zero_le _, .inl rfl, ?_⟩
    have hle1 := tk_le htk
    have htk2 := tk_app (τ := [[]]) htk
    have hS2 := at_old (τ := [[]]) hS
    have hU2 := at_old (τ := [[]]) hU
    have hLa2 : (σ1 ++ [([] : List V)])[σ1.length]? = some [] := at_end _
    have hN2 := at_old (τ := [[]]) hN1
    have hA2 := hA1.app (τ := [[]])
    have hlt2 : σ1.length < (σ1 ++ [([] : List V)]).length := by rw [List.length_append]; exact Nat.lt_succ_self _
    have hne : σ1.length ≠ σ.length + 1 := by have := at_lt hU; omega
    generalize σ1 ++ [([] : List V)] = σ2 at htk2 hS2 hU2 hLa2 hN2 hA2 hlt2 ⊢
    generalize hla : σ1.length = laN at hLa2 hlt2 hne hle1 ⊢
    -- the two ends
    refine SXs_cons (FOR (S := Unit) (fun _ _ => [("lasts", .ref laN), ("struck", .ref (σ.length + 1)), ("standing", .ref σ.length), ("line", .ref lN), ("back", .ref kN), ("peak", .ref pN), ("ballots", .ref bN), ("start", .int st), ("numbers", .ref nN)])
      (fun j _ σ' => σ'.take σ.length = σ ∧ σ'[σ.length]? = some ((ivl lo (5 - k)).map .int) ∧ σ'[σ.length + 1]? = some ((stK (win (ns.map ballot)) k).map .int) ∧ σ'[σ2.length]? = some (([(lo : Int), ((lo + (4 - k) : Nat) : Int)] : List Int).map .int) ∧
        σ'[laN]? = some ((([((votes (ns.map ballot) (lo + (4 - k)) lo : Nat) : Int), ((votes (ns.map ballot) lo (lo + (4 - k)) : Nat) : Int)] : List Int).take j).map .int)) (fun _ => rfl) ?_)
    refine SE_list ?_
    walk_at "se"; walk_at "se"; walk_at "se"; walk_at "se"
    refine GET_list hS2 (by decide) (v := .int (lo : Int)) (by show ((ivl lo (5 - k)).map V.int)[0]? = _; rw [List.getElem?_map, hi0]; rfl) ?_
    walk_at "se"; walk_at "se"; walk_at "se"
    refine SE_neg ?_
    walk_at "se"
    refine ⟨_, rfl, ?_⟩
    refine GET_list_neg hS2 (by decide) (by rw [List.length_map, ivl_len]; omega) (v := .int ((lo + (4 - k) : Nat) : Int)) ?_ ?_
    · rw [List.length_map, ivl_len, List.getElem?_map, show (-1 + ((5 - k : Nat) : Int)).toNat = 4 - k by omega, hi1]; rfl
    walk_at "se"
    refine ⟨rfl, by show (2 : Nat) ≤ 2 ^ 20; decide, ?_⟩
    refine ⟨([(lo : Int), ((lo + (4 - k) : Nat) : Int)] : List Int).map .int, (), ⟨tk_app htk2, at_old hS2, at_old hU2, at_end _, at_old hLa2⟩, ⟨rfl, rfl, rfl, rfl, rfl, rfl, rfl, rfl, rfl, trivial⟩, fun j y σ' _ h => h.2.2.2.1, ?_, ?_⟩
    · rintro j _ σ3 u hu ⟨h1, h2, h3, h4, h5⟩
      obtain ⟨hj, rfl⟩ := int_item hu
      refine ⟨.inr ⟨rfl, rfl, rfl⟩, SXs_post fun Q3 hQ3 => ?_⟩
      have hj2 : j < 2 := hj
      have key : (∀ b ∈ B16, (rowL (ivl lo (5 - k)) (([(lo : Int), ((lo + (4 - k) : Nat) : Int)] : List Int).getD j 0) b).length = 5 - k ∧ ∀ ch ∈ rowL (ivl lo (5 - k)) (([(lo : Int), ((lo + (4 - k) : Nat) : Int)] : List Int).getD j 0) b, ch ≠ 10 ∧ ch ≠ 13) ∧
          (((ns.map ballot).countP fun b => decide ((rowL (ivl lo (5 - k)) (([(lo : Int), ((lo + (4 - k) : Nat) : Int)] : List Int).getD j 0) b).head? = some 46) : Nat) : Int) = ([((votes (ns.map ballot) (lo + (4 - k)) lo : Nat) : Int), ((votes (ns.map ballot) lo (lo + (4 - k)) : Nat) : Int)] : List Int).getD j 0 := by
        have e5 : lo + (5 - k) - 1 = lo + (4 - k) := by omega
        match j, hj2 with
        | 0, _ =>
          refine ⟨fun b hb => row_ok b hb (5 - k) (by omega) lo (by omega) lo (by omega), ?_⟩
          show ((_ : Nat) : Int) = ((votes (ns.map ballot) (lo + (4 - k)) lo : Nat) : Int)
          congr 1
          refine List.countP_congr fun b hb => ?_
          have := row_lo b (BB.mem b hb) (5 - k) (by omega) (by omega) lo (by omega)
          rw [e5] at this
          show decide ((rowL (ivl lo (5 - k)) ((lo : Nat) : Int) b).head? = some 46) = true ↔ _
          rw [this]
        | 1, _ =>
          refine ⟨fun b hb => row_ok b hb (5 - k) (by omega) lo (by omega) (lo + (4 - k)) (by omega), ?_⟩
          show ((_ : Nat) : Int) = ((votes (ns.map ballot) lo (lo + (4 - k)) : Nat) : Int)
          congr 1
          refine List.countP_congr fun b hb => ?_
          have := row_hi b (BB.mem b hb) (5 - k) (by omega) (by omega) lo (by omega)
          rw [e5] at this
          show decide ((rowL (ivl lo (5 - k)) ((lo + (4 - k) : Nat) : Int) b).head? = some 46) = true ↔ _
          rw [this]
      have hstep : ([((votes (ns.map ballot) (lo + (4 - k)) lo : Nat) : Int), ((votes (ns.map ballot) lo (lo + (4 - k)) : Nat) : Int)] : List Int).take (j + 1) = ([((votes (ns.map ballot) (lo + (4 - k)) lo : Nat) : Int), ((votes (ns.map ballot) lo (lo + (4 - k)) : Nat) : Int)] : List Int).take j ++ [([((votes (ns.map ballot) (lo + (4 - k)) lo : Nat) : Int), ((votes (ns.map ballot) lo (lo + (4 - k)) : Nat) : Int)] : List Int).getD j 0] := by
        match j, hj2 with
        | 0, _ => rfl
        | 1, _ => rfl
      generalize ([(lo : Int), ((lo + (4 - k) : Nat) : Int)] : List Int).getD j 0 = mk at key ⊢
      refine law_mail B hK (tk_at h1 hN) hn5 (hA.tk h1) h2 (by omega) (by omega) key.1 h5 (by rw [List.length_take]; show min j 2 < 10; omega) fun σ' ρ' e hρ => ?_
      rw [key.2, ← hstep] at e
      have ha3 := at_lt h5
      refine hQ3 _ _ _ ⟨(), ⟨tk_mid h1 hle1 e, tk_midat e ?_, tk_midat e ?_, tk_midat e ?_, tk_midat e ?_⟩, hρ⟩
      · exact at_ne h2 (by have := at_lt hU; omega)
      · exact at_ne h3 hne
      · exact at_ne h4 (by omega)
      · exact at_self h5
    · rintro _ σ3 ⟨h1, h2, h3, h4, h5⟩
      have h5 : σ3[laN]? = some (([((votes (ns.map ballot) (lo + (4 - k)) lo : Nat) : Int), ((votes (ns.map ballot) lo (lo + (4 - k)) : Nat) : Int)] : List Int).map .int) := h5
      refine SXs_nil ?_
      -- struck.append
      refine SXs_one (SX_expr rfl rfl ?_)
      walk_at "se"; walk_at "se"
      refine ⟨_, METH_ref F.slot_list_append F.type_list_append, ?_⟩
      walk_at "se"
      refine SE_if ?_
      walk_at "se"; walk_at "se"; walk_at "se"; walk_at "se"
      refine GET_list h5 (by decide) (v := .int ((votes (ns.map ballot) (lo + (4 - k)) lo : Nat) : Int)) rfl ?_
      walk_at "se"; walk_at "se"; walk_at "se"
      refine GET_list h5 (by decide) (v := .int ((votes (ns.map ballot) lo (lo + (4 - k)) : Nat) : Int)) rfl ?_
      have hvs := votes_sum BB.mem (x := lo) (y := lo + (4 - k)) (by omega) (by omega) (by omega)
      rw [BB.len] at hvs
      refine CMP_gt ⟨fun hb => ?_, fun hb => ?_⟩
      · have hw : win (ns.map ballot) (lo + (4 - k)) lo = true := by
          have := of_decide_eq_true hb
          unfold win
          rw [decide_eq_true_iff]; omega
        rw [if_pos hw] at hco
        walk_at "se"; walk_at "se"
        refine ⟨_, METH_ref F.slot_list_pop F.type_list_pop, ?_⟩
        walk_at "se"; walk_at "se"; walk_at "se"
        have e1 : ivl lo (5 - k) = (lo : Int) :: ivl (lo + 1) (4 - k) := by rw [show 5 - k = (4 - k) + 1 by omega, ivl_cons]
        rw [e1, List.map_cons] at h2
        refine CALL_pop0 h2 ?_
        walk_at "se"
        refine CALL_append (at_ne h3 (by omega)) rfl (by rw [List.length_map, hUl]; omega) ?_
        refine hQ2 _ _ _ ⟨k + 1, by omega, ⟨by omega, ?_, ?_, ?_⟩, rfl, rfl, rfl, rfl, rfl, rfl, rfl, rfl, trivial⟩
        · exact tk_set (tk_set h1 (Nat.le_refl _)) (by omega)
        · rw [hco]
          refine at_ne ?_ (by omega)
          rw [at_self h2]
          show _ = some ((ivl (lo + 1) (5 - (k + 1))).map V.int)
          rw [show 5 - (k + 1) = 4 - k by omega]
        · rw [at_self (at_ne h3 (by omega))]
          unfold stK
          rw [hco, List.map_append, List.map_append]
          rfl
      · have hw : ¬ win (ns.map ballot) (lo + (4 - k)) lo = true := by
          have := of_decide_eq_false hb
          unfold win
          rw [decide_eq_true_iff]; omega
        rw [if_neg hw] at hco
        walk_at "se"; walk_at "se"
        refine ⟨_, METH_ref F.slot_list_pop F.type_list_pop, ?_⟩
        walk_at "se"
        have e1 : ivl lo (5 - k) = ivl lo (4 - k) ++ [((lo + (4 - k) : Nat) : Int)] := by rw [show 5 - k = (4 - k) + 1 by omega, ivl_snoc]
        rw [e1, List.map_append] at h2
        refine CALL_pop h2 ?_
        walk_at "se"
        refine CALL_append (at_ne h3 (by omega)) rfl (by rw [List.length_map, hUl]; omega) ?_
        refine hQ2 _ _ _ ⟨k + 1, by omega, ⟨by omega, ?_, ?_, ?_⟩, rfl, rfl, rfl, rfl, rfl, rfl, rfl, rfl, trivial⟩
        · exact tk_set (tk_set h1 (Nat.le_refl _)) (by omega)
        · rw [hco]
          refine at_ne ?_ (by omega)
          rw [at_self h2]
          show _ = some ((ivl lo (5 - (k + 1))).map V.int)
          rw [show 5 - (k + 1) = 4 - k by omega]
        · rw [at_self (at_ne h3 (by omega))]
          unfold stK
          rw [hco, List.map_append, List.map_append]
          rfl
  · have hk : k = 4 := by have := of_decide_eq_false hgt; omega
    subst hk
    refine SXs_nil ?_
    -- the last one
    refine SXs_cons (SX_expr rfl rfl ?_)
    walk_at "se"; walk_at "se"
    refine ⟨_, METH_ref F.slot_list_append F.type_list_append, ?_⟩
    walk_at "se"; walk_at "se"; walk_at "se"; walk_at "se"
    refine GET_list hS (by decide) (v := .int (lo : Int)) (by show ((ivl lo 1).map V.int)[0]? = _; rw [List.getElem?_map, ivl_get (by decide)]; rfl) ?_
    walk_at "se"
    refine CALL_append hU rfl (by rw [List.length_map, hUl]; decide) ?_
    have eF : (stK (win (ns.map ballot)) 4).map V.int ++ [V.int (lo : Int)] = ((fin5 (win (ns.map ballot))).map fun n : Nat => (n : Int)).map V.int := by
      unfold stK fin5
      rw [hlo, List.map_append, List.map_append]; rfl
    rw [eF]
    have htk2 : (σ1.set (σ.length + 1) (((fin5 (win (ns.map ballot))).map fun n : Nat => (n : Int)).map V.int)).take σ.length = σ := tk_set htk (by omega)
    have hU2 : (σ1.set (σ.length + 1) (((fin5 (win (ns.map ballot))).map fun n : Nat => (n : Int)).map V.int))[σ.length + 1]? = some (((fin5 (win (ns.map ballot))).map fun n : Nat => (n : Int)).map V.int) := at_self hU
    have F5 := (fin_ok BB).len
    refine SXs_cons (SX_assign rfl ?_)
    walk_at "se"; walk_at "se"; walk_at "se"
    refine GET_list hU2 (by decide) (v := .int ((fin5 (win (ns.map ballot))).getD 4 0 : Nat)) ?_ ⟨.inl rfl, ?_⟩
    · rw [List.getElem?_map, List.getElem?_map, List.getD_eq_getElem?_getD]
      show Option.map _ (Option.map _ ((fin5 (win (ns.map ballot)))[4]?)) = _
      rw [List.getElem?_eq_getElem (by omega)]; rfl
    refine SXs_has [("middle", .int ((fin5 (win (ns.map ballot))).getD 4 0 : Nat)), ("struck", .ref (σ.length + 1)), ("line", .ref lN), ("back", .ref kN), ("peak", .ref pN), ("ballots", .ref bN), ("start", .int st), ("numbers", .ref nN)] ⟨rfl, rfl, rfl, rfl, rfl, rfl, rfl, rfl, trivial⟩ ?_
    exact kk _ _ htk2 hU2
end

end
section
open PySem PySem.W PyProof.Rows PySem.Calls
set_option Elab.async false
set_option maxRecDepth 100000
set_option autoImplicit false
set_option linter.unusedVariables false
set_option maxHeartbeats 1000000

section
variable {c : Fx} {d : Nat} {σ : Hp} {P : Params} {Q : FV → Loc → Hp → Prop}
theorem five_get : ∀ i, i < 5 → ([0, 1, 2, 3, 4] : List Int).getD i 0 = (i : Nat) := by decide
theorem law4 (B : Base c) (hK : c.K = HK P) (hT1 : ((126 : Addr), (122 : Addr), (("_law_reached" : Str) ++ ".<locals>." ++ "<lambda>" : Str)) ∈ c.tabs) (hT2 : ((131 : Addr), (129 : Addr), (("law" : Str) ++ ".<locals>." ++ "<lambda>" : Str)) ∈ c.tabs)
    {L : Addr} {nN bN pN lN kN uN m : Nat} {st : Int} {bs : List (List Int)} (BB : Bal bs) (hL : σ[lN]? = some ((lineK bs).map .int)) (hB : σ[kN]? = some ((backK bs).map .int)) (hP : σ[pN]? = some ((pks bs).map .int))
    (hm : m < 5) (h1 : 2 < cntLe bs m) (h2 : ∀ c : Int, c < m → cntLe bs c ≤ 2)
    (kk : ∀ (σ' : Hp), σ'.take σ.length = σ →
      SXs c (d + 5) (callEnvC (fLAW P) L 132) ((bLAW P).drop 16) [("middle", .int (m : Int)), ("struck", .ref uN), ("line", .ref lN), ("back", .ref kN), ("peak", .ref pN), ("ballots", .ref bN), ("start", .int st), ("numbers", .ref nN)] σ' Q) :
    SXs c (d + 5) (callEnvC (fLAW P) L 132) ((bLAW P).drop 14) [("middle", .int (m : Int)), ("struck", .ref uN), ("line", .ref lN), ("back", .ref kN), ("peak", .ref pN), ("ballots", .ref bN), ("start", .int st), ("numbers", .ref nN)] σ Q := by
  have hpl : (pks bs).length = 5 := by unfold pks; rw [List.length_map, BB.len]
  have mono : ∀ i j : Nat, i ≤ j → cntLe bs i ≤ cntLe bs j := fun i j h => cnt_mono (by omega)
  have hll : (lineK bs).length = 5 := chain_len _ _
  have hbl : (backK bs).length = 5 := chainL_len _ _
  have hlm : ∀ y ∈ lineK bs, 0 ≤ y ∧ y < (pks bs).length := fun y hy => by have := chain_mem hy; omega
  have hbm : ∀ y ∈ backK bs, 0 ≤ y ∧ y < (pks bs).length := fun y hy => by have := chainL_mem hy; omega
  refine SXs_cons (SX_if ?_)
  walk_at "se"; walk_at "se"
  refine SE_gl B (.ref 56) rfl (by rw [hK]; kernel_rfl) ?_
  walk_at "se"
  refine SE_list ?_
  walk_at "se"; walk_at "se"; walk_at "se"; walk_at "se"; walk_at "se"; walk_at "se"; walk_at "se"; walk_at "se"; walk_at "se"; walk_at "se"; walk_at "se"
  refine ⟨rfl, by show (5 : Nat) ≤ 2 ^ 20; decide, ?_⟩
  walk_at "se"; walk_at "se"; walk_at "se"; walk_at "se"
  refine SE_lam (cap := [("line", lN), ("peak", pN)]) hT2 rfl rfl rfl ⟨rfl, rfl, rfl, rfl, rfl⟩ rfl ?_ ?_
  · intro y n hn
    rcases List.mem_cons.mp hn with h | h
    · obtain ⟨rfl, rfl⟩ : y = "line" ∧ n = lN := by simpa using h
      exact ⟨_, rfl, rfl, ne_local (k := .cell) rfl (by decide), rfl⟩
    · obtain ⟨rfl, rfl⟩ : y = "peak" ∧ n = pN := by simpa using h
      exact ⟨_, rfl, rfl, ne_local (k := .cell) rfl (by decide), rfl⟩
  have hl0 : (σ ++ [([0, 1, 2, 3, 4] : List Int).map V.int])[σ.length]? = some (([0, 1, 2, 3, 4] : List Int).map .int) := at_end _
  show _ ∧ _ ∧ CALLV c _ _ _ _ (σ ++ [([0, 1, 2, 3, 4] : List Int).map V.int]) _
  have htk := tk_app (σ := σ) (σ₀ := σ) (τ := [([0, 1, 2, 3, 4] : List Int).map V.int]) List.take_length
  have hL1 := at_old (τ := [([0, 1, 2, 3, 4] : List Int).map V.int]) hL
  have hB1 := at_old (τ := [([0, 1, 2, 3, 4] : List Int).map V.int]) hB
  have hP1 := at_old (τ := [([0, 1, 2, 3, 4] : List Int).map V.int]) hP
  generalize σ ++ [([0, 1, 2, 3, 4] : List Int).map V.int] = σ1 at hl0 htk hL1 hB1 hP1 ⊢
  refine ⟨Calls_def B (hK ▸ DBR P), rfl, br_key2 B hK (fun i => ((cntLe bs (i : Int) : Nat) : Int)) hl0 (by decide) trivial rfl (fun i v e => ?_) ?_⟩
  · obtain ⟨hi, rfl⟩ := int_item e
    have hi5 : i < 5 := hi
    rw [five_get i hi5]
    refine CALL_lam rfl rfl rfl (by decide +kernel) (by decide +kernel) (fun p hp => ?_) fun L clos qual f cv => ?_
    · rcases List.mem_cons.mp hp with h | h
      · subst h; exact ⟨rfl, by show ("line" : Str) ≠ "__classdict__"; decide +kernel⟩
      · rw [List.mem_singleton.mp h]; exact ⟨rfl, by show ("peak" : Str) ≠ "__classdict__"; decide +kernel⟩
    walk_at "se"
    refine SE_gl B (.ref 127) rfl (by rw [hK]; kernel_rfl) ?_
    walk_at "se"; walk_at "se"; walk_at "se"; walk_at "se"; walk_at "se"; walk_at "se"; walk_at "se"; walk_at "se"
    refine ⟨Calls_def B (hK ▸ DRCH P), rfl, reach_spec B hK (126, 122) hT1 (fun _ => rfl) hL1 hP1 hlm (by omega) ⟨?_, rfl⟩⟩
    unfold reach
    rw [reach_gen BB (line_perm bs) (line_mono bs)]
  have e1 : bis (fun i => decide ((2 : Int) < ((cntLe bs (i : Int) : Nat) : Int))) 5 0 5 = m := bis_mid hm h1 (fun c hc => h2 c (by omega)) mono fun i _ => by
    rw [Bool.eq_iff_iff, decide_eq_true_iff, decide_eq_true_iff]; omega
  show SE _ _ _ _ _ _ fun b σ₂ => CMP _ _ _ (.int ((bis (fun i => decide ((2 : Int) < ((cntLe bs (i : Int) : Nat) : Int))) 5 0 5 : Nat) : Int)) _ _ _
  rw [e1]
  walk_at "se"
  refine CMP_ne ⟨fun h => ?_, fun _ => SXs_nil ?_⟩
  · simp at h
  refine SXs_cons (SX_if ?_)
  walk_at "se"; walk_at "se"
  refine SE_gl B (.ref 74) rfl (by rw [hK]; kernel_rfl) ?_
  walk_at "se"
  refine SE_list ?_
  walk_at "se"; walk_at "se"; walk_at "se"; walk_at "se"; walk_at "se"; walk_at "se"; walk_at "se"; walk_at "se"; walk_at "se"; walk_at "se"; walk_at "se"
  refine ⟨rfl, by show (5 : Nat) ≤ 2 ^ 20; decide, ?_⟩
  walk_at "se"; walk_at "se"; walk_at "se"; walk_at "se"
  refine SE_lam (cap := [("back", kN), ("peak", pN)]) hT2 rfl rfl rfl ⟨rfl, rfl, rfl, rfl, rfl⟩ rfl ?_ ?_
  · intro y n hn
    rcases List.mem_cons.mp hn with h | h
    · obtain ⟨rfl, rfl⟩ : y = "back" ∧ n = kN := by simpa using h
      exact ⟨_, rfl, rfl, ne_local (k := .cell) rfl (by decide), rfl⟩
    · obtain ⟨rfl, rfl⟩ : y = "peak" ∧ n = pN := by simpa using h
      exact ⟨_, rfl, rfl, ne_local (k := .cell) rfl (by decide), rfl⟩
  have hl0' : (σ1 ++ [([0, 1, 2, 3, 4] : List Int).map V.int])[σ1.length]? = some (([0, 1, 2, 3, 4] : List Int).map .int) := at_end _
  show _ ∧ _ ∧ CALLV c _ _ _ _ (σ1 ++ [([0, 1, 2, 3, 4] : List Int).map V.int]) _
  have htk2 := tk_app (τ := [([0, 1, 2, 3, 4] : List Int).map V.int]) htk
  have hL2 := at_old (τ := [([0, 1, 2, 3, 4] : List Int).map V.int]) hL1
  have hB2 := at_old (τ := [([0, 1, 2, 3, 4] : List Int).map V.int]) hB1
  have hP2 := at_old (τ := [([0, 1, 2, 3, 4] : List Int).map V.int]) hP1
  generalize σ1 ++ [([0, 1, 2, 3, 4] : List Int).map V.int] = σ2 at hl0' htk2 hL2 hB2 hP2 ⊢
  refine ⟨Calls_def B (hK ▸ DBL P), rfl, bl_key2 B hK (fun i => ((cntLe bs (i : Int) : Nat) : Int)) hl0' (by decide) trivial rfl (fun i v e => ?_) ?_⟩
  · obtain ⟨hi, rfl⟩ := int_item e
    have hi5 : i < 5 := hi
    rw [five_get i hi5]
    refine CALL_lam rfl rfl rfl (by decide +kernel) (by decide +kernel) (fun p hp => ?_) fun L clos qual f cv => ?_
    · rcases List.mem_cons.mp hp with h | h
      · subst h; exact ⟨rfl, by show ("back" : Str) ≠ "__classdict__"; decide +kernel⟩
      · rw [List.mem_singleton.mp h]; exact ⟨rfl, by show ("peak" : Str) ≠ "__classdict__"; decide +kernel⟩
    walk_at "se"
    refine SE_gl B (.ref 127) rfl (by rw [hK]; kernel_rfl) ?_
    walk_at "se"; walk_at "se"; walk_at "se"; walk_at "se"; walk_at "se"; walk_at "se"; walk_at "se"; walk_at "se"
    refine ⟨Calls_def B (hK ▸ DRCH P), rfl, reach_spec B hK (126, 122) hT1 (fun _ => rfl) hB2 hP2 hbm (by omega) ⟨?_, rfl⟩⟩
    unfold reach
    rw [reach_gen BB (back_perm bs) (back_mono bs)]
  have e2 : bis (fun i => !decide (((cntLe bs (i : Int) : Nat) : Int) < (3 : Int))) 5 0 5 = m := bis_mid hm h1 (fun c hc => h2 c (by omega)) mono fun i _ => by
    rw [Bool.eq_iff_iff, Bool.not_eq_true', decide_eq_false_iff_not, decide_eq_true_iff]; omega
  show SE _ _ _ _ _ _ fun b σ₂ => CMP _ _ _ (.int ((bis (fun i => !decide (((cntLe bs (i : Int) : Nat) : Int) < (3 : Int))) 5 0 5 : Nat) : Int)) _ _ _
  rw [e2]
  walk_at "se"
  refine CMP_ne ⟨fun h => ?_, fun _ => SXs_nil ?_⟩
  · simp at h
  exact kk _ htk2
end

end
section
open PySem PySem.W PyProof.Rows PySem.Calls
set_option Elab.async false
set_option maxRecDepth 100000
set_option autoImplicit false
set_option linter.unusedVariables false
set_option maxHeartbeats 1000000

section
variable {c : Fx} {d : Nat} {σ : Hp} {P : Params}
theorem slice_to {r : List Nat} {h : Nat} (hh : h ≤ r.length) : Txt.slice (S r) none (some (h : Int)) = S (r.take h) := by
  rw [beq_iff_eq.mp (slice_closes_toL (x := S r) (j := (h : Int)) (Int.natCast_nonneg _) (by rw [S_len]; omega)), S_list, Int.sub_zero, Int.toNat_natCast]
  rfl
theorem txt_len {b : List Int} (hb : b ∈ B16) : (txt b).length = 5 := by unfold txt; rw [List.length_map, bal_len b hb]
theorem txt_ok : ∀ b ∈ B16, ∀ ch ∈ txt b, 97 ≤ ch ∧ ch ≤ 101 := by decide +kernel
/-- the match, called with parts -/
theorem em_parts {Q : V → Hp → Prop} (B : Base c) (hK : c.K = HK P) {p q g : List Nat} {rest : List (List Nat)} (hp : p.length ≤ 10 ∧ 46 ∉ p) (hr : ∀ r ∈ q :: rest, r.length ≤ 10 ∧ 46 ∉ r) (hn : rest.length ≤ 5) (hg : g.length ≤ 1000)
    (k : Q (.bool (em (S g) (S p :: (q :: rest).map S))) σ) : CALLV c (d + 1) (.obj (.ref 38)) [.str (S (p ++ ((q :: rest).map (d3 ++ ·)).flatten)), .str (S g)] [] σ Q := by
  have key := split_parts (x := S (p ++ ((q :: rest).map (d3 ++ ·)).flatten)) (p := p) (q := q) (rest := rest) rfl hp.2 fun r h => (hr r h).2
  have hfl : (((q :: rest).map (d3 ++ ·)).flatten).length ≤ 13 * (rest.length + 1) := by
    rw [List.length_flatten]
    have := sum_bound (b := 13) (l := ((q :: rest).map (d3 ++ ·)).map List.length) fun x hx => by
      obtain ⟨y, hy, rfl⟩ := List.mem_map.mp hx
      obtain ⟨r, hr', rfl⟩ := List.mem_map.mp hy
      rw [List.length_append]
      have := (hr r hr').1
      show 3 + _ ≤ 13
      omega
    rw [List.length_map, List.length_map, List.length_cons] at this
    exact this
  refine em_spec B hK key.2 ?_ (by rw [S_len]; omega) ?_ ?_ ?_ ?_
  · rw [S_len, List.length_append]; have := hp.1; omega
  · rw [key.1]; simp
  · rw [key.1]; simp; omega
  · rw [key.1]
    intro w hw
    rcases List.mem_cons.mp hw with rfl | hw
    · rw [S_len]; have := hp.1; omega
    · obtain ⟨r, hr', rfl⟩ := List.mem_map.mp hw
      rw [S_len]; have := (hr r hr').1; omega
  · rw [key.1]; exact k
theorem eqv2 (a b a' b' : List Nat) : PyData.eqvAll ([V.str (S a), .str (S b)].map dat) ([V.str (S a'), .str (S b')].map dat) = (a == a' && b == b') := by
  have h : ∀ x y : List Nat, PyData.eqv (.str (S x)) (.str (S y)) = (x == y) := fun x y => by
    rw [PyData.eqv, Bool.eq_iff_iff, beq_iff_eq, beq_iff_eq]
    exact ⟨fun e => congrArg (fun x : Str => x.cps.toList) e, fun e => by rw [e]⟩
  show PyData.eqvAll [.str (S a), .str (S b)] [.str (S a'), .str (S b')] = _
  rw [PyData.eqvAll, PyData.eqvAll, PyData.eqvAll, h, h, Bool.and_true]
theorem eT_get {bs : List (List Int)} {k : Nat} (hk : k < bs.length) : ((bs.map txt).map fun r => V.str (S r))[k]? = some (.str (S (txt (bs.getD k [])))) := by
  rw [List.getElem?_map, List.getElem?_map, List.getElem?_eq_getElem hk, List.getD_eq_getElem?_getD, List.getElem?_eq_getElem hk]; rfl
theorem dat2 {a b : List Nat} (ha : ∀ ch ∈ a, 97 ≤ ch ∧ ch ≤ 101) (hb : ∀ ch ∈ b, 97 ≤ ch ∧ ch ≤ 101) : ([V.str (S a), .str (S b)]).all datOk = true :=
  dat_ok (l := [a, b]) fun w hw ch hc => by
    rcases List.mem_cons.mp hw with rfl | hw
    · have := ha ch hc; omega
    · rw [List.mem_singleton.mp hw] at hc
      have := hb ch hc; omega
variable {Q : FV → Loc → Hp → Prop}
theorem law5 (B : Base c) (hK : c.K = HK P) {L : Addr} {nN bN pN lN kN uN m : Nat} {st : Int} {ns : List Int} {as : List Nat} (hN : σ[nN]? = some (ns.map .int)) (hn5 : ns.length = 5) (hA : Bals σ bN as ns 5)
    (kk : ∀ (σ' : Hp), σ'.take σ.length = σ → σ'[σ.length]? = some (((ns.map ballot).map txt).map fun r => .str (S r)) →
      SXs c (d + 1) (callEnvC (fLAW P) L 132) ((bLAW P).drop 18) [("texts", .ref σ.length), ("letters", .str "abcde"), ("middle", .int (m : Int)), ("struck", .ref uN), ("line", .ref lN), ("back", .ref kN), ("peak", .ref pN), ("ballots", .ref bN), ("start", .int st), ("numbers", .ref nN)] σ' Q) :
    SXs c (d + 1) (callEnvC (fLAW P) L 132) ((bLAW P).drop 16) [("middle", .int (m : Int)), ("struck", .ref uN), ("line", .ref lN), ("back", .ref kN), ("peak", .ref pN), ("ballots", .ref bN), ("start", .int st), ("numbers", .ref nN)] σ Q := by
  refine SXs_cons (SX_assign rfl ?_)
  walk_at "se"
  refine ⟨.inr ⟨rfl, rfl, rfl⟩, ?_⟩
  refine SXs_cons (SX_comp (cl := _) [("letters", .str "abcde")] rfl ⟨fun _ => rfl, rfl, rfl, by decide +kernel, fa ⟨rfl, rfl⟩ (fa0), fa ⟨rfl, .inl rfl, _, rfl, rfl, fun n => rfl⟩ (fa0), fa ⟨by show ("letters" : Str) ≠ "ballot"; decide +kernel, rfl⟩ (fa0), rfl⟩ ?_)
  walk_at "se"
  refine ⟨as.map .ref, fun k τ => τ.take σ.length = σ ∧ τ[σ.length]? = some (((List.range k).map fun i => txt (ballot (ns.getD i 0))).map fun r => .str (S r)), hA.at', ⟨by rw [List.take_left], at_end _⟩, fun k τ _ h => tk_at h.1 hA.at', ?_, .inl rfl, ?_⟩
  · rintro k τ u hu ⟨htk, hac⟩ C
    obtain ⟨hk, rfl⟩ := ref_item hu
    rw [hA.len] at hk
    refine ⟨.inl rfl, TST_nil ⟨fun h => (nomatch h), fun _ => ?_⟩⟩
    have hb16 := ballot_mem (ns.getD k 0)
    have hbk := tk_at htk (hA.each k hk).2
    walk_at "se"; walk_at "se"
    refine ⟨_, METH_str F.slot_str_join F.type_str_join, ?_⟩
    walk_at "se"
    refine SE_comp (cl := _) [("letters", .str "abcde")] ⟨fun _ => rfl, rfl, rfl, by decide +kernel, fa ⟨rfl, rfl⟩ (fa0), fa ⟨rfl, .inl rfl, _, rfl, rfl, fun n => rfl⟩ (fa0), fa ⟨by show ("letters" : Str) ≠ "one"; decide +kernel, rfl⟩ (fa0), rfl⟩ ?_
    walk_at "se"
    have hin := bal_in _ hb16
    have hln := bal_len _ hb16
    have hstep : ((List.range (k + 1)).map fun i => txt (ballot (ns.getD i 0))).map (fun r => V.str (S r)) = ((List.range k).map fun i => txt (ballot (ns.getD i 0))).map (fun r => V.str (S r)) ++ [.str (S (txt (ballot (ns.getD k 0))))] := by
      rw [List.range_succ, List.map_append, List.map_append]; rfl
    generalize hbb : ballot (ns.getD k 0) = b at hbk hin hln hstep
    refine ⟨b.map .int, fun j ω => ω = τ ++ [((b.take j).map fun x : Int => [97 + x.toNat]).map fun r => .str (S r)], hbk, rfl, fun j ω _ h => by subst h; exact at_old hbk, ?_, ?_⟩
    · rintro j _ u hu rfl C'
      obtain ⟨hj, rfl⟩ := int_item hu
      have hm := hin _ (getD_memI hj)
      refine ⟨.inl rfl, TST_nil ⟨fun h => (nomatch h), fun _ => ?_⟩⟩
      walk_at "se"; walk_at "se"; walk_at "se"
      refine GET_str hm.1 (by omega) (abc_get hm.1 hm.2) ⟨rfl, _, at_end _, by rw [List.length_map, List.length_map, List.length_take]; omega, ?_⟩
      rw [set_end]
      show _ = τ ++ [((b.take (j + 1)).map fun x : Int => [97 + x.toNat]).map fun r => V.str (S r)]
      rw [← take_map_snoc 0 (fun x : Int => [97 + x.toNat]) hj, List.map_append]
      rfl
    · rintro _ rfl
      rw [List.length_map, List.take_length]
      walk_at "se"
      have eM : (τ ++ [(b.map fun x : Int => [97 + x.toNat]).map fun r => V.str (S r)])[τ.length]? = some (((b.map fun x : Int => [97 + x.toNat]).map S).map .str) := by rw [at_end, strs_SS]
      refine CALL_join eM ?_ ?_
      · have := sum_bound (b := 1) (l := ((b.map fun x : Int => [97 + x.toNat]).map S).map (·.length)) fun x hx => by
          obtain ⟨y, hy, rfl⟩ := List.mem_map.mp hx
          obtain ⟨z, hz, rfl⟩ := List.mem_map.mp hy
          obtain ⟨w, hw, rfl⟩ := List.mem_map.mp hz
          rw [S_len]; exact Nat.le_refl _
        have h0 : (("" : Str)).length = 0 := by decide +kernel
        rw [List.length_map, List.length_map, List.length_map] at this
        rw [List.length_map, List.length_map, h0]
        omega
      rw [join_empty]
      have ef : (b.map fun x : Int => [97 + x.toNat]).flatten = txt b := by
        unfold txt
        induction b with
        | nil => rfl
        | cons x r ih => 
          have key : ∀ l : List Int, (l.map fun x : Int => [97 + x.toNat]).flatten = l.map fun x => 97 + x.toNat := fun l => by
            induction l with
            | nil => rfl
            | cons y l ih => rw [List.map_cons, List.flatten_cons, ih]; rfl
          exact key _
      rw [ef]
      refine ⟨rfl, _, at_old hac, by rw [List.length_map, List.length_map, List.length_range]; omega, tk_set (tk_app htk) (Nat.le_refl _), ?_⟩
      rw [at_self (at_old hac), hstep]
  · rintro τ ⟨htk, hac⟩
    rw [List.length_map, hA.len] at hac
    have e5 : ((List.range 5).map fun i => txt (ballot (ns.getD i 0))) = (ns.map ballot).map txt := by
      match ns, hn5 with
      | [a, b, c, d, e], _ => rfl
    rw [e5] at hac
    refine SXs_has [("texts", .ref σ.length), ("letters", .str "abcde"), ("middle", .int (m : Int)), ("struck", .ref uN), ("line", .ref lN), ("back", .ref kN), ("peak", .ref pN), ("ballots", .ref bN), ("start", .int st), ("numbers", .ref nN)] ⟨rfl, rfl, rfl, rfl, rfl, rfl, rfl, rfl, rfl, rfl, trivial⟩ ?_
    exact kk τ htk hac
end

end
section
open PySem PySem.W PyProof.Rows PySem.Calls
set_option Elab.async false
set_option maxRecDepth 100000
set_option autoImplicit false
set_option linter.unusedVariables false
set_option maxHeartbeats 1000000

section
variable {c : Fx} {d : Nat} {σ : Hp} {P : Params}
theorem join_dots (h t : List Nat) : Txt.join "..." [S h, S t] = S (h ++ ([t].map (d3 ++ ·)).flatten) := by
  show Builtin.Str.glued _ _ = _
  rw [StrLaws.glued_eq_join]
  show S h ++ ("..." : Str) ++ Str.join "..." [S t] = _
  show S h ++ ("..." : Str) ++ S t = _
  rw [show ("..." : Str) = S d3 from by rw [S_of ("..." : Str), dots_list], S_cat, S_cat, List.map_cons, List.map_nil, List.flatten_cons, List.flatten_nil, List.append_nil, List.append_assoc]
noncomputable def fitsK (hd tl : Nat) (T g : List Nat) : Bool := decide (hd ≤ tl) && (g.take hd == T.take hd && g.drop tl == T.drop tl)
theorem em_fits {hd tl : Nat} {T g : List Nat} (hT : T.length = 5) (hg : g.length = 5) (h1 : hd ≤ 5) (h2 : tl ≤ 5) : em (S g) [S (T.take hd), S (T.drop tl)] = fitsK hd tl T g := by
  have e1 : (T.take hd).length = hd := by rw [List.length_take]; omega
  have e2 : (T.drop tl).length = 5 - tl := by rw [List.length_drop]; omega
  rw [em_ends (by omega) (by omega), e1, e2, hg, show 5 - (5 - tl) = tl by omega]
  unfold fitsK
  congr 1
  rw [Bool.eq_iff_iff, decide_eq_true_iff, decide_eq_true_iff]; omega
variable {Q : FV → Loc → Hp → Prop}
theorem law6 (B : Base c) (hK : c.K = HK P) {L : Addr} {nN bN pN lN kN uN tN m : Nat} {st : Int} {ns : List Int} {bs : List (List Int)} (BB : Bal bs) (hN : σ[nN]? = some (ns.map .int)) (hn5 : ns.length = 5) (hX : σ[tN]? = some ((bs.map txt).map fun r => .str (S r)))
    (kk : ∀ (σ' : Hp), σ'.take σ.length = σ →
      SXs c (d + 1) (callEnvC (fLAW P) L 132) ((bLAW P).drop 19) [("texts", .ref tN), ("letters", .str "abcde"), ("middle", .int (m : Int)), ("struck", .ref uN), ("line", .ref lN), ("back", .ref kN), ("peak", .ref pN), ("start", .int st), ("numbers", .ref nN)] σ' Q) :
    SXs c (d + 1) (callEnvC (fLAW P) L 132) ((bLAW P).drop 18) [("texts", .ref tN), ("letters", .str "abcde"), ("middle", .int (m : Int)), ("struck", .ref uN), ("line", .ref lN), ("back", .ref kN), ("peak", .ref pN), ("ballots", .ref bN), ("start", .int st), ("numbers", .ref nN)] σ Q := by
  have hb5 := BB.len
  refine SXs_cons (FOR (S := Unit) (fun _ _ => [("texts", .ref tN), ("letters", .str "abcde"), ("middle", .int (m : Int)), ("struck", .ref uN), ("line", .ref lN), ("back", .ref kN), ("peak", .ref pN), ("start", .int st), ("numbers", .ref nN)]) (fun _ _ σ' => σ'.take σ.length = σ) (fun _ => rfl) ?_)
  with_reducible refine SE_range B (by with_unfolding_all rfl) (by rw [hK]; kernel_rfl) (by with_unfolding_all rfl) ?_
  refine ⟨rngItems (0 : Nat) (5 : Nat), (), List.take_length, ⟨rfl, rfl, rfl, rfl, rfl, rfl, rfl, rfl, rfl, trivial⟩, fun k y σ' _ _ => rng_items (by decide) (by decide), ?_, fun _ σ' htk => SXs_nil (kk σ' htk)⟩
  rintro k _ σ1 u hu htk
  obtain ⟨rfl, hk⟩ := rng0_item hu
  have hk5 : k < 5 := by omega
  refine ⟨.inl rfl, SXs_post fun Q2 hQ2 => ?_⟩
  have hN1 := tk_at htk hN
  have hX1 := tk_at htk hX
  have hT16 : bs.getD k [] ∈ B16 := BB.mem _ (getD_mem' (by omega))
  have hT5 := txt_len hT16
  have hTc := txt_ok _ hT16
  have hTg := eT_get (bs := bs) (k := k) (by omega)
  -- head
  refine SXs_cons (SX_assign rfl ?_)
  walk_at "se"; walk_at "se"; walk_at "se"; walk_at "se"; walk_at "se"
  refine GET_list hN1 (Int.natCast_nonneg _) (v := .int (ns.getD k 0)) (by rw [Int.toNat_natCast]; exact geti (by omega)) ?_
  walk_at "se"
  refine BIN_divs (by decide) (by decide) ?_
  walk_at "se"
  refine BIN_mods (by decide) ?_
  obtain ⟨hd, ehd, hd5⟩ : ∃ hd : Nat, ns.getD k 0 / 48 % 6 = (hd : Int) ∧ hd ≤ 5 := ⟨(ns.getD k 0 / 48 % 6).toNat, by omega, by omega⟩
  rw [ehd]
  refine ⟨.inl rfl, ?_⟩
  -- tail
  refine SXs_cons (SX_assign rfl ?_)
  walk_at "se"; walk_at "se"; walk_at "se"; walk_at "se"; walk_at "se"; walk_at "se"; walk_at "se"
  refine GET_list hN1 (Int.natCast_nonneg _) (v := .int (ns.getD k 0)) (by rw [Int.toNat_natCast]; exact geti (by omega)) ?_
  walk_at "se"
  refine BIN_divs (by decide) (by decide) ?_
  walk_at "se"
  refine BIN_mods (by decide) ?_
  refine BIN_sub ?_
  obtain ⟨tl, etl, tl5⟩ : ∃ tl : Nat, 5 - ns.getD k 0 / 288 % 6 = (tl : Int) ∧ tl ≤ 5 := ⟨(5 - ns.getD k 0 / 288 % 6).toNat, by omega, by omega⟩
  rw [etl]
  refine ⟨.inl rfl, ?_⟩
  generalize hTT : txt (bs.getD k []) = T at hT5 hTc hTg
  -- ends
  refine SXs_cons (SX_assign rfl ?_)
  refine SE_list ?_
  walk_at "se"
  refine SE_sliceT F.slot_str_getitem.lookup ?_
  walk_at "se"; walk_at "se"; walk_at "se"
  refine GET_list hX1 (Int.natCast_nonneg _) (v := .str (S T)) (by rw [Int.toNat_natCast]; exact hTg) ?_
  refine SP_none (SP_some ?_)
  walk_at "se"
  refine ⟨_, rfl, GSL_str (by rw [S_len, hT5]; exact sz_le (by decide)) ?_⟩
  rw [slice_to (by omega)]
  walk_at "se"
  refine SE_sliceT F.slot_str_getitem.lookup ?_
  walk_at "se"; walk_at "se"; walk_at "se"
  refine GET_list hX1 (Int.natCast_nonneg _) (v := .str (S T)) (by rw [Int.toNat_natCast]; exact hTg) ?_
  refine SP_some ?_
  walk_at "se"
  refine ⟨_, rfl, SP_none (GSL_str (by rw [S_len, hT5]; exact sz_le (by decide)) ?_)⟩
  rw [slice_S (by omega)]
  walk_at "se"
  refine ⟨rfl, by show (2 : Nat) ≤ 2 ^ 20; decide, .inl rfl, ?_⟩
  have htk2 := tk_app (τ := [[V.str (S (T.take hd)), .str (S (T.drop tl))]]) htk
  have hX2 := at_old (τ := [[V.str (S (T.take hd)), .str (S (T.drop tl))]]) hX1
  have hE2 : (σ1 ++ [[V.str (S (T.take hd)), .str (S (T.drop tl))]])[σ1.length]? = some [V.str (S (T.take hd)), .str (S (T.drop tl))] := at_end _
  generalize σ1 ++ [[V.str (S (T.take hd)), .str (S (T.drop tl))]] = σ2 at htk2 hX2 hE2 ⊢
  generalize σ1.length = eN at hE2 ⊢
  have hdT := dat2 (a := T.take hd) (b := T.drop tl) (fun ch h => hTc ch (List.mem_of_mem_take h)) (fun ch h => hTc ch (List.mem_of_mem_drop h))
  -- both texts
  refine SXs_one (FOR (S := Unit) (fun _ _ => [("ends", .ref eN), ("tail", .int (tl : Int)), ("head", .int (hd : Int)), ("texts", .ref tN), ("letters", .str "abcde"), ("middle", .int (m : Int)), ("struck", .ref uN), ("line", .ref lN), ("back", .ref kN), ("peak", .ref pN), ("start", .int st), ("numbers", .ref nN)])
    (fun _ _ σ' => σ'.take σ2.length = σ2 ∧ σ'[σ2.length]? = some (([T, txt (bs.getD ((k + 1) % 5) [])]).map fun r => V.str (S r))) (fun _ => rfl) ?_)
  refine SE_list ?_
  walk_at "se"; walk_at "se"; walk_at "se"; walk_at "se"
  refine GET_list hX2 (Int.natCast_nonneg _) (v := .str (S T)) (by rw [Int.toNat_natCast]; exact hTg) ?_
  walk_at "se"; walk_at "se"; walk_at "se"; walk_at "se"; walk_at "se"; walk_at "se"; walk_at "se"
  refine BIN_add ?_
  walk_at "se"
  refine BIN_mods (by decide) ?_
  have ek1 : ((k : Int) + 1) % 5 = (((k + 1) % 5 : Nat) : Int) := by omega
  rw [ek1]
  refine GET_list hX2 (Int.natCast_nonneg _) (v := .str (S (txt (bs.getD ((k + 1) % 5) [])))) (by rw [Int.toNat_natCast]; exact eT_get (by omega)) ?_
  walk_at "se"
  refine ⟨rfl, by show (2 : Nat) ≤ 2 ^ 20; decide, ?_⟩
  have h216 : bs.getD ((k + 1) % 5) [] ∈ B16 := BB.mem _ (getD_mem' (by omega))
  have h25 := txt_len h216
  have h2c := txt_ok _ h216
  generalize txt (bs.getD ((k + 1) % 5) []) = T2 at h25 h2c ⊢
  have htkk : ∀ σ' : Hp, σ'.take σ2.length = σ2 → σ'.take σ.length = σ := fun σ' h => tk_trans htk2 h
  refine ⟨([T, T2]).map fun r => V.str (S r), (), ⟨by rw [List.take_left], at_end _⟩, ⟨rfl, rfl, rfl, rfl, rfl, rfl, rfl, rfl, rfl, rfl, rfl, rfl, trivial⟩, fun j y σ' _ h => h.2, ?_, fun _ σ' h => SXs_nil (hQ2 _ _ _ ⟨(), htkk σ' h.1, rfl, rfl, rfl, rfl, rfl, rfl, rfl, rfl, rfl, trivial⟩)⟩
  rintro j _ τ u hu ⟨h1, h2⟩
  obtain ⟨hj, rfl⟩ := str_item hu
  have hg : (([T, T2] : List (List Nat)).getD j []).length = 5 ∧ ∀ ch ∈ ([T, T2] : List (List Nat)).getD j [], 97 ≤ ch ∧ ch ≤ 101 := by
    have hj2 : j < 2 := hj
    match j, hj2 with
    | 0, _ => exact ⟨hT5, hTc⟩
    | 1, _ => exact ⟨h25, h2c⟩
  generalize ([T, T2] : List (List Nat)).getD j [] = g at hg ⊢
  obtain ⟨hg5, hgc⟩ := hg
  refine ⟨.inl rfl, SXs_post fun Q3 hQ3 => ?_⟩
  have hE3 := tk_at h1 hE2
  have hfin : ∀ (ω : Hp), ω.take τ.length = τ → ω.take σ2.length = σ2 ∧ ω[σ2.length]? = some (([T, T2]).map fun r => V.str (S r)) := fun ω h => ⟨tk_trans h1 h, tk_at h h2⟩
  -- fits
  refine SXs_cut (fun ρ' σ' => σ'.take τ.length = τ ∧ ρ' = ([("fits", .bool (fitsK hd tl T g)), ("text", .str (S g)), ("ends", .ref eN), ("tail", .int (tl : Int)), ("head", .int (hd : Int)), ("texts", .ref tN), ("letters", .str "abcde"), ("middle", .int (m : Int)), ("struck", .ref uN), ("line", .ref lN), ("back", .ref kN), ("peak", .ref pN), ("start", .int st), ("numbers", .ref nN)] : Loc)) ?_ ?_
  · refine SX_assign rfl ?_
    refine SE_and ?_
    walk_at "se"; walk_at "se"; walk_at "se"
    refine CMP_le ⟨_, rfl, fun h => ⟨.inl rfl, List.take_length, ?_⟩, fun h => ?_⟩
    · have e : fitsK hd tl T g = false := by
        unfold fitsK
        have : ¬ hd ≤ tl := by have := of_decide_eq_false h; omega
        rw [decide_eq_false this, Bool.false_and]
      rw [e]
    walk_at "se"
    refine SE_list ?_
    walk_at "se"
    refine SE_sliceT F.slot_str_getitem.lookup ?_
    walk_at "se"
    refine SP_none (SP_some ?_)
    walk_at "se"
    refine ⟨_, rfl, GSL_str (by rw [S_len, hg5]; exact sz_le (by decide)) ?_⟩
    rw [slice_to (by omega)]
    walk_at "se"
    refine SE_sliceT F.slot_str_getitem.lookup ?_
    walk_at "se"
    refine SP_some ?_
    walk_at "se"
    refine ⟨_, rfl, SP_none (GSL_str (by rw [S_len, hg5]; exact sz_le (by decide)) ?_)⟩
    rw [slice_S (by omega)]
    walk_at "se"
    refine ⟨rfl, by show (2 : Nat) ≤ 2 ^ 20; decide, ?_⟩
    walk_at "se"
    refine CMP_eqDat (at_end _) (at_old hE3) (dat2 (fun ch h => hgc ch (List.mem_of_mem_take h)) (fun ch h => hgc ch (List.mem_of_mem_drop h))) hdT ⟨.inl rfl, by rw [List.take_left], ?_⟩
    rw [eqv2]
    have e : fitsK hd tl T g = (g.take hd == T.take hd && g.drop tl == T.drop tl) := by
      unfold fitsK
      have : hd ≤ tl := by have := of_decide_eq_true h; omega
      rw [decide_eq_true this, Bool.true_and]
    rw [e]
  rintro _ ω ⟨hω, rfl⟩
  have hE4 := tk_at hω hE3
  -- told
  refine SXs_cons (SX_assign rfl ?_)
  walk_at "se"
  refine SE_gl B (.ref 38) rfl (by rw [hK]; kernel_rfl) ?_
  walk_at "se"; walk_at "se"; walk_at "se"
  refine ⟨_, METH_str F.slot_str_join F.type_str_join, ?_⟩
  walk_at "se"; walk_at "se"; walk_at "se"
  refine CALL_join (l := [S (T.take hd), S (T.drop tl)]) hE4 ?_ ?_
  · have h3 : (("..." : Str)).length = 3 := by decide +kernel
    rw [h3]
    show (S (T.take hd)).length + ((S (T.drop tl)).length + 0) + 2 * 3 ≤ 16777216
    rw [S_len, S_len, List.length_take, List.length_drop]; omega
  rw [join_dots]
  walk_at "se"; walk_at "se"; walk_at "se"; walk_at "se"
  refine ⟨Calls_def B (hK ▸ DEM P), rfl, em_parts B hK ⟨by rw [List.length_take]; omega, fun h => ?_⟩ (fun r hr => ?_) (by decide) (by omega) ?_⟩
  · have := hTc 46 (List.mem_of_mem_take h); omega
  · rw [List.mem_singleton.mp hr]
    refine ⟨by rw [List.length_drop]; omega, fun h => ?_⟩
    have := hTc 46 (List.mem_of_mem_drop h); omega
  have hem : em (S g) (S (T.take hd) :: ([T.drop tl] : List (List Nat)).map S) = fitsK hd tl T g := em_fits hT5 hg5 hd5 tl5
  rw [hem]
  refine ⟨.inl rfl, ?_⟩
  generalize fitsK hd tl T g = fv
  refine SXs_one (SX_if ?_)
  walk_at "se"
  refine SE_list ?_
  walk_at "se"; walk_at "se"; walk_at "se"; walk_at "se"
  refine CMP_isBool ?_
  walk_at "se"; walk_at "se"; walk_at "se"; walk_at "se"
  refine CMP_isBool ?_
  walk_at "se"
  refine ⟨rfl, by show (2 : Nat) ≤ 2 ^ 20; decide, ?_⟩
  refine SE_list ?_
  walk_at "se"; walk_at "se"; walk_at "se"
  refine SE_not ?_
  walk_at "se"
  refine TRU_bool ?_
  walk_at "se"
  refine ⟨rfl, by show (2 : Nat) ≤ 2 ^ 20; decide, ?_⟩
  refine CMP_neDat (at_old (at_end _)) (at_end _) rfl rfl ⟨fun h => ?_, fun _ => SXs_nil ?_⟩
  · rw [bool_pair] at h; cases h
  · exact hQ3 _ _ _ ⟨(), hfin _ (tk_app (tk_app hω)), rfl, rfl, rfl, rfl, rfl, rfl, rfl, rfl, rfl, rfl, rfl, rfl, trivial⟩
end

end
section
open PySem PySem.W PyProof.Rows PySem.Calls
set_option Elab.async false
set_option maxRecDepth 100000
set_option autoImplicit false
set_option linter.unusedVariables false
set_option maxHeartbeats 1000000

section
variable {c : Fx} {d : Nat} {env : Env} {ρ : Loc} {σ : Hp} {P : Params}
theorem dots_S : ("..." : Str) = S d3 := by rw [S_of ("..." : Str), dots_list]
theorem SE_dots {Q : V → Hp → Prop} {k : Nat} {pos : Pos} (q : Q (.str (S d3)) σ) : SE c d env (.Constant (.str "...") k pos) ρ σ Q := SE_str (by rw [dots_S]; exact q)
theorem abc_nat {i : Nat} (h : i < 5) : (("abcde" : Str)).cps.toList[((i : Nat) : Int).toNat]? = some (97 + i) := by
  have := abc_get (i := (i : Int)) (by omega) (by omega)
  rw [Int.toNat_natCast] at this ⊢; exact this
theorem GET_abc {Q : V → Hp → Prop} {i : Nat} (h : i < 5) (q : Q (.str (S [97 + i])) σ) : GET c d (.str "abcde") (.int (i : Int)) σ Q := GET_str (Int.natCast_nonneg _) (by omega) (abc_nat h) q
noncomputable def wantL (x y : Nat) : List Nat := d3 ++ [97 + x] ++ d3 ++ [97 + y] ++ d3
theorem want_eq (x y : Nat) : wantL x y = [] ++ ((([97 + x] : List Nat) :: [[97 + y], []]).map (d3 ++ ·)).flatten := rfl
/-- two letters with dots ahead, between and behind -/
theorem em_want {Q : V → Hp → Prop} (B : Base c) (hK : c.K = HK P) {b : List Int} (hb : b ∈ B16) {x y : Nat} (hx : x < 5) (hy : y < 5) (hn : x ≠ y) (q : Q (.bool (ahead b (x : Nat) (y : Nat))) σ) : CALLV c (d + 1) (.obj (.ref 38)) [.str (S (wantL x y)), .str (S (txt b))] [] σ Q := by
  rw [want_eq]
  refine em_parts B hK ⟨by decide, by decide⟩ (fun r hr => ?_) (Nat.le_of_ble_eq_true rfl) (by rw [txt_len hb]; decide) ?_
  · simp only [List.mem_cons, List.not_mem_nil, or_false] at hr
    rcases hr with rfl | rfl | rfl
    · exact ⟨Nat.le_of_ble_eq_true rfl, fun h => by have := List.mem_singleton.mp h; omega⟩
    · exact ⟨Nat.le_of_ble_eq_true rfl, fun h => by have := List.mem_singleton.mp h; omega⟩
    · exact ⟨by decide, fun h => nomatch h⟩
  · have := em_two b hb x hx y hy hn
    show Q (.bool (em (S (txt b)) [S [], S [97 + x], S [97 + y], S []])) σ
    rw [this]; exact q
variable {Q : FV → Loc → Hp → Prop}
theorem law7 (B : Base c) (hK : c.K = HK P) (hT2 : ((131 : Addr), (129 : Addr), (("law" : Str) ++ ".<locals>." ++ "<lambda>" : Str)) ∈ c.tabs) {L : Addr} {pN lN kN uN tN m : Nat} {st : Int} {bs : List (List Int)} (BB : Bal bs)
    (hL : σ[lN]? = some ((lineK bs).map .int)) (hB : σ[kN]? = some ((backK bs).map .int)) (hP : σ[pN]? = some ((pks bs).map .int)) (hX : σ[tN]? = some ((bs.map txt).map fun r => .str (S r))) {nv : V}
    (kk : ∀ (σ' : Hp), σ'.take σ.length = σ → σ'[σ.length]? = some ((btO (win bs) 5).map .int) →
      SXs c (d + 3) (callEnvC (fLAW P) L 132) ((bLAW P).drop 21) [("beaten", .ref σ.length), ("texts", .ref tN), ("letters", .str "abcde"), ("middle", .int (m : Int)), ("struck", .ref uN), ("line", .ref lN), ("peak", .ref pN), ("start", .int st)] σ' Q) :
    SXs c (d + 3) (callEnvC (fLAW P) L 132) ((bLAW P).drop 19) [("texts", .ref tN), ("letters", .str "abcde"), ("middle", .int (m : Int)), ("struck", .ref uN), ("line", .ref lN), ("back", .ref kN), ("peak", .ref pN), ("start", .int st), ("numbers", nv)] σ Q := by
  have hb5 := BB.len
  have hpl : (pks bs).length = 5 := by unfold pks; rw [List.length_map, hb5]
  have hll : (lineK bs).length = 5 := chain_len _ _
  have hbl : (backK bs).length = 5 := chainL_len _ _
  have hlm : ∀ y ∈ lineK bs, 0 ≤ y ∧ y < (pks bs).length := fun y hy => by have := chain_mem hy; omega
  have hbm : ∀ y ∈ backK bs, 0 ≤ y ∧ y < (pks bs).length := fun y hy => by have := chainL_mem hy; omega
  refine SXs_cons (SX_assign rfl ?_)
  refine SE_list ?_
  walk_at "se"; walk_at "se"; walk_at "se"; walk_at "se"; walk_at "se"; walk_at "se"; walk_at "se"; walk_at "se"; walk_at "se"; walk_at "se"; walk_at "se"
  refine ⟨rfl, by show (5 : Nat) ≤ 2 ^ 20; decide, .inl rfl, ?_⟩
  refine SXs_cons (FOR (S := Unit) (fun _ _ => [("beaten", .ref σ.length), ("texts", .ref tN), ("letters", .str "abcde"), ("middle", .int (m : Int)), ("struck", .ref uN), ("line", .ref lN), ("back", .ref kN), ("peak", .ref pN), ("start", .int st)])
    (fun a _ σ' => σ'.take σ.length = σ ∧ σ'[σ.length]? = some ((btO (win bs) a).map .int)) (fun _ => rfl) ?_)
  with_reducible refine SE_range B (by with_unfolding_all rfl) (by rw [hK]; kernel_rfl) (by with_unfolding_all rfl) ?_
  refine ⟨rngItems (0 : Nat) (5 : Nat), (), ⟨by rw [List.take_left], at_end _⟩, ⟨rfl, rfl, rfl, rfl, rfl, rfl, rfl, rfl, rfl, trivial⟩, fun k y σ' _ _ => rng_items (by decide) (by decide), ?_, ?_⟩
  · rintro a _ σ1 u hu ⟨htk, hbt⟩
    obtain ⟨rfl, ha⟩ := rng0_item hu
    have ha5 : a < 5 := by omega
    refine ⟨.inl rfl, SXs_post fun Q2 hQ2 => ?_⟩
    refine SXs_one (FOR (S := Unit) (fun _ _ => [("a", .int (a : Int)), ("beaten", .ref σ.length), ("texts", .ref tN), ("letters", .str "abcde"), ("middle", .int (m : Int)), ("struck", .ref uN), ("line", .ref lN), ("back", .ref kN), ("peak", .ref pN), ("start", .int st)])
      (fun j _ σ' => σ'.take σ.length = σ ∧ σ'[σ.length]? = some ((btI (win bs) a j (btO (win bs) a)).map .int)) (fun _ => rfl) ?_)
    walk_at "se"
    refine SE_bi B _ rfl (by rw [hK]; kernel_rfl) rfl ?_
    walk_at "se"; walk_at "se"; walk_at "se"; walk_at "se"
    refine BIN_add ?_
    walk_at "se"; walk_at "se"; walk_at "se"; walk_at "se"
    have ea1 : (a : Int) + 1 = ((a + 1 : Nat) : Int) := by omega
    rw [ea1]
    refine ⟨trivial, rfl, CALL_range2 ?_⟩
    refine ⟨rngItems ((a + 1 : Nat) : Int) (5 : Nat), (), ⟨htk, hbt⟩, ⟨rfl, rfl, rfl, rfl, rfl, rfl, rfl, rfl, rfl, rfl, trivial⟩, fun k y σ' _ _ => rng_items (by omega) (by decide), ?_, ?_⟩
    · rintro j _ σ2 u hu ⟨htk2, hbt2⟩
      obtain ⟨rfl, hb⟩ := rng_item hu
      have hbt5 : (btI (win bs) a j (btO (win bs) a)).length = 5 := by rw [btI_len, btO_len]
      have hstep : btI (win bs) a (j + 1) (btO (win bs) a) = btS (win bs) a (a + 1 + j) (btI (win bs) a j (btO (win bs) a)) := rfl
      generalize btI (win bs) a j (btO (win bs) a) = bt at hbt2 hbt5 hstep
      have hb5' : a + 1 + j < 5 := by omega
      have hjb : ((a + 1 + j : Nat) : Int) = (a : Int) + 1 ↔ j = 0 := by omega
      generalize hbe : a + 1 + j = b at hb5' hstep hjb ⊢
      have hab : a ≠ b := by omega
      refine ⟨.inl rfl, SXs_post fun Q3 hQ3 => ?_⟩
      have hX2 := tk_at htk2 hX
      -- want
      refine SXs_cons (SX_assign rfl ?_)
      walk_at "se"; walk_at "se"; walk_at "se"; walk_at "se"
      refine SE_dots ?_
      walk_at "se"; walk_at "se"; walk_at "se"
      refine GET_abc ha5 ?_
      refine BIN_catS (by rw [S_len, S_len]; exact Nat.le_of_ble_eq_true rfl) ?_
      refine SE_dots ?_
      refine BIN_catS (by rw [S_len, S_len]; exact Nat.le_of_ble_eq_true rfl) ?_
      walk_at "se"; walk_at "se"; walk_at "se"
      refine GET_abc hb5' ?_
      refine BIN_catS (by rw [S_len, S_len]; exact Nat.le_of_ble_eq_true rfl) ?_
      refine SE_dots ?_
      refine BIN_catS (by rw [S_len, S_len]; exact Nat.le_of_ble_eq_true rfl) ?_
      refine ⟨.inl rfl, ?_⟩
      -- votes
      refine SXs_cons (SX_assign rfl ?_)
      walk_at "se"
      refine ⟨.inl rfl, ?_⟩
      refine SXs_has [("votes", .int 0), ("want", .str (S (wantL a b))), ("b", .int (b : Int)), ("a", .int (a : Int)), ("beaten", .ref σ.length), ("texts", .ref tN), ("letters", .str "abcde"), ("middle", .int (m : Int)), ("struck", .ref uN), ("line", .ref lN), ("back", .ref kN), ("peak", .ref pN), ("start", .int st)] ⟨rfl, rfl, rfl, rfl, rfl, rfl, rfl, rfl, rfl, rfl, rfl, rfl, rfl, trivial⟩ ?_
      refine SXs_cons (FOR (S := Unit) (fun i _ => [("votes", .int (((bs.take i).countP fun t => ahead t (a : Nat) (b : Nat) : Nat) : Int)), ("want", .str (S (wantL a b))), ("b", .int (b : Int)), ("a", .int (a : Int)), ("beaten", .ref σ.length), ("texts", .ref tN), ("letters", .str "abcde"), ("middle", .int (m : Int)), ("struck", .ref uN), ("line", .ref lN), ("back", .ref kN), ("peak", .ref pN), ("start", .int st)])
        (fun _ _ σ' => σ'.take σ2.length = σ2) (fun _ => rfl) ?_)
      walk_at "se"
      refine ⟨(bs.map txt).map fun r => .str (S r), (), List.take_length, ⟨rfl, rfl, rfl, rfl, rfl, rfl, rfl, rfl, rfl, rfl, rfl, rfl, rfl, trivial⟩, fun i y σ' _ h => tk_at h hX2, ?_, ?_⟩
      · rintro i _ τ u hu hτ
        obtain ⟨hi, rfl⟩ := str_item hu
        rw [List.length_map] at hi
        have hti : (bs.map txt).getD i [] = txt (bs.getD i []) := by
          rw [List.getD_eq_getElem?_getD, List.getElem?_map, List.getD_eq_getElem?_getD, List.getElem?_eq_getElem hi]; rfl
        rw [hti]
        have hb16 : bs.getD i [] ∈ B16 := BB.mem _ (getD_mem' hi)
        have hcs : (bs.take (i + 1)).countP (fun t => ahead t (a : Nat) (b : Nat)) = (bs.take i).countP (fun t => ahead t (a : Nat) (b : Nat)) + (ahead (bs.getD i []) (a : Nat) (b : Nat)).toNat := by
          rw [List.take_succ_eq_append_getElem hi, List.countP_append, List.getD_eq_getElem?_getD, List.getElem?_eq_getElem hi, List.countP_cons, List.countP_nil]
          show _ = _ + (ahead bs[i] _ _).toNat
          cases ahead bs[i] (a : Nat) (b : Nat) <;> rfl
        refine ⟨.inl rfl, SXs_post fun Q4 hQ4 => ?_⟩
        generalize (bs.take i).countP (fun t => ahead t (a : Nat) (b : Nat)) = cnt at hcs ⊢
        -- ahead
        refine SXs_cons (SX_assign rfl ?_)
        walk_at "se"; walk_at "se"; walk_at "se"
        refine ⟨_, METH_str F.slot_str_find F.type_str_find, ?_⟩
        walk_at "se"; walk_at "se"; walk_at "se"; walk_at "se"
        refine GET_abc ha5 ?_
        walk_at "se"
        refine CALL_find ?_
        rw [find_ok _ hb16 a ha5]
        walk_at "se"; walk_at "se"
        refine ⟨_, METH_str F.slot_str_find F.type_str_find, ?_⟩
        walk_at "se"; walk_at "se"; walk_at "se"; walk_at "se"
        refine GET_abc hb5' ?_
        walk_at "se"
        refine CALL_find ?_
        rw [find_ok _ hb16 b hb5']
        refine CMP_lt ⟨.inl rfl, ?_⟩
        have eah : decide (((bs.getD i []).idxOf ((a : Nat) : Int) : Int) < ((bs.getD i []).idxOf ((b : Nat) : Int) : Int)) = ahead (bs.getD i []) (a : Nat) (b : Nat) := by
          unfold ahead
          rw [Bool.eq_iff_iff, decide_eq_true_iff, decide_eq_true_iff]; omega
        rw [eah]
        -- told
        refine SXs_cons (SX_assign rfl ?_)
        walk_at "se"
        refine SE_gl B (.ref 38) rfl (by rw [hK]; kernel_rfl) ?_
        walk_at "se"; walk_at "se"; walk_at "se"; walk_at "se"; walk_at "se"; walk_at "se"
        refine ⟨Calls_def B (hK ▸ DEM P), rfl, em_want B hK hb16 ha5 hb5' hab ⟨.inl rfl, ?_⟩⟩
        generalize ahead (bs.getD i []) (a : Nat) (b : Nat) = fv at hcs ⊢
        refine SXs_cons (SX_if ?_)
        walk_at "se"
        refine SE_list ?_
        walk_at "se"; walk_at "se"; walk_at "se"; walk_at "se"
        refine CMP_isBool ?_
        walk_at "se"; walk_at "se"; walk_at "se"; walk_at "se"
        refine CMP_isBool ?_
        walk_at "se"
        refine ⟨rfl, by show (2 : Nat) ≤ 2 ^ 20; decide, ?_⟩
        refine SE_list ?_
        walk_at "se"; walk_at "se"; walk_at "se"
        refine SE_not ?_
        walk_at "se"
        refine TRU_bool ?_
        walk_at "se"
        refine ⟨rfl, by show (2 : Nat) ≤ 2 ^ 20; decide, ?_⟩
        refine CMP_neDat (at_old (at_end _)) (at_end _) rfl rfl ⟨fun h => ?_, fun _ => SXs_nil ?_⟩
        · rw [bool_pair] at h; cases h
        refine SXs_one (SX_if ?_)
        refine SB_val rfl ?_
        walk_at "se"
        refine TRU_bool ⟨fun h => ?_, fun h => SXs_nil ?_⟩
        · refine SXs_one (SX_aug rfl ?_)
          walk_at "se"
          refine INP_add ⟨.inl rfl, hQ4 _ _ _ ⟨(), tk_app (tk_app hτ), ?_, rfl, rfl, rfl, rfl, rfl, rfl, rfl, rfl, rfl, rfl, rfl, rfl, trivial⟩⟩
          rw [hcs, h]; rfl
        · refine hQ4 _ _ _ ⟨(), tk_app (tk_app hτ), ?_, rfl, rfl, rfl, rfl, rfl, rfl, rfl, rfl, rfl, rfl, rfl, rfl, trivial⟩
          rw [hcs, h]; rfl
      · rintro _ σ3 hτ
        rw [List.length_map, List.length_map, List.take_length]
        have hv : (bs.countP fun t => ahead t (a : Nat) (b : Nat)) = votes bs a b := rfl
        rw [hv]
        have htk3 := tk_trans htk2 hτ
        have hbt3 := tk_at hτ hbt2
        have hL3 := tk_at htk3 hL
        have hB3 := tk_at htk3 hB
        have hP3 := tk_at htk3 hP
        refine SXs_nil ?_
        -- neighbours
        refine SXs_cut (fun ρ' σ' => σ'.take σ3.length = σ3 ∧ ρ' = ([("votes", .int ((votes bs a b : Nat) : Int)), ("want", .str (S (wantL a b))), ("b", .int (b : Int)), ("a", .int (a : Int)), ("beaten", .ref σ.length), ("texts", .ref tN), ("letters", .str "abcde"), ("middle", .int (m : Int)), ("struck", .ref uN), ("line", .ref lN), ("back", .ref kN), ("peak", .ref pN), ("start", .int st)] : Loc)) ?_ ?_
        · refine SX_if ?_
          walk_at "se"; walk_at "se"; walk_at "se"; walk_at "se"; walk_at "se"
          refine BIN_add ?_
          refine CMP_eq ⟨fun h => ?_, fun h => SXs_nil ⟨List.take_length, rfl⟩⟩
          have hj0 : j = 0 := hjb.mp (beq_iff_eq.mp h)
          have hb1 : b = a + 1 := by omega
          have hvc : votes bs a b = cntLe bs (a : Nat) := by rw [hb1]; exact cnt_next BB (by omega)
          refine SXs_cons (SX_if ?_)
          walk_at "se"; walk_at "se"
          refine SE_gl B (.ref 56) rfl (by rw [hK]; kernel_rfl) ?_
          walk_at "se"; walk_at "se"; walk_at "se"; walk_at "se"; walk_at "se"; walk_at "se"
          refine SE_lam (cap := [("peak", pN)]) hT2 rfl rfl rfl ⟨rfl, rfl, rfl, rfl, rfl⟩ rfl ?_ ?_
          · intro y n hn
            obtain ⟨rfl, rfl⟩ : y = "peak" ∧ n = pN := by simpa using hn
            exact ⟨_, rfl, rfl, ne_local (k := .cell) rfl (by decide), rfl⟩
          refine ⟨Calls_def B (hK ▸ DBR P), rfl, br_key2 B hK (fun i => at' (pks bs) ((lineK bs).getD i 0)) hL3 (by rw [List.length_map]; omega) trivial rfl (fun i v e => ?_) ?_⟩
          · obtain ⟨hi, rfl⟩ := int_item e
            exact key_peak rfl rfl rfl (by decide +kernel) (by decide +kernel) (by decide +kernel) (by decide +kernel) hP3 _ (hlm _ (getD_memI hi)) rfl (by decide +kernel)
          rw [List.length_map, reach_gen BB (line_perm bs) (line_mono bs), ← hvc]
          walk_at "se"
          refine CMP_ne ⟨fun h => ?_, fun _ => SXs_nil ?_⟩
          · simp at h
          refine SXs_one (SX_if ?_)
          walk_at "se"; walk_at "se"
          refine SE_gl B (.ref 74) rfl (by rw [hK]; kernel_rfl) ?_
          walk_at "se"; walk_at "se"; walk_at "se"; walk_at "se"; walk_at "se"; walk_at "se"
          refine SE_lam (cap := [("peak", pN)]) hT2 rfl rfl rfl ⟨rfl, rfl, rfl, rfl, rfl⟩ rfl ?_ ?_
          · intro y n hn
            obtain ⟨rfl, rfl⟩ : y = "peak" ∧ n = pN := by simpa using hn
            exact ⟨_, rfl, rfl, ne_local (k := .cell) rfl (by decide), rfl⟩
          refine ⟨Calls_def B (hK ▸ DBL P), rfl, bl_key2 B hK (fun i => at' (pks bs) ((backK bs).getD i 0)) hB3 (by rw [List.length_map]; omega) trivial rfl (fun i v e => ?_) ?_⟩
          · obtain ⟨hi, rfl⟩ := int_item e
            exact key_peak rfl rfl rfl (by decide +kernel) (by decide +kernel) (by decide +kernel) (by decide +kernel) hP3 _ (hbm _ (getD_memI hi)) rfl (by decide +kernel)
          have eb : ((b : Nat) : Int) = ((a : Nat) : Int) + 1 := by omega
          rw [List.length_map, eb, reachL_gen BB (back_perm bs) (back_mono bs), ← hvc]
          walk_at "se"
          refine CMP_ne ⟨fun h => ?_, fun _ => SXs_nil ⟨List.take_length, ?_⟩⟩
          · simp at h
          rw [← eb]
        rintro _ σ4 ⟨hτ4, rfl⟩
        have htk4 := tk_trans htk3 hτ4
        have hbt4 := tk_at hτ4 hbt3
        refine SXs_one (SX_if ?_)
        walk_at "se"; walk_at "se"; walk_at "se"
        refine CMP_gt ⟨fun h => ?_, fun h => ?_⟩
        · have hw : win bs a b = true := by
            have := of_decide_eq_true h
            unfold win
            rw [decide_eq_true_iff]; omega
          refine SXs_one (SX_augSub (fun _ _ _ => rfl) ?_)
          walk_at "se"
          refine ⟨_, rfl, ?_⟩
          walk_at "se"
          refine ⟨a, _, _, rfl, hbt4, geti (by omega), ?_⟩
          walk_at "se"; walk_at "se"; walk_at "se"
          refine BIN_pow (Int.natCast_nonneg _) (by omega) (by decide) ?_
          rw [Int.toNat_natCast]
          refine INP_add ⟨_, hbt4, by rw [List.length_map]; omega, rfl, ?_⟩
          rw [seti]
          refine hQ3 _ _ _ ⟨(), ⟨tk_set htk4 (Nat.le_refl _), ?_⟩, rfl, rfl, rfl, rfl, rfl, rfl, rfl, rfl, rfl, rfl, trivial⟩
          rw [at_self hbt4, hstep, btS, if_pos hw, Int.natCast_pow]
          rfl
        · have hw : ¬ win bs a b = true := by
            have := of_decide_eq_false h
            unfold win
            rw [decide_eq_true_iff]; omega
          refine SXs_one (SX_augSub (fun _ _ _ => rfl) ?_)
          walk_at "se"
          refine ⟨_, rfl, ?_⟩
          walk_at "se"
          refine ⟨b, _, _, rfl, hbt4, geti (by omega), ?_⟩
          walk_at "se"; walk_at "se"; walk_at "se"
          refine BIN_pow (Int.natCast_nonneg _) (by omega) (by decide) ?_
          rw [Int.toNat_natCast]
          refine INP_add ⟨_, hbt4, by rw [List.length_map]; omega, rfl, ?_⟩
          rw [seti]
          refine hQ3 _ _ _ ⟨(), ⟨tk_set htk4 (Nat.le_refl _), ?_⟩, rfl, rfl, rfl, rfl, rfl, rfl, rfl, rfl, rfl, rfl, trivial⟩
          rw [at_self hbt4, hstep, btS, if_neg hw, Int.natCast_pow]
          rfl
    · rintro _ σ2 ⟨htk2, hbt2⟩
      rw [rng_len, show 5 - (a + 1) = 4 - a by omega] at hbt2
      exact SXs_nil (hQ2 _ _ _ ⟨(), ⟨htk2, hbt2⟩, rfl, rfl, rfl, rfl, rfl, rfl, rfl, rfl, rfl, trivial⟩)
  · rintro _ σ1 ⟨htk, hbt⟩
    rw [rng_len, Nat.sub_zero] at hbt
    refine SXs_nil ?_
    refine SXs_has [("beaten", .ref σ.length), ("texts", .ref tN), ("letters", .str "abcde"), ("middle", .int (m : Int)), ("struck", .ref uN), ("line", .ref lN), ("peak", .ref pN), ("start", .int st)] ⟨rfl, rfl, rfl, rfl, rfl, rfl, rfl, rfl, trivial⟩ ?_
    exact kk σ1 htk hbt
end

end
section
open PySem PySem.W PyProof.Rows PySem.Calls
set_option Elab.async false
set_option maxRecDepth 100000
set_option autoImplicit false
set_option linter.unusedVariables false
set_option maxHeartbeats 1000000

section
variable {c : Fx} {d : Nat} {σ : Hp} {P : Params} {Q : FV → Loc → Hp → Prop}
theorem fin_nodup {bs : List (List Int)} (BB : Bal bs) {F : List Nat} (O : FinOk (win bs) F) : F.Nodup := by
  rw [List.nodup_iff_pairwise_ne]
  refine List.Pairwise.imp_of_mem (fun {a b} ha hb h e => ?_) O.pw
  rw [e, win_irr BB (O.lt b hb)] at h; cases h
theorem take_perm {bs : List (List Int)} (BB : Bal bs) {F : List Nat} (O : FinOk (win bs) F) {p : Nat} (hp : p < 5) : ((F.take p).map fun n : Nat => (n : Int)).Perm (((List.range 5).filter (win bs (F.getD p 0))).map fun n : Nat => (n : Int)) := by
  refine List.Perm.map _ ?_
  rw [List.perm_ext_iff_of_nodup ((List.take_sublist p F).nodup (fin_nodup BB O)) (List.filter_sublist.nodup List.nodup_range)]
  intro y
  rw [List.mem_filter, List.mem_range]
  constructor
  · intro h
    have h5 := O.lt y (List.mem_of_mem_take h)
    exact ⟨h5, by rw [← take_any BB O hp h5]; exact List.any_eq_true.mpr ⟨y, h, beq_self_eq_true _⟩⟩
  · rintro ⟨h5, h⟩
    rw [← take_any BB O hp h5] at h
    obtain ⟨z, hz, e⟩ := List.any_eq_true.mp h
    rw [← beq_iff_eq.mp e]; exact hz
theorem law8 (B : Base c) (hK : c.K = HK P) {L : Addr} {pN lN uN tN nB m s : Nat} {bs : List (List Int)} {fo : List Nat} (BB : Bal bs) (O : FinOk (win bs) fo) (hs : s < 28) (hU : σ[uN]? = some ((fo.map fun n : Nat => (n : Int)).map .int)) (hBt : σ[nB]? = some ((btO (win bs) 5).map .int))
    (kk : ∀ (σ' : Hp), σ'.take σ.length = σ →
      SXs c (d + 1) (callEnvC (fLAW P) L 132) ((bLAW P).drop 22) [("texts", .ref tN), ("letters", .str "abcde"), ("middle", .int (m : Int)), ("line", .ref lN), ("peak", .ref pN)] σ' Q) :
    SXs c (d + 1) (callEnvC (fLAW P) L 132) ((bLAW P).drop 21) [("beaten", .ref nB), ("texts", .ref tN), ("letters", .str "abcde"), ("middle", .int (m : Int)), ("struck", .ref uN), ("line", .ref lN), ("peak", .ref pN), ("start", .int (s : Int))] σ Q := by
  have hF5 := O.len
  refine SXs_cons (FOR (S := Unit) (fun _ _ => [("beaten", .ref nB), ("texts", .ref tN), ("letters", .str "abcde"), ("middle", .int (m : Int)), ("struck", .ref uN), ("line", .ref lN), ("peak", .ref pN), ("start", .int (s : Int))]) (fun _ _ σ' => σ'.take σ.length = σ) (fun _ => rfl) ?_)
  with_reducible refine SE_range B (by with_unfolding_all rfl) (by rw [hK]; kernel_rfl) (by with_unfolding_all rfl) ?_
  refine ⟨rngItems (0 : Nat) (5 : Nat), (), List.take_length, ⟨rfl, rfl, rfl, rfl, rfl, rfl, rfl, rfl, trivial⟩, fun k y σ' _ _ => rng_items (by decide) (by decide), ?_, fun _ σ' htk => SXs_nil (SXs_has [("texts", .ref tN), ("letters", .str "abcde"), ("middle", .int (m : Int)), ("line", .ref lN), ("peak", .ref pN)] ⟨rfl, rfl, rfl, rfl, rfl, trivial⟩ (kk σ' htk))⟩
  rintro p _ σ1 u hu htk
  obtain ⟨rfl, hp⟩ := rng0_item hu
  have hp5 : p < 5 := by omega
  refine ⟨.inl rfl, SXs_post fun Q2 hQ2 => ?_⟩
  have hU1 := tk_at htk hU
  have hB1 := tk_at htk hBt
  have hf5 : fo.getD p 0 < 5 := O.lt _ (getD_mem' (by omega))
  have hperm := take_perm BB O hp5
  rw [bt_fin BB] at hB1
  refine SXs_one (SX_if ?_)
  walk_at "se"; walk_at "se"
  refine SE_gl B (.ref 82) rfl (by rw [hK]; kernel_rfl) ?_
  walk_at "se"; walk_at "se"; walk_at "se"; walk_at "se"; walk_at "se"; walk_at "se"
  walk_at "se"
  refine GET_list hU1 (Int.natCast_nonneg _) (v := .int (fo.getD p 0 : Nat)) ?_ ?_
  · rw [Int.toNat_natCast, List.getElem?_map, List.getElem?_map, List.getD_eq_getElem?_getD, List.getElem?_eq_getElem (by omega)]; rfl
  refine GET_list hB1 (Int.natCast_nonneg _) (v := .int ((maskB (win bs (fo.getD p 0)) : Nat) : Int)) ?_ ?_
  · rw [Int.toNat_natCast, List.getElem?_map, List.getElem?_map, List.getElem?_range hf5]; rfl
  generalize hf : win bs (fo.getD p 0) = f at hperm ⊢
  walk_at "se"; walk_at "se"; walk_at "se"
  refine BIN_pow (Int.natCast_nonneg _) (by omega) (by decide) ?_
  rw [Int.toNat_natCast]
  have hm := maskB_lt f
  refine BIN_muls (by omega) (by omega) ?_
  have hpw : ((maskB f : Nat) : Int) * 2 ^ s = ((maskB f * 2 ^ s : Nat) : Int) := by rw [Int.natCast_mul, Int.natCast_pow]; rfl
  rw [hpw]
  have hlt : maskB f * 2 ^ s < 2 ^ 32 := by
    have : 2 ^ s ≤ 2 ^ 27 := Nat.pow_le_pow_right (by decide) (by omega)
    calc maskB f * 2 ^ s ≤ 31 * 2 ^ 27 := Nat.mul_le_mul (by omega) this
      _ < 2 ^ 32 := by decide
  walk_at "se"; walk_at "se"
  refine ⟨Calls_def B (hK ▸ DPF P), rfl, pf_spec B hK hlt ?_⟩
  rw [pf_text hs]
  walk_at "se"
  refine SE_gl B (.ref 120) rfl (by rw [hK]; kernel_rfl) ?_
  walk_at "se"
  refine SE_sliceT F.slot_list_getitem.lookup ?_
  walk_at "se"
  refine SP_none (SP_some ?_)
  walk_at "se"
  refine ⟨_, rfl, GSL_list hU1 (by show (0 : Int) ≤ _; omega) ?_⟩
  have epk : pick ((fo.map fun n : Nat => (n : Int)).map V.int) none (some (p : Int)) = ((fo.take p).map fun n : Nat => (n : Int)).map .int := by
    show ((fo.map fun n : Nat => (n : Int)).map V.int).take ((p : Nat) : Int).toNat = _
    rw [Int.toNat_natCast, List.map_take, List.map_take]
  rw [epk]
  walk_at "se"; walk_at "se"; walk_at "se"; walk_at "se"
  refine ⟨Calls_def B (hK ▸ DWDS P), rfl, wds_spec B hK f hs (at_end _) hperm ?_⟩
  refine CMP_nes ⟨fun h => ?_, fun _ => SXs_nil ?_⟩
  · have : (S (lwText f s) != S (lwText f s)) = true := h
    rw [bne_self_eq_false] at this; cases this
  · exact hQ2 _ _ _ ⟨(), tk_app htk, rfl, rfl, rfl, rfl, rfl, rfl, rfl, rfl, trivial⟩
theorem law9 (B : Base c) (hK : c.K = HK P) {L : Addr} {pN lN tN m : Nat} {bs : List (List Int)} (BB : Bal bs) (hm : m < 5) (h1 : 2 < cntLe bs m) (h2 : ∀ c : Int, c < m → cntLe bs c ≤ 2)
    (hL : σ[lN]? = some ((lineK bs).map .int)) (hP : σ[pN]? = some ((pks bs).map .int)) (hX : σ[tN]? = some ((bs.map txt).map fun r => .str (S r)))
    (kk : ∀ (ρ' : Loc) (σ' : Hp), σ'.take σ.length = σ → Q (.rt (.bool true)) ρ' σ') :
    SXs c (d + 2) (callEnvC (fLAW P) L 132) ((bLAW P).drop 22) [("texts", .ref tN), ("letters", .str "abcde"), ("middle", .int (m : Int)), ("line", .ref lN), ("peak", .ref pN)] σ Q := by
  have hb5 := BB.len
  have hpl : (pks bs).length = 5 := by unfold pks; rw [List.length_map, hb5]
  have hll : (lineK bs).length = 5 := chain_len _ _
  have hlm : ∀ y ∈ lineK bs, 0 ≤ y ∧ y < (pks bs).length := fun y hy => by have := chain_mem hy; omega
  refine SXs_cons (FOR (S := Unit) (fun _ _ => [("texts", .ref tN), ("letters", .str "abcde"), ("middle", .int (m : Int)), ("line", .ref lN), ("peak", .ref pN)]) (fun _ _ σ' => σ'.take σ.length = σ) (fun _ => rfl) ?_)
  with_reducible refine SE_range B (by with_unfolding_all rfl) (by rw [hK]; kernel_rfl) (by with_unfolding_all rfl) ?_
  refine ⟨rngItems (0 : Nat) (5 : Nat), (), List.take_length, ⟨rfl, rfl, rfl, rfl, rfl, trivial⟩, fun k y σ' _ _ => rng_items (by decide) (by decide), ?_, ?_⟩
  · rintro v _ σ1 u hu htk
    obtain ⟨rfl, hv⟩ := rng0_item hu
    have hv5 : v < 5 := by omega
    refine ⟨.inr ⟨rfl, rfl, rfl⟩, SXs_post fun Q2 hQ2 => ?_⟩
    have hL1 := tk_at htk hL
    have hP1 := tk_at htk hP
    have hX1 := tk_at htk hX
    -- others
    refine SXs_cons (SX_comp (cl := _) [("peak", .ref pN), ("voter", .int (v : Int))] rfl ⟨fun _ => rfl, rfl, rfl, by decide +kernel, fa ⟨rfl, rfl⟩ (fa ⟨rfl, rfl⟩ (fa0)), fa ⟨rfl, .inl rfl, _, rfl, rfl, fun n => rfl⟩ (fa ⟨rfl, .inl rfl, _, rfl, rfl, fun n => rfl⟩ (fa0)), fa ⟨by show ("peak" : Str) ≠ "one"; decide +kernel, rfl⟩ (fa ⟨by show ("voter" : Str) ≠ "one"; decide +kernel, rfl⟩ (fa0)), rfl⟩ ?_)
    walk_at "se"
    refine ⟨(lineK bs).map .int, fun k τ => τ = σ1 ++ [((((lineK bs).take k).filter fun x => x != (v : Int)).map (at' (pks bs))).map .int], hL1, rfl, fun k τ _ h => by subst h; exact at_old hL1, ?_, .inl rfl, ?_⟩
    · rintro k _ u hu rfl C
      obtain ⟨hk, rfl⟩ := int_item hu
      have hm1 := hlm _ (getD_memI hk)
      have hst := take_filter_step 0 (fun x => x != (v : Int)) hk
      refine ⟨.inl rfl, TST_one ?_⟩
      walk_at "se"; walk_at "se"; walk_at "se"
      refine CMP_ne ⟨fun h => ?_, fun h => ?_⟩
      · show _ = σ1 ++ [((((lineK bs).take (k + 1)).filter fun x => x != (v : Int)).map (at' (pks bs))).map V.int]
        rw [hst, if_neg (by rw [h]; decide), List.append_nil]
      · walk_at "se"; walk_at "se"; walk_at "se"
        refine GET_list (at_old hP1) hm1.1 (v := .int (at' (pks bs) ((lineK bs).getD k 0))) (geti (by omega)) ⟨rfl, _, at_end _, ?_, ?_⟩
        · rw [List.length_map, List.length_map]
          have := List.length_filter_le (fun x => x != (v : Int)) ((lineK bs).take k)
          rw [List.length_take] at this
          omega
        · rw [set_end]
          show _ = σ1 ++ [((((lineK bs).take (k + 1)).filter fun x => x != (v : Int)).map (at' (pks bs))).map V.int]
          rw [hst, if_pos h, List.map_append, List.map_append]
          rfl
    · rintro _ rfl
      rw [List.length_map, List.take_length, show ((lineK bs).filter fun x => x != (v : Int)).map (at' (pks bs)) = othersK bs v from rfl]
      have hol := others_len (bs := bs) (v := (v : Int)) (by omega)
      have hos := others_sorted bs v
      have htk2 := tk_app (τ := [(othersK bs v).map V.int]) htk
      have hO2 : (σ1 ++ [(othersK bs v).map V.int])[σ1.length]? = some ((othersK bs v).map .int) := at_end _
      have hX2 := at_old (τ := [(othersK bs v).map V.int]) hX1
      have hmo := fun (lie : Int) (hl : lie = 0 ∨ lie = 4) => moulin BB hm h1 h2 hv5 hl
      unfold marksK at hmo
      generalize σ1 ++ [(othersK bs v).map V.int] = σ2 at htk2 hO2 hX2 ⊢
      generalize σ1.length = oN at hO2 ⊢
      generalize othersK bs v = os at hol hos hO2 hmo
      -- lies
      refine SXs_one (FOR (S := Unit) (fun _ _ => [("others", .ref oN), ("voter", .int (v : Int)), ("texts", .ref tN), ("letters", .str "abcde"), ("middle", .int (m : Int)), ("line", .ref lN), ("peak", .ref pN)]) (fun _ _ σ' => σ'.take σ2.length = σ2) (fun _ => rfl) ?_)
      refine SE_tuple ?_
      walk_at "se"; walk_at "se"; walk_at "se"; walk_at "se"; walk_at "se"
      refine ⟨rfl, by show (2 : Nat) ≤ 2 ^ 20; decide, ?_⟩
      refine ⟨([0, 4] : List Int).map .int, (), List.take_length, ⟨rfl, rfl, rfl, rfl, rfl, rfl, rfl, trivial⟩, fun k y σ' _ _ => rfl, ?_, fun _ σ' h => SXs_nil (hQ2 _ _ _ ⟨(), tk_trans htk2 h, rfl, rfl, rfl, rfl, rfl, trivial⟩)⟩
      rintro j _ τ u hu hτ
      obtain ⟨hj, rfl⟩ := int_item hu
      have hlie : ([0, 4] : List Int).getD j 0 = 0 ∨ ([0, 4] : List Int).getD j 0 = 4 := by
        have hj2 : j < 2 := hj
        match j, hj2 with
        | 0, _ => exact .inl rfl
        | 1, _ => exact .inr rfl
      generalize ([0, 4] : List Int).getD j 0 = lie at hlie ⊢
      obtain ⟨z0, z5, hz⟩ := hmo lie hlie
      obtain ⟨mp, ms⟩ := marks_ok hos lie
      refine ⟨.inl rfl, SXs_post fun Q3 hQ3 => ?_⟩
      have hO3 := tk_at hτ hO2
      have hX3 := tk_at hτ hX2
      -- marks
      refine SXs_cons (SX_assign rfl ?_)
      with_reducible refine SE_bi1 (v := .type "list") B (by with_unfolding_all rfl) (by rw [hK]; kernel_rfl) (by with_unfolding_all rfl) (by with_unfolding_all rfl) (by with_unfolding_all rfl) (by decide +kernel) (by decide +kernel) (by decide +kernel) (by with_unfolding_all exact trivial) ?_
      refine CALL_list hO3 ⟨.inl rfl, ?_⟩
      refine SXs_cons (SX_expr rfl rfl ?_)
      walk_at "se"
      refine SE_gl B (.ref 47) rfl (by rw [hK]; kernel_rfl) ?_
      walk_at "se"; walk_at "se"; walk_at "se"; walk_at "se"; walk_at "se"; walk_at "se"
      refine ⟨Calls_def B (hK ▸ DIR P), rfl, ir_none B hK (at_end _) (by omega) ?_⟩
      rw [set_end]
      show SXs _ _ _ _ _ (τ ++ [(insRt (fun x => x) os lie).map .int]) _
      have hml : (insRt (fun x => x) os lie).length = 5 := by rw [mp.length_eq, List.length_append, hol]; rfl
      generalize insRt (fun x => x) os lie = mk at mp ms hml z0 z5 hz ⊢
      have hτ2 := tk_app (τ := [mk.map V.int]) hτ
      have hO4 := at_old (τ := [mk.map V.int]) hO3
      have hX4 := at_old (τ := [mk.map V.int]) hX3
      have hM4 : (τ ++ [mk.map V.int])[τ.length]? = some (mk.map .int) := at_end _
      generalize τ ++ [mk.map V.int] = τ2 at hτ2 hO4 hX4 hM4 ⊢
      generalize τ.length = mN at hM4 ⊢
      -- sorted
      refine SXs_cons (SX_if ?_)
      walk_at "se"; walk_at "se"; walk_at "se"
      refine SE_bi B _ rfl (by rw [hK]; kernel_rfl) rfl ?_
      walk_at "se"; walk_at "se"; walk_at "se"
      refine SE_list ?_
      walk_at "se"; walk_at "se"; walk_at "se"
      refine ⟨rfl, by show (1 : Nat) ≤ 2 ^ 20; decide, ?_⟩
      refine BIN_catl (at_old hO4) (at_end _) (by rw [List.length_map, hol]; show 4 + 1 ≤ _; decide) ?_
      have eol : os.map V.int ++ [V.int lie] = (os ++ [lie]).map .int := by rw [List.map_append]; rfl
      rw [eol]
      walk_at "se"; walk_at "se"
      refine ⟨trivial, rfl, CALL_sorted (at_end _) (by rw [List.length_append, hol]; exact Nat.le_of_ble_eq_true rfl) fun l' p1 p2 => ?_⟩
      rw [sorted_uniq p1 mp p2 ms]
      refine CMP_neInts (l := mk) (l' := mk) (at_old (at_old (at_old hM4))) (at_end _) ⟨fun h => ?_, fun _ => SXs_nil ?_⟩
      · simp at h
      have hτ3 := tk_app (τ := [mk.map V.int]) (tk_app (τ := [(os ++ [lie]).map V.int]) (tk_app (τ := [[V.int lie]]) hτ2))
      have hX5 := at_old (τ := [mk.map V.int]) (at_old (τ := [(os ++ [lie]).map V.int]) (at_old (τ := [[V.int lie]]) hX4))
      have hM5 := at_old (τ := [mk.map V.int]) (at_old (τ := [(os ++ [lie]).map V.int]) (at_old (τ := [[V.int lie]]) hM4))
      generalize τ2 ++ [[V.int lie]] ++ [(os ++ [lie]).map V.int] ++ [mk.map V.int] = τ3 at hτ3 hX5 hM5 ⊢
      -- the new middle
      obtain ⟨zn, ez⟩ : ∃ zn : Nat, mk.getD 2 0 = (zn : Int) := ⟨(mk.getD 2 0).toNat, by omega⟩
      have hg2 : (mk.map V.int)[2]? = some (.int (zn : Int)) := by rw [← ez]; exact geti (by omega)
      rw [ez] at z0 z5 hz
      refine SXs_one (SX_if ?_)
      walk_at "se"; walk_at "se"; walk_at "se"; walk_at "se"
      refine GET_list hM5 (by decide) (v := .int (zn : Int)) hg2 ?_
      walk_at "se"
      refine CMP_ne ⟨fun hne => ?_, fun _ => SXs_nil (hQ3 _ _ _ ⟨(), hτ3, rfl, rfl, rfl, rfl, rfl, rfl, rfl, trivial⟩)⟩
      have hne' : (zn : Int) ≠ (m : Int) := bne_iff_ne.mp hne
      refine SXs_cons (SX_assign rfl ?_)
      walk_at "se"; walk_at "se"; walk_at "se"; walk_at "se"
      refine SE_dots ?_
      walk_at "se"; walk_at "se"; walk_at "se"
      refine GET_abc hm ?_
      refine BIN_catS (by rw [S_len, S_len]; exact Nat.le_of_ble_eq_true rfl) ?_
      refine SE_dots ?_
      refine BIN_catS (by rw [S_len, S_len]; exact Nat.le_of_ble_eq_true rfl) ?_
      walk_at "se"; walk_at "se"; walk_at "se"; walk_at "se"; walk_at "se"
      refine GET_list hM5 (by decide) (v := .int (zn : Int)) hg2 ?_
      refine GET_abc (by omega) ?_
      refine BIN_catS (by rw [S_len, S_len]; exact Nat.le_of_ble_eq_true rfl) ?_
      refine SE_dots ?_
      refine BIN_catS (by rw [S_len, S_len]; exact Nat.le_of_ble_eq_true rfl) ?_
      refine ⟨.inl rfl, ?_⟩
      refine SXs_one (SX_if ?_)
      walk_at "se"; walk_at "se"
      refine SE_gl B (.ref 38) rfl (by rw [hK]; kernel_rfl) ?_
      walk_at "se"; walk_at "se"; walk_at "se"; walk_at "se"; walk_at "se"; walk_at "se"
      refine GET_list hX5 (Int.natCast_nonneg _) (v := .str (S (txt (bs.getD v [])))) (by rw [Int.toNat_natCast]; exact eT_get (by omega)) ?_
      walk_at "se"; walk_at "se"
      refine ⟨Calls_def B (hK ▸ DEM P), rfl, ?_⟩
      show CALLV c _ _ [.str (S (wantL m zn)), _] _ _ _
      refine em_want B hK (BB.mem _ (getD_mem' (by omega))) hm (by omega) (by omega) ?_
      rw [hz hne']
      walk_at "se"
      refine CMP_isNotBool ⟨fun h => (nomatch h), fun _ => SXs_nil ?_⟩
      exact hQ3 _ _ _ ⟨(), hτ3, rfl, rfl, rfl, rfl, rfl, rfl, rfl, trivial⟩
  · rintro _ σ1 htk
    refine SXs_nil ?_
    refine SXs_one (SX_return ?_)
    walk_at "se"
    exact kk _ _ htk
end

end
section
open PySem PySem.W PyProof.Rows PySem.Calls
set_option Elab.async false
set_option maxRecDepth 100000
set_option autoImplicit false
set_option linter.unusedVariables false
set_option maxHeartbeats 1000000

section
variable {c : Fx} {d : Nat} {σ : Hp} {P : Params} {Q : V → Hp → Prop}
theorem law_spec (B : Base c) (hK : c.K = HK P) (hT1 : ((126 : Addr), (122 : Addr), (("_law_reached" : Str) ++ ".<locals>." ++ "<lambda>" : Str)) ∈ c.tabs) (hT2 : ((131 : Addr), (129 : Addr), (("law" : Str) ++ ".<locals>." ++ "<lambda>" : Str)) ∈ c.tabs)
    {xs : List Int} (hx : xs.length ≤ 63) (q : Q (.bool true) σ) : CALLV c (d + 6) (.obj (.ref 132)) [.fl (xs.map .int)] [] σ Q := by
  refine CALL_def [("script", .fl (xs.map .int))] B (hK ▸ DLAW P) ?_ (by dsimp only [List.map]; decide +kernel) ?_ fun hcl L => ?_
  · simp only [List.forall_mem_cons]
    exact ⟨.inr ⟨rfl, fun _ => rfl⟩, fun _ h => nomatch h⟩
  · intro h μ vs ks hv hk
    obtain ⟨v1, rfl, r1⟩ := args1 hv
    obtain rfl := args0 hk
    exact ⟨[("script", v1)], fun S => by rw [hK]; kernel_rfl, .cons ⟨rfl, r1⟩ .nil⟩
  · refine SXs_mono (Q' := _) (Q := QT σ) ?_ fun f ρ' σ' ⟨hf, htk⟩ => ⟨.bool true, .bool true, σ'.take σ.length, .inl hf, by rw [htk]; exact hcl, .drop _ rfl, by rw [htk]; exact q⟩
    refine law1 (d := d + 4) B hK hx fun σ1 ns s nN bN pN as hs hn tk1 hN1 hA1 hP1 => ?_
    have BB : Bal (ns.map ballot) := ⟨by rw [List.length_map, hn], fun b hb => by obtain ⟨x, _, rfl⟩ := List.mem_map.mp hb; exact ballot_mem _⟩
    have hp5 : (pks (ns.map ballot)).length = 5 := by unfold pks; rw [List.length_map, BB.len]
    have O := fin_ok BB
    obtain ⟨m5, m1, m2⟩ := mid_spec BB O
    refine law2 (d := d + 2) B hK hT2 hP1 hp5 fun σ2 lN kN tk2 hL2 hB2 => ?_
    have tk2' := tk_trans tk1 tk2
    refine law3 (d := d + 4) B hK (tk_at tk2 hN1) hn (hA1.tk tk2) fun σ3 uN tk3 hU3 => ?_
    have tk3' := tk_trans tk2' tk3
    have tk13 := tk_trans tk2 tk3
    refine law4 (d := d) B hK hT1 hT2 BB (tk_at tk3 hL2) (tk_at tk3 hB2) (tk_at tk13 hP1) m5 m1 m2 fun σ4 tk4 => ?_
    have tk4' := tk_trans tk3' tk4
    have tk14 := tk_trans tk13 tk4
    have tk24 := tk_trans tk3 tk4
    refine law5 (d := d + 4) B hK (tk_at tk14 hN1) hn (hA1.tk tk14) fun σ5 tk5 hX5 => ?_
    have tk5' := tk_trans tk4' tk5
    have tk15 := tk_trans tk14 tk5
    have tk25 := tk_trans tk24 tk5
    refine law6 (d := d + 4) B hK BB (tk_at tk15 hN1) hn hX5 fun σ6 tk6 => ?_
    have tk6' := tk_trans tk5' tk6
    have tk16 := tk_trans tk15 tk6
    have tk26 := tk_trans tk25 tk6
    have hX6 := tk_at tk6 hX5
    refine law7 (d := d + 2) B hK hT2 BB (tk_at tk26 hL2) (tk_at tk26 hB2) (tk_at tk16 hP1) hX6 fun σ7 tk7 hBt => ?_
    have tk7' := tk_trans tk6' tk7
    have tk17 := tk_trans tk16 tk7
    have tk27 := tk_trans tk26 tk7
    have tk37 := tk_trans tk4 (tk_trans tk5 (tk_trans tk6 tk7))
    refine law8 (d := d + 4) B hK BB O hs (tk_at tk37 hU3) hBt fun σ8 tk8 => ?_
    have tk8' := tk_trans tk7' tk8
    exact law9 (d := d + 3) B hK BB m5 m1 m2 (tk_at (tk_trans tk27 tk8) hL2) (tk_at (tk_trans tk17 tk8) hP1) (tk_at (tk_trans tk7 tk8) hX6) fun ρ σ' h => ⟨rfl, tk_trans tk8' h⟩
end

end
section
open PySem PySem.W PyProof.Rows
set_option Elab.async false
set_option maxRecDepth 100000
theorem law_end {cw : ClaimW} {cl : Str → Option Addr} {mean : ExcName → Option Value} {args : List WData} {s₁ s' : Shared} {tabs : List (Addr × Addr)} (hT : TabsAt tabs s₁.heap) (hr : ∀ a x, cw.raises a x = false)
    (hp : cw.post args (.bool true) args = true) (hk : ∀ b o, (ghostOf s₁.heap tabs).get? b = some o → s'.heap.get? b = some o) (hgr : ∀ q ∈ tabs, ∃ ps, s'.heap.get? q.2 = some (tabObj ps)) (hos : s'.os = s₁.os) (hg : s'.gens = #[]) :
    GoodWG cw cl mean args s₁ (.ok (.ret (.bool true))) s' := by
  have keep : ∀ b o, b ∉ tabs.map (·.2) → s₁.heap.get? b = some o → s'.heap.get? b = some o := fun b o hb e => hk b o (ghost_ne e hb)
  have grown : ∀ b o, b ∈ tabs.map (·.2) → s₁.heap.get? b = some o → isCodeTable s₁.heap b ∧ o = tabObj #[] ∧ ∃ ps, s'.heap.get? b = some (tabObj ps) := fun b o hb e => by
    obtain ⟨q, hq, rfl⟩ := List.mem_map.mp hb
    have e2 := (hT q hq).2
    rw [e] at e2
    exact ⟨((hT q hq).1.tab (hT q hq).2).isCodeTable, Option.some.inj e2, hgr q hq⟩
  refine ⟨.inl ⟨.bool true, .bool true, [], rfl, fun cls => hr _ _, .bool true, hp, fun _ => ⟨.nil, fun a h => nomatch h⟩⟩, ⟨fun b o e => ?_, fun b o e => ?_⟩, hos, .of_eq hg⟩
  · by_cases hb : b ∈ tabs.map (·.2)
    · obtain ⟨ht, rfl, ps, hP⟩ := grown b o hb e
      exact .inr (.inl ⟨ht, rfl, #[], ps, rfl, by rw [Array.empty_append]; exact hP⟩)
    · exact .inl (keep b o hb e)
  · by_cases hb : b ∈ tabs.map (·.2)
    · obtain ⟨_, _, ps, hP⟩ := grown b o hb e
      exact ⟨_, hP⟩
    · exact ⟨o, keep b o hb e⟩
/-- the law holds if its row holds -/
theorem law_of (h : PySem.Challenge.rw_ta0027_01.row.Holds) : PySem.Challenge.rw_ta0027_01.Holds := ⟨by unfold OpenLaw.wellSaid; rw [h.1]; decide +kernel, h⟩
theorem fx_ok {p : Program} {loose : List Str} {mean : ExcName → Option Value} {prog : Program} {w : World} {s₁ : Shared} {mg mb : Str → Option Value} {K : Frag} {tabs : List (Addr × Addr × Str)} (hT : TabsAt (tabs.map fun t => (t.1, t.2.1)) s₁.heap)
    (T : Top p loose mean mg mb s₁.heap) (KX : K.In s₁.heap) (hK : noTabs K = true) (hn : (tabs.map (·.2.1)).Nodup) : Fx.Ok ⟨prog, w, ghostOf s₁.heap (tabs.map fun t => (t.1, t.2.1)), mg, mb, K, tabs⟩ where
  gns := ghost_ns hT T.g
  bns := ghost_ns hT T.b
  lim := (ghost_top hT T).nolimit
  kin := ghost_K hT KX hK
  bmain := (ghost_top hT T).bmain
  code := fun t ht => by
    obtain ⟨o, vs, file, tf, flags, tg, inF, text, tt, e1, r1, r2, r3, r4, r5, r6, r7, r8, hne⟩ := (hT (t.1, t.2.1) (List.mem_map_of_mem ht)).1
    exact ⟨o, vs, file, tf, flags, tg, inF, text, tt, ghost_get hT e1 (fun q => by rw [q] at r1; cases r1), r1, r2, r3, r4, r5, r6, r7, r8, hne⟩
  hid := fun t ht => hideAll_none _ (List.mem_map.mpr ⟨(t.1, t.2.1), List.mem_map_of_mem ht, rfl⟩)
  apart := hn
theorem h_start {c : Fx} {h : Heap} (ok : c.Ok) (hg : c.g = ghostOf h (c.tabs.map fun t => (t.1, t.2.1))) (hT : TabsAt (c.tabs.map fun t => (t.1, t.2.1)) h) : HInv c h [] [] where
  ok := ok
  keep := fun b o e => by rw [hg] at e; exact of_hideAll _ e
  size := by rw [hg]; exact Nat.le_of_eq (hideAll_size _ _)
  tabs := fun t ht => ⟨#[], (hT (t.1, t.2.1) (List.mem_map_of_mem ht)).2, by trivial, fun pos cv e => nomatch e⟩
  len := rfl
  nodup := .nil
  lst := fun n l e => by cases e
  new := fun a h => nomatch h
end
end Mine
open PySem PySem.W PyProof.Rows
set_option maxRecDepth 100000
set_option maxHeartbeats 8000000 in
theorem PySem.Challenge.cw_ta0027_01_holds : PySem.Challenge.rw_ta0027_01.Holds := by
  refine Mine.law_of (Mine.hd ?_)
  k_fill
  intro w s₀ s₁ mg mb G Y fa o pm cd doc dV kV ho hd hcd hD hmg hg args vals as hpre hlay hrd hwl hlo
  have KX := km_in_of Y
  km_tabs Y
  have X := (Ground.X G).1
  have V := (Ground.X G).2
  refine Ground.open G ?_
  intro T B D TE TW
  try (refine guard_noD D (by decide +kernel) ?_; clear D)
  km_lay T hmg ho hd cd
  have hfa : PySem.Value.ref fa = .ref 132 := Option.some.inj (hmg.symm.trans (mg_of (n := "law") (v := .ref 132) KX T.g (by kernel_rfl)))
  clear hmg hd hcd hD ho
  wrow_args hpre hlay hrd hwl hlo
  rename_i xs _ _ _ _ _ _ _ a vs _ hL _ _ _ hI _ hlen _
  have hx : xs.length ≤ 63 := by omega
  let c : Mine.Fx := ⟨PySem.Challenge.rw_ta0027_01.row.prog, w, ghostOf s₁.heap [(126, 122), (131, 129)], mg, mb, Mine.HK w.params, [(126, 122, ("_law_reached" : Str) ++ ".<locals>." ++ "<lambda>"), (131, 129, ("law" : Str) ++ ".<locals>." ++ "<lambda>")]⟩
  have ok : c.Ok := Mine.fx_ok (tabs := [(126, 122, ("_law_reached" : Str) ++ ".<locals>." ++ "<lambda>"), (131, 129, ("law" : Str) ++ ".<locals>." ++ "<lambda>")]) hT9 T KX (by kernel_rfl) (by decide)
  have hi : Mine.HInv c s₁.heap [] [] := Mine.h_start ok rfl hT9
  have Bc : Mine.Base c := ⟨ok, T.builtins⟩
  have main := Mine.law_spec (d := 0) (σ := []) (Q := fun v σ' => v = .bool true) Bc rfl (.head _) (.tail _ (.head _)) hx rfl callerA (fun _ _ => False) s₁ [] (.ref fa) [.ref a] [] ⟨rfl, by decide, by decide⟩ hi hfa
    (.cons ⟨a, vs, rfl, ghost_list hT9 hL, Mine.of_intsAre hI, by rw [List.length_map]; omega⟩ .nil) .nil
  refine wpAny_mono main (fun v s' h => ?_) fun _ _ e => e.elim
  obtain ⟨v0, σ', μ', rfl, hv, hres⟩ := h
  obtain rfl : v = .bool true := hv
  obtain ⟨h', t', rfl⟩ := hres.same
  have hinv := hres.inv
  refine Mine.law_end hT9 (fun _ _ => rfl) (by first | rfl | wrow_post) hinv.keep (fun q hq => by
    obtain ⟨t, ht, rfl⟩ : ∃ t ∈ c.tabs, (t.1, t.2.1) = q := List.mem_map.mp hq
    obtain ⟨ps, h1, _⟩ := hinv.tabs t ht
    exact ⟨ps, h1⟩) rfl hg

