import PyProof.Rows.All
import Wide.All
import OpenK.AllK
import Wide.FinOn
import PySem.Challenge.RW_ab6005_01
set_option Elab.async false

namespace Mine
open PySem PySem.W PyProof.Rows
set_option maxRecDepth 100000 in
set_option maxHeartbeats 8000000 in
open_top hd for PySem.Challenge.rw_ab6005_01
end Mine
/-! M1 -/
namespace Mine
open PySem PySem.W PySem.Calls PyProof.Rows PySem.Spec

/-! pure data, and how a heap bears it -/
noncomputable abbrev Up (h h' : Heap) : Prop := ∀ b o, h.get? b = some o → h'.get? b = some o
noncomputable def UpS (h h' : Heap) : Prop := ∀ b o, h.get? b = some o → (∃ xs n, o.data = .seq xs n) → h'.get? b = some o
noncomputable def UpF (h h' : Heap) : Prop := ∀ b o, h.get? b = some o → (∃ vs, o.data = .fields vs) → h'.get? b = some o
theorem Up.s {h h' : Heap} (u : Up h h') : UpS h h' := fun b o e _ => u b o e
theorem Up.f {h h' : Heap} (u : Up h h') : UpF h h' := fun b o e _ => u b o e
theorem UpS.refl (h : Heap) : UpS h h := fun _ _ e _ => e
theorem UpF.refl (h : Heap) : UpF h h := fun _ _ e _ => e
theorem UpS.trans {a b c : Heap} (x : UpS a b) (y : UpS b c) : UpS a c := fun i o e k => y i o (x i o e k) k
theorem UpF.trans {a b c : Heap} (x : UpF a b) (y : UpF b c) : UpF a c := fun i o e k => y i o (x i o e k) k

inductive PV where
  | int (i : Int)
  | bool (b : Bool)
  | str (x : Str)
  | list (xs : List PV)
  | tup (xs : List PV)

/-! Rep Z h d v: the value v stands in the heap h for the datum d, and reaches no object of Z -/
mutual
noncomputable def Rep (Z : List Addr) (h : Heap) : PV → Value → Prop
  | .int i, v => ∃ t, v = .int i t
  | .bool b, v => v = .bool b
  | .str x, v => ∃ t, v = .str x t
  | .list xs, v => ∃ a vs, v = .ref a ∧ a ∉ Z ∧ h.IsList a (List.toArray vs) ∧ RepAll Z h xs vs
  | .tup xs, v => ∃ a vs, v = .ref a ∧ a ∉ Z ∧ IsTup h a (List.toArray vs) ∧ RepAll Z h xs vs
noncomputable def RepAll (Z : List Addr) (h : Heap) : List PV → List Value → Prop
  | [], vs => vs = []
  | x :: xs, vs => ∃ v vs', vs = v :: vs' ∧ Rep Z h x v ∧ RepAll Z h xs vs'
end
/-- the seqs that stand in h and are not of Z stand in h' -/
noncomputable def UpZ (Z : List Addr) (h h' : Heap) : Prop := ∀ b o, b ∉ Z → h.get? b = some o → (∃ xs n, o.data = .seq xs n) → h'.get? b = some o
theorem UpS.z {h h' : Heap} (u : UpS h h') (Z : List Addr) : UpZ Z h h' := fun b o _ e k => u b o e k

theorem isList_upZ {Z : List Addr} {h h' : Heap} {a : Addr} {vs : Array Value} (u : UpZ Z h h') (ha : a ∉ Z) (x : h.IsList a vs) : h'.IsList a vs := by
  obtain ⟨o, ho, hc, n, hd⟩ := x
  exact ⟨o, u a o ha ho ⟨_, _, hd⟩, hc, n, hd⟩
theorem isTup_upZ {Z : List Addr} {h h' : Heap} {a : Addr} {vs : Array Value} (u : UpZ Z h h') (ha : a ∉ Z) (x : IsTup h a vs) : IsTup h' a vs := by
  obtain ⟨o, ho, hc, n, hd⟩ := x
  exact ⟨o, u a o ha ho ⟨_, _, hd⟩, hc, n, hd⟩
mutual
theorem Rep.upZ {Z Z' : List Addr} {h h' : Heap} (u : UpZ Z h h') (hz : ∀ a, a ∉ Z → (∃ o, h.get? a = some o) → a ∉ Z') : ∀ (d : PV) (v : Value), Rep Z h d v → Rep Z' h' d v
  | .int _, _, r => by simpa only [Rep] using r
  | .bool _, _, r => by simpa only [Rep] using r
  | .str _, _, r => by simpa only [Rep] using r
  | .list xs, v, r => by
    simp only [Rep] at r ⊢
    obtain ⟨a, vs, e, ha, hl, hr⟩ := r
    exact ⟨a, vs, e, hz a ha (let ⟨o, ho, _⟩ := hl; ⟨o, ho⟩), isList_upZ u ha hl, RepAll.upZ u hz xs vs hr⟩
  | .tup xs, v, r => by
    simp only [Rep] at r ⊢
    obtain ⟨a, vs, e, ha, hl, hr⟩ := r
    exact ⟨a, vs, e, hz a ha (let ⟨o, ho, _⟩ := hl; ⟨o, ho⟩), isTup_upZ u ha hl, RepAll.upZ u hz xs vs hr⟩
theorem RepAll.upZ {Z Z' : List Addr} {h h' : Heap} (u : UpZ Z h h') (hz : ∀ a, a ∉ Z → (∃ o, h.get? a = some o) → a ∉ Z') : ∀ (xs : List PV) (vs : List Value), RepAll Z h xs vs → RepAll Z' h' xs vs
  | [], _, r => by simpa only [RepAll] using r
  | x :: xs, vs, r => by
    simp only [RepAll] at r ⊢
    obtain ⟨v, vs', e, h1, h2⟩ := r
    exact ⟨v, vs', e, Rep.upZ u hz x v h1, RepAll.upZ u hz xs vs' h2⟩
end
section
variable {Z Z' : List Addr} {h h' : Heap}
theorem Rep.up {d : PV} {v : Value} (r : Rep Z h d v) (u : Up h h') : Rep Z h' d v := Rep.upZ (u.s.z Z) (fun _ x _ => x) d v r
theorem RepAll.up {d : List PV} {v : List Value} (r : RepAll Z h d v) (u : Up h h') : RepAll Z h' d v := RepAll.upZ (u.s.z Z) (fun _ x _ => x) d v r
/-- forget a part of Z -/
theorem Rep.sub {d : PV} {v : Value} (r : Rep Z h d v) (z : ∀ a ∈ Z', a ∈ Z) : Rep Z' h d v := Rep.upZ ((UpS.refl h).z Z) (fun a x _ y => x (z a y)) d v r
theorem RepAll.sub {d : List PV} {v : List Value} (r : RepAll Z h d v) (z : ∀ a ∈ Z', a ∈ Z) : RepAll Z' h d v := RepAll.upZ ((UpS.refl h).z Z) (fun a x _ y => x (z a y)) d v r
/-- what stood before a was made does not reach a -/
theorem Rep.new {a : Addr} {d : PV} {v : Value} (r : Rep Z h d v) (u : Up h h') (ha : h.get? a = none) : Rep (a :: Z) h' d v :=
  Rep.upZ (u.s.z Z) (fun b x y q => by rcases List.mem_cons.mp q with rfl | q
                                       · obtain ⟨o, e⟩ := y; rw [ha] at e; cases e
                                       · exact x q) d v r

theorem RepAll.length : ∀ {xs : List PV} {vs : List Value}, RepAll Z h xs vs → vs.length = xs.length
  | [], vs, r => by simp only [RepAll] at r; subst r; rfl
  | x :: xs, vs, r => by
    simp only [RepAll] at r
    obtain ⟨v, vs', rfl, _, h2⟩ := r
    simp [RepAll.length h2]
theorem RepAll.get : ∀ {xs : List PV} {vs : List Value}, RepAll Z h xs vs → ∀ {k : Nat} {d : PV}, xs[k]? = some d → ∃ v, vs[k]? = some v ∧ Rep Z h d v
  | [], vs, r, k, d, e => by simp at e
  | x :: xs, vs, r, k, d, e => by
    simp only [RepAll] at r
    obtain ⟨v, vs', rfl, h1, h2⟩ := r
    cases k with
    | zero => simp at e; subst e; exact ⟨v, rfl, h1⟩
    | succ k => simpa using RepAll.get h2 (by simpa using e)
theorem RepAll.of_get : ∀ {xs : List PV} {vs : List Value}, vs.length = xs.length → (∀ (k : Nat) d v, xs[k]? = some d → vs[k]? = some v → Rep Z h d v) → RepAll Z h xs vs
  | [], [], _, _ => by simp only [RepAll]
  | [], _ :: _, e, _ => by simp at e
  | _ :: _, [], e, _ => by simp at e
  | x :: xs, v :: vs, e, f => by
    simp only [RepAll]
    exact ⟨v, vs, rfl, f 0 x v rfl rfl, RepAll.of_get (by simpa using e) fun k d v' h1 h2 => f (k + 1) d v' (by simpa using h1) (by simpa using h2)⟩
theorem RepAll.append : ∀ {xs ys : List PV} {vs ws : List Value}, RepAll Z h xs vs → RepAll Z h ys ws → RepAll Z h (xs ++ ys) (vs ++ ws)
  | [], ys, vs, ws, r, q => by simp only [RepAll] at r; subst r; exact q
  | x :: xs, ys, vs, ws, r, q => by
    simp only [RepAll] at r
    obtain ⟨v, vs', rfl, h1, h2⟩ := r
    simp only [List.cons_append, RepAll]
    exact ⟨v, vs' ++ ws, rfl, h1, RepAll.append h2 q⟩
end

noncomputable abbrev iL (ns : List Int) : List PV := ns.map PV.int
noncomputable abbrev sL (ns : List Str) : List PV := ns.map PV.str
theorem intsAre_of {Z : List Addr} {h : Heap} : ∀ {ns : List Int} {vs : List Value}, RepAll Z h (iL ns) vs → IntsAre vs ns
  | [], vs, r => by simp only [iL, List.map_nil, RepAll] at r; subst r; exact .nil
  | n :: ns, vs, r => by
    simp only [iL, List.map_cons, RepAll, Rep] at r
    obtain ⟨v, vs', rfl, ⟨t, rfl⟩, h2⟩ := r
    exact .cons n t (intsAre_of h2)
theorem of_intsAre {Z : List Addr} {h : Heap} : ∀ {ns : List Int} {vs : List Value}, IntsAre vs ns → RepAll Z h (iL ns) vs
  | _, _, .nil => by simp only [iL, List.map_nil, RepAll]
  | _, _, .cons n t r => by
    simp only [iL, List.map_cons, RepAll, Rep]
    exact ⟨_, _, rfl, ⟨t, rfl⟩, of_intsAre r⟩
theorem strsAre_of {Z : List Addr} {h : Heap} : ∀ {ns : List Str} {vs : List Value}, RepAll Z h (sL ns) vs → StrsAre vs ns
  | [], vs, r => by simp only [sL, List.map_nil, RepAll] at r; subst r; exact .nil
  | n :: ns, vs, r => by
    simp only [sL, List.map_cons, RepAll, Rep] at r
    obtain ⟨v, vs', rfl, ⟨t, rfl⟩, h2⟩ := r
    exact .cons n t (strsAre_of h2)

/-! what is known of the world -/
structure WF (w : World) (h : Heap) : Prop where
  K : (hd.heap_39 w.params).In h
  g : ∃ mg, h.Ns mainGlobals mg
  b : ∃ mb, h.Ns builtinsNs mb ∧ ∀ x : Str, x ≠ "__name__" → mb x = bootBuiltins x
  nolimit : h.NoLimit
theorem WF.up {w : World} {h h' : Heap} (x : WF w h) (u : Up h h') : WF w h' :=
  ⟨x.K.keeps u, (let ⟨mg, g⟩ := x.g; ⟨mg, g.keeps u⟩), (let ⟨mb, b, c⟩ := x.b; ⟨mb, b.keeps u, c⟩), x.nolimit.keeps u⟩

/-! names -/
noncomputable def Has (Z : List Addr) (h : Heap) (env : Env) (x : Str) (d : PV) : Prop :=
  (env.kindOf x = some .local ∧ ∃ m v, h.Ns env.locals m ∧ m x = some v ∧ Rep Z h d v) ∨
  ((env.kindOf x = some .cell ∨ env.kindOf x = some .free) ∧ ∃ c v, env.cells.lookup x = some c ∧ h.IsCell c (some v) ∧ Rep Z h d v)
theorem Has.up {Z : List Addr} {h h' : Heap} {env : Env} {x : Str} {d : PV} (q : Has Z h env x d) (u : Up h h') : Has Z h' env x d := by
  rcases q with ⟨k, m, v, n, e, r⟩ | ⟨k, c, v, l, n, r⟩
  · exact .inl ⟨k, m, v, n.keeps u, e, r.up u⟩
  · exact .inr ⟨k, c, v, l, n.keeps u, r.up u⟩
theorem Has.new {Z : List Addr} {h h' : Heap} {env : Env} {x : Str} {d : PV} {a : Addr} (q : Has Z h env x d) (u : Up h h') (ha : h.get? a = none) : Has (a :: Z) h' env x d := by
  rcases q with ⟨k, m, v, n, e, r⟩ | ⟨k, c, v, l, n, r⟩
  · exact .inl ⟨k, m, v, n.keeps u, e, r.new u ha⟩
  · exact .inr ⟨k, c, v, l, n.keeps u, r.new u ha⟩
theorem Has.sub {Z Z' : List Addr} {h : Heap} {env : Env} {x : Str} {d : PV} (q : Has Z h env x d) (z : ∀ a ∈ Z', a ∈ Z) : Has Z' h env x d := by
  rcases q with ⟨k, m, v, n, e, r⟩ | ⟨k, c, v, l, n, r⟩
  · exact .inl ⟨k, m, v, n, e, r.sub z⟩
  · exact .inr ⟨k, c, v, l, n, r.sub z⟩
noncomputable abbrev Rho := List (Str × PV)
noncomputable def EnvOK (Z : List Addr) (h : Heap) (env : Env) (ρ : Rho) : Prop := ∀ x d, ρ.lookup x = some d → Has Z h env x d
/-- all that an expression asks of a state -/
structure Gd (w : World) (Z : List Addr) (h : Heap) (env : Env) (ρ : Rho) : Prop where
  z : ∀ a ∈ Z, ∃ o, h.get? a = some o
  W : WF w h
  E : EnvOK Z h env ρ
theorem Gd.up {w : World} {Z : List Addr} {h h' : Heap} {env : Env} {ρ : Rho} (g : Gd w Z h env ρ) (u : Up h h') : Gd w Z h' env ρ :=
  ⟨fun a ha => let ⟨o, e⟩ := g.z a ha; ⟨o, u a o e⟩, g.W.up u, fun x d e => (g.E x d e).up u⟩
theorem fresh_none (h : Heap) : h.get? h.objs.size = none := Heap.get?_none_of_le (Nat.le_refl _)
theorem notin_of_none {Z : List Addr} {h : Heap} {a : Addr} (z : ∀ a ∈ Z, ∃ o, h.get? a = some o) (ha : h.get? a = none) : a ∉ Z := fun q => by
  obtain ⟨o, e⟩ := z _ q
  rw [ha] at e; cases e
/-- the state has grown, nothing has changed -/
structure Kp (s s' : Shared) : Prop where
  k : Keeps s s'
theorem Kp.refl (s : Shared) : Kp s s := ⟨s.heap, s.toks, rfl, fun _ _ e => e⟩
theorem Kp.trans {a b c : Shared} (x : Kp a b) (y : Kp b c) : Kp a c := by
  obtain ⟨h, t, rfl, u⟩ := x
  obtain ⟨h', t', rfl, u'⟩ := y
  exact ⟨h', t', rfl, fun i o e => u' i o (u i o e)⟩
theorem Kp.u {a b : Shared} (x : Kp a b) : Up a.heap b.heap := by
  obtain ⟨h, t, rfl, u⟩ := x; exact u
theorem Kp.push (s : Shared) (o : Obj) : Kp s { s with heap := s.heap.push o } := ⟨_, s.toks, rfl, fun _ _ e => Heap.get?_push_of_some _ e⟩
theorem Kp.mk' {s : Shared} {h' : Heap} {tk : Nat} (u : Up s.heap h') : Kp s { s with heap := h', toks := tk } := ⟨h', tk, rfl, u⟩
theorem Kp.heap {s : Shared} {h' : Heap} (u : Up s.heap h') : Kp s { s with heap := h' } := ⟨h', s.toks, rfl, u⟩
theorem Kp.toks (s : Shared) (tk : Nat) : Kp s { s with toks := tk } := ⟨s.heap, tk, rfl, fun _ _ e => e⟩

section
variable {prog : Program} {w : World} {A : Around} {env : Env} {ρ : Rho}

noncomputable abbrev Nev : Value → Shared → Prop := fun _ _ => False

/-- the expression stands for the datum -/
noncomputable def Ev (prog : Program) (w : World) (A : Around) (env : Env) (ρ : Rho) (e : Expr) (d : PV) : Prop :=
  ∀ (s : Shared) (Z : List Addr), Gd w Z s.heap env ρ → wpAny (model prog w) A (eval e env) (fun v s' => Rep Z s'.heap d v ∧ Kp s s') Nev s
/-- an operation upon values stands for the datum -/
noncomputable def OpOK (prog : Program) (w : World) (A : Around) (Z : List Addr) (s : Shared) (t : Sem Value) (d : PV) : Prop :=
  wpAny (model prog w) A t (fun v s' => Rep Z s'.heap d v ∧ Kp s s') Nev s

theorem Ev.name {x : Str} {pos : Pos} {d : PV} (h : ρ.lookup x = some d) (hk : env.scope.kind = .function := by rfl) (hd : (x == ("__debug__" : Str)) = false := by decide) (hc : (x == ("__classdict__" : Str)) = false := by decide) :
    Ev prog w A env ρ (.Name x pos) d := by
  intro s Z G
  rcases G.E x d h with ⟨k, m, v, n, e, r⟩ | ⟨k, c, v, l, n, r⟩
  · exact wpAny_Name (wpAny_loadName_local hk k n e ⟨r, Kp.refl s⟩) hd
  · rcases k with k | k
    · exact wpAny_Name (wpAny_loadName_cell hk k l n ⟨r, Kp.refl s⟩) hd
    · exact wpAny_Name (wpAny_loadName_free hk k l n ⟨r, Kp.refl s⟩ hc) hd

theorem Ev.int {i : Int} {k : Nat} {pos : Pos} : Ev prog w A env ρ (.Constant (.int i) k pos) (.int i) := by
  intro s Z G
  exact wpAny_Constant_int ⟨by simp only [Rep]; exact ⟨_, rfl⟩, Kp.toks s _⟩

theorem Ev.bin {op : Operator} {l r : Expr} {pos : Pos} {a b d : PV} (hl : Ev prog w A env ρ l a) (hr : Ev prog w A env ρ r b)
    (ho : ∀ s Z va vb, (∀ a ∈ Z, ∃ o, s.heap.get? a = some o) → Rep Z s.heap a va → Rep Z s.heap b vb → OpOK prog w A Z s (binaryOp op va vb) d) : Ev prog w A env ρ (.BinOp l op r pos) d := by
  intro s Z G
  refine wpAny_BinOp (wpAny_mono (hl s Z G) (fun va s₁ h₁ => ?_) fun _ _ x => x)
  obtain ⟨ra, k₁⟩ := h₁
  refine wpAny_mono (hr s₁ Z (G.up k₁.u)) (fun vb s₂ h₂ => ?_) fun _ _ x => x
  obtain ⟨rb, k₂⟩ := h₂
  exact wpAny_mono (ho s₂ Z va vb (G.up (k₁.trans k₂).u).z (ra.up k₂.u) rb) (fun v s₃ h₃ => ⟨h₃.1, (k₁.trans k₂).trans h₃.2⟩) fun _ _ x => x

theorem Ev.cmp {op : CmpOp} {l r : Expr} {pos : Pos} {a b d : PV} (hl : Ev prog w A env ρ l a) (hr : Ev prog w A env ρ r b)
    (ho : ∀ s Z va vb, (∀ a ∈ Z, ∃ o, s.heap.get? a = some o) → Rep Z s.heap a va → Rep Z s.heap b vb → OpOK prog w A Z s (compareOp op va vb) d) (hm : behindInMarks op r = false := by with_unfolding_all rfl) : Ev prog w A env ρ (.Compare l [op] [r] pos) d := by
  intro s Z G
  refine wpAny_Compare1 (wpAny_mono (hl s Z G) (fun va s₁ h₁ => ?_) fun _ _ x => x) hm
  obtain ⟨ra, k₁⟩ := h₁
  refine wpAny_mono (hr s₁ Z (G.up k₁.u)) (fun vb s₂ h₂ => ?_) fun _ _ x => x
  obtain ⟨rb, k₂⟩ := h₂
  exact wpAny_mono (ho s₂ Z va vb (G.up (k₁.trans k₂).u).z (ra.up k₂.u) rb) (fun v s₃ h₃ => ⟨h₃.1, (k₁.trans k₂).trans h₃.2⟩) fun _ _ x => x

/-! int operations -/
theorem rep_int {Z : List Addr} {h : Heap} {i : Int} {t : Tok} : Rep Z h (.int i) (.int i t) := by simp only [Rep]; exact ⟨t, rfl⟩
theorem rep_str {Z : List Addr} {h : Heap} {x : Str} {t : Tok} : Rep Z h (.str x) (.str x t) := by simp only [Rep]; exact ⟨t, rfl⟩
theorem rep_bool {Z : List Addr} {h : Heap} {b : Bool} : Rep Z h (.bool b) (.bool b) := by simp only [Rep]
theorem Rep.int_inv {Z : List Addr} {h : Heap} {i : Int} {v : Value} (r : Rep Z h (.int i) v) : ∃ t, v = .int i t := by simpa only [Rep] using r
theorem Rep.str_inv {Z : List Addr} {h : Heap} {i : Str} {v : Value} (r : Rep Z h (.str i) v) : ∃ t, v = .str i t := by simpa only [Rep] using r
theorem Rep.bool_inv {Z : List Addr} {h : Heap} {i : Bool} {v : Value} (r : Rep Z h (.bool i) v) : v = .bool i := by simpa only [Rep] using r
theorem Rep.list_inv {Z : List Addr} {h : Heap} {xs : List PV} {v : Value} (r : Rep Z h (.list xs) v) : ∃ a vs, v = .ref a ∧ a ∉ Z ∧ h.IsList a (List.toArray vs) ∧ RepAll Z h xs vs := by simpa only [Rep] using r
theorem Rep.tup_inv {Z : List Addr} {h : Heap} {xs : List PV} {v : Value} (r : Rep Z h (.tup xs) v) : ∃ a vs, v = .ref a ∧ a ∉ Z ∧ IsTup h a (List.toArray vs) ∧ RepAll Z h xs vs := by simpa only [Rep] using r
theorem Rep.list_mk {Z : List Addr} {h : Heap} {xs : List PV} {a : Addr} {vs : List Value} (ha : a ∉ Z) (h1 : h.IsList a (List.toArray vs)) (h2 : RepAll Z h xs vs) : Rep Z h (.list xs) (.ref a) := by simp only [Rep]; exact ⟨a, vs, rfl, ha, h1, h2⟩
theorem Rep.tup_mk {Z : List Addr} {h : Heap} {xs : List PV} {a : Addr} {vs : List Value} (ha : a ∉ Z) (h1 : IsTup h a (List.toArray vs)) (h2 : RepAll Z h xs vs) : Rep Z h (.tup xs) (.ref a) := by simp only [Rep]; exact ⟨a, vs, rfl, ha, h1, h2⟩

theorem Ev.add {l r : Expr} {pos : Pos} {a b : Int} (hl : Ev prog w A env ρ l (.int a)) (hr : Ev prog w A env ρ r (.int b)) : Ev prog w A env ρ (.BinOp l .Add r pos) (.int (a + b)) :=
  .bin hl hr fun s Z va vb z ra rb => by
    obtain ⟨t, rfl⟩ := ra.int_inv; obtain ⟨u, rfl⟩ := rb.int_inv
    exact add_int ⟨rep_int, Kp.toks s _⟩
theorem Ev.sub {l r : Expr} {pos : Pos} {a b : Int} (hl : Ev prog w A env ρ l (.int a)) (hr : Ev prog w A env ρ r (.int b)) : Ev prog w A env ρ (.BinOp l .Sub r pos) (.int (a - b)) :=
  .bin hl hr fun s Z va vb z ra rb => by
    obtain ⟨t, rfl⟩ := ra.int_inv; obtain ⟨u, rfl⟩ := rb.int_inv
    exact sub_int ⟨rep_int, Kp.toks s _⟩
theorem Ev.mod {l r : Expr} {pos : Pos} {a b : Int} (hl : Ev prog w A env ρ l (.int a)) (hr : Ev prog w A env ρ r (.int b)) (h0 : b ≠ 0) : Ev prog w A env ρ (.BinOp l .Mod r pos) (.int (a.fmod b)) :=
  .bin hl hr fun s Z va vb z ra rb => by
    obtain ⟨t, rfl⟩ := ra.int_inv; obtain ⟨u, rfl⟩ := rb.int_inv
    exact mod_int h0 ⟨rep_int, Kp.toks s _⟩
theorem Ev.gt {l r : Expr} {pos : Pos} {a b : Int} (hl : Ev prog w A env ρ l (.int a)) (hr : Ev prog w A env ρ r (.int b)) (hm : behindInMarks .Gt r = false := by with_unfolding_all rfl) : Ev prog w A env ρ (.Compare l [.Gt] [r] pos) (.bool (decide (b < a))) :=
  .cmp hl hr (fun s Z va vb z ra rb => by
    obtain ⟨t, rfl⟩ := ra.int_inv; obtain ⟨u, rfl⟩ := rb.int_inv
    exact gt_int ⟨rep_bool, Kp.refl s⟩) hm
theorem Ev.lt {l r : Expr} {pos : Pos} {a b : Int} (hl : Ev prog w A env ρ l (.int a)) (hr : Ev prog w A env ρ r (.int b)) (hm : behindInMarks .Lt r = false := by with_unfolding_all rfl) : Ev prog w A env ρ (.Compare l [.Lt] [r] pos) (.bool (decide (a < b))) :=
  .cmp hl hr (fun s Z va vb z ra rb => by
    obtain ⟨t, rfl⟩ := ra.int_inv; obtain ⟨u, rfl⟩ := rb.int_inv
    exact lt_int ⟨rep_bool, Kp.refl s⟩) hm
theorem Ev.eqi {l r : Expr} {pos : Pos} {a b : Int} (hl : Ev prog w A env ρ l (.int a)) (hr : Ev prog w A env ρ r (.int b)) (hm : behindInMarks .Eq r = false := by with_unfolding_all rfl) : Ev prog w A env ρ (.Compare l [.Eq] [r] pos) (.bool (a == b)) :=
  .cmp hl hr (fun s Z va vb z ra rb => by
    obtain ⟨t, rfl⟩ := ra.int_inv; obtain ⟨u, rfl⟩ := rb.int_inv
    exact eq_int ⟨rep_bool, Kp.refl s⟩) hm
theorem Ev.nei {l r : Expr} {pos : Pos} {a b : Int} (hl : Ev prog w A env ρ l (.int a)) (hr : Ev prog w A env ρ r (.int b)) (hm : behindInMarks .NotEq r = false := by with_unfolding_all rfl) : Ev prog w A env ρ (.Compare l [.NotEq] [r] pos) (.bool (a != b)) :=
  .cmp hl hr (fun s Z va vb z ra rb => by
    obtain ⟨t, rfl⟩ := ra.int_inv; obtain ⟨u, rfl⟩ := rb.int_inv
    exact ne_int ⟨rep_bool, Kp.refl s⟩) hm
end
end Mine

/-! M2 -/
namespace Mine
open PySem PySem.W PySem.Calls PyProof.Rows PySem.Spec

section
variable {prog : Program} {w : World} {A : Around} {env : Env} {ρ : Rho}

theorem wpE {α : Type} {M : Model} {t : Sem α} {Q Q' : α → Shared → Prop} {E : Value → Shared → Prop} {s : Shared} (h : wpAny M A t Q Nev s) (hq : ∀ a s', Q a s' → Q' a s') : wpAny M A t Q' E s :=
  wpAny_mono h hq fun _ _ x => x.elim
theorem wpM {α : Type} {M : Model} {t : Sem α} {Q Q' : α → Shared → Prop} {s : Shared} (h : wpAny M A t Q Nev s) (hq : ∀ a s', Q a s' → Q' a s') : wpAny M A t Q' Nev s := wpE h hq

theorem Ev.strc {x : Str} {k : Nat} {pos : Pos} : Ev prog w A env ρ (.Constant (.str x) k pos) (.str x) := by
  intro s Z G
  exact Constant_str ⟨rep_str, Kp.toks s _⟩

theorem Ev.neg {e : Expr} {pos : Pos} {i : Int} (he : Ev prog w A env ρ e (.int i)) : Ev prog w A env ρ (.UnaryOp .USub e pos) (.int (-i)) := by
  intro s Z G
  refine UnaryOp_ (wpM (he s Z G) fun v s₁ h₁ => ?_)
  obtain ⟨r, k⟩ := h₁
  obtain ⟨t, rfl⟩ := r.int_inv
  exact PyProof.Rows.neg_int ⟨rep_int, k.trans (Kp.toks _ _)⟩

theorem Ev.gts {l r : Expr} {pos : Pos} {a b : Str} (hl : Ev prog w A env ρ l (.str a)) (hr : Ev prog w A env ρ r (.str b)) (hm : behindInMarks .Gt r = false := by with_unfolding_all rfl) :
    Ev prog w A env ρ (.Compare l [.Gt] [r] pos) (.bool (decide (b.cps.toList < a.cps.toList))) :=
  .cmp hl hr (fun s Z va vb z ra rb => by
    obtain ⟨t, rfl⟩ := ra.str_inv; obtain ⟨u, rfl⟩ := rb.str_inv
    exact P.gt_str ⟨rep_bool, Kp.refl s⟩) hm
theorem Ev.lts {l r : Expr} {pos : Pos} {a b : Str} (hl : Ev prog w A env ρ l (.str a)) (hr : Ev prog w A env ρ r (.str b)) (hm : behindInMarks .Lt r = false := by with_unfolding_all rfl) :
    Ev prog w A env ρ (.Compare l [.Lt] [r] pos) (.bool (decide (a.cps.toList < b.cps.toList))) :=
  .cmp hl hr (fun s Z va vb z ra rb => by
    obtain ⟨t, rfl⟩ := ra.str_inv; obtain ⟨u, rfl⟩ := rb.str_inv
    exact PyProof.Rows.lt_str ⟨rep_bool, Kp.refl s⟩) hm
theorem Ev.subb {l r : Expr} {pos : Pos} {a b : Bool} (hl : Ev prog w A env ρ l (.bool a)) (hr : Ev prog w A env ρ r (.bool b)) : Ev prog w A env ρ (.BinOp l .Sub r pos) (.int (b2i a - b2i b)) :=
  .bin hl hr fun s Z va vb z ra rb => by
    obtain rfl := ra.bool_inv; obtain rfl := rb.bool_inv
    exact sub_bool ⟨rep_int, Kp.toks s _⟩
theorem Ev.adds {l r : Expr} {pos : Pos} {a b : Str} (hl : Ev prog w A env ρ l (.str a)) (hr : Ev prog w A env ρ r (.str b)) (hz : a.length + b.length ≤ sizeLine) : Ev prog w A env ρ (.BinOp l .Add r pos) (.str (a ++ b)) :=
  .bin hl hr fun s Z va vb z ra rb => by
    obtain ⟨t, rfl⟩ := ra.str_inv; obtain ⟨u, rfl⟩ := rb.str_inv
    exact PyProof.Rows.add_str (fun t' tk => ⟨rep_str, Kp.toks s _⟩) hz

theorem kp_alloc {Z : List Addr} {s : Shared} {T : String} {vs : List Value} {xs : List PV} (hr : RepAll Z s.heap xs vs) : RepAll Z (s.heap.push { cls := .type T, data := .seq vs.toArray }) xs vs := hr.up fun _ _ e => Heap.get?_push_of_some _ e
theorem isList_push (h : Heap) (vs : List Value) : (h.push { cls := .type "list", data := .seq vs.toArray }).IsList h.objs.size vs.toArray := ⟨_, Heap.get?_push_size _ rfl, rfl, _, rfl⟩
theorem isTup_push (h : Heap) (vs : List Value) : IsTup (h.push { cls := .type "tuple", data := .seq vs.toArray }) h.objs.size vs.toArray := ⟨_, Heap.get?_push_size _ rfl, rfl, _, rfl⟩

theorem Ev.addl {l r : Expr} {pos : Pos} {a b : List PV} (hl : Ev prog w A env ρ l (.list a)) (hr : Ev prog w A env ρ r (.list b)) (hz : a.length + b.length ≤ sizeLine) : Ev prog w A env ρ (.BinOp l .Add r pos) (.list (a ++ b)) :=
  .bin hl hr fun s Z va vb z ra rb => by
    obtain ⟨i, vs, rfl, _, h1, h2⟩ := ra.list_inv
    obtain ⟨j, ws, rfl, _, h3, h4⟩ := rb.list_inv
    obtain ⟨⟨cls, dd, data, sl⟩, ho, hc, n, hd⟩ := id h1
    obtain ⟨⟨cls2, dd2, data2, sl2⟩, ho2, hc2, n2, hd2⟩ := id h3
    simp only at hc hd hc2 hd2
    subst hc hd hc2 hd2
    have e : vs.toArray ++ ws.toArray = (vs ++ ws).toArray := by simp
    have hz' : vs.toArray.size + ws.toArray.size ≤ sizeLine := by simp only [List.size_toArray]; rw [h2.length, h4.length]; exact hz
    refine concat_meets ⟨_, ho, rfl⟩ ⟨_, ho2, rfl⟩ noFill_list_add seq_list_add PySem.F.slot_list_add PySem.F.entry_list_add (PySem.F.args_list_add_2 _ _) (list_addW i j vs.toArray ws.toArray n n2 dd dd2 sl sl2 hz') ⟨ho, ho2, ?_⟩
    rw [e]
    exact ⟨Rep.list_mk (notin_of_none z (fresh_none _)) (isList_push _ _) (kp_alloc (h2.append h4)), Kp.push s _⟩

/-! displays -/
theorem spl_nil {pos : Pos} {Q : List Value → Shared → Prop} {s : Shared} (h : Q [] s) : wpAny (model prog w) A (spliced (backTo pos (starEach [] env))) Q Nev s := args_nil h
theorem spl_cons {pos : Pos} {e : Expr} {rest : List Expr} {Q : List Value → Shared → Prop} {s : Shared}
    (h : wpAny (model prog w) A (eval e env) (fun v s₁ => wpAny (model prog w) A (spliced (backTo pos (starEach rest env))) (fun vs s₂ => Q (v :: vs) s₂) Nev s₁) Nev s)
    (he : starEach (e :: rest) env = (false, eval e env) :: starEach rest env := by rfl) : wpAny (model prog w) A (spliced (backTo pos (starEach (e :: rest) env))) Q Nev s := args_cons h he

/-- the items of a display or of a call -/
inductive Evs (prog : Program) (w : World) (A : Around) (env : Env) (ρ : Rho) : List Expr → List PV → Prop
  | nil : Evs prog w A env ρ [] []
  | cons {e : Expr} {es : List Expr} {d : PV} {ds : List PV} : Ev prog w A env ρ e d → (starEach (e :: es) env = (false, eval e env) :: starEach es env) → Evs prog w A env ρ es ds → Evs prog w A env ρ (e :: es) (d :: ds)
theorem Evs.run {es : List Expr} {ds : List PV} (h : Evs prog w A env ρ es ds) {pos : Pos} : ∀ {s : Shared} {Z : List Addr}, Gd w Z s.heap env ρ →
    wpAny (model prog w) A (spliced (backTo pos (starEach es env))) (fun vs s' => RepAll Z s'.heap ds vs ∧ Kp s s') Nev s := by
  induction h with
  | nil => intro s Z _; exact spl_nil ⟨by simp only [RepAll], Kp.refl s⟩
  | cons h1 he _ ih =>
    intro s Z G
    refine spl_cons (wpM (h1 s Z G) fun v s₁ h₁ => ?_) he
    obtain ⟨r, k⟩ := h₁
    refine wpM (ih (G.up k.u)) fun vs s₂ h₂ => ?_
    obtain ⟨r2, k2⟩ := h₂
    exact ⟨by simp only [RepAll]; exact ⟨v, vs, rfl, r.up k2.u, r2⟩, k.trans k2⟩
theorem Ev.tup {es : List Expr} {ds : List PV} {n : Nat} {pos : Pos} (h : Evs prog w A env ρ es ds) (hz : ds.length ≤ sizeLine := by decide) : Ev prog w A env ρ (.Tuple es n pos) (.tup ds) := by
  intro s Z G
  refine Tuple_ (wpM (h.run G) fun vs s₁ h₁ => ?_)
  obtain ⟨r, k⟩ := h₁
  exact wpAny_newTuple ⟨Rep.tup_mk (notin_of_none (G.up k.u).z (fresh_none _)) (isTup_push _ _) (kp_alloc r), k.trans (Kp.push _ _)⟩ (by rw [r.length]; exact hz)
theorem Ev.lst {es : List Expr} {ds : List PV} {pos : Pos} (h : Evs prog w A env ρ es ds) (hz : ds.length ≤ sizeLine := by decide) : Ev prog w A env ρ (.List es pos) (.list ds) := by
  intro s Z G
  refine List_ (wpM (h.run G) fun vs s₁ h₁ => ?_)
  obtain ⟨r, k⟩ := h₁
  exact wpAny_newList ⟨Rep.list_mk (notin_of_none (G.up k.u).z (fresh_none _)) (isList_push _ _) (kp_alloc r), k.trans (Kp.push _ _)⟩ (by rw [r.length]; exact hz)

/-- [i] * n -/
theorem Ev.rep {e r : Expr} {p pos : Pos} {i n : Int} (h : Ev prog w A env ρ e (.int i)) (hr : Ev prog w A env ρ r (.int n)) (he : starEach [e] env = (false, eval e env) :: starEach [] env) (h0 : 0 ≤ n) (hz : n ≤ 1000) :
    Ev prog w A env ρ (.BinOp (.List [e] p) .Mult r pos) (.list (List.replicate n.toNat (.int i))) := by
  intro s Z G
  refine wpAny_BinOp (List_ (wpM ((Evs.cons h he .nil).run G) fun vs s₁ h₁ => ?_))
  obtain ⟨ra, k₁⟩ := h₁
  simp only [RepAll, Rep] at ra
  obtain ⟨v, vs', rfl, ⟨t, rfl⟩, rfl⟩ := ra
  refine wpAny_newList ?_ (by simp [sizeLine])
  have k₁' := k₁.trans (Kp.push s₁ { cls := .type "list", data := .seq [Value.int i t].toArray })
  refine wpM (hr _ Z (G.up k₁'.u)) fun vb s₂ h₂ => ?_
  obtain ⟨rb, k₂⟩ := h₂
  obtain ⟨u, rfl⟩ := rb.int_inv
  have hl : s₂.heap.get? s₁.heap.objs.size = some { cls := .type "list", dict := none, data := .seq #[Value.int i t] 0, slots := #[] } := k₂.u _ _ (Heap.get?_push_size _ rfl)
  refine wpAny_binaryOp_repeat_ref (T := "list") (U := "int") (by decide) ⟨_, hl, rfl⟩ (fun s' => typeIs_int s' n u) noFill_list_mul F.fills_int_mul F.slot_int_rmul repeat_list F.slot_int_index.lookup
    (call_meets F.slot_int_rmul (typeIs_int s₂ n u) F.entry_int_rmul (F.args_int_rmul_2 _ _) (int___rmul___int_list n u _ _ 0)
      ⟨hl, rfl, ⟨_, hl, rfl⟩, call_meets F.slot_list_mul ⟨_, hl, rfl⟩ F.entry_list_mul (F.args_list_mul_2 _ _)
        (AutoListH.list___mul___list_int_3 _ _ 0 n u (by simp [Builtin.List.listFitsIndex]; omega) (by show ¬ 1 * n.toNat > (2 ^ 63 - 1) / 8; omega) (by simp [Builtin.List.listTooLong, sizeLine]; omega))
        ⟨hl, ?_⟩⟩)
  have e : List.foldl (fun x1 x2 => x1 ++ x2) #[] (List.replicate (if (#[Value.int i t] : Array Value).isEmpty = true then 0 else n.toNat) #[Value.int i t]) = (List.replicate n.toNat (Value.int i t)).toArray := by
    have e0 : (#[Value.int i t] : Array Value).isEmpty = false := rfl
    rw [e0, if_neg Bool.false_ne_true]
    have gen : ∀ (m : Nat) (acc : Array Value), List.foldl (fun x1 x2 => x1 ++ x2) acc (List.replicate m #[Value.int i t]) = acc ++ (List.replicate m (Value.int i t)).toArray := by
      intro m
      induction m with
      | zero => intro acc; simp
      | succ m ih => intro acc; rw [List.replicate_succ, List.foldl_cons, ih, List.replicate_succ]; apply Array.toList_inj.mp; simp
    rw [gen]; simp
  rw [e]
  refine ⟨Rep.list_mk (notin_of_none (G.up (k₁'.trans k₂).u).z (fresh_none _)) (isList_push _ _) (RepAll.of_get (by simp) fun k d v h1 h2 => ?_), (k₁'.trans k₂).trans (Kp.push _ _)⟩
  have e1 := List.getElem?_eq_some_iff.mp h1
  have e2 := List.getElem?_eq_some_iff.mp h2
  obtain ⟨_, e1⟩ := e1
  obtain ⟨_, e2⟩ := e2
  rw [List.getElem_replicate] at e1 e2
  subst e1 e2
  exact rep_int

/-! items -/
theorem Ev.item {o i : Expr} {pos : Pos} {xs : List PV} {k : Int} {d : PV} (ho : Ev prog w A env ρ o (.list xs)) (hi : Ev prog w A env ρ i (.int k)) (h0 : 0 ≤ k) (hz : k < 2 ^ 63) (hd : xs[k.toNat]? = some d)
    (hs : ∀ l u, subscripted i false (.ref l) (.int k u) = operate [.ref l, .int k u] (getItem (.ref l) (.int k u)) := by intros; with_unfolding_all rfl) : Ev prog w A env ρ (.Subscript o i pos) d := by
  intro s Z G
  refine Subscript_ (wpM (ho s Z G) fun v s₁ h₁ => ?_)
  obtain ⟨r, k₁⟩ := h₁
  refine wpM (hi s₁ Z (G.up k₁.u)) fun vi s₂ h₂ => ?_
  obtain ⟨ri, k₂⟩ := h₂
  obtain ⟨u, rfl⟩ := ri.int_inv
  obtain ⟨l, vs, rfl, _, hl, hr⟩ := (r.up k₂.u).list_inv
  obtain ⟨x, hx, rx⟩ := hr.get hd
  exact tail_any hl.typeIs PySem.slot_list_getitem.lookup (wpAny_getItem_list hl h0 hz (by simpa using hx) ⟨rx, k₁.trans k₂⟩) (hs l u)
theorem Ev.titem {o i : Expr} {pos : Pos} {xs : List PV} {k : Int} {d : PV} (ho : Ev prog w A env ρ o (.tup xs)) (hi : Ev prog w A env ρ i (.int k)) (h0 : 0 ≤ k) (hz : k < 2 ^ 63) (hd : xs[k.toNat]? = some d)
    (hs : ∀ l u, subscripted i false (.ref l) (.int k u) = operate [.ref l, .int k u] (getItem (.ref l) (.int k u)) := by intros; with_unfolding_all rfl) : Ev prog w A env ρ (.Subscript o i pos) d := by
  intro s Z G
  refine Subscript_ (wpM (ho s Z G) fun v s₁ h₁ => ?_)
  obtain ⟨r, k₁⟩ := h₁
  refine wpM (hi s₁ Z (G.up k₁.u)) fun vi s₂ h₂ => ?_
  obtain ⟨ri, k₂⟩ := h₂
  obtain ⟨u, rfl⟩ := ri.int_inv
  obtain ⟨l, vs, rfl, _, hl, hr⟩ := (r.up k₂.u).tup_inv
  obtain ⟨x, hx, rx⟩ := hr.get hd
  have hlt : k.toNat < vs.length := (List.getElem?_eq_some_iff.mp hx).1
  exact item_tupleT hl (by omega) hz (j := k.toNat) (by unfold seqIndex?; simp; omega) hx ⟨rx, k₁.trans k₂⟩ (hs l u)
theorem Ev.sitem {o i : Expr} {pos : Pos} {x : Str} {k : Int} {c : Nat} (ho : Ev prog w A env ρ o (.str x)) (hi : Ev prog w A env ρ i (.int k)) (h0 : 0 ≤ k) (hz : k < 2 ^ 63) (hd : x.cps.toList[k.toNat]? = some c)
    (hs : ∀ t u, subscripted i false (.str x t) (.int k u) = operate [.str x t, .int k u] (getItem (.str x t) (.int k u)) := by intros; with_unfolding_all rfl) : Ev prog w A env ρ (.Subscript o i pos) (.str ⟨#[c]⟩) := by
  intro s Z G
  refine Subscript_ (wpM (ho s Z G) fun v s₁ h₁ => ?_)
  obtain ⟨r, k₁⟩ := h₁
  refine wpM (hi s₁ Z (G.up k₁.u)) fun vi s₂ h₂ => ?_
  obtain ⟨ri, k₂⟩ := h₂
  obtain ⟨u, rfl⟩ := ri.int_inv
  obtain ⟨t, rfl⟩ := r.str_inv
  have hlt : k.toNat < x.cps.toList.length := (List.getElem?_eq_some_iff.mp hd).1
  have hlt' : k.toNat < x.length := by simpa [Str.length] using hlt
  refine tail_any (typeIs_str s₂ x t) PyProof.Rows.slot_str_getitem.lookup (PyProof.Rows.getItem_str (c := c) ?_ ?_ ⟨rep_str, (k₁.trans k₂).trans (Kp.toks _ _)⟩) (hs t u)
  · simp only [Bool.or_eq_false_iff, decide_eq_false_iff_not]; omega
  · have : seqIndex? k x.length = some k.toNat := by unfold seqIndex?; simp; omega
    rw [this]
    simpa using hd
end
end Mine

/-! M3 -/
namespace Mine
open PySem PySem.W PySem.Calls PyProof.Rows PySem.Spec

/-- the text of these signs -/
noncomputable def S (l : List Nat) : Str := ⟨l.toArray⟩
theorem S_list (l : List Nat) : (S l).cps.toList = l := rfl
theorem S_len (l : List Nat) : (S l).length = l.length := by simp [S, Str.length]
theorem S_inj {a b : List Nat} : S a = S b ↔ a = b := by
  constructor
  · intro h; have := congrArg (fun x => x.cps.toList) h; simpa [S] using this
  · rintro rfl; rfl
theorem S_app (a b : List Nat) : S a ++ S b = S (a ++ b) := by
  show Str.append (S a) (S b) = S (a ++ b)
  simp [S, Str.append]

theorem S_slice (l : List Nat) (a b : Nat) (hab : a ≤ b) (hb : b ≤ l.length) : Txt.slice (S l) (some (a : Int)) (some (b : Int)) = S ((l.drop a).take (b - a)) := by
  have hb' : b ≤ (S l).length := by rw [S_len]; exact hb
  have e1 : (List.filterMap ((S l).cps[·]?) ((List.range (b - a)).map (a + ·))) = (l.drop a).take (b - a) := by
    rw [List.filterMap_map]
    have e2 : ∀ n : Nat, a + n ≤ l.length → List.filterMap (((S l).cps[·]?) ∘ (a + ·)) (List.range n) = (l.drop a).take n := by
      intro n
      induction n with
      | zero => intro _; simp
      | succ n ih =>
        intro hn
        rw [List.range_succ, List.filterMap_append, ih (by omega)]
        have : ((S l).cps[a + n]?) = some (l[a + n]'(by omega)) := by
          show (l.toArray)[a + n]? = _
          simp only [List.getElem?_toArray]
          exact List.getElem?_eq_getElem (by omega)
        simp only [List.filterMap_cons, Function.comp, this, List.filterMap_nil]
        rw [List.take_add_one, List.getElem?_drop, List.getElem?_eq_getElem (by omega)]
        rfl
    exact e2 (b - a) (by omega)
  unfold Txt.slice
  rw [StrLaws.strSliceIndices_plain hab hb', e1]
  split
  · rename_i h
    simp only [beq_self_eq_true, Bool.true_and, beq_iff_eq, List.length_map, List.length_range, S_len] at h
    have ha : a = 0 := by omega
    have hbl : b = l.length := by omega
    subst ha hbl
    simp
  · rfl
theorem S_from (l : List Nat) (a : Nat) (ha : a ≤ l.length) : Txt.slice (S l) (some (a : Int)) none = S (l.drop a) := by
  have e : Txt.slice (S l) (some (a : Int)) none = Txt.slice (S l) (some (a : Int)) (some (l.length : Nat)) := by
    unfold Txt.slice
    rw [StrLaws.sliceIdx_none_hi, S_len]
  rw [e, S_slice l a l.length ha (Nat.le_refl _), List.take_of_length_le (by simp)]
theorem S_upto (l : List Nat) (b : Nat) (hb : b ≤ l.length) : Txt.slice (S l) none (some (b : Int)) = S (l.take b) := by
  have e : Txt.slice (S l) none (some (b : Int)) = Txt.slice (S l) (some ((0 : Nat) : Int)) (some (b : Int)) := by
    unfold Txt.slice
    rw [StrLaws.sliceIdx_none_lo]; rfl
  rw [e, S_slice l 0 b (Nat.zero_le _) hb]; simp

section
variable {prog : Program} {w : World} {A : Around} {env : Env} {ρ : Rho}

/-- a part of a slice -/
noncomputable def EvP (prog : Program) (w : World) (A : Around) (env : Env) (ρ : Rho) (x : Option Expr) (p : Option Int) : Prop :=
  ∀ (s : Shared) (Z : List Addr), Gd w Z s.heap env ρ → wpAny (model prog w) A (evalPart x env) (fun v s' => (∃ q : Option (Int × Tok), v = partValue q ∧ q.map (·.1) = p) ∧ Kp s s') Nev s
theorem EvP.none : EvP prog w A env ρ none none := fun s Z G => wpAny_pure ⟨⟨Option.none, rfl, rfl⟩, Kp.refl s⟩
theorem EvP.some {e : Expr} {i : Int} (h : Ev prog w A env ρ e (.int i)) : EvP prog w A env ρ (some e) (some i) := fun s Z G => by
  rw [evalPart_some]
  refine wpM (h s Z G) fun v s₁ h₁ => ?_
  obtain ⟨r, k⟩ := h₁
  obtain ⟨t, rfl⟩ := r.int_inv
  exact ⟨⟨Option.some (i, t), rfl, rfl⟩, k⟩

theorem Ev.slices {o : Expr} {lo hi : Option Expr} {p pos : Pos} {x : Str} {l u : Option Int} (ho : Ev prog w A env ρ o (.str x)) (hl : EvP prog w A env ρ lo l) (hu : EvP prog w A env ρ hi u) (hz : x.length ≤ sizeLine)
    (ht : ∀ o' r, letTemporaryGo o o' r = pure () := by intro _ _; rfl) : Ev prog w A env ρ (.Subscript o (.Slice lo hi none p) pos) (.str (Txt.slice x l u)) := by
  intro s Z G
  refine wpAny_Subscript_str_slice (wpM (ho s Z G) fun v s₁ h₁ => ?_) ht
  obtain ⟨r, k₁⟩ := h₁
  obtain ⟨t, rfl⟩ := r.str_inv
  refine wpM (hl s₁ Z (G.up k₁.u)) fun vl s₂ h₂ => ?_
  obtain ⟨⟨ql, rfl, rfl⟩, k₂⟩ := h₂
  refine wpM (hu s₂ Z (G.up (k₁.trans k₂).u)) fun vu s₃ h₃ => ?_
  obtain ⟨⟨qu, rfl, rfl⟩, k₃⟩ := h₃
  exact ⟨x, t, ql, qu, rfl, rfl, rfl, post_val_or_str ⟨Nat.le_trans (Txt.slice_le x _ _) hz, fun t' tk => ⟨rep_str, ((k₁.trans k₂).trans k₃).trans ((Kp.push s₃ _).trans (Kp.toks _ _))⟩⟩⟩
theorem Ev.slice_from {o : Expr} {e : Expr} {p pos : Pos} {l : List Nat} {k : Nat} (ho : Ev prog w A env ρ o (.str (S l))) (he : Ev prog w A env ρ e (.int k)) (hk : k ≤ l.length) (hz : l.length ≤ sizeLine)
    (ht : ∀ o' r, letTemporaryGo o o' r = pure () := by intro _ _; rfl) : Ev prog w A env ρ (.Subscript o (.Slice (some e) none none p) pos) (.str (S (l.drop k))) := by
  rw [← S_from l k hk]
  exact Ev.slices ho (.some he) .none (by rw [S_len]; exact hz) ht
theorem Ev.slice_upto {o : Expr} {e : Expr} {p pos : Pos} {l : List Nat} {k : Nat} (ho : Ev prog w A env ρ o (.str (S l))) (he : Ev prog w A env ρ e (.int k)) (hk : k ≤ l.length) (hz : l.length ≤ sizeLine)
    (ht : ∀ o' r, letTemporaryGo o o' r = pure () := by intro _ _; rfl) : Ev prog w A env ρ (.Subscript o (.Slice none (some e) none p) pos) (.str (S (l.take k))) := by
  rw [← S_upto l k hk]
  exact Ev.slices ho .none (.some he) (by rw [S_len]; exact hz) ht
theorem Ev.slice_mid {o : Expr} {e f : Expr} {p pos : Pos} {l : List Nat} {a b : Nat} (ho : Ev prog w A env ρ o (.str (S l))) (he : Ev prog w A env ρ e (.int a)) (hf : Ev prog w A env ρ f (.int b)) (hab : a ≤ b) (hb : b ≤ l.length) (hz : l.length ≤ sizeLine)
    (ht : ∀ o' r, letTemporaryGo o o' r = pure () := by intro _ _; rfl) : Ev prog w A env ρ (.Subscript o (.Slice (some e) (some f) none p) pos) (.str (S ((l.drop a).take (b - a)))) := by
  rw [← S_slice l a b hab hb]
  exact Ev.slices ho (.some he) (.some hf) (by rw [S_len]; exact hz) ht

/-- xs[:k] -/
theorem Ev.take {o : Expr} {e : Expr} {p pos : Pos} {xs : List PV} {k : Nat} (ho : Ev prog w A env ρ o (.list xs)) (he : Ev prog w A env ρ e (.int k)) (hz : xs.length ≤ sizeLine)
    (ht : ∀ o' r, letTemporaryGo o o' r = pure () := by intro _ _; rfl) : Ev prog w A env ρ (.Subscript o (.Slice none (some e) none p) pos) (.list (xs.take k)) := by
  intro s Z G
  refine wpAny_Subscript_list_slice (wpM (ho s Z G) fun v s₁ h₁ => ?_) ht
  obtain ⟨r, k₁⟩ := h₁
  refine wpM (EvP.none (prog := prog) (A := A) s₁ Z (G.up k₁.u)) fun vl s₂ h₂ => ?_
  obtain ⟨⟨ql, rfl, hql⟩, k₂⟩ := h₂
  refine wpM ((EvP.some he) s₂ Z (G.up (k₁.trans k₂).u)) fun vu s₃ h₃ => ?_
  obtain ⟨⟨qu, rfl, hqu⟩, k₃⟩ := h₃
  have k4 := (k₁.trans k₂).trans k₃
  obtain ⟨a, vs, rfl, _, hl, hr⟩ := (r.up (k₂.trans k₃).u).list_inv
  have e1 : ql = none := by cases ql with
    | none => rfl
    | some q => cases hql
  subst e1
  obtain ⟨t, rfl⟩ : ∃ t, qu = some ((k : Int), t) := by
    cases qu with
    | none => cases hqu
    | some q => obtain ⟨i, t⟩ := q; simp only [Option.map_some, Option.some.injEq] at hqu; exact ⟨t, by rw [hqu]⟩
  refine ⟨a, vs.toArray, none, some (k : Int), rfl, hl, by rw [List.size_toArray, hr.length]; exact hz, .none, .int _ _, ?_⟩
  rw [slicePick_upto']
  have k5 := k4.trans ((Kp.push s₃ { cls := .type "slice", data := .fields #[partValue none, partValue (some ((k : Int), t)), .none] }).trans (Kp.push _ { cls := .type "list", data := .seq (vs.toArray.toList.take k).toArray }))
  refine ⟨?_, k5⟩
  have hsz : (s₃.heap.push { cls := .type "slice", data := .fields #[partValue none, partValue (some ((k : Int), t)), .none] }).objs.size = s₃.heap.objs.size + 1 := Heap.size_push ..
  refine Rep.list_mk (vs := vs.take k) (notin_of_none (G.up k4.u).z (Heap.get?_none_of_le (Nat.le_succ _))) ?_ ?_
  · have := isList_push (s₃.heap.push { cls := .type "slice", data := .fields #[partValue none, partValue (some ((k : Int), t)), .none] }) (vs.take k)
    rw [hsz] at this
    exact this
  · refine RepAll.of_get (by simp [hr.length]) fun i d v h1 h2 => ?_
    have hi : i < k := by
      have := (List.getElem?_eq_some_iff.mp h1).1
      simp only [List.length_take] at this; omega
    rw [List.getElem?_take_of_lt hi] at h1 h2
    obtain ⟨x, hx, rx⟩ := hr.get h1
    rw [h2] at hx
    cases hx
    exact rx.up fun _ _ e => Heap.get?_push_of_some _ (Heap.get?_push_of_some _ e)

/-! names of the top, calls -/
structure IsGlob (w : World) (env : Env) (x : Str) (v : Value) : Prop where
  kind : env.scope.kind = .function
  name : env.kindOf x = some .globalImplicit
  g : env.globals = mainGlobals
  b : env.builtins = builtinsNs
  d : (x == ("__debug__" : Str)) = false
  n : x ≠ "__name__"
  is : (nsIn (hd.heap_39 w.params) mainGlobals x = some none ∧ bootBuiltins x = some v) ∨ nsIn (hd.heap_39 w.params) mainGlobals x = some (some v)
theorem IsGlob.run {x : Str} {v : Value} {pos : Pos} (g : IsGlob w env x v) {E : Value → Shared → Prop} {Q : Value → Shared → Prop} {s : Shared} (W : WF w s.heap) (h : Q v s) : wpAny (model prog w) A (eval (.Name x pos) env) Q E s := by
  obtain ⟨mg, hmg⟩ := W.g
  obtain ⟨mb, hmb, hb⟩ := W.b
  rcases g.is with ⟨e, hv⟩ | e
  · exact Name_function_global g.kind g.name (loadGlobal_builtin (by rw [g.g]; exact hmg) (mg_none_of W.K hmg e) (by rw [g.b]; exact hmb) ((hb x g.n).trans hv) h) g.d
  · exact Name_function_global g.kind g.name (loadGlobal_global (by rw [g.g]; exact hmg) (mg_of W.K hmg e) h) g.d

/-- a call of a builtin, or of a type -/
theorem Ev.callB {x : Str} {id : String} {np pos : Pos} {e : Expr} {es : List Expr} {ds : List PV} {d : PV} (g : IsGlob w env x (.builtin id)) (h : Evs prog w A env ρ (e :: es) ds)
    (ho : ∀ s Z vs, Gd w Z s.heap env ρ → RepAll Z s.heap ds vs → OpOK prog w A Z s (call (.builtin id) vs) d)
    (he : eval (.Call (.Name x np) (e :: es) [] pos) env = (do callWith pos (← eval (.Name x np) env) [] (backTo pos (starEach (e :: es) env)) (backToKw pos (keywordEach [] env))) := by rfl)
    (he2 : starEach (e :: es) env = (false, eval e env) :: starEach es env := by rfl) (hp : (backTo pos (starEach es env)).any (·.1) = false := by rfl) :
    Ev prog w A env ρ (.Call (.Name x np) (e :: es) [] pos) d := by
  intro s Z G
  refine Call_ (g.run G.W ?_) he
  refine PyProof.Rows.callWith_builtin1 (wpM (h.run G) fun vs s₁ h₁ => ?_) he2 hp
  obtain ⟨r, k⟩ := h₁
  exact wpM (ho s₁ Z vs (G.up k.u) r) fun v s₂ h₂ => ⟨h₂.1, k.trans h₂.2⟩
theorem Ev.callT {x : Str} {id : String} {np pos : Pos} {e : Expr} {es : List Expr} {ds : List PV} {d : PV} (g : IsGlob w env x (.type id)) (h : Evs prog w A env ρ (e :: es) ds)
    (ho : ∀ s Z vs, Gd w Z s.heap env ρ → RepAll Z s.heap ds vs → OpOK prog w A Z s (call (.type id) vs) d)
    (he : eval (.Call (.Name x np) (e :: es) [] pos) env = (do callWith pos (← eval (.Name x np) env) [] (backTo pos (starEach (e :: es) env)) (backToKw pos (keywordEach [] env))) := by rfl)
    (he2 : starEach (e :: es) env = (false, eval e env) :: starEach es env := by rfl) (hp : (backTo pos (starEach es env)).any (·.1) = false := by rfl) :
    Ev prog w A env ρ (.Call (.Name x np) (e :: es) [] pos) d := by
  intro s Z G
  refine Call_ (g.run G.W ?_) he
  refine PyProof.Rows.callWith_type1 (wpM (h.run G) fun vs s₁ h₁ => ?_) he2 hp
  obtain ⟨r, k⟩ := h₁
  exact wpM (ho s₁ Z vs (G.up k.u) r) fun v s₂ h₂ => ⟨h₂.1, k.trans h₂.2⟩
/-- a call of a def of the text -/
noncomputable def FnOK (prog : Program) (w : World) (A : Around) (f : Addr) (ds : List PV) (d : PV) : Prop :=
  ∀ (s : Shared) (Z : List Addr) (vs : List Value), (∀ a ∈ Z, ∃ o, s.heap.get? a = some o) → WF w s.heap → RepAll Z s.heap ds vs → OpOK prog w A Z s (call (.ref f) vs) d
theorem Ev.callF {x : Str} {f : Addr} {fo : Obj} {fd : FuncData} {np pos : Pos} {e : Expr} {es : List Expr} {ds : List PV} {d : PV} (g : IsGlob w env x (.ref f)) (hf : (hd.heap_39 w.params).lookup f = some fo) (hfd : fo.data = .func fd)
    (h : Evs prog w A env ρ (e :: es) ds) (ho : FnOK prog w A f ds d)
    (he : eval (.Call (.Name x np) (e :: es) [] pos) env = (do callWith pos (← eval (.Name x np) env) [] (backTo pos (starEach (e :: es) env)) (backToKw pos (keywordEach [] env))) := by rfl)
    (he2 : starEach (e :: es) env = (false, eval e env) :: starEach es env := by rfl) :
    Ev prog w A env ρ (.Call (.Name x np) (e :: es) [] pos) d := by
  intro s Z G
  refine Call_ (g.run G.W ?_) he
  refine callWith_def hfd (wpM (h.run G) fun vs s₁ h₁ => ?_) he2
  obtain ⟨r, k⟩ := h₁
  exact ⟨(G.up k.u).W.K _ _ hf, wpM (ho s₁ Z vs (G.up k.u).z (G.up k.u).W r) fun v s₂ h₂ => ⟨h₂.1, k.trans h₂.2⟩⟩
end
end Mine

/-! M4 -/
namespace Mine
open PySem PySem.W PySem.Calls PyProof.Rows PySem.Spec

/-- what is asked of the frames around -/
structure AOk (A : Around) : Prop where
  hh : A.handled = none
  hu : A.units + 200 < cLine
  hd : A.depth + 3 < recursionLimit

section
variable {prog : Program} {w : World} {A : Around} {env : Env} {ρ : Rho}
theorem repAll1 {Z : List Addr} {h : Heap} {d : PV} {vs : List Value} (r : RepAll Z h [d] vs) : ∃ v, vs = [v] ∧ Rep Z h d v := by
  simp only [RepAll] at r
  obtain ⟨v, vs', rfl, r1, rfl⟩ := r
  exact ⟨v, rfl, r1⟩
theorem repAll2 {Z : List Addr} {h : Heap} {d e : PV} {vs : List Value} (r : RepAll Z h [d, e] vs) : ∃ v u, vs = [v, u] ∧ Rep Z h d v ∧ Rep Z h e u := by
  simp only [RepAll] at r
  obtain ⟨v, vs', rfl, r1, u, us, rfl, r2, rfl⟩ := r
  exact ⟨v, u, rfl, r1, r2⟩

theorem Ev.len_list {np pos : Pos} {e : Expr} {xs : List PV} (g : IsGlob w env "len" (.builtin "len")) (h : Evs prog w A env ρ [e] [.list xs]) (hz : xs.length < 2 ^ 62)
    (he : eval (.Call (.Name "len" np) [e] [] pos) env = (do callWith pos (← eval (.Name "len" np) env) [] (backTo pos (starEach [e] env)) (backToKw pos (keywordEach [] env))) := by rfl)
    (he2 : starEach [e] env = (false, eval e env) :: starEach [] env := by rfl) : Ev prog w A env ρ (.Call (.Name "len" np) [e] [] pos) (.int xs.length) :=
  Ev.callB g h (fun s Z vs G r => by
    obtain ⟨v, rfl, r1⟩ := repAll1 r
    obtain ⟨a, us, rfl, _, hl, hr⟩ := r1.list_inv
    refine PyProof.Rows.len_list hl (by rw [List.size_toArray, hr.length]; omega) ⟨?_, Kp.toks _ _⟩
    rw [List.size_toArray, hr.length]; exact rep_int) he he2 rfl
theorem Ev.len_str {np pos : Pos} {e : Expr} {x : Str} (g : IsGlob w env "len" (.builtin "len")) (h : Evs prog w A env ρ [e] [.str x]) (hz : x.length < 2 ^ 62)
    (he : eval (.Call (.Name "len" np) [e] [] pos) env = (do callWith pos (← eval (.Name "len" np) env) [] (backTo pos (starEach [e] env)) (backToKw pos (keywordEach [] env))) := by rfl)
    (he2 : starEach [e] env = (false, eval e env) :: starEach [] env := by rfl) : Ev prog w A env ρ (.Call (.Name "len" np) [e] [] pos) (.int x.length) :=
  Ev.callB g h (fun s Z vs G r => by
    obtain ⟨v, rfl, r1⟩ := repAll1 r
    obtain ⟨t, rfl⟩ := r1.str_inv
    exact PyProof.Rows.len_str (by omega) ⟨rep_int, Kp.toks _ _⟩) he he2 rfl
theorem Ev.list_list {np pos : Pos} {e : Expr} {xs : List PV} (g : IsGlob w env "list" (.type "list")) (h : Evs prog w A env ρ [e] [.list xs]) (hz : xs.length ≤ sizeLine)
    (he : eval (.Call (.Name "list" np) [e] [] pos) env = (do callWith pos (← eval (.Name "list" np) env) [] (backTo pos (starEach [e] env)) (backToKw pos (keywordEach [] env))) := by rfl)
    (he2 : starEach [e] env = (false, eval e env) :: starEach [] env := by rfl) : Ev prog w A env ρ (.Call (.Name "list" np) [e] [] pos) (.list xs) :=
  Ev.callT g h (fun s Z vs G r => by
    obtain ⟨v, rfl, r1⟩ := repAll1 r
    obtain ⟨a, us, rfl, _, hl, hr⟩ := r1.list_inv
    obtain ⟨o, ho, hc, n, hd⟩ := hl
    exact call_list_seq (hsz := by rw [List.size_toArray, hr.length]; exact hz) a (.inl rfl) ho hc hd fun h' c' hk hD =>
      ⟨Rep.list_mk (notin_of_none G.z (fresh_none _)) ⟨_, hD, rfl, c', rfl⟩ (hr.up hk), Kp.heap hk⟩) he he2 rfl
theorem Ev.max2 {np pos : Pos} {e f : Expr} {a b : Int} (hA : A.handled = none) (g : IsGlob w env "max" (.builtin "max")) (h : Evs prog w A env ρ [e, f] [.int a, .int b])
    (he : eval (.Call (.Name "max" np) [e, f] [] pos) env = (do callWith pos (← eval (.Name "max" np) env) [] (backTo pos (starEach [e, f] env)) (backToKw pos (keywordEach [] env))) := by rfl)
    (he2 : starEach [e, f] env = (false, eval e env) :: starEach [f] env := by rfl) (hp : (backTo pos (starEach [f] env)).any (·.1) = false := by rfl) : Ev prog w A env ρ (.Call (.Name "max" np) [e, f] [] pos) (.int (max a b)) :=
  Ev.callB g h (fun s Z vs G r => by
    obtain ⟨v, u, rfl, r1, r2⟩ := repAll2 r
    obtain ⟨t, rfl⟩ := r1.int_inv
    obtain ⟨t', rfl⟩ := r2.int_inv
    refine max_two_ints hA fun h' tk hk => ⟨?_, Kp.mk' hk⟩
    by_cases c : b > a
    · rw [if_pos c, Int.max_eq_right (by omega)]; exact rep_int
    · rw [if_neg c, Int.max_eq_left (by omega)]; exact rep_int) he he2 hp
theorem Ev.sum {np pos : Pos} {e : Expr} {ns : List Int} (hA : A.handled = none) (g : IsGlob w env "sum" (.builtin "sum")) (h : Evs prog w A env ρ [e] [.list (iL ns)])
    (he : eval (.Call (.Name "sum" np) [e] [] pos) env = (do callWith pos (← eval (.Name "sum" np) env) [] (backTo pos (starEach [e] env)) (backToKw pos (keywordEach [] env))) := by rfl)
    (he2 : starEach [e] env = (false, eval e env) :: starEach [] env := by rfl) : Ev prog w A env ρ (.Call (.Name "sum" np) [e] [] pos) (.int ns.sum) :=
  Ev.callB g h (fun s Z vs G r => by
    obtain ⟨v, rfl, r1⟩ := repAll1 r
    obtain ⟨a, us, rfl, _, hl, hr⟩ := r1.list_inv
    have hi := intsAre_of hr
    obtain ⟨xs, hx⟩ := hi.allInts.items
    have hn : numsOf us.toArray.toList = ns := by rw [show us.toArray.toList = us from rfl, hi.numsOf]
    rw [hx] at hl hn
    rw [nums_intItems] at hn
    refine sum_intListG hA hl fun h' tk t' hk => ⟨?_, Kp.mk' hk⟩
    rw [preSum_eq, List.take_of_length_le (by simp), hn]
    exact rep_int) he he2 rfl

/-! comparisons of lists and pairs of ints -/
theorem Ev.nel {l r : Expr} {pos : Pos} {a b : List Int} (hA : AOk A) (hl : Ev prog w A env ρ l (.list (iL a))) (hr : Ev prog w A env ρ r (.list (iL b))) (hm : behindInMarks .NotEq r = false := by with_unfolding_all rfl) :
    Ev prog w A env ρ (.Compare l [.NotEq] [r] pos) (.bool (!decide (a = b))) :=
  .cmp hl hr (fun s Z va vb z ra rb => by
    obtain ⟨i, vs, rfl, _, h1, h2⟩ := ra.list_inv
    obtain ⟨j, us, rfl, _, h3, h4⟩ := rb.list_inv
    exact ne_intsK h1 (intsAre_of h2) h3 (intsAre_of h4) (by have := hA.hu; omega) ⟨rep_bool, Kp.refl s⟩) hm
theorem Ev.nep {l r : Expr} {pos : Pos} {a b c d : Int} (hA : AOk A) (hl : Ev prog w A env ρ l (.tup [.int a, .int b])) (hr : Ev prog w A env ρ r (.tup [.int c, .int d])) (hm : behindInMarks .NotEq r = false := by with_unfolding_all rfl) :
    Ev prog w A env ρ (.Compare l [.NotEq] [r] pos) (.bool (!decide (a = c ∧ b = d))) :=
  .cmp hl hr (fun s Z va vb z ra rb => by
    obtain ⟨i, vs, rfl, _, h1, h2⟩ := ra.tup_inv
    obtain ⟨j, us, rfl, _, h3, h4⟩ := rb.tup_inv
    obtain ⟨v, u, rfl, q1, q2⟩ := repAll2 h2
    obtain ⟨v', u', rfl, q3, q4⟩ := repAll2 h4
    obtain ⟨t1, rfl⟩ := q1.int_inv
    obtain ⟨t2, rfl⟩ := q2.int_inv
    obtain ⟨t3, rfl⟩ := q3.int_inv
    obtain ⟨t4, rfl⟩ := q4.int_inv
    have e : (!((List.range (min 2 2)).all (fun j => if j = 0 then a == c else b == d) && (2 : Nat) == 2)) = !decide (a = c ∧ b = d) := by
      have : (List.range (min 2 2)) = [0, 1] := by decide
      rw [this]
      by_cases e1 : a = c <;> by_cases e2 : b = d <;> simp [e1, e2]
    refine SeqAt.RcNeAt.tuples (e := fun j => if j = 0 then a == c else b == d) h1 h3 (by have := hA.hu; omega) (fun j k1 k2 => ?_) prog w _ _ ?_
    · have : j = 0 ∨ j = 1 := by simp at k1; omega
      rcases this with rfl | rfl
      · exact fun prog w E Q h => wpAny_eqBool_int h
      · exact fun prog w E Q h => wpAny_eqBool_int h
    · show Rep Z s.heap _ _ ∧ _
      rw [show (!((List.range (min ([Value.int a t1, Value.int b t2].toArray.size) ([Value.int c t3, Value.int d t4].toArray.size))).all (fun j => if j = 0 then a == c else b == d) && [Value.int a t1, Value.int b t2].toArray.size == [Value.int c t3, Value.int d t4].toArray.size)) = !decide (a = c ∧ b = d) from e]
      exact ⟨rep_bool, Kp.refl s⟩) hm
theorem Ev.nins {l r : Expr} {pos : Pos} {x : Str} {xs : List Str} (hl : Ev prog w A env ρ l (.str x)) (hr : Ev prog w A env ρ r (.list (sL xs))) (hm : behindInMarks .NotIn r = false := by with_unfolding_all rfl) :
    Ev prog w A env ρ (.Compare l [.NotIn] [r] pos) (.bool (!(xs.any (· == x)))) :=
  .cmp hl hr (fun s Z va vb z ra rb => by
    obtain ⟨t, rfl⟩ := ra.str_inv
    obtain ⟨j, us, rfl, _, h3, h4⟩ := rb.list_inv
    exact notin_list_strs h3 (strsAre_of h4) ⟨rep_bool, Kp.refl s⟩) hm

/-! join of single signs -/
theorem strValues_of {Z : List Addr} {h : Heap} : ∀ {xs : List Str} {vs : List Value}, RepAll Z h (sL xs) vs → ∃ l : List (Str × Tok), vs = strValues l ∧ l.map (·.1) = xs
  | [], vs, r => by simp only [sL, List.map_nil, RepAll] at r; exact ⟨[], by simpa [strValues] using r, rfl⟩
  | x :: xs, vs, r => by
    simp only [sL, List.map_cons, RepAll, Rep] at r
    obtain ⟨v, vs', rfl, ⟨t, rfl⟩, h2⟩ := r
    obtain ⟨l, rfl, e⟩ := strValues_of h2
    exact ⟨(x, t) :: l, rfl, by simp [e]⟩
theorem glued_one : ∀ (l : List Nat), Builtin.Str.glued (Str.ofString "") (l.map fun c => S [c]) = S l := by
  have go : ∀ (l : List Nat) (acc : Array Nat), (⟨(l.map fun c => S [c]).foldl (fun acc p => acc ++ (Str.ofString "").cps ++ p.cps) acc⟩ : Str) = ⟨acc ++ l.toArray⟩ := by
    intro l
    induction l with
    | nil => intro acc; simp
    | cons c l ih =>
      intro acc
      rw [List.map_cons, List.foldl_cons, ih]
      have e0 : (Str.ofString "").cps = #[] := by decide
      rw [e0]
      congr 1
      apply Array.toList_inj.mp
      simp [S]
  intro l
  cases l with
  | nil => decide
  | cons c l =>
    have := go l (S [c]).cps
    show (⟨(l.map fun c => S [c]).foldl (fun acc p => acc ++ (Str.ofString "").cps ++ p.cps) (S [c]).cps⟩ : Str) = S (c :: l)
    rw [this]
    apply congrArg Str.mk
    apply Array.toList_inj.mp
    simp [S]
set_option maxRecDepth 20000 in
theorem Ev.join {k : Nat} {cp ap pos : Pos} {e : Expr} {l : List Nat} (h : Evs prog w A env ρ [e] [.list (sL (l.map fun c => S [c]))]) (hz : l.length ≤ 1000)
    (pl : Sem Bool) (he1 : eval (.Call (.Attribute (.Constant (.str "") k cp) "join" ap) [e] [] pos) env = (do
      let ov ← eval (.Constant (.str "") k cp) env
      standAt ap.atName
      let (f, first) ← holding [ov] (getMethod ov "join" pl)
      callWith pos f first (backTo pos (starEach [e] env)) []) := by rfl)
    (he2 : starEach [e] env = (false, eval e env) :: starEach [] env := by rfl) : Ev prog w A env ρ (.Call (.Attribute (.Constant (.str "") k cp) "join" ap) [e] [] pos) (.str (S l)) := by
  intro s Z G
  refine MethodCall_ (pl := pl) (Constant_str (GM.join ?_)) he1
  have k0 := Kp.toks s (s.toks + 1)
  refine callWith_method1 (wpM (h.run (G.up k0.u)) fun vs s₁ h₁ => ?_) he2 rfl
  obtain ⟨r, k1⟩ := h₁
  obtain ⟨v, rfl, r1⟩ := repAll1 r
  obtain ⟨a, us, rfl, _, hl, hr⟩ := r1.list_inv
  obtain ⟨q, rfl, eq⟩ := strValues_of hr
  refine SC.join hl eq ?_ fun t' tk => ⟨?_, (k0.trans k1).trans (Kp.toks _ _)⟩
  · unfold JoinOk
    rw [StrLaws.joinFits (B := 1)]
    · rfl
    · intro y hy
      obtain ⟨c, _, rfl⟩ := List.mem_map.mp hy
      exact Nat.le_refl _
    · have : (Str.ofString "").length = 0 := by decide
      rw [this, List.length_map]; omega
  · show Rep Z s₁.heap (.str (S l)) (.str (Builtin.Str.glued (Str.ofString "") _) t')
    rw [glued_one]; exact rep_str
end
end Mine

/-! M5 -/
namespace Mine
open PySem PySem.W PySem.Calls PyProof.Rows PySem.Spec

section
variable {prog : Program} {w : World} {A : Around} {env : Env} {ρ : Rho}

/-! tests -/
noncomputable def EvT (prog : Program) (w : World) (A : Around) (env : Env) (ρ : Rho) (e : Expr) (b : Bool) : Prop :=
  ∀ (s : Shared) (Z : List Addr), Gd w Z s.heap env ρ → wpAny (model prog w) A (isTrue e env (eval e env)) (fun ok s' => ok = b ∧ Kp s s') Nev s
noncomputable def CmpOK (prog : Program) (w : World) (A : Around) (op : CmpOp) (a b : PV) (c : Bool) : Prop :=
  ∀ s Z va vb, (∀ a ∈ Z, ∃ o, s.heap.get? a = some o) → Rep Z s.heap a va → Rep Z s.heap b vb → OpOK prog w A Z s (compareOp op va vb) (.bool c)
theorem EvT.cmp {op : CmpOp} {l r : Expr} {pos : Pos} {a b : PV} {c : Bool} (hl : Ev prog w A env ρ l a) (hr : Ev prog w A env ρ r b) (ho : CmpOK prog w A op a b c) (hm : behindInMarks op r = false := by with_unfolding_all rfl) :
    EvT prog w A env ρ (.Compare l [op] [r] pos) c := by
  intro s Z G
  refine wpAny_isTrue_Compare1 (wpM (hl s Z G) fun va s₁ h₁ => ?_) hm
  obtain ⟨ra, k₁⟩ := h₁
  refine wpM (hr s₁ Z (G.up k₁.u)) fun vb s₂ h₂ => ?_
  obtain ⟨rb, k₂⟩ := h₂
  refine wpM (ho s₂ Z va vb (G.up (k₁.trans k₂).u).z (ra.up k₂.u) rb) fun v s₃ h₃ => ?_
  obtain ⟨rv, k₃⟩ := h₃
  obtain rfl := rv.bool_inv
  exact wpAny_truthy_bool ⟨rfl, (k₁.trans k₂).trans k₃⟩
theorem CmpOK.gt {a b : Int} : CmpOK prog w A .Gt (.int a) (.int b) (decide (b < a)) := fun s Z va vb z ra rb => by
  obtain ⟨t, rfl⟩ := ra.int_inv; obtain ⟨u, rfl⟩ := rb.int_inv
  exact gt_int ⟨rep_bool, Kp.refl s⟩
theorem CmpOK.lt {a b : Int} : CmpOK prog w A .Lt (.int a) (.int b) (decide (a < b)) := fun s Z va vb z ra rb => by
  obtain ⟨t, rfl⟩ := ra.int_inv; obtain ⟨u, rfl⟩ := rb.int_inv
  exact lt_int ⟨rep_bool, Kp.refl s⟩
theorem CmpOK.eqi {a b : Int} : CmpOK prog w A .Eq (.int a) (.int b) (a == b) := fun s Z va vb z ra rb => by
  obtain ⟨t, rfl⟩ := ra.int_inv; obtain ⟨u, rfl⟩ := rb.int_inv
  exact eq_int ⟨rep_bool, Kp.refl s⟩
theorem CmpOK.nei {a b : Int} : CmpOK prog w A .NotEq (.int a) (.int b) (a != b) := fun s Z va vb z ra rb => by
  obtain ⟨t, rfl⟩ := ra.int_inv; obtain ⟨u, rfl⟩ := rb.int_inv
  exact ne_int ⟨rep_bool, Kp.refl s⟩
theorem CmpOK.ge {a b : Int} : CmpOK prog w A .GtE (.int a) (.int b) (decide (b ≤ a)) := fun s Z va vb z ra rb => by
  obtain ⟨t, rfl⟩ := ra.int_inv; obtain ⟨u, rfl⟩ := rb.int_inv
  exact ge_int ⟨rep_bool, Kp.refl s⟩
theorem CmpOK.nel {a b : List Int} (hA : AOk A) : CmpOK prog w A .NotEq (.list (iL a)) (.list (iL b)) (!decide (a = b)) := fun s Z va vb z ra rb => by
  obtain ⟨i, vs, rfl, _, h1, h2⟩ := ra.list_inv
  obtain ⟨j, us, rfl, _, h3, h4⟩ := rb.list_inv
  exact ne_intsK h1 (intsAre_of h2) h3 (intsAre_of h4) (by have := hA.hu; omega) ⟨rep_bool, Kp.refl s⟩
theorem CmpOK.nep {a b c d : Int} (hA : AOk A) : CmpOK prog w A .NotEq (.tup [.int a, .int b]) (.tup [.int c, .int d]) (!decide (a = c ∧ b = d)) := fun s Z va vb z ra rb => by
  obtain ⟨i, vs, rfl, _, h1, h2⟩ := ra.tup_inv
  obtain ⟨j, us, rfl, _, h3, h4⟩ := rb.tup_inv
  obtain ⟨v, u, rfl, q1, q2⟩ := repAll2 h2
  obtain ⟨v', u', rfl, q3, q4⟩ := repAll2 h4
  obtain ⟨t1, rfl⟩ := q1.int_inv
  obtain ⟨t2, rfl⟩ := q2.int_inv
  obtain ⟨t3, rfl⟩ := q3.int_inv
  obtain ⟨t4, rfl⟩ := q4.int_inv
  have e : (!((List.range (min 2 2)).all (fun j => if j = 0 then a == c else b == d) && (2 : Nat) == 2)) = !decide (a = c ∧ b = d) := by
    have : (List.range (min 2 2)) = [0, 1] := by decide
    rw [this]
    by_cases e1 : a = c <;> by_cases e2 : b = d <;> simp [e1, e2]
  refine SeqAt.RcNeAt.tuples (e := fun j => if j = 0 then a == c else b == d) h1 h3 (by have := hA.hu; omega) (fun j k1 k2 => ?_) prog w _ _ ?_
  · have : j = 0 ∨ j = 1 := by simp at k1; omega
    rcases this with rfl | rfl
    · exact fun prog w E Q h => wpAny_eqBool_int h
    · exact fun prog w E Q h => wpAny_eqBool_int h
  · show Rep Z s.heap _ _ ∧ _
    rw [show (!((List.range (min ([Value.int a t1, Value.int b t2].toArray.size) ([Value.int c t3, Value.int d t4].toArray.size))).all (fun j => if j = 0 then a == c else b == d) && [Value.int a t1, Value.int b t2].toArray.size == [Value.int c t3, Value.int d t4].toArray.size)) = !decide (a = c ∧ b = d) from e]
    exact ⟨rep_bool, Kp.refl s⟩
theorem CmpOK.nins {x : Str} {xs : List Str} : CmpOK prog w A .NotIn (.str x) (.list (sL xs)) (!(xs.any (· == x))) := fun s Z va vb z ra rb => by
  obtain ⟨t, rfl⟩ := ra.str_inv
  obtain ⟨j, us, rfl, _, h3, h4⟩ := rb.list_inv
  exact notin_list_strs h3 (strsAre_of h4) ⟨rep_bool, Kp.refl s⟩
theorem EvT.and1 {e : Expr} {pos : Pos} {b : Bool} (h : EvT prog w A env ρ e b) : EvT prog w A env ρ (.BoolOp .And [e] pos) b := by
  intro s Z G
  refine isTrue_and (wpM (h s Z G) fun ok s₁ h₁ => ?_)
  obtain ⟨rfl, k⟩ := h₁
  cases ok with
  | true => exact isTrue_and_nil ⟨rfl, k⟩
  | false => exact ⟨rfl, k⟩
theorem EvT.and2 {e : Expr} {es : List Expr} {pos : Pos} {b c : Bool} (h : EvT prog w A env ρ e b) (h2 : b = true → EvT prog w A env ρ (.BoolOp .And es pos) c) : EvT prog w A env ρ (.BoolOp .And (e :: es) pos) (b && c) := by
  intro s Z G
  refine isTrue_and (wpM (h s Z G) fun ok s₁ h₁ => ?_)
  obtain ⟨rfl, k⟩ := h₁
  cases ok with
  | true => exact wpM (h2 rfl s₁ Z (G.up k.u)) fun ok s₂ h₂ => ⟨h₂.1, k.trans h₂.2⟩
  | false => exact ⟨rfl, k⟩

/-! what is gone through -/
noncomputable def FieldsOr (Z : List Addr) (b : Addr) (o : Obj) : Prop := (∃ vs, o.data = .fields vs) ∨ (b ∉ Z ∧ ∃ xs n, o.data = .seq xs n)
structure ItOK (prog : Program) (w : World) (A : Around) (ds : List PV) (Z : List Addr) (s₁ s₂ : Shared) (I : Addr) (fp : List Addr) (P : Nat → Value → Prop) (St : Nat → Heap → Prop) : Prop where
  walks : Walks prog w A I fp [I] ds.length P St
  st : St 0 s₂.heap
  new : s₁.heap.get? I = none
  below : ∀ b ∈ fp, b < s₂.heap.objs.size
  own : ∀ i h, St i h → ∃ o vs, h.get? I = some o ∧ o.data = .fields vs
  kinds : ∀ i h, St i h → ∀ b ∈ fp, ∃ o, h.get? b = some o ∧ FieldsOr Z b o
  item : ∀ i v, P i v → ∃ d, ds[i]? = some d ∧ Rep Z s₂.heap d v
noncomputable def IterOK (prog : Program) (w : World) (A : Around) (xv : Value) (ds : List PV) (Z : List Addr) (s₁ : Shared) : Prop :=
  wpAny (model prog w) A (pyIter xv) (fun it s₂ => Kp s₁ s₂ ∧ ∃ I fp P St, it = .ref I ∧ ItOK prog w A ds Z s₁ s₂ I fp P St) Nev s₁
/-- the expression after «in» -/
noncomputable def Src (prog : Program) (w : World) (A : Around) (env : Env) (ρ : Rho) (e : Expr) (ds : List PV) : Prop :=
  ∀ (s : Shared) (Z : List Addr), Gd w Z s.heap env ρ → wpAny (model prog w) A (eval e env) (fun xv s₁ => Kp s s₁ ∧ IterOK prog w A xv ds Z s₁) Nev s
theorem Src.list {e : Expr} {ds : List PV} (hh : A.handled = none) (h : Ev prog w A env ρ e (.list ds)) : Src prog w A env ρ e ds := by
  intro s Z G
  refine wpM (h s Z G) fun v s₁ h₁ => ?_
  obtain ⟨r, k⟩ := h₁
  obtain ⟨a, vs, rfl, ha, hl, hr⟩ := r.list_inv
  refine ⟨k, wpAny_pyIter_list hl ⟨Kp.push s₁ _, ?_⟩⟩
  have hne : a ≠ s₁.heap.objs.size := by
    obtain ⟨o, ho, _⟩ := hl
    exact Nat.ne_of_lt (Heap.lt_size ho)
  have W := Walks.list (prog := prog) (w := w) hh s₁.heap.objs.size a hne vs.toArray
  rw [show vs.toArray.size = ds.length by rw [List.size_toArray]; exact hr.length] at W
  refine ⟨_, _, _, _, rfl, W, ⟨⟨_, Heap.get?_push_size _ rfl, rfl, rfl⟩, hl.push _⟩, fresh_none _, ?_, ?_, ?_, ?_⟩
  · intro b hb
    show b < (s₁.heap.push _).objs.size
    rw [Heap.size_push]
    rcases List.mem_cons.mp hb with rfl | hb
    · exact Nat.lt_succ_self _
    · rcases List.mem_cons.mp hb with rfl | hb
      · obtain ⟨o, ho, _⟩ := hl; exact Nat.lt_succ_of_lt (Heap.lt_size ho)
      · cases hb
  · rintro i h ⟨⟨o, ho, _, hd⟩, _⟩
    exact ⟨o, _, ho, hd⟩
  · rintro i h ⟨⟨o, ho, _, hd⟩, ⟨o', ho', _, n, hd'⟩⟩ b hb
    rcases List.mem_cons.mp hb with rfl | hb
    · exact ⟨o, ho, .inl ⟨_, hd⟩⟩
    · rcases List.mem_cons.mp hb with rfl | hb
      · exact ⟨o', ho', .inr ⟨ha, _, _, hd'⟩⟩
      · cases hb
  · intro i v hP
    have hP' : vs[i]? = some v := by simpa using hP
    have hi : i < ds.length := by rw [← hr.length]; exact (List.getElem?_eq_some_iff.mp hP').1
    obtain ⟨v', hv', rv⟩ := hr.get (List.getElem?_eq_getElem hi)
    rw [hP'] at hv'; cases hv'
    exact ⟨_, List.getElem?_eq_getElem hi, rv.up (Kp.push s₁ _).u⟩

/-- range(b), range(a, b) -/
theorem src_range {a : Int} {n : Nat} (hh : A.handled = none) {xv : Value} {Z : List Addr} {s₁ : Shared} {r : Addr} {b : Int} {t u v : Tok} (e : xv = .ref r) (hr : IsRange s₁.heap r a b 1 t u v)
    (hn : (if a < b then b - a else 0) = (n : Int)) (h1 : -1000000 ≤ a) (h2 : a ≤ 1000000) (h3 : -1000000 ≤ b) (h4 : b ≤ 1000000) :
    IterOK prog w A xv ((List.range n).map fun i : Nat => PV.int (a + i)) Z s₁ := by
  subst e
  refine wpAny_pyIter_range hr (small_one (by omega) (by omega) (by omega) (by omega)) ⟨Kp.push s₁ _, ?_⟩
  have W := Walks.range (prog := prog) (w := w) hh s₁.heap.objs.size a 1 n
  have hlen : ((List.range n).map fun i : Nat => PV.int (a + i)).length = n := by simp
  refine ⟨s₁.heap.objs.size, [s₁.heap.objs.size], fun i v => i < n ∧ ∃ t, v = Value.int (a + ↑i * 1) t, fun i h => IsRangeIter h s₁.heap.objs.size (a + ↑i * 1) (↑n - ↑i) 1, rfl, by rw [hlen]; exact W.bound, ?_, fresh_none _, ?_, ?_, ?_, ?_⟩
  · show IsRangeIter _ _ _ _ _
    rw [rangeSize_one, hn]
    simpa using Heap.get?_push_size _ rfl
  · intro b hb
    show b < (s₁.heap.push _).objs.size
    rw [Heap.size_push, List.mem_singleton.mp hb]
    exact Nat.lt_succ_self _
  · intro i h st
    exact ⟨_, _, st, rfl⟩
  · intro i h st b hb
    rw [List.mem_singleton.mp hb]
    exact ⟨_, st, .inl ⟨_, rfl⟩⟩
  · rintro i v ⟨hi, t, rfl⟩
    refine ⟨.int (a + i), by simp [hi], ?_⟩
    rw [Int.mul_one]; exact rep_int
theorem Src.range1 {np pos : Pos} {e : Expr} {n : Nat} (hh : A.handled = none) (g : IsGlob w env "range" (.type "range")) (h : Evs prog w A env ρ [e] [.int n]) (hz : n ≤ 1000)
    (he : eval (.Call (.Name "range" np) [e] [] pos) env = (do callWith pos (← eval (.Name "range" np) env) [] (backTo pos (starEach [e] env)) (backToKw pos (keywordEach [] env))) := by rfl)
    (he2 : starEach [e] env = (false, eval e env) :: starEach [] env := by rfl) : Src prog w A env ρ (.Call (.Name "range" np) [e] [] pos) ((List.range n).map fun i : Nat => PV.int i) := by
  intro s Z G
  refine Call_ (g.run G.W ?_) he
  refine PyProof.Rows.callWith_type1 (wpM (h.run G) fun vs s₁ h₁ => ?_) he2 rfl
  obtain ⟨r, k⟩ := h₁
  obtain ⟨v, rfl, r1⟩ := repAll1 r
  obtain ⟨t, rfl⟩ := r1.int_inv
  refine call_range_1 ⟨k.trans ((Kp.push s₁ _).trans (Kp.toks _ _)), ?_⟩
  have e0 : ((List.range n).map fun i : Nat => PV.int i) = ((List.range n).map fun i : Nat => PV.int (0 + i)) := by simp
  rw [e0]
  exact src_range hh rfl (IsRange.new s₁.heap 0 n 1 _ t _) (by split <;> omega) (by omega) (by omega) (by omega) (by omega)
theorem Src.range2 {np pos : Pos} {e f : Expr} {a b : Int} {n : Nat} (hh : A.handled = none) (g : IsGlob w env "range" (.type "range")) (h : Evs prog w A env ρ [e, f] [.int a, .int b]) (hn : (n : Int) = max 0 (b - a)) (h1 : -1000 ≤ a) (h2 : a ≤ 1000) (h3 : -1000 ≤ b) (h4 : b ≤ 1000)
    (he : eval (.Call (.Name "range" np) [e, f] [] pos) env = (do callWith pos (← eval (.Name "range" np) env) [] (backTo pos (starEach [e, f] env)) (backToKw pos (keywordEach [] env))) := by rfl)
    (he2 : starEach [e, f] env = (false, eval e env) :: starEach [f] env := by rfl) (hp : (backTo pos (starEach [f] env)).any (·.1) = false := by rfl) : Src prog w A env ρ (.Call (.Name "range" np) [e, f] [] pos) ((List.range n).map fun i : Nat => PV.int (a + i)) := by
  intro s Z G
  refine Call_ (g.run G.W ?_) he
  refine PyProof.Rows.callWith_type1 (wpM (h.run G) fun vs s₁ h₁ => ?_) he2 hp
  obtain ⟨r, k⟩ := h₁
  obtain ⟨v, u, rfl, r1, r2⟩ := repAll2 r
  obtain ⟨t, rfl⟩ := r1.int_inv
  obtain ⟨t', rfl⟩ := r2.int_inv
  refine call_range_2 ⟨k.trans ((Kp.push s₁ _).trans (Kp.toks _ _)), ?_⟩
  exact src_range hh rfl (IsRange.new s₁.heap a b 1 t t' _) (by split <;> omega) (by omega) (by omega) (by omega) (by omega)
end
end Mine

/-! M6 -/
namespace Mine
open PySem PySem.W PySem.Calls PyProof.Rows PySem.Spec

section
variable {prog : Program} {w : World} {A : Around} {env : Env} {ρ : Rho}

/-- the tests of a comprehension -/
noncomputable def TestsOK (prog : Program) (w : World) (A : Around) (env : Env) (ρ : Rho) (ifs : List Expr) (b : Bool) : Prop :=
  ∀ (s : Shared) (Z : List Addr), Gd w Z s.heap env ρ →
    wpAny (model prog w) A (forIn ifs true fun c r => if r = true then do let ok ← isTrue c env (eval c env); pure (ForInStep.yield ok) else pure (ForInStep.yield r)) (fun ok s' => ok = b ∧ Kp s s') Nev s
theorem TestsOK.nil : TestsOK prog w A env ρ [] true := fun s _ _ => wpAny_tests_nil ⟨rfl, Kp.refl s⟩
theorem TestsOK.one {e : Expr} {b : Bool} (h : EvT prog w A env ρ e b) : TestsOK prog w A env ρ [e] b := fun s Z G => wpAny_tests_one (h s Z G)

/-- the names that a comprehension takes from around it -/
noncomputable def FreeOK (env cenv : Env) (ρ : Rho) : Rho → Prop
  | [] => True
  | p :: r => (ρ.lookup p.1 = some p.2 ∧ (env.kindOf p.1 = some .cell ∨ env.kindOf p.1 = some .free) ∧ (cenv.kindOf p.1 = some .cell ∨ cenv.kindOf p.1 = some .free) ∧ cenv.cells.lookup p.1 = env.cells.lookup p.1) ∧ FreeOK env cenv ρ r
theorem FreeOK.envOK {env cenv : Env} {ρ : Rho} {Z : List Addr} {h : Heap} (E : EnvOK Z h env ρ) : ∀ {ρ' : Rho}, FreeOK env cenv ρ ρ' → EnvOK Z h cenv ρ'
  | [], _, x, d, e => by simp at e
  | (y, d') :: r, f, x, d, e => by
    obtain ⟨⟨f1, f2, f3, f4⟩, f5⟩ := f
    rw [List.lookup_cons] at e
    cases hb : x == y with
    | true =>
      rw [hb] at e; cases e
      have hxy : x = y := beq_iff_eq.mp hb
      subst hxy
      rcases E x _ f1 with ⟨k, _⟩ | ⟨_, c, v, l, n, r⟩
      · rcases f2 with f2 | f2 <;> rw [k] at f2 <;> cases f2
      · exact .inr ⟨f3, c, v, f4.trans l, n, r⟩
    | false => rw [hb] at e; exact FreeOK.envOK E f5 x d e

noncomputable def compOut (n : Nat) (p : Nat → Bool) (g : Nat → PV) : List PV := ((List.range n).filter p).map g
theorem compOut_succ (n : Nat) (p : Nat → Bool) (g : Nat → PV) : compOut (n + 1) p g = compOut n p g ++ (if p n then [g n] else []) := by
  unfold compOut
  rw [List.range_succ, List.filter_append, List.map_append]
  cases h : p n <;> simp [h]

theorem compLoop {elt iter : Expr} {x : Str} {px : Pos} {ifs : List Expr} {scope : Scope} {pos : Pos} {ds : List PV} {ρ' : Rho} {p : Nat → Bool} {g : Nat → PV} {R : Result → Shared → Prop} {s s₁ s₂ : Shared} {Z : List Addr}
    {I D : Addr} {fp : List Addr} {P : Nat → Value → Prop} {St : Nat → Heap → Prop} {cenv : Env} {m : Str → Option Value}
    (T : ItOK prog w A ds Z s₁ s₂ I fp P St) (hx : cenv.kindOf x = some .local) (hp : (cenv.scope.kind == .class || (cenv.scope.kind == .module && cenv.locals != cenv.globals)) = false)
    (hD : s₂.heap.get? D = none) (hC : s₂.heap.get? cenv.locals = none) (hDC : D ≠ cenv.locals) (hDf : D ∉ fp) (hCf : cenv.locals ∉ fp) (hIf : I ∈ fp)
    (hst : St 0 s.heap) (hacc : s.heap.PlainList D #[]) (hn : s.heap.Ns cenv.locals m) (hu : Up s₂.heap s.heap) (z : ∀ a ∈ Z, ∃ o, s₂.heap.get? a = some o)
    (hW : ∀ s' : Shared, (∀ b o, b ≠ I → s₂.heap.get? b = some o → s'.heap.get? b = some o) → WF w s'.heap ∧ EnvOK (D :: Z) s'.heap cenv ρ' ∧ ∀ i d v, ds[i]? = some d → P i v → Rep (D :: Z) s'.heap d v)
    (htest : ∀ i d, ds[i]? = some d → TestsOK prog w A cenv ((x, d) :: ρ') ifs (p i)) (helt : ∀ i d, ds[i]? = some d → p i = true → Ev prog w A cenv ((x, d) :: ρ') elt (g i))
    (hsz : ds.length ≤ sizeLine)
    (hR : ∀ h' tk m' ys, h'.Ns cenv.locals m' → h'.PlainList D ys → RepAll (D :: Z) h' (compOut ds.length p g) ys.toList → (∀ b o, b ≠ I → s₂.heap.get? b = some o → h'.get? b = some o) → R (.ok .next) { s with heap := h', toks := tk }) :
    codeAny (model prog w) A (.compLoop (.ListComp elt [⟨.Name x px, iter, ifs, 0⟩] scope pos) 0 (.ref I) (.ref D) cenv) R s := by
  have hCI : cenv.locals ≠ I := fun e => hCf (e ▸ hIf)
  have hDI : D ≠ I := fun e => hDf (e ▸ hIf)
  refine codeAny_compLoop_tests
    (fun k s' => ∃ h' tk m' ys, ∃ i : Nat, s' = { s with heap := h', toks := tk } ∧ St i h' ∧ h'.PlainList D ys ∧ h'.Ns cenv.locals m' ∧ RepAll (D :: Z) h' (compOut i p g) ys.toList ∧ i ≤ ds.length ∧ ys.size ≤ i ∧ k = ds.length + 1 - i ∧
      (∀ b o, b ≠ I → s₂.heap.get? b = some o → h'.get? b = some o)) ?_ (ds.length + 1)
    ⟨s.heap, s.toks, m, #[], 0, rfl, hst, hacc, hn, by simp [compOut, RepAll], Nat.zero_le _, Nat.zero_le _, rfl, fun b o _ e => hu b o e⟩
  rintro k s' ⟨H, tk, m', ys, i, rfl, hst', hacc', hn', hF, hi, hys, rfl, hk⟩
  have hnew : ∀ b, s₂.heap.get? b = none → ∀ o, s₂.heap.get? b ≠ some o := fun b e o q => by rw [e] at q; cases q
  by_cases hlt : i < ds.length
  · refine T.walks.item i _ _ _ hlt hst' fun v h₁ tk₁ hPv hst₁ hk₁ => ?_
    have hk₁' : ∀ b o, b ≠ I → H.get? b = some o → h₁.get? b = some o := fun b o hb e => hk₁ b o (fun hm => hb (List.mem_singleton.mp hm)) e
    obtain ⟨oI, vsI, hoI, hdI⟩ := T.own _ _ hst'
    refine wpAny_assign_Name (wpAny_storeName_local hx (hn'.at' fun o e => hk₁' _ o hCI e) (fun h₂ hn₂ hs₂ => ?_) hp)
    have up₂ : ∀ b o, b ≠ cenv.locals → b ≠ I → H.get? b = some o → h₂.get? b = some o := fun b o hbC hbI e => hs₂.extBut b o hbC (hk₁' b o hbI e)
    have old₂ : ∀ b o, b ≠ I → s₂.heap.get? b = some o → h₂.get? b = some o := fun b o hbI e => up₂ b o (fun q => hnew _ hC o (q ▸ e)) hbI (hk b o hbI e)
    have hst₂ : St (i + 1) h₂ := T.walks.frame _ _ _ hst₁ fun b hb o e => hs₂.extBut b o (fun h => hCf (h ▸ hb)) e
    obtain ⟨d, hd, -⟩ := T.item i v hPv
    obtain ⟨W₂, E₂, It₂⟩ := hW { s with heap := h₂, toks := tk₁ + 1 } old₂
    have hF₂ : RepAll (D :: Z) h₂ (compOut i p g) ys.toList := by
      refine RepAll.upZ (fun b o hbZ e hs => ?_) (fun _ q _ => q) _ _ hF
      refine up₂ b o (fun q => ?_) (fun q => ?_) e
      · obtain ⟨oC, es, ep, hoC, hdC, _⟩ := hn'
        rw [q, hoC] at e; cases e
        obtain ⟨xs, n, hs⟩ := hs
        rw [hdC] at hs; cases hs
      · rw [q, hoI] at e; cases e
        obtain ⟨xs, n, hs⟩ := hs
        rw [hdI] at hs; cases hs
    have hacc₂ : h₂.PlainList D ys := hacc'.at fun o e => up₂ _ o hDC hDI e
    have G₂ : Gd w (D :: Z) h₂ cenv ((x, d) :: ρ') := by
      refine ⟨fun a ha => ?_, W₂, fun y e he => ?_⟩
      · rcases List.mem_cons.mp ha with rfl | ha
        · obtain ⟨n, e⟩ := hacc₂; exact ⟨_, e⟩
        · obtain ⟨o, e⟩ := z a ha
          by_cases haI : a = I
          · subst haI
            obtain ⟨o', e'⟩ := T.own _ _ hst₂
            exact ⟨o', e'.choose_spec.1⟩
          · exact ⟨o, old₂ a o haI e⟩
      · rw [List.lookup_cons] at he
        cases hb : y == x with
        | true =>
          rw [hb] at he; cases he
          have hyx : y = x := beq_iff_eq.mp hb
          subst hyx
          exact .inl ⟨hx, _, v, hn₂, by simp, It₂ i d v hd hPv⟩
        | false => rw [hb] at he; exact E₂ y e he
    refine wpE (htest i d hd { s with heap := h₂, toks := tk₁ + 1 } (D :: Z) G₂) fun ok s₃ h₃ => ?_
    obtain ⟨rfl, k₃⟩ := h₃
    obtain ⟨h₃, tk₃, rfl, u₃⟩ := k₃.k
    have hst₃ : St (i + 1) h₃ := T.walks.frame _ _ _ hst₂ fun b _ o e => u₃ b o e
    have hacc₃ : h₃.PlainList D ys := hacc₂.at fun o e => u₃ _ o e
    have hn₃ := hn₂.keeps u₃
    have hF₃ := hF₂.up u₃
    have old₃ : ∀ b o, b ≠ I → s₂.heap.get? b = some o → h₃.get? b = some o := fun b o hb e => u₃ b o (old₂ b o hb e)
    cases hpv : p i with
    | false =>
      simp only [Bool.false_eq_true, if_false]
      exact ⟨ds.length + 1 - (i + 1), by omega, h₃, tk₃, _, ys, i + 1, rfl, hst₃, hacc₃, hn₃, by rw [compOut_succ, hpv]; simpa using hF₃, hlt, by omega, rfl, old₃⟩
    | true =>
      simp only [if_true]
      refine wpE (helt i d hd hpv { s with heap := h₃, toks := tk₃ } (D :: Z) (G₂.up u₃)) fun y s₄ h₄ => ?_
      obtain ⟨ry, k₄⟩ := h₄
      obtain ⟨h₄, tk₄, rfl, u₄⟩ := k₄.k
      refine wpAny_list_append_plain (hsz := by omega) (hacc₃.at fun o e => u₄ _ o e) fun h₅ hl₅ hs₅ => ?_
      have up₅ : UpZ (D :: Z) h₄ h₅ := fun b o hb e _ => hs₅.extBut b o (fun q => hb (by rw [q]; exact List.mem_cons_self)) e
      refine ⟨ds.length + 1 - (i + 1), by omega, h₅, tk₄, _, ys.push y, i + 1, rfl, ?_, hl₅, (hn₃.keeps u₄).sameBut hs₅ (Ne.symm hDC), ?_, hlt, by simp; omega, rfl, ?_⟩
      · exact T.walks.frame _ _ h₅ hst₃ fun b hb o e => hs₅.extBut b o (fun h => hDf (h ▸ hb)) (u₄ b o e)
      · rw [compOut_succ, hpv, if_pos rfl, Array.toList_push]
        refine RepAll.append (RepAll.upZ up₅ (fun _ q _ => q) _ _ (hF₃.up u₄)) ?_
        simp only [RepAll]
        exact ⟨y, [], rfl, Rep.upZ up₅ (fun _ q _ => q) _ _ ry, rfl⟩
      · intro b o hb e
        exact hs₅.extBut b o (fun q => hnew _ hD o (q ▸ e)) (u₄ b o (old₃ b o hb e))
  · have hin : i = ds.length := by omega
    subst hin
    refine T.walks.done _ _ _ hst' fun h₁ tk₁ hk₁ => ?_
    have hk₁' : ∀ b o, b ≠ I → H.get? b = some o → h₁.get? b = some o := fun b o hb e => hk₁ b o (fun hm => hb (List.mem_singleton.mp hm)) e
    obtain ⟨oI, vsI, hoI, hdI⟩ := T.own _ _ hst'
    refine hR h₁ tk₁ m' ys (hn'.at' fun o e => hk₁' _ o hCI e) (hacc'.at fun o e => hk₁' _ o hDI e) ?_ fun b o hb e => hk₁' b o hb (hk b o hb e)
    refine RepAll.upZ (fun b o hbZ e hs => hk₁' b o (fun q => ?_) e) (fun _ q _ => q) _ _ hF
    rw [q, hoI] at e; cases e
    obtain ⟨xs, n, hs⟩ := hs
    rw [hdI] at hs; cases hs

/-- the new list and the new block of a comprehension -/
structure Laid (h : Heap) (D C : Addr) (h₁ : Heap) : Prop where
  dn : h.get? D = none
  cn : h.get? C = none
  ne : D ≠ C
  le : ∀ b, b < h.objs.size → b ≠ D ∧ b ≠ C
  up : Up h h₁
  lst : h₁.PlainList D #[]
theorem Laid.of {h h₁ : Heap} {o : Obj} (k : Heap.SameBut (h.push (seqObj "list" #[] 0)).objs.size ((h.push (seqObj "list" #[] 0)).push o) h₁) : Laid h h.objs.size (h.push (seqObj "list" #[] 0)).objs.size h₁ := by
  have e : (h.push (seqObj "list" #[] 0)).objs.size = h.objs.size + 1 := Heap.size_push ..
  have le : ∀ b, b < h.objs.size → b ≠ h.objs.size ∧ b ≠ (h.push (seqObj "list" #[] 0)).objs.size := fun b hb => by rw [e]; exact ⟨Nat.ne_of_lt hb, Nat.ne_of_lt (Nat.lt_succ_of_lt hb)⟩
  have ne : h.objs.size ≠ (h.push (seqObj "list" #[] 0)).objs.size := by rw [e]; exact (Nat.succ_ne_self _).symm
  have add : ∀ b ob, b ≠ (h.push (seqObj "list" #[] 0)).objs.size → (h.push (seqObj "list" #[] 0)).get? b = some ob → h₁.get? b = some ob := fun b ob hb q => k.extBut b ob hb (Heap.get?_push_of_some _ q)
  exact ⟨fresh_none h, Heap.get?_none_of_le (by rw [e]; exact Nat.le_succ _), ne, le, fun b ob q => add b ob (le b (Heap.lt_size q)).2 (Heap.get?_push_of_some _ q), 0, add _ _ ne (Heap.get?_push_size _ rfl)⟩

theorem compCore {elt iter : Expr} {x : Str} {px : Pos} {ifs : List Expr} {scope : Scope} {cl : List (Str × Addr)} {pos : Pos} {ds : List PV} {ρ' : Rho} {p : Nat → Bool} {g : Nat → PV} {s₁ s₂ : Shared} {Z : List Addr} {I : Addr} {fp : List Addr} {P : Nat → Value → Prop} {St : Nat → Heap → Prop}
    {RR : Value → Addr → Result → Shared → Prop} (T : ItOK prog w A ds Z s₁ s₂ I fp P St) (k₂ : Kp s₁ s₂) (G₁ : Gd w Z s₁.heap env ρ) (hsz : ds.length ≤ 1000)
    (htest : ∀ C i d, ds[i]? = some d → TestsOK prog w A (compEnvC scope cl C env) ((x, d) :: ρ') ifs (p i)) (helt : ∀ C i d, ds[i]? = some d → p i = true → Ev prog w A (compEnvC scope cl C env) ((x, d) :: ρ') elt (g i))
    (hfree : ∀ C, FreeOK env (compEnvC scope cl C env) ρ ρ') (hcell : ∀ y ∈ scope.names, y.2 ≠ .cell) (hkind : scope.kind = .function) (hx : scope.names.lookup x = some .local)
    (hRR : ∀ D C h' tk m' ys, s₂.heap.get? D = none → s₂.heap.get? C = none → D ≠ C → h'.Ns C m' → h'.PlainList D ys → RepAll (D :: Z) h' (compOut ds.length p g) ys.toList → (∀ b o, b ≠ I → s₂.heap.get? b = some o → h'.get? b = some o) →
      RR (.ref D) C (.ok .next) { s₂ with heap := h', toks := tk }) :
    wpAny (model prog w) A (newList []) (fun acc s₃ => wpAny (model prog w) A (newFunctionEnv scope env.globals cl [] env.qual none .none (some env)) (fun cenv s₄ =>
      codeAny (model prog w) A (.compStart (.ListComp elt [⟨.Name x px, iter, ifs, 0⟩] scope pos) 0 (.ref I) acc { cenv with scope := relabel scope env }) (RR acc cenv.locals) s₄) Nev s₃) Nev s₂ := by
  have hIf : I ∈ fp := T.walks.sub I (List.mem_singleton.mpr rfl)
  refine wpAny_newList (wpAny_newFunctionEnv hcell (fun y hy => nomatch hy) (fun h₁ n₁ k₁ => ?_) hkind) (by simp)
  have Ld : Laid s₂.heap _ _ h₁ := Laid.of k₁
  have hst₁ : St 0 h₁ := T.walks.frame _ _ _ T.st fun b _ o e => Ld.up b o e
  have away : ∀ a, a ∈ fp → a ≠ s₂.heap.objs.size ∧ a ≠ (s₂.heap.push (seqObj "list" #[] 0)).objs.size := fun a ha => Ld.le a (T.below a ha)
  have back : ∀ s' : Shared, (∀ b o, b ≠ I → s₂.heap.get? b = some o → s'.heap.get? b = some o) → Up s₁.heap s'.heap := fun s' hk b o e =>
    hk b o (fun q => by rw [q, T.new] at e; cases e) (k₂.u b o e)
  have run : codeAny (model prog w) A (.compLoop (.ListComp elt [⟨.Name x px, iter, ifs, 0⟩] scope pos) 0 (.ref I) (.ref s₂.heap.objs.size) (compEnvC scope cl (s₂.heap.push (seqObj "list" #[] 0)).objs.size env))
      (RR (.ref s₂.heap.objs.size) (s₂.heap.push (seqObj "list" #[] 0)).objs.size) { s₂ with heap := h₁, toks := s₂.toks + 0 } := by
    refine compLoop (cenv := compEnvC scope cl (s₂.heap.push (seqObj "list" #[] 0)).objs.size env) (ρ' := ρ') (p := p) (g := g) T (lookup_relabel_local hx) (by simp [compEnvC, relabel, hkind]) Ld.dn Ld.cn Ld.ne (fun q => (away _ q).1 rfl) (fun q => (away _ q).2 rfl) hIf hst₁ Ld.lst n₁ Ld.up
      (fun a ha => let ⟨o, e⟩ := G₁.z a ha; ⟨o, k₂.u a o e⟩) (fun s' hk => ?_) (htest _) (helt _) (Nat.le_trans hsz (by decide)) fun h' tk m' ys hn hl hr hk => ?_
    · have u := back s' hk
      refine ⟨G₁.W.up u, fun y d e => ?_, fun i d v hd hP => ?_⟩
      · exact ((hfree _).envOK G₁.E y d e).new u (by
          cases e : s₁.heap.get? s₂.heap.objs.size with
          | none => rfl
          | some o => exact absurd (Heap.lt_size (k₂.u _ _ e)) (Nat.lt_irrefl _))
      · obtain ⟨d', hd', r⟩ := T.item i v hP
        rw [hd] at hd'; cases hd'
        refine Rep.upZ (fun b o _ e hs => hk b o (fun q => ?_) e) (fun a ha ho q => ?_) _ _ r
        · obtain ⟨oI, vsI, hoI, hdI⟩ := T.own _ _ T.st
          rw [q, hoI] at e; cases e
          obtain ⟨xs, n, hs⟩ := hs
          rw [hdI] at hs; cases hs
        · rcases List.mem_cons.mp q with rfl | q
          · obtain ⟨o, e⟩ := ho; exact absurd (Heap.lt_size e) (Nat.lt_irrefl _)
          · exact ha q
    · exact hRR _ _ h' tk m' ys Ld.dn Ld.cn Ld.ne hn hl hr hk
  exact codeAny_compStart_list run (T.walks.self 0 _ _ _ hst₁ run)

/-- the list that a comprehension hands on -/
theorem compList {Z : List Addr} {s₁ s₂ : Shared} {D I C : Addr} {h' h'' : Heap} {tk : Nat} {m' : Str → Option Value} {xs : List PV} {ys : Array Value} (z : ∀ a ∈ Z, ∃ o, s₂.heap.get? a = some o) (hI : s₁.heap.get? I = none) (k₂ : Kp s₁ s₂)
    (hD : s₂.heap.get? D = none) (hC : s₂.heap.get? C = none) (hDC : D ≠ C) (hn : h'.Ns C m') (hl : h'.PlainList D ys) (hr : RepAll (D :: Z) h' xs ys.toList) (hk : ∀ b o, b ≠ I → s₂.heap.get? b = some o → h'.get? b = some o) (hs : Heap.SameBut C h' h'') :
    Rep Z h'' (.list xs) (.ref D) ∧ Kp s₁ { s₂ with heap := h'', toks := tk } := by
  have hl' : h''.PlainList D ys := hl.extBut hs.extBut hDC
  obtain ⟨n, el⟩ := hl'
  refine ⟨Rep.list_mk (vs := ys.toList) (fun q => ?_) ⟨_, el, rfl, n, by rw [Array.toArray_toList]⟩ ?_, ?_⟩
  · obtain ⟨o, e⟩ := z _ q
    rw [hD] at e; cases e
  · refine (RepAll.upZ (fun b o hb e hq => hs.extBut b o (fun q => ?_) e) (fun _ q _ => q) _ _ hr).sub fun a ha => List.mem_cons_of_mem _ ha
    obtain ⟨oC, es, ep, hoC, hdC, _⟩ := hn
    rw [q, hoC] at e; cases e
    obtain ⟨xs, n, hq⟩ := hq
    rw [hdC] at hq; cases hq
  · obtain ⟨h2, t2, rfl, u2'⟩ := k₂.k
    refine Kp.mk' (s := s₁) (h' := h'') (tk := tk) fun b o e => ?_
    have e2 := hk b o (fun q => by rw [q, hI] at e; cases e) (u2' b o e)
    refine hs.extBut b o (fun q => ?_) e2
    have := u2' b o e
    rw [q] at this
    rw [show h2.get? C = none from hC] at this; cases this

theorem Ev.comp {elt iter : Expr} {x : Str} {px : Pos} {ifs : List Expr} {scope : Scope} {cl : List (Str × Addr)} {pos : Pos} {ds : List PV} {ρ' : Rho} {p : Nat → Bool} {g : Nat → PV}
    (hs : Src prog w A env ρ iter ds) (hsz : ds.length ≤ 1000) (hclos : closureFor scope env = pure cl)
    (htest : ∀ C i d, ds[i]? = some d → TestsOK prog w A (compEnvC scope cl C env) ((x, d) :: ρ') ifs (p i)) (helt : ∀ C i d, ds[i]? = some d → p i = true → Ev prog w A (compEnvC scope cl C env) ((x, d) :: ρ') elt (g i))
    (hfree : ∀ C, FreeOK env (compEnvC scope cl C env) ρ ρ')
    (hcell : ∀ y ∈ scope.names, y.2 ≠ .cell := by decide) (hkind : scope.kind = .function := by rfl)
    (hnames : ∀ y ∈ scope.names, y.2 = .local → scope.names.lookup y.1 = some .local := by decide) (hx : scope.names.lookup x = some .local := by rfl)
    (hf : ∀ x, foldedSetIterable iter env x = pure x := by intro _; rfl) :
    Ev prog w A env ρ (.ListComp elt [⟨.Name x px, iter, ifs, 0⟩] scope pos) (.list (compOut ds.length p g)) := by
  intro s Z G
  rw [eval_ListComp]
  refine wpAny_comprehension_free (use := none) rfl hf hclos hkind hnames (wpM (hs s Z G) fun xv s₁ h₁ => ?_)
  obtain ⟨k₁, it₁⟩ := h₁
  refine wpM it₁ fun it s₂ h₂ => ?_
  obtain ⟨k₂, I, fp, P, St, rfl, T⟩ := h₂
  refine compCore (RR := fun acc C => compPost (model prog w) A Nev none (fun v s' => Rep Z s'.heap (.list (compOut ds.length p g)) v ∧ Kp s s') acc C) T k₂ (G.up k₁.u) hsz htest helt hfree hcell hkind hx ?_
  intro D C h' tk m' ys hD hC hDC hn hl hr hk
  refine ⟨m', hn, fun h'' hs'' => ?_⟩
  have := compList (tk := tk) (G.up (k₁.trans k₂).u).z T.new k₂ hD hC hDC hn hl hr hk hs''
  exact ⟨this.1, k₁.trans this.2⟩
end
end Mine

/-! M7 -/
namespace Mine
open PySem PySem.W PySem.Calls PyProof.Rows PySem.Spec

/-! the sort of up to 63 items, its questions answered by a strict total order -/
structure Ord (n : Nat) (lt : Nat → Nat → Bool) : Prop where
  irr : ∀ a, lt a a = false
  tr : ∀ a b c, lt a b = true → lt b c = true → lt a c = true
  tot : ∀ a b, a < n → b < n → a ≠ b → lt a b = true ∨ lt b a = true
theorem Ord.asymm {n : Nat} {lt : Nat → Nat → Bool} (O : Ord n lt) {a b : Nat} (h : lt a b = true) : lt b a = false := by
  cases h' : lt b a with
  | false => rfl
  | true => have := O.tr _ _ _ h h'; rw [O.irr] at this; cases this

noncomputable abbrev gp (p : Array Nat) (i : Nat) : Nat := p.getD i 0
structure Pm (n : Nat) (p : Array Nat) : Prop where
  size : p.size = n
  lt : ∀ i, i < n → gp p i < n
  inj : ∀ i j, i < n → j < n → gp p i = gp p j → i = j
  perm : p.toList.Perm (List.range n)
theorem gp_eq {p : Array Nat} {i x : Nat} (h : p[i]? = some x) : gp p i = x := by
  have := (Array.getElem?_eq_some_iff.mp h)
  obtain ⟨hi, e⟩ := this
  simp [gp, Array.getD, hi, e]
theorem gp_some {p : Array Nat} {i : Nat} (h : i < p.size) : p[i]? = some (gp p i) := by
  simp [gp, Array.getD, h]
theorem gp_congr {p q : Array Nat} {i j : Nat} (hj : j < q.size) (h : p[i]? = q[j]?) : gp p i = gp q j := gp_eq (h.trans (gp_some hj))
theorem Pm.move {n : Nat} {p q : Array Nat} (P : Pm n p) (hs : q.size = n) (f : Nat → Nat) (hf : ∀ i, i < n → f i < n) (hi : ∀ i j, i < n → j < n → f i = f j → i = j) (h : ∀ i, i < n → gp q i = gp p (f i)) (hq : q.Perm p) : Pm n q :=
  ⟨hs, fun i hi' => by rw [h i hi']; exact P.lt _ (hf i hi'), fun i j h1 h2 e => hi i j h1 h2 (P.inj _ _ (hf i h1) (hf j h2) (by rw [← h i h1, ← h j h2]; exact e)), (Array.perm_iff_toList_perm.mp hq).trans P.perm⟩
theorem Pm.range (n : Nat) : Pm n (List.toArray (List.range n)) := by
  have h : ∀ i, i < n → gp (List.toArray (List.range n)) i = i := fun i hi => gp_eq (by simp [hi])
  exact ⟨by simp, fun i hi => by rw [h i hi]; exact hi, fun i j h1 h2 e => by rw [h i h1, h j h2] at e; exact e, List.Perm.refl _⟩

section
variable {n : Nat} {lt : Nat → Nat → Bool} {cmp : Nat → Nat → (Bool → Shared → Prop) → Shared → Prop} {s : Shared}
noncomputable def Asc (lt : Nat → Nat → Bool) (p : Array Nat) (k : Nat) : Prop := ∀ i j, i < j → j < k → lt (gp p i) (gp p j) = true
noncomputable def Dsc (lt : Nat → Nat → Bool) (p : Array Nat) (k : Nat) : Prop := ∀ i j, i < j → j < k → lt (gp p j) (gp p i) = true

theorem srt_asc (O : Ord n lt) (hc : ∀ i j C, i < n → j < n → C (lt i j) s → cmp i j C s) {p : Array Nat} (P : Pm n p) {Q : Nat → Shared → Prop} : ∀ (f m : Nat), 1 ≤ m → m + f ≤ n → Asc lt p m →
    (∀ r, m ≤ r → r ≤ m + f → Asc lt p r → (r < m + f → lt (gp p r) (gp p (r - 1)) = true) → Q r s) → (kas_asc p f m).kasWp cmp Q s
  | 0, m, h1, hf, ha, hQ => hQ m (Nat.le_refl _) (Nat.le_refl _) ha (by omega)
  | f + 1, m, h1, hf, ha, hQ => by
    show cmp (gp p m) (gp p (m - 1)) (fun c s' => (if c = true then KasT.ret m else kas_asc p f (m + 1)).kasWp cmp Q s') s
    refine hc _ _ _ (P.lt _ (by omega)) (P.lt _ (by omega)) ?_
    cases h : lt (gp p m) (gp p (m - 1)) with
    | true => rw [if_pos rfl]; exact hQ m (Nat.le_refl _) (by omega) ha (fun _ => h)
    | false =>
      rw [if_neg (by simp)]
      have hlt : lt (gp p (m - 1)) (gp p m) = true := by
        rcases O.tot _ _ (P.lt (m - 1) (by omega)) (P.lt m (by omega)) (fun e => by have := P.inj _ _ (by omega) (by omega) e; omega) with h' | h'
        · exact h'
        · rw [h] at h'; cases h'
      refine srt_asc O hc P f (m + 1) (by omega) (by omega) (fun i j hij hj => ?_) fun r h2 h3 h4 h5 => hQ r (by omega) (by omega) h4 (fun h6 => h5 (by omega))
      rcases Nat.lt_or_ge j m with h' | h'
      · exact ha i j hij h'
      · have : j = m := by omega
        subst this
        rcases Nat.lt_or_ge i (j - 1) with h'' | h''
        · exact O.tr _ _ _ (ha i (j - 1) h'' (by omega)) hlt
        · have : i = j - 1 := by omega
          subst this; exact hlt

theorem srt_desc (O : Ord n lt) (hc : ∀ i j C, i < n → j < n → C (lt i j) s → cmp i j C s) {p : Array Nat} (P : Pm n p) {Q : Array Nat × Nat × Nat → Shared → Prop} : ∀ (f m : Nat), 1 ≤ m → m + f ≤ n → Dsc lt p m →
    (∀ r, m ≤ r → r ≤ m + f → Dsc lt p r → Q (p, r, 0) s) → (kas_desc f p m 0).kasWp cmp Q s
  | 0, m, h1, hf, ha, hQ => hQ m (Nat.le_refl _) (Nat.le_refl _) ha
  | f + 1, m, h1, hf, ha, hQ => by
    show cmp (gp p m) (gp p (m - 1)) (fun c s' => (if c = true then (if 0 > 0 then kas_desc f (kas_rev p (m - (0 + 1)) m) (m + 1) 0 else kas_desc f p (m + 1) 0)
      else KasT.ask (gp p (m - 1)) (gp p m) fun d => if d = true then KasT.ret (p, m, 0) else kas_desc f p (m + 1) (0 + 1)).kasWp cmp Q s') s
    refine hc _ _ _ (P.lt _ (by omega)) (P.lt _ (by omega)) ?_
    cases h : lt (gp p m) (gp p (m - 1)) with
    | true =>
      rw [if_pos rfl, if_neg (by omega)]
      refine srt_desc O hc P f (m + 1) (by omega) (by omega) (fun i j hij hj => ?_) fun r h2 h3 h4 => hQ r (by omega) (by omega) h4
      rcases Nat.lt_or_ge j m with h' | h'
      · exact ha i j hij h'
      · have : j = m := by omega
        subst this
        rcases Nat.lt_or_ge i (j - 1) with h'' | h''
        · exact O.tr _ _ _ h (ha i (j - 1) h'' (by omega))
        · have : i = j - 1 := by omega
          subst this; exact h
    | false =>
      rw [if_neg (by simp)]
      show cmp (gp p (m - 1)) (gp p m) (fun d s' => (if d = true then KasT.ret (p, m, 0) else kas_desc f p (m + 1) (0 + 1)).kasWp cmp Q s') s
      refine hc _ _ _ (P.lt _ (by omega)) (P.lt _ (by omega)) ?_
      have hlt : lt (gp p (m - 1)) (gp p m) = true := by
        rcases O.tot _ _ (P.lt (m - 1) (by omega)) (P.lt m (by omega)) (fun e => by have := P.inj _ _ (by omega) (by omega) e; omega) with h' | h'
        · exact h'
        · rw [h] at h'; cases h'
      rw [hlt, if_pos rfl]
      exact hQ m (Nat.le_refl _) (by omega) ha

theorem rev_gp {p : Array Nat} {m k : Nat} (hm : m ≤ p.size) (hk : k < p.size) : gp (kas_rev p 0 m) k = if k < m then gp p (m - 1 - k) else gp p k := by
  have h := getElem?_mirror_all (xs := p) (i := 0) (j := m) hm k
  show gp (mirror p 0 m ((m - 0) / 2)) k = _
  by_cases hkm : k < m
  · rw [if_pos ⟨Nat.zero_le _, hkm⟩] at h
    rw [if_pos hkm]
    have := gp_congr (by omega) h
    rw [this]; congr 1; omega
  · rw [if_neg (by omega)] at h
    rw [if_neg hkm]
    exact gp_congr hk h
theorem Pm.rev {p : Array Nat} {m : Nat} (P : Pm n p) (hm : m ≤ n) : Pm n (kas_rev p 0 m) := by
  have hp := P.size
  refine P.move ((kas_rev_size (p := p) 0 m).trans P.size) (fun i => if i < m then m - 1 - i else i) (fun i hi => ?_) (fun i j hi hj e => ?_) (fun i hi => ?_) ?_
  · split <;> omega
  · split at e <;> split at e <;> omega
  · rw [rev_gp (by omega) (by omega)]; split <;> rfl
  · exact mirror_perm _ _ _ _

theorem srt_tail3 (O : Ord n lt) (hc : ∀ i j C, i < n → j < n → C (lt i j) s → cmp i j C s) {p : Array Nat} (P : Pm n p) {m : Nat} (h1 : 1 ≤ m) (hm : m ≤ n) (hd : Dsc lt p m) {Q : Nat × Array Nat → Shared → Prop}
    (hQ : ∀ r q, 1 ≤ r → r ≤ n → Pm n q → Asc lt q r → Q (r, q) s) : (kas_tail3 m n p).kasWp cmp Q s := by
  have hp := P.size
  unfold kas_tail3
  rw [KasT.kasWp_bind]
  refine srt_asc O hc (P.rev hm) (n - m) m h1 (by omega) (fun i j hij hj => ?_) fun r h2 h3 h4 _ => hQ r _ (by omega) (by omega) (P.rev hm) h4
  rw [rev_gp (by omega) (by omega), rev_gp (by omega) (by omega), if_pos (by omega), if_pos (by omega)]
  exact hd _ _ (by omega) (by omega)

theorem srt_count (O : Ord n lt) (h2 : 2 ≤ n) (hc : ∀ i j C, i < n → j < n → C (lt i j) s → cmp i j C s) {p : Array Nat} (P : Pm n p) {Q : Nat × Array Nat → Shared → Prop}
    (hQ : ∀ r q, 1 ≤ r → r ≤ n → Pm n q → Asc lt q r → Q (r, q) s) : (kas_count n p).kasWp cmp Q s := by
  unfold kas_count
  rw [KasT.kasWp_bind]
  refine srt_asc O hc P (n - 1) 1 (Nat.le_refl _) (by omega) (fun i j hij hj => by omega) fun r h3 h4 h5 h6 => ?_
  by_cases e : (r == n) = true
  · rw [if_pos e]; exact hQ r p h3 (by omega) P h5
  · rw [if_neg e]
    have hrn : r ≠ n := fun q => e (by rw [q]; exact beq_self_eq_true _)
    by_cases e2 : r > 1
    · rw [if_pos e2]
      show cmp (gp p 0) (gp p (r - 1)) (fun c s' => (if c = true then KasT.ret (r, p) else kas_descPart r n (kas_rev p 0 r)).kasWp cmp Q s') s
      refine hc _ _ _ (P.lt _ (by omega)) (P.lt _ (by omega)) ?_
      rw [h5 0 (r - 1) (by omega) (by omega), if_pos rfl]
      exact hQ r p h3 (by omega) P h5
    · rw [if_neg e2]
      have hr1 : r = 1 := by omega
      subst hr1
      have hlt := h6 (by omega)
      unfold kas_descPart
      rw [KasT.kasWp_bind]
      refine srt_desc O hc P (n - (1 + 1)) (1 + 1) (by omega) (by omega) (fun i j hij hj => ?_) fun r h7 h8 h9 => ?_
      · have : i = 0 := by omega
        have : j = 1 := by omega
        subst i j; exact hlt
      · dsimp only
        rw [if_neg (by omega)]
        exact srt_tail3 O hc P (by omega) (by omega) h9 hQ

theorem srt_place (O : Ord n lt) (hc : ∀ i j C, i < n → j < n → C (lt i j) s → cmp i j C s) {p : Array Nat} (P : Pm n p) {k : Nat} (hk : k < n) (ha : Asc lt p k) {Q : Nat → Shared → Prop}
    (hQ : ∀ l, l ≤ k → (∀ i, i < l → lt (gp p i) (gp p k) = true) → (∀ i, l ≤ i → i < k → lt (gp p k) (gp p i) = true) → Q l s) : ∀ (f l r : Nat), l ≤ r → r ≤ k → r ≤ l + f →
    (∀ i, i < l → lt (gp p i) (gp p k) = true) → (∀ i, r ≤ i → i < k → lt (gp p k) (gp p i) = true) → (kas_place p k f l r).kasWp cmp Q s
  | 0, l, r, h1, h2, h3, h4, h5 => hQ l (by omega) h4 fun i h6 h7 => h5 i (by omega) h7
  | f + 1, l, r, h1, h2, h3, h4, h5 => by
    unfold kas_place
    by_cases hlr : l ≥ r
    · rw [if_pos hlr]
      exact hQ l (by omega) h4 fun i h6 h7 => h5 i (by omega) h7
    · rw [if_neg hlr]
      show cmp (gp p k) (gp p ((l + r) / 2)) (fun c s' => (if c = true then kas_place p k f l ((l + r) / 2) else kas_place p k f ((l + r) / 2 + 1) r).kasWp cmp Q s') s
      refine hc _ _ _ (P.lt _ hk) (P.lt _ (by omega)) ?_
      cases h : lt (gp p k) (gp p ((l + r) / 2)) with
      | true =>
        rw [if_pos rfl]
        refine srt_place O hc P hk ha hQ f l ((l + r) / 2) (by omega) (by omega) (by omega) h4 fun i h6 h7 => ?_
        rcases Nat.lt_or_ge ((l + r) / 2) i with h8 | h8
        · exact O.tr _ _ _ h (ha _ _ h8 h7)
        · have : i = (l + r) / 2 := by omega
          rw [this]; exact h
      | false =>
        rw [if_neg (by simp)]
        have hlt : lt (gp p ((l + r) / 2)) (gp p k) = true := by
          rcases O.tot _ _ (P.lt ((l + r) / 2) (by omega)) (P.lt k hk) (fun e => by have := P.inj _ _ (by omega) hk e; omega) with h' | h'
          · exact h'
          · rw [h] at h'; cases h'
        refine srt_place O hc P hk ha hQ f ((l + r) / 2 + 1) r (by omega) h2 (by omega) (fun i h6 => ?_) h5
        rcases Nat.lt_or_ge i ((l + r) / 2) with h8 | h8
        · exact O.tr _ _ _ (ha _ _ h8 (by omega)) hlt
        · have : i = (l + r) / 2 := by omega
          rw [this]; exact hlt

theorem bub_gp {p : Array Nat} {k l i : Nat} (hk : k < p.size) (hl : l ≤ k) (hi : i < p.size) : gp (bubble p k (k - l)) i = if i = l then gp p k else if l < i ∧ i ≤ k then gp p (i - 1) else gp p i := by
  have h := getElem?_bubble hk (k - l) (by omega) i
  have e : k - (k - l) = l := by omega
  rw [e] at h
  by_cases h1 : i = l
  · rw [if_pos h1] at h ⊢; exact gp_congr hk h
  · rw [if_neg h1] at h ⊢
    by_cases h2 : l < i ∧ i ≤ k
    · rw [if_pos h2] at h ⊢; exact gp_congr (by omega) h
    · rw [if_neg h2] at h ⊢; exact gp_congr hi h
theorem Pm.bub {p : Array Nat} {k l : Nat} (P : Pm n p) (hk : k < n) (hl : l ≤ k) : Pm n (bubble p k (k - l)) := by
  have hp := P.size
  refine P.move ((bubble_size _ _ _).trans P.size) (fun i => if i = l then k else if l < i ∧ i ≤ k then i - 1 else i) (fun i hi => ?_) (fun i j hi hj e => ?_) (fun i hi => ?_) ?_
  · repeat' split
    all_goals omega
  · repeat' split at e
    all_goals omega
  · rw [bub_gp (by omega) hl (by omega)]; repeat' split
    all_goals rfl
  · exact bubble_perm _ _ _

theorem srt_bin (O : Ord n lt) (hc : ∀ i j C, i < n → j < n → C (lt i j) s → cmp i j C s) {Q : Array Nat → Shared → Prop} (hQ : ∀ q, Pm n q → Asc lt q n → Q q s) : ∀ (f : Nat) (p : Array Nat) (k : Nat), Pm n p → k + f = n → Asc lt p k →
    (kas_bin f p k).kasWp cmp Q s
  | 0, p, k, P, e, ha => hQ p P (by have : k = n := by omega
                                    rw [← this]; exact ha)
  | f + 1, p, k, P, e, ha => by
    rw [show kas_bin (f + 1) p k = (kas_place p k k 0 k).bind fun l => kas_bin f (bubble p k (k - l)) (k + 1) from rfl, KasT.kasWp_bind]
    have hp := P.size
    refine srt_place O hc P (by omega) ha (fun l hl h1 h2 => ?_) k 0 k (Nat.zero_le _) (Nat.le_refl _) (by omega) (fun i h => by omega) (fun i h h' => by omega)
    refine srt_bin O hc hQ f _ (k + 1) (P.bub (by omega) hl) (by omega) fun i j hij hj => ?_
    rw [bub_gp (by omega) hl (by omega), bub_gp (by omega) hl (by omega)]
    by_cases a1 : i = l
    · rw [if_pos a1, if_neg (by omega), if_pos (by omega)]
      exact h2 _ (by omega) (by omega)
    · rw [if_neg a1]
      by_cases a2 : l < i ∧ i ≤ k
      · rw [if_pos a2, if_neg (by omega), if_pos (by omega)]
        exact ha _ _ (by omega) (by omega)
      · rw [if_neg a2]
        by_cases b1 : j = l
        · rw [if_pos b1]; exact h1 _ (by omega)
        · rw [if_neg b1]
          by_cases b2 : l < j ∧ j ≤ k
          · rw [if_pos b2]
            rcases Nat.lt_or_ge i (j - 1) with h | h
            · exact ha _ _ h (by omega)
            · omega
          · rw [if_neg b2]; exact ha _ _ hij (by omega)

theorem srt_all (O : Ord n lt) (h2 : 2 ≤ n) (hc : ∀ i j C, i < n → j < n → C (lt i j) s → cmp i j C s) {Q : Array Nat → Shared → Prop} (hQ : ∀ q, Pm n q → Asc lt q n → Q q s) : (kas_sort n).kasWp cmp Q s := by
  unfold kas_sort
  rw [KasT.kasWp_bind]
  refine srt_count O h2 hc (Pm.range n) fun r q h1 hr P ha => ?_
  dsimp only
  by_cases h : r < n
  · rw [if_pos h]
    have : max r 1 = r := by omega
    rw [this]
    exact srt_bin O hc hQ (n - r) q r P (by omega) ha
  · rw [if_neg h]
    have : r = n := by omega
    subst this
    exact hQ q P ha
end
end Mine

/-! M8 -/
namespace Mine
open PySem PySem.W PySem.Calls PyProof.Rows PySem.Spec

theorem sorted_unique {lt : Nat → Nat → Bool} (has : ∀ a b, lt a b = true → lt b a = false) : ∀ {a b : List Nat}, a.Perm b → a.Pairwise (fun x y => lt x y = true) → b.Pairwise (fun x y => lt x y = true) → a = b
  | [], b, h, _, _ => (List.Perm.nil_eq h)
  | x :: a, [], h, _, _ => absurd h.length_eq (by simp)
  | x :: a, y :: b, h, ha, hb => by
    have hxy : x = y := by
      have hx : x ∈ y :: b := h.subset List.mem_cons_self
      have hy : y ∈ x :: a := h.symm.subset List.mem_cons_self
      rcases List.mem_cons.mp hx with e | hx
      · exact e
      · rcases List.mem_cons.mp hy with e | hy
        · exact e.symm
        · have h1 := (List.pairwise_cons.mp ha).1 y hy
          have h2 := (List.pairwise_cons.mp hb).1 x hx
          rw [has _ _ h1] at h2; cases h2
    subst hxy
    rw [sorted_unique has (List.Perm.cons_inv h) (List.pairwise_cons.mp ha).2 (List.pairwise_cons.mp hb).2]
theorem asc_pairwise {n : Nat} {lt : Nat → Nat → Bool} {p : Array Nat} (P : Pm n p) (h : Asc lt p n) : p.toList.Pairwise (fun x y => lt x y = true) := by
  rw [List.pairwise_iff_getElem]
  intro i j hi hj hij
  have hp := P.size
  have e : ∀ k (hk : k < p.toList.length), p.toList[k] = gp p k := fun k hk => by
    have hk' : k < p.size := by simpa using hk
    simp [gp, Array.getD, hk']
  rw [e, e]
  exact h i j hij (by simp at hj; omega)

/-! tuples of ints and texts, compared -/
inductive Same : List PV → List PV → Prop
  | nil : Same [] []
  | int (a b : Int) {xs ys : List PV} : Same xs ys → Same (.int a :: xs) (.int b :: ys)
  | str (a b : Str) {xs ys : List PV} : Same xs ys → Same (.str a :: xs) (.str b :: ys)
noncomputable def lexB : List PV → List PV → Bool
  | .int a :: xs, .int b :: ys => if a = b then lexB xs ys else decide (a < b)
  | .str a :: xs, .str b :: ys => if a = b then lexB xs ys else decide (a.cps.toList < b.cps.toList)
  | _, _ => false
section
variable {prog : Program} {w : World} {A : Around}
theorem katlex {Z : List Addr} {s : Shared} {b : Bool} {Q : Bool → Shared → Prop} {xs ys : List PV} (hS : Same xs ys) : ∀ {vs us : List Value} {i : Nat}, RepAll Z s.heap xs vs → RepAll Z s.heap ys us → Q (lexB xs ys) s → KatLex prog w A b false Q (vs.zip us) i s := by
  induction hS with
  | nil =>
    intro vs us i r q h
    simp only [RepAll] at r q
    subst r q
    exact kat_nil h
  | int a c _ ih =>
    intro vs us i r q h
    simp only [RepAll, Rep] at r q
    obtain ⟨v, vs', rfl, ⟨t, rfl⟩, r2⟩ := r
    obtain ⟨u, us', rfl, ⟨t', rfl⟩, q2⟩ := q
    rw [List.zip_cons_cons]
    refine kat_cons (wpAny_eqBool_int ?_)
    refine kat_go (fun e => kat_yes (ih r2 q2 ?_)) (fun e => kat_no ?_)
    · have e' : a = c := beq_iff_eq.mp e
      simp only [lexB, if_pos e'] at h; exact h
    · have e' : ¬ a = c := fun q => by rw [q] at e; simp at e
      simp only [lexB, if_neg e'] at h
      cases hb : (b && i == 0) with
      | true => exact oneLt_int h
      | false => exact kat_one _ _ (lt_int h)
  | str a c _ ih =>
    intro vs us i r q h
    simp only [RepAll, Rep] at r q
    obtain ⟨v, vs', rfl, ⟨t, rfl⟩, r2⟩ := r
    obtain ⟨u, us', rfl, ⟨t', rfl⟩, q2⟩ := q
    rw [List.zip_cons_cons]
    refine kat_cons (wpAny_eqBool_str ?_)
    refine kat_go (fun e => kat_yes (ih r2 q2 ?_)) (fun e => kat_no ?_)
    · have e' : a = c := of_decide_eq_true e
      simp only [lexB, if_pos e'] at h; exact h
    · have e' : ¬ a = c := of_decide_eq_false e
      simp only [lexB, if_neg e'] at h
      cases hb : (b && i == 0) with
      | true => exact oneLt_str h
      | false => exact kat_one _ _ (PyProof.Rows.lt_str h)
theorem Same.length {xs ys : List PV} (h : Same xs ys) : xs.length = ys.length := by
  induction h with
  | nil => rfl
  | int _ _ _ ih => simp [ih]
  | str _ _ _ ih => simp [ih]

/-- the first items of the rows are of one kind -/
noncomputable def FirstKind (T : String) (d : PV) : Prop := (T = "int" ∧ ∃ i, d = .int i) ∨ (T = "str" ∧ ∃ x, d = .str x)
theorem katTups {Z : List Addr} {h : Heap} : ∀ {rows : List (List PV)} {vs : List Value}, RepAll Z h (rows.map PV.tup) vs → (∀ r ∈ rows, ∃ d ds, r = d :: ds) →
    ∃ fs, KatTups h vs fs ∧ fs.length = vs.length ∧ ∀ v ∈ fs, ∃ d ds, d :: ds ∈ rows ∧ Rep Z h d v
  | [], vs, r, _ => by simp only [List.map_nil, RepAll] at r; subst r; exact ⟨[], KatTups.nil, rfl, fun _ h => nomatch h⟩
  | x :: rows, vs, r, hne => by
    simp only [List.map_cons, RepAll] at r
    obtain ⟨v, vs', rfl, r1, r2⟩ := r
    obtain ⟨fs, k, kl, kf⟩ := katTups r2 fun r hr => hne r (List.mem_cons_of_mem _ hr)
    obtain ⟨d, ds, rfl⟩ := hne x List.mem_cons_self
    obtain ⟨a, us, rfl, _, ht, hu⟩ := r1.tup_inv
    obtain ⟨f, hf, rf⟩ := hu.get (k := 0) (d := d) rfl
    obtain ⟨o, ho, hc, n, hd⟩ := ht
    refine ⟨f :: fs, KatTups.cons ho hc hd (by simpa using hf) k, by simp [kl], fun v hv => ?_⟩
    rcases List.mem_cons.mp hv with rfl | hv
    · exact ⟨d, ds, List.mem_cons_self, rf⟩
    · obtain ⟨d', ds', hm, r⟩ := kf v hv
      exact ⟨d', ds', List.mem_cons_of_mem _ hm, r⟩

/-- rows, a strict total order upon their numbers, and the numbers in that order -/
structure Rows (rows : List (List PV)) (T : String) (σ : List Nat) : Prop where
  two : 2 ≤ rows.length
  few : rows.length < 64
  first : ∀ r ∈ rows, ∃ d ds, r = d :: ds ∧ FirstKind T d
  same : ∀ i j, i < rows.length → j < rows.length → Same (rows.getD i []) (rows.getD j [])
  ord : Ord rows.length fun i j => lexB (rows.getD i []) (rows.getD j [])
  perm : σ.Perm (List.range rows.length)
  sorted : σ.Pairwise fun i j => lexB (rows.getD i []) (rows.getD j []) = true

theorem sortTree {Z : List Addr} {s : Shared} {rows : List (List PV)} {T : String} {σ : List Nat} {vs : List Value} (O : Rows rows T σ) (r : RepAll Z s.heap (rows.map PV.tup) vs) {Q : Array Nat → Shared → Prop}
    (hQ : ∀ q : Array Nat, q.toList = σ → q.size = vs.length → Q q s) : wpAny (model prog w) A (keyKind' vs.toArray) (fun κ s' => (kas_sort vs.length).kasWp (kas_ask prog w A κ vs) Q s') Nev s := by
  have hl : vs.length = rows.length := by rw [r.length, List.length_map]
  obtain ⟨fs, k, kl, kf⟩ := katTups r fun r hr => let ⟨d, ds, e, _⟩ := O.first r hr; ⟨d, ds, e⟩
  refine kat_kind (T := Value.type T) k (by have := O.two; omega) (fun v hv => ?_) (by simp) ?_
  · obtain ⟨d, ds, hm, rd⟩ := kf v hv
    obtain ⟨d', ds', e, hk⟩ := O.first _ hm
    cases e
    rcases hk with ⟨rfl, i, rfl⟩ | ⟨rfl, i, rfl⟩
    · obtain ⟨t, rfl⟩ := rd.int_inv
      exact Looks.of_pure rfl
    · obtain ⟨t, rfl⟩ := rd.str_inv
      exact Looks.of_pure rfl
  · rw [hl]
    refine srt_all O.ord O.two (fun i j C hi hj hC => ?_) fun q P ha => ?_
    · unfold kas_ask
      have e1 : (rows.map PV.tup)[i]? = some (.tup (rows.getD i [])) := by simp [List.getD, hi]
      have e2 : (rows.map PV.tup)[j]? = some (.tup (rows.getD j [])) := by simp [List.getD, hj]
      obtain ⟨v, hv, rv⟩ := r.get e1
      obtain ⟨u, hu, ru⟩ := r.get e2
      rw [show vs.getD i Value.none = v by simp [List.getD, hv], show vs.getD j Value.none = u by simp [List.getD, hu]]
      obtain ⟨a, us, rfl, _, ⟨o, ho, hc, n, hd⟩, h3⟩ := rv.tup_inv
      obtain ⟨b, us', rfl, _, ⟨o', ho', hc', n', hd'⟩, h4⟩ := ru.tup_inv
      have hS := O.same i j hi hj
      have hlen : us.length = us'.length := by rw [h3.length, h4.length, hS.length]
      refine kat_lt ho hd ho' hd' ?_
      rw [show decide (us.toArray.size < us'.toArray.size) = false by simp [hlen]]
      exact katlex hS h3 h4 hC
    · have e : q.toList = σ := sorted_unique (fun a b h => O.ord.asymm h) (P.perm.trans O.perm.symm) (asc_pairwise P ha) O.sorted
      exact hQ q e (by rw [P.size, hl])
end
end Mine

/-! M9 -/
namespace Mine
open PySem PySem.W PySem.Calls PyProof.Rows PySem.Spec

section
variable {prog : Program} {w : World} {A : Around}
/-- the items go through the permutation -/
theorem RepAll.pick {Z : List Addr} {h : Heap} {xs : List PV} {vs : List Value} (r : RepAll Z h xs vs) : ∀ {σ : List Nat}, (∀ i ∈ σ, i < xs.length) → RepAll Z h (σ.map fun i => xs.getD i (.int 0)) (σ.map fun i => vs.getD i Value.none)
  | [], _ => by simp only [List.map_nil, RepAll]
  | i :: σ, hi => by
    simp only [List.map_cons, RepAll]
    have h1 : i < xs.length := hi i List.mem_cons_self
    obtain ⟨v, hv, rv⟩ := r.get (List.getElem?_eq_getElem h1)
    refine ⟨_, _, rfl, ?_, RepAll.pick r fun j hj => hi j (List.mem_cons_of_mem _ hj)⟩
    rw [show xs.getD i (.int 0) = xs[i] by simp [List.getD, h1], show vs.getD i Value.none = v by simp [List.getD, hv]]
    exact rv

/-- the heap while the list at a is being sorted: it shows as empty -/
noncomputable def bare (h : Heap) (a : Addr) (vs : List Value) : Heap := ((h.update a (Obj.mapSeq fun _ => (#[] : Array Value))).push (seqObj "tuple" vs.toArray 0)).push (seqObj "list" #[] 0)
theorem bare_keep {h : Heap} {a b : Addr} {vs : List Value} {o : Obj} (hb : b ≠ a) (e : h.get? b = some o) : (bare h a vs).get? b = some o :=
  Heap.get?_push_of_some _ (Heap.get?_push_of_some _ ((Heap.get?_update_ne _ _ _ _ hb).trans e))
/-- the heap in which sorted calls sort upon the list that it made -/
noncomputable def twin (h : Heap) (vs : List Value) : Heap := ((h.push (seqObj "list" #[] 0)).update h.objs.size (Obj.mapSeq (· ++ vs.toArray))).push (seqObj "list" vs.toArray 0)
theorem twin_size (h : Heap) (vs : List Value) : ((h.push (seqObj "list" #[] 0)).update h.objs.size (Obj.mapSeq (· ++ vs.toArray))).objs.size = h.objs.size + 1 := (Heap.size_update ..).trans (Heap.size_push ..)
theorem twin_at (h : Heap) (vs : List Value) : (twin h vs).get? (h.objs.size + 1) = some (seqObj "list" vs.toArray 0) := by
  have := Heap.get?_push_size ((h.push (seqObj "list" #[] 0)).update h.objs.size (Obj.mapSeq (· ++ vs.toArray))) (o := seqObj "list" vs.toArray 0) rfl
  rwa [twin_size] at this
theorem twin_up (h : Heap) (vs : List Value) : Up h (twin h vs) := fun _ _ e =>
  Heap.get?_push_of_some _ ((Heap.get?_update_ne _ _ _ _ (Nat.ne_of_lt (Heap.lt_size e))).trans (Heap.get?_push_of_some _ e))
/-- the items in the order σ -/
noncomputable def byσ (σ : List Nat) (vs : List Value) : Array Value := List.toArray (σ.map fun i => vs.getD i Value.none)

theorem listSort {Z : List Addr} {s : Shared} {rows : List (List PV)} {T : String} {σ : List Nat} {vs : List Value} {a : Addr} {n : Nat} {P : PySem.Fin → Shared → Prop} (O : Rows rows T σ)
    (ho : s.heap.get? a = some (seqObj "list" vs.toArray n)) (r : ∀ h', (∀ b o, b ≠ a → s.heap.get? b = some o → h'.get? b = some o) → RepAll Z h' (rows.map PV.tup) vs)
    (hP : ∀ h', (∀ b o, b ≠ a → s.heap.get? b = some o → h'.get? b = some o) → h'.IsList a (byσ σ vs) → P (.done (.ret .none)) { s with heap := h' }) :
    wpAny (model prog w) A (Builtin.«list.sort» ⟨[.ref a], []⟩) P Nev s := by
  have many : vs.length = rows.length := by rw [(r s.heap fun b o _ e => e).length, List.length_map]
  have lo := O.two
  have hi := O.few
  have line : vs.toArray.size ≤ sizeLine := by rw [List.size_toArray, sizeLine_eq]; omega
  obtain ⟨m, hm⟩ : ∃ m, (s.heap.update a (Obj.mapSeq fun _ => (#[] : Array Value))).get? a = some (seqObj "list" #[] m) := ⟨_, get?_update_seq ho fun _ => #[]⟩
  have hb : (bare s.heap a vs).get? a = some (seqObj "list" #[] m) := Heap.get?_push_of_some _ (Heap.get?_push_of_some _ hm)
  have long : ¬ vs.toArray.size < 2 := by rw [List.size_toArray, many]; omega
  rw [list_sort_plain]
  refine wpAny_bind (listItems_at ho rfl (wpAny_bind (listUpdate_at ho rfl (wpAny_bind (seqEpoch_at hm rfl (wpAny_bind (wpAny_newTuple (wpAny_bind (wpAny_newList (wpAny_holding ?_) (by simp))) (by rw [many, sizeLine_eq]; omega))))) line (Nat.zero_le _))))
  show wpAny (model prog w) A _ P Nev { s with heap := bare s.heap a vs }
  dsimp only
  rw [if_neg long, if_neg long]
  refine wpAny_bind (wpM (sortTree (s := { s with heap := bare s.heap a vs }) (Q := fun q s' => q.toList = σ ∧ q.size = vs.length ∧ s' = { s with heap := bare s.heap a vs }) O (r _ fun b o hne e => bare_keep hne e) fun q e1 e2 => ⟨e1, e2, rfl⟩) fun κ s0 hk => ?_)
  refine wpAny_bind (wpM (kat_run (Q := fun st' s' => ∃ p : Array Nat, p.size = vs.length ∧ arrOf st' = p.map (kas_item (vs.toArray.zip vs.toArray)) ∧ failedOf st' = none ∧ p.toList = σ ∧ s' = { s with heap := bare s.heap a vs })
    rfl (by omega) (by omega) (fun p' st' s' a1 a2 a3 a4 => ⟨p', a1, a2, a3, a4.1, a4.2.2⟩) hk) ?_)
  rintro ⟨⟨⟩, st'⟩ s' ⟨p, hp, har, hf, rfl, rfl⟩
  have all : (byσ p.toList vs).size ≤ sizeLine := by
    unfold byσ
    rw [List.size_toArray, List.length_map, Array.length_toList, hp, many, sizeLine_eq]; omega
  dsimp only
  rw [kat_snds rfl har, hf]
  obtain ⟨c, hc⟩ : ∃ c, ((bare s.heap a vs).update a (Obj.mapSeq fun _ => byσ p.toList vs)).get? a = some (seqObj "list" (byσ p.toList vs) c) := ⟨_, get?_update_seq hb fun _ => byσ p.toList vs⟩
  refine wpAny_bind (seqEpoch_at hb rfl (wpAny_bind (listUpdate_at hb rfl ?_ (Nat.zero_le _) (Nat.le_succ_of_le all))))
  rw [show (m != m) = false from bne_self_eq_false m]
  exact wpAny_pure (hP _ (fun b o hne e => (Heap.get?_update_ne _ _ _ _ hne).trans (bare_keep hne e)) ⟨_, hc, rfl, _, rfl⟩)

theorem sortedOK {Z : List Addr} {s : Shared} {rows : List (List PV)} {T : String} {σ : List Nat} {l : Addr} {vs : List Value} (O : Rows rows T σ) (z : ∀ a ∈ Z, ∃ o, s.heap.get? a = some o)
    (hl : s.heap.IsList l vs.toArray) (r : RepAll Z s.heap (rows.map PV.tup) vs) :
    OpOK prog w A Z s (call (.builtin "sorted") [.ref l]) (.list (σ.map fun i => .tup (rows.getD i []))) := by
  have many : vs.length = rows.length := by rw [r.length, List.length_map]
  have few := O.few
  have line : vs.length ≤ sizeLine := by rw [sizeLine_eq]; omega
  have far : ∀ b, (∃ o, s.heap.get? b = some o) → b ≠ s.heap.objs.size + 1 := fun b ⟨o, e⟩ => Nat.ne_of_lt (Nat.lt_succ_of_lt (Heap.lt_size e))
  have up : ∀ h', (∀ b o, b ≠ s.heap.objs.size + 1 → (twin s.heap vs).get? b = some o → h'.get? b = some o) → Up s.heap h' := fun h' k b o e => k b o (far b ⟨o, e⟩) (twin_up _ _ b o e)
  refine Calls.call_function_entry kind_sorted plain_sorted entry_sorted (args_sorted1 _) ?_
  unfold Builtin.«sorted»
  refine wpAny_bind (m := checkCount "sorted" 1 1 _) (wpAny_pure (wpAny_bind (collect_list hl (wpAny_bind (wpAny_newList ?_ line)) line)))
  show wpAny _ _ _ _ _ { s with heap := twin s.heap vs }
  rw [twin_size]
  refine wpAny_bind (wpAny_holding (wpAny_call_entry slot_list_sort ⟨_, twin_at _ _, rfl⟩ entry_list_sort ?_ (args_list_sort _)))
  refine listSort (s := { s with heap := twin s.heap vs }) (Z := Z) O (twin_at _ _) (fun h' k => r.up (up h' k)) fun h' k hL => ⟨_, rfl, wpAny_pure ⟨_, rfl, ?_, Kp.heap (up h' k)⟩⟩
  refine Rep.list_mk (notin_of_none z (Heap.get?_none_of_le (Nat.le_succ _))) hL ?_
  have hσ : ∀ i ∈ σ, i < rows.length := fun i hi => List.mem_range.mp (O.perm.subset hi)
  have key := (r.up (up h' k)).pick (σ := σ) fun i hi => by rw [List.length_map]; exact hσ i hi
  rwa [show (σ.map fun i => (rows.map PV.tup).getD i (.int 0)) = σ.map fun i => .tup (rows.getD i []) from List.map_congr_left fun i hi => by simp [List.getD, hσ i hi]] at key

variable {env : Env} {ρ : Rho}
theorem Ev.sorted {np pos : Pos} {e : Expr} {rows : List (List PV)} {T : String} {σ : List Nat} (O : Rows rows T σ) (g : IsGlob w env "sorted" (.builtin "sorted")) (h : Evs prog w A env ρ [e] [.list (rows.map PV.tup)])
    (he : eval (.Call (.Name "sorted" np) [e] [] pos) env = (do callWith pos (← eval (.Name "sorted" np) env) [] (backTo pos (starEach [e] env)) (backToKw pos (keywordEach [] env))) := by rfl)
    (he2 : starEach [e] env = (false, eval e env) :: starEach [] env := by rfl) : Ev prog w A env ρ (.Call (.Name "sorted" np) [e] [] pos) (.list (σ.map fun i => .tup (rows.getD i []))) :=
  Ev.callB g h (fun s Z vs G r => by
    obtain ⟨v, rfl, r1⟩ := repAll1 r
    obtain ⟨a, us, rfl, _, hl, hr⟩ := r1.list_inv
    exact sortedOK O G.z hl hr) he he2 rfl
end
end Mine

/-! M10 -/
namespace Mine
open PySem PySem.W PySem.Calls PyProof.Rows PySem.Spec

/-- all that stood, was a field record or a seq, and is not of Z, stands as it stood -/
noncomputable def UpC (Z : List Addr) (h h' : Heap) : Prop := ∀ b o, b ∉ Z → h.get? b = some o → ((∃ vs, o.data = .fields vs) ∨ ∃ xs n, o.data = .seq xs n) → h'.get? b = some o
theorem UpC.refl {Z : List Addr} {h : Heap} : UpC Z h h := fun _ _ _ e _ => e
theorem UpC.trans {Z : List Addr} {a b c : Heap} (x : UpC Z a b) (y : UpC Z b c) : UpC Z a c := fun i o hi e k => y i o hi (x i o hi e k) k
theorem Up.c {Z : List Addr} {a b : Heap} (x : Up a b) : UpC Z a b := fun i o _ e _ => x i o e
/-- a part of Z that is new is forgotten -/
theorem UpC.drop {Z : List Addr} {h h' : Heap} {a : Addr} (x : UpC (a :: Z) h h') (ha : h.get? a = none) : UpC Z h h' := fun b o hb e k =>
  x b o (fun q => by rcases List.mem_cons.mp q with rfl | q
                     · rw [ha] at e; cases e
                     · exact hb q) e k
theorem UpC.weak {Z : List Addr} {h h' : Heap} {a : Addr} (x : UpC Z h h') : UpC (a :: Z) h h' := fun b o hb e k => x b o (fun q => hb (List.mem_cons_of_mem _ q)) e k

/-- a list of scalars, whatever the heap -/
noncomputable def Scal (xs : List PV) (vs : List Value) : Prop := ∀ Z h, RepAll Z h xs vs
noncomputable def Scalar : PV → Prop
  | .int _ | .bool _ | .str _ => True
  | _ => False
theorem Scalar.rep {d : PV} (hd : Scalar d) {Z Z' : List Addr} {h h' : Heap} {v : Value} (r : Rep Z h d v) : Rep Z' h' d v := by
  cases d <;> first | exact hd.elim | simpa only [Rep] using r
noncomputable def SL (pl : Bool) (h : Heap) (a : Addr) (vs : List Value) : Prop := if pl then h.PlainList a vs.toArray else h.IsList a vs.toArray
theorem SL.isList {pl : Bool} {h : Heap} {a : Addr} {vs : List Value} (x : SL pl h a vs) : h.IsList a vs.toArray := by
  unfold SL at x; cases pl
  · exact x
  · exact Heap.PlainList.isList x
theorem SL.at {pl : Bool} {h h' : Heap} {a : Addr} {vs : List Value} (x : SL pl h a vs) (k : ∀ o, h.get? a = some o → h'.get? a = some o) : SL pl h' a vs := by
  unfold SL at x ⊢; cases pl
  · exact Heap.IsList.at x k
  · exact Heap.PlainList.at x k

/-- the list that the frame's name y holds, the frame alone knows, and that is being changed -/
structure Slot where
  y : Str
  a : Addr
  pl : Bool
  xs : List PV
noncomputable def Slot.zs : Option Slot → List Addr
  | none => []
  | some q => [q.a]
noncomputable def SlotOK (s₀ : Shared) (env : Env) (m : Str → Option Value) (h : Heap) : Option Slot → Prop
  | none => True
  | some q => env.kindOf q.y = some .local ∧ m q.y = some (.ref q.a) ∧ s₀.heap.get? q.a = none ∧ ∃ vs, SL q.pl h q.a vs ∧ Scal q.xs vs

/-- the frame of a def, between two statements -/
structure FS (w : World) (s₀ : Shared) (env : Env) (ρ : Rho) (sl : Option Slot) (s : Shared) : Prop where
  W : WF w s.heap
  E : EnvOK (Slot.zs sl) s.heap env ρ
  ex : ∃ m cm, InCallC s₀ env.locals m env.cells cm s ∧ SlotOK s₀ env m s.heap sl

section
variable {prog : Program} {w : World} {A : Around} {env : Env} {ρ : Rho} {s₀ s : Shared} {sl : Option Slot}
theorem InCallC.kp {L : Addr} {m cm : Str → Option Value} {cs : List (Str × Addr)} {s' : Shared} (x : InCallC s₀ L m cs cm s) (k : Kp s s') : InCallC s₀ L m cs cm s' := by
  obtain ⟨h', tk, rfl, u⟩ := k.k
  obtain ⟨h₁, tk₁, e⟩ := x.toInCall.same
  exact ⟨⟨⟨h', tk, by rw [e]⟩, x.toInCall.ns.keeps u, fun b o e => u b o (x.toInCall.keep b o e), x.toInCall.fresh⟩, fun n c hc => (x.cell n c hc).keeps u, x.apart, x.above⟩
theorem FS.kp {s' : Shared} (f : FS w s₀ env ρ sl s) (k : Kp s s') : FS w s₀ env ρ sl s' := by
  obtain ⟨m, cm, i, so⟩ := f.ex
  refine ⟨f.W.up k.u, fun x d e => (f.E x d e).up k.u, m, cm, InCallC.kp i k, ?_⟩
  cases sl with
  | none => trivial
  | some q =>
    obtain ⟨h1, h2, h3, vs, h4, h5⟩ := so
    exact ⟨h1, h2, h3, vs, h4.at fun o e => k.u _ _ e, h5⟩
theorem FS.gd (f : FS w s₀ env ρ sl s) : Gd w (Slot.zs sl) s.heap env ρ := by
  refine ⟨fun a ha => ?_, f.W, f.E⟩
  cases sl with
  | none => cases ha
  | some q =>
    obtain ⟨m, cm, i, h1, h2, h3, vs, h4, h5⟩ := f.ex
    rw [List.mem_singleton.mp ha]
    obtain ⟨o, ho, _⟩ := h4.isList
    exact ⟨o, ho⟩
noncomputable def Slot.rho : Option Slot → Rho
  | none => []
  | some q => [(q.y, .list q.xs)]
/-- with the slot's name too -/
theorem FS.gdS (f : FS w s₀ env ρ sl s) : Gd w [] s.heap env (Slot.rho sl ++ ρ) := by
  refine ⟨fun a ha => (nomatch ha), f.W, fun x d e => ?_⟩
  cases sl with
  | none => exact f.E x d e
  | some q =>
    obtain ⟨m, cm, i, h1, h2, h3, vs, h4, h5⟩ := f.ex
    rw [show Slot.rho (some q) ++ ρ = (q.y, .list q.xs) :: ρ from rfl, List.lookup_cons] at e
    cases hb : x == q.y with
    | true =>
      rw [hb] at e; cases e
      have hxy : x = q.y := beq_iff_eq.mp hb
      subst hxy
      exact .inl ⟨h1, m, _, i.toInCall.ns, h2, Rep.list_mk (by simp) h4.isList (h5 [] _)⟩
    | false => rw [hb] at e; exact (f.E x d e).sub fun a ha => (nomatch ha)

/-- a name may be stored -/
noncomputable def Stor (env : Env) (x : Str) : Prop := env.kindOf x = some .local ∨ (env.kindOf x = some .cell ∧ ∃ c, env.cells.lookup x = some c)

theorem upC_ns {Z : List Addr} {L : Addr} {h h' : Heap} {m : Str → Option Value} (n : h.Ns L m) (hs : Heap.SameBut L h h') : UpC Z h h' := fun b o _ e k => hs.extBut b o (fun q => by
  obtain ⟨oL, es, ep, hL, hd, _⟩ := n
  rw [q, hL] at e; cases e
  rcases k with ⟨vs, k⟩ | ⟨xs, i, k⟩ <;> rw [hd] at k <;> cases k) e
theorem upC_cell {Z : List Addr} {c : Addr} {h h' : Heap} {v : Option Value} (n : h.IsCell c v) (hs : Heap.SameBut c h h') : UpC Z h h' := fun b o _ e k => hs.extBut b o (fun q => by
  obtain ⟨oL, hL, hd⟩ := n
  rw [q, hL] at e; cases e
  rcases k with ⟨vs, k⟩ | ⟨xs, i, k⟩ <;> rw [hd] at k <;> cases k) e
theorem UpC.z {Z : List Addr} {h h' : Heap} (u : UpC Z h h') : UpZ Z h h' := fun b o hb e k => u b o hb e (.inr k)
theorem UpC.nil {Z : List Addr} {h h' : Heap} (u : UpC [] h h') : UpC Z h h' := fun b o _ e k => u b o (by simp) e k

theorem ns_unique {h : Heap} {a : Addr} {m m' : Str → Option Value} (x : h.Ns a m) (y : h.Ns a m') : m = m' := by
  obtain ⟨o, es, ep, h1, h2, h3, h4⟩ := x
  obtain ⟨o', es', ep', h1', h2', h3', h4'⟩ := y
  rw [h1] at h1'; cases h1'
  rw [h2] at h2'; cases h2'
  funext x
  rw [← h4, ← h4']

theorem FS.store {x : Str} {d : PV} {v : Value} {Q : Unit → Shared → Prop} (f : FS w s₀ env ρ sl s) (W₀ : WF w s₀.heap) (hk : env.scope.kind = .function) (hx : Stor env x) (r : Rep (Slot.zs sl) s.heap d v) (hsl : ∀ q, sl = some q → q.y ≠ x)
    (h : ∀ s', FS w s₀ env ((x, d) :: ρ) sl s' → UpC [] s.heap s'.heap → Q () s') : wpAny (model prog w) A (storeName env x v) Q Nev s := by
  obtain ⟨m, cm, i, so⟩ := f.ex
  have hp : (env.scope.kind == .class || (env.scope.kind == .module && env.locals != env.globals)) = false := by rw [hk]; rfl
  rcases hx with hl | ⟨hl, c, hc⟩
  · have st : wpAny (model prog w) A (storeName env x v) (fun _ s' => ∃ h', s' = { s with heap := h', toks := s.toks + 1 } ∧ Heap.SameBut env.locals s.heap h' ∧ InCallC s₀ env.locals (fun y => if y = x then some v else m y) env.cells cm s') Nev s := by
      refine wpAny_storeName_local hl i.toInCall.ns (fun h' hn' hs' => ⟨h', rfl, hs', ⟨?_, hn', fun b o e => ?_, i.toInCall.fresh⟩, fun k c hc => ?_, i.apart, i.above⟩) hp
      · obtain ⟨h₁, tk, e⟩ := i.toInCall.same
        exact ⟨h', _, by rw [e]⟩
      · exact hs'.extBut b o (Nat.ne_of_lt (Nat.lt_of_lt_of_le (Heap.lt_size e) i.toInCall.fresh)) (i.toInCall.keep b o e)
      · exact (i.cell k c hc).sameBut hs' (Nat.ne_of_gt (i.above k c (mem_of_lookup hc)))
    refine wpM st fun _ s' h' => ?_
    obtain ⟨h', rfl, hs', i'⟩ := h'
    have u : ∀ {Z}, UpC Z s.heap h' := upC_ns i.toInCall.ns hs'
    refine h _ ⟨W₀.up i'.toInCall.keep, fun y e he => ?_, _, cm, i', ?_⟩ u
    · rw [List.lookup_cons] at he
      cases hb : y == x with
      | true =>
        rw [hb] at he; cases he
        have hyx : y = x := beq_iff_eq.mp hb
        subst hyx
        exact .inl ⟨hl, _, v, i'.toInCall.ns, by simp, Rep.upZ (u.z (Z := Slot.zs sl)) (fun _ q _ => q) _ _ r⟩
      | false =>
        rw [hb] at he
        have hne : y ≠ x := fun q => by rw [q] at hb; simp at hb
        rcases f.E y e he with ⟨k, m₂, v₂, n₂, e₂, r₂⟩ | ⟨k, c₂, v₂, l₂, n₂, r₂⟩
        · refine .inl ⟨k, _, v₂, i'.toInCall.ns, ?_, Rep.upZ (u.z (Z := Slot.zs sl)) (fun _ q _ => q) _ _ r₂⟩
          simp only [if_neg hne]
          rw [← e₂]
          exact congrFun (ns_unique i.toInCall.ns n₂) y
        · exact .inr ⟨k, c₂, v₂, l₂, n₂.sameBut hs' (Nat.ne_of_gt (i.above y c₂ (mem_of_lookup l₂))), Rep.upZ (u.z (Z := Slot.zs sl)) (fun _ q _ => q) _ _ r₂⟩
    · cases sl with
      | none => trivial
      | some q =>
        obtain ⟨h1, h2, h3, vs, h4, h5⟩ := so
        refine ⟨h1, by simp only [if_neg (hsl q rfl)]; exact h2, h3, vs, h4.at fun o e => ?_, h5⟩
        obtain ⟨oo, e1, e2, n, e3⟩ := h4.isList
        rw [e1] at e; cases e
        exact u (Z := []) _ _ (by simp) e1 (.inr ⟨_, _, e3⟩)
  · have st : wpAny (model prog w) A (storeName env x v) (fun _ s' => ∃ h', s' = { s with heap := h' } ∧ Heap.SameBut c s.heap h' ∧ InCallC s₀ env.locals m env.cells (fun y => if y = x then some v else cm y) s') Nev s := by
      have hLc := i.above x c (mem_of_lookup hc)
      refine wpAny_storeName_cell hk hl hc (i.cell x c hc) fun h' hc' hs' => ⟨h', rfl, hs', ⟨?_, i.toInCall.ns.sameBut hs' (Nat.ne_of_lt hLc), fun b o e => ?_, i.toInCall.fresh⟩, fun k c' hk' => ?_, i.apart, i.above⟩
      · obtain ⟨h₁, tk, e⟩ := i.toInCall.same
        exact ⟨h', _, by rw [e]⟩
      · exact hs'.extBut b o (Nat.ne_of_lt (Nat.lt_trans (Nat.lt_of_lt_of_le (Heap.lt_size e) i.toInCall.fresh) hLc)) (i.toInCall.keep b o e)
      · by_cases hkn : k = x
        · subst hkn
          rw [hc] at hk'; cases hk'
          simpa using hc'
        · rw [if_neg hkn]
          exact (i.cell k c' hk').sameBut hs' fun e => hkn (name_of_addr i.apart (mem_of_lookup hk') (e ▸ mem_of_lookup hc))
    refine wpM st fun _ s' h' => ?_
    obtain ⟨h', rfl, hs', i'⟩ := h'
    have u : ∀ {Z}, UpC Z s.heap h' := upC_cell (i.cell x c hc) hs'
    refine h _ ⟨W₀.up i'.toInCall.keep, fun y e he => ?_, m, _, i', ?_⟩ u
    · rw [List.lookup_cons] at he
      cases hb : y == x with
      | true =>
        rw [hb] at he; cases he
        have hyx : y = x := beq_iff_eq.mp hb
        subst hyx
        have hcell := i'.cell y c hc
        simp only [if_true] at hcell
        exact .inr ⟨.inl hl, c, v, hc, hcell, Rep.upZ (u.z (Z := Slot.zs sl)) (fun _ q _ => q) _ _ r⟩
      | false =>
        rw [hb] at he
        have hne : y ≠ x := fun q => by rw [q] at hb; simp at hb
        rcases f.E y e he with ⟨k, m₂, v₂, n₂, e₂, r₂⟩ | ⟨k, c₂, v₂, l₂, n₂, r₂⟩
        · have hLc := i.above x c (mem_of_lookup hc)
          exact .inl ⟨k, m₂, v₂, n₂.sameBut hs' (Nat.ne_of_lt hLc), e₂, Rep.upZ (u.z (Z := Slot.zs sl)) (fun _ q _ => q) _ _ r₂⟩
        · refine .inr ⟨k, c₂, v₂, l₂, n₂.sameBut hs' (fun q => hne ?_), Rep.upZ (u.z (Z := Slot.zs sl)) (fun _ q _ => q) _ _ r₂⟩
          subst q
          exact name_of_addr i.apart (mem_of_lookup l₂) (mem_of_lookup hc)
    · cases sl with
      | none => trivial
      | some q =>
        obtain ⟨h1, h2, h3, vs, h4, h5⟩ := so
        refine ⟨h1, h2, h3, vs, h4.at fun o e => ?_, h5⟩
        obtain ⟨oo, e1, e2, n, e3⟩ := h4.isList
        rw [e1] at e; cases e
        exact u (Z := []) _ _ (by simp) e1 (.inr ⟨_, _, e3⟩)
end
end Mine

/-! M11 -/
namespace Mine
open PySem PySem.W PySem.Calls PyProof.Rows PySem.Spec

section
variable {prog : Program} {w : World} {A : Around} {env : Env} {ρ : Rho} {s₀ s : Shared} {sl : Option Slot} {Q : Flow → Shared → Prop} {rest : List Stmt}

theorem FS.sub {ρ' : Rho} (f : FS w s₀ env ρ sl s) (h : ∀ x d, ρ'.lookup x = some d → ρ.lookup x = some d) : FS w s₀ env ρ' sl s := ⟨f.W, fun x d e => f.E x d (h x d e), f.ex⟩
theorem FS.freeze {q : Slot} (f : FS w s₀ env ρ (some q) s) : FS w s₀ env ((q.y, .list q.xs) :: ρ) none s := by
  obtain ⟨m, cm, i, _⟩ := f.ex
  exact ⟨f.W, fun x d e => f.gdS.E x d e, m, cm, i, trivial⟩

/-- what Q asks after a statement that goes on -/
noncomputable abbrev Then (prog : Program) (w : World) (A : Around) (env : Env) (rest : List Stmt) (Q : Flow → Shared → Prop) (f : Flow) (s : Shared) : Prop :=
  match f with
  | .next => wpAny (model prog w) A (execs rest env) Q Nev s
  | f => Q f s
theorem xs_cons {st : Stmt} (h : wpAny (model prog w) A (exec st env) (Then prog w A env rest Q) Nev s) : wpAny (model prog w) A (execs (st :: rest) env) Q Nev s := wpAny_execs_cons h

theorem xs_assign {x : Str} {px pos : Pos} {e : Expr} {d : PV} (f : FS w s₀ env ρ sl s) (W₀ : WF w s₀.heap) (he : Ev prog w A env (Slot.rho sl ++ ρ) e d) (hx : Stor env x) (hsc : sl = none ∨ Scalar d) (hsl : ∀ q, sl = some q → q.y ≠ x)
    (h : ∀ s', FS w s₀ env ((x, d) :: ρ) sl s' → UpC [] s.heap s'.heap → wpAny (model prog w) A (execs rest env) Q Nev s')
    (hk : env.scope.kind = .function := by rfl) (hs : swapsWith e (some (.Name x px)) pos.line env = pure false := by rfl) : wpAny (model prog w) A (execs (.Assign [.Name x px] e pos :: rest) env) Q Nev s := by
  refine xs_cons (wpAny_Assign_Name (wpM (he s [] f.gdS) fun v s₁ h₁ => ?_) hs)
  obtain ⟨r, k⟩ := h₁
  refine (f.kp k).store W₀ hk hx ?_ hsl fun s' f' u => h s' f' (k.u.c.trans u)
  rcases hsc with rfl | hd
  · exact r
  · exact hd.rep r

theorem has_load {Z : List Addr} {x : Str} {d : PV} {Q : Value → Shared → Prop} (q : Has Z s.heap env x d) (h : ∀ v, Rep Z s.heap d v → Q v s) (hk : env.scope.kind = .function) (hc : (x == ("__classdict__" : Str)) = false) : wpAny (model prog w) A (loadName env x) Q Nev s := by
  rcases q with ⟨k, m, v, n, e, r⟩ | ⟨k, c, v, l, n, r⟩
  · exact wpAny_loadName_local hk k n e (h v r)
  · rcases k with k | k
    · exact wpAny_loadName_cell hk k l n (h v r)
    · exact wpAny_loadName_free hk k l n (h v r) hc
/-- x += e, ints -/
theorem xs_aug {x : Str} {px pos : Pos} {e : Expr} {a b : Int} (f : FS w s₀ env ρ sl s) (W₀ : WF w s₀.heap) (hv : ρ.lookup x = some (.int a)) (he : Ev prog w A env ρ e (.int b)) (hx : Stor env x) (hsl : ∀ q, sl = some q → q.y ≠ x)
    (h : ∀ s', FS w s₀ env ((x, .int (a + b)) :: ρ) sl s' → UpC [] s.heap s'.heap → wpAny (model prog w) A (execs rest env) Q Nev s')
    (hk : env.scope.kind = .function := by rfl) (hc : (x == ("__classdict__" : Str)) = false := by decide) : wpAny (model prog w) A (execs (.AugAssign (.Name x px) .Add e pos :: rest) env) Q Nev s := by
  refine xs_cons (wpAny_AugAssign_Name (has_load (f.E x _ hv) (fun v r => ?_) hk hc))
  obtain ⟨t, rfl⟩ := r.int_inv
  refine wpM (he s _ f.gd) fun v s₁ h₁ => ?_
  obtain ⟨r, k⟩ := h₁
  obtain ⟨u, rfl⟩ := r.int_inv
  refine iadd_int ?_
  have k' := k.trans (Kp.toks s₁ (s₁.toks + 1))
  exact (f.kp k').store W₀ hk hx rep_int hsl fun s' f' u => h s' f' (k'.u.c.trans u)

theorem xs_if {e : Expr} {body orelse : List Stmt} {pos : Pos} {b : Bool} (f : FS w s₀ env ρ sl s) (he : EvT prog w A env (Slot.rho sl ++ ρ) e b)
    (ht : b = true → ∀ s', FS w s₀ env ρ sl s' → Kp s s' → wpAny (model prog w) A (execs body env) (Then prog w A env rest Q) Nev s')
    (hf : b = false → ∀ s', FS w s₀ env ρ sl s' → Kp s s' → wpAny (model prog w) A (execs orelse env) (Then prog w A env rest Q) Nev s') : wpAny (model prog w) A (execs (.If e body orelse pos :: rest) env) Q Nev s := by
  refine xs_cons (wpAny_If (wpM (he s [] f.gdS) fun ok s₁ h₁ => ?_))
  obtain ⟨rfl, k⟩ := h₁
  cases ok with
  | true => exact ht rfl s₁ (f.kp k) k
  | false => exact hf rfl s₁ (f.kp k) k
/-- an if that is not taken, with no else -/
theorem xs_skip {e : Expr} {body : List Stmt} {pos : Pos} (f : FS w s₀ env ρ sl s) (he : EvT prog w A env (Slot.rho sl ++ ρ) e false)
    (h : ∀ s', FS w s₀ env ρ sl s' → Kp s s' → wpAny (model prog w) A (execs rest env) Q Nev s') : wpAny (model prog w) A (execs (.If e body [] pos :: rest) env) Q Nev s :=
  xs_if f he (fun e => nomatch e) fun _ s' f' k => wpAny_execs_nil (h s' f' k)
theorem xs_ret {e : Expr} {pos : Pos} {d : PV} (f : FS w s₀ env ρ sl s) (he : Ev prog w A env (Slot.rho sl ++ ρ) e d) (h : ∀ v s', Rep [] s'.heap d v → FS w s₀ env ρ sl s' → Q (.ret v) s') :
    wpAny (model prog w) A (execs (.Return (some e) pos :: rest) env) Q Nev s := by
  refine xs_cons (wpAny_Return_some (wpM (he s [] f.gdS) fun v s₁ h₁ => ?_))
  exact h v s₁ h₁.1 (f.kp h₁.2)

/-! the slot -/
theorem scal_nil : Scal [] [] := fun Z h => by simp only [RepAll]
theorem scal_set {xs : List PV} {vs : List Value} {d : PV} {v : Value} {k : Nat} (hs : Scal xs vs) (hd : ∀ Z h, Rep Z h d v) : Scal (xs.set k d) (vs.set k v) := fun Z h => by
  refine RepAll.of_get (by simp [(hs Z h).length]) fun i e u h1 h2 => ?_
  rw [List.getElem?_set] at h1 h2
  have hl := (hs Z h).length
  by_cases hik : k = i
  · rw [if_pos hik] at h1 h2
    split at h1
    · split at h2
      · cases h1; cases h2; exact hd Z h
      · cases h2
    · cases h1
  · rw [if_neg hik] at h1 h2
    obtain ⟨u', e1, e2⟩ := (hs Z h).get h1
    rw [h2] at e1; cases e1
    exact e2
theorem scal_snoc {xs : List PV} {vs : List Value} {d : PV} {v : Value} (hs : Scal xs vs) (hd : ∀ Z h, Rep Z h d v) : Scal (xs ++ [d]) (vs ++ [v]) := fun Z h => (hs Z h).append (by simp only [RepAll]; exact ⟨v, [], rfl, hd Z h, rfl⟩)
theorem scal_of {xs : List PV} {vs : List Value} {Z : List Addr} {h : Heap} (hs : ∀ d ∈ xs, Scalar d) (r : RepAll Z h xs vs) : Scal xs vs := fun Z' h' => by
  refine RepAll.of_get r.length fun k d v h1 h2 => ?_
  obtain ⟨u, e1, e2⟩ := r.get h1
  rw [h2] at e1; cases e1
  exact (hs d (List.mem_of_getElem? h1)).rep e2

/-- the frame keeps all when its own slot is changed -/
theorem FS.slotted {q : Slot} {xs' : List PV} {vs' : List Value} {h' : Heap} {tk : Nat} (f : FS w s₀ env ρ (some q) s) (W₀ : WF w s₀.heap) (hs : Heap.SameBut q.a s.heap h') (hl : SL q.pl h' q.a vs') (hx : Scal xs' vs') :
    FS w s₀ env ρ (some ⟨q.y, q.a, q.pl, xs'⟩) { s with heap := h', toks := tk } ∧ UpC [q.a] s.heap h' := by
  obtain ⟨m, cm, i, h1, h2, h3, vs, h4, h5⟩ := f.ex
  obtain ⟨oq, hq, _, nq, dq⟩ := h4.isList
  have nL : env.locals ≠ q.a := fun e => by
    obtain ⟨o, es, ep, ho, hd, _⟩ := i.toInCall.ns
    rw [e, hq] at ho; cases ho
    rw [dq] at hd; cases hd
  have nC : ∀ c v, s.heap.IsCell c v → c ≠ q.a := fun c v hc e => by
    obtain ⟨o, ho, hd⟩ := hc
    rw [e, hq] at ho; cases ho
    rw [dq] at hd; cases hd
  have keep0 : ∀ b o, s₀.heap.get? b = some o → h'.get? b = some o := fun b o e => hs.extBut b o (fun q' => by rw [q', h3] at e; cases e) (i.toInCall.keep b o e)
  have u : UpC [q.a] s.heap h' := fun b o hb e _ => hs.extBut b o (fun q' => hb (List.mem_singleton.mpr q')) e
  refine ⟨⟨W₀.up keep0, fun x d e => ?_, m, cm, ⟨⟨?_, i.toInCall.ns.sameBut hs nL, keep0, i.toInCall.fresh⟩, fun n c hc => (i.cell n c hc).sameBut hs (nC _ _ (i.cell n c hc)), i.apart, i.above⟩, h1, h2, h3, vs', hl, hx⟩, u⟩
  · rcases f.E x d e with ⟨k, m₂, v₂, n₂, e₂, r₂⟩ | ⟨k, c₂, v₂, l₂, n₂, r₂⟩
    · exact .inl ⟨k, m₂, v₂, n₂.sameBut hs nL, e₂, Rep.upZ u.z (fun _ q _ => q) _ _ r₂⟩
    · exact .inr ⟨k, c₂, v₂, l₂, n₂.sameBut hs (nC _ _ n₂), Rep.upZ u.z (fun _ q _ => q) _ _ r₂⟩
  · obtain ⟨h₁, tk₁, e⟩ := i.toInCall.same
    exact ⟨h', tk, by rw [e]⟩

/-- y[i] = e -/
theorem xs_set {q : Slot} {py ps pos : Pos} {i e : Expr} {k : Int} {d : PV} (f : FS w s₀ env ρ (some q) s) (W₀ : WF w s₀.heap) (hq : q.pl = false) (he : Ev prog w A env ρ e d) (hi : Ev prog w A env ρ i (.int k)) (hd : Scalar d) (h0 : 0 ≤ k) (hlt : k < q.xs.length) (hz : q.xs.length < 1000000)
    (h : ∀ s', FS w s₀ env ρ (some ⟨q.y, q.a, q.pl, q.xs.set k.toNat d⟩) s' → UpC [q.a] s.heap s'.heap → wpAny (model prog w) A (execs rest env) Q Nev s')
    (hk : env.scope.kind = .function := by rfl) (hdb : (q.y == ("__debug__" : Str)) = false := by first | decide | rfl) (hs : swapsWith e (some (.Subscript (.Name q.y py) i ps)) pos.line env = pure false := by rfl) :
    wpAny (model prog w) A (execs (.Assign [.Subscript (.Name q.y py) i ps] e pos :: rest) env) Q Nev s := by
  refine xs_cons (wpAny_Assign_Subscript (wpM (he s _ f.gd) fun v s₁ h₁ => ?_) hs)
  obtain ⟨r, k₁⟩ := h₁
  have f₁ := f.kp k₁
  obtain ⟨m, cm, ic, h1, h2, h3, _, _, _⟩ := f₁.ex
  refine wpAny_Name (wpAny_loadName_local hk h1 ic.toInCall.ns h2 ?_) hdb
  refine wpM (hi s₁ _ f₁.gd) fun vi s₂ h₂ => ?_
  obtain ⟨ri, k₂⟩ := h₂
  obtain ⟨t, rfl⟩ := ri.int_inv
  have f₂ := f₁.kp k₂
  obtain ⟨_, _, _, _, _, _, vs, h4, h5⟩ := f₂.ex
  have hlen : vs.length = q.xs.length := (h5 [] s.heap).length
  refine wpAny_setItem_list h4.isList h0 (by omega) (by rw [List.size_toArray, hlen]; omega) fun h' hl' hs' => ?_
  have hv : (vs.toArray.setIfInBounds k.toNat v) = (vs.set k.toNat v).toArray := by simp
  rw [hv] at hl'
  have := f₂.slotted (tk := s₂.toks) W₀ hs' (vs' := vs.set k.toNat v) (xs' := q.xs.set k.toNat d) (by unfold SL; rw [hq]; exact hl') (scal_set h5 fun Z h => hd.rep r)
  exact h _ this.1 ((k₁.trans k₂).u.c.trans this.2)

/-- y.append(e) -/
theorem xs_append {q : Slot} {py ap cp pos : Pos} {e : Expr} {d : PV} (f : FS w s₀ env ρ (some q) s) (W₀ : WF w s₀.heap) (hq : q.pl = true) (he : Ev prog w A env ρ e d) (hd : Scalar d) (hz : q.xs.length < 1000000)
    (h : ∀ s', FS w s₀ env ρ (some ⟨q.y, q.a, q.pl, q.xs ++ [d]⟩) s' → UpC [q.a] s.heap s'.heap → wpAny (model prog w) A (execs rest env) Q Nev s') (pl : Sem Bool)
    (hk : env.scope.kind = .function := by rfl) (hdb : (q.y == ("__debug__" : Str)) = false := by first | decide | rfl) (hin : interactive env = false := by rfl)
    (hs : swapsWith (.Call (.Attribute (.Name q.y py) "append" ap) [e] [] cp) none pos.line env = pure false := by rfl)
    (he1 : eval (.Call (.Attribute (.Name q.y py) "append" ap) [e] [] cp) env = (do
      let ov ← eval (.Name q.y py) env
      standAt ap.atName
      let (f, first) ← holding [ov] (getMethod ov "append" pl)
      callWith cp f first (backTo cp (starEach [e] env)) []) := by rfl)
    (he2 : starEach [e] env = (false, eval e env) :: starEach [] env := by rfl) :
    wpAny (model prog w) A (execs (.Expr (.Call (.Attribute (.Name q.y py) "append" ap) [e] [] cp) pos :: rest) env) Q Nev s := by
  refine xs_cons (wpAny_Expr (MethodCall_ (pl := pl) ?_ he1) hin hs)
  obtain ⟨m, cm, ic, h1, h2, h3, vs0, h40, _⟩ := f.ex
  refine wpAny_Name (wpAny_loadName_local hk h1 ic.toInCall.ns h2 ?_) hdb
  have hp0 : s.heap.PlainList q.a vs0.toArray := by unfold SL at h40; rw [hq] at h40; exact h40
  obtain ⟨n0, e0⟩ := hp0
  refine Calls.getMethod_list_append e0 rfl rfl ?_
  refine callWith_method1 (wpM ((Evs.cons he he2 .nil).run f.gd) fun us s₁ h₁ => ?_) he2 rfl
  obtain ⟨r, k⟩ := h₁
  obtain ⟨v, rfl, r1⟩ := repAll1 r
  have f₁ := f.kp k
  obtain ⟨_, _, _, _, _, _, vs, h4, h5⟩ := f₁.ex
  have hlen : vs.length = q.xs.length := (h5 [] s.heap).length
  have hp : s₁.heap.PlainList q.a vs.toArray := by unfold SL at h4; rw [hq] at h4; exact h4
  refine wpAny_list_append_plain (hsz := by rw [List.size_toArray, hlen, sizeLine_eq]; omega) hp fun h' hl' hs' => ?_
  have hv : vs.toArray.push v = (vs ++ [v]).toArray := by simp
  rw [hv] at hl'
  have := f₁.slotted (tk := s₁.toks) W₀ hs' (vs' := vs ++ [v]) (xs' := q.xs ++ [d]) (by unfold SL; rw [hq]; exact hl') (scal_snoc h5 fun Z h => hd.rep r1)
  exact h _ this.1 (k.u.c.trans this.2)

/-- y gets a list that nothing else holds -/
theorem FS.fresh {y : Str} {xs : List PV} {vs : List Value} {a : Addr} {pl : Bool} {s₁ : Shared} {Q : Unit → Shared → Prop} (f : FS w s₀ env ρ none s) (W₀ : WF w s₀.heap) (hk : env.scope.kind = .function) (hy : env.kindOf y = some .local) (hρ : ρ.lookup y = none)
    (k : Kp s s₁) (ha : s.heap.get? a = none) (hl : SL pl s₁.heap a vs) (hx : Scal xs vs)
    (h : ∀ s', FS w s₀ env ρ (some ⟨y, a, pl, xs⟩) s' → UpC [] s.heap s'.heap → Q () s') : wpAny (model prog w) A (storeName env y (.ref a)) Q Nev s₁ := by
  have f₁ := f.kp k
  have E₁ : EnvOK [a] s₁.heap env ρ := fun x d e => (f.E x d e).new k.u ha
  obtain ⟨m, cm, i, _⟩ := f₁.ex
  have hp : (env.scope.kind == .class || (env.scope.kind == .module && env.locals != env.globals)) = false := by rw [hk]; rfl
  have h3 : s₀.heap.get? a = none := by
    obtain ⟨m', cm', i', _⟩ := f.ex
    cases e : s₀.heap.get? a with
    | none => rfl
    | some o => rw [i'.toInCall.keep a o e] at ha; cases ha
  refine wpAny_storeName_local hy i.toInCall.ns (fun h' hn' hs' => ?_) hp
  have u : ∀ {Z}, UpC Z s₁.heap h' := upC_ns i.toInCall.ns hs'
  have keep0 : ∀ b o, s₀.heap.get? b = some o → h'.get? b = some o := fun b o e => hs'.extBut b o (Nat.ne_of_lt (Nat.lt_of_lt_of_le (Heap.lt_size e) i.toInCall.fresh)) (i.toInCall.keep b o e)
  refine h _ ⟨W₀.up keep0, fun x d e => ?_, _, cm, ⟨⟨?_, hn', keep0, i.toInCall.fresh⟩, fun n c hc => (i.cell n c hc).sameBut hs' (Nat.ne_of_gt (i.above n c (mem_of_lookup hc))), i.apart, i.above⟩, hy, by simp, h3, vs, hl.at fun o e => ?_, hx⟩ (k.u.c.trans u)
  · have hne : x ≠ y := fun q => by rw [q, hρ] at e; cases e
    rcases E₁ x d e with ⟨kk, m₂, v₂, n₂, e₂, r₂⟩ | ⟨kk, c₂, v₂, l₂, n₂, r₂⟩
    · refine .inl ⟨kk, _, v₂, hn', ?_, Rep.upZ (u.z (Z := [a])) (fun _ q _ => q) _ _ r₂⟩
      simp only [if_neg hne]
      rw [← e₂]
      exact congrFun (ns_unique i.toInCall.ns n₂) x
    · exact .inr ⟨kk, c₂, v₂, l₂, n₂.sameBut hs' (Nat.ne_of_gt (i.above x c₂ (mem_of_lookup l₂))), Rep.upZ (u.z (Z := [a])) (fun _ q _ => q) _ _ r₂⟩
  · obtain ⟨h₁, tk, e⟩ := i.toInCall.same
    exact ⟨h', _, by rw [e]⟩
  · obtain ⟨oo, e1, e2, n, e3⟩ := hl.isList
    rw [e1] at e; cases e
    exact u (Z := []) _ _ (by simp) e1 (.inr ⟨_, _, e3⟩)

/-- y = [] -/
theorem xs_nil_list {y : Str} {py lp pos : Pos} (f : FS w s₀ env ρ none s) (W₀ : WF w s₀.heap) (hy : env.kindOf y = some .local) (hρ : ρ.lookup y = none)
    (h : ∀ a s', s.heap.get? a = none → FS w s₀ env ρ (some ⟨y, a, true, []⟩) s' → UpC [] s.heap s'.heap → wpAny (model prog w) A (execs rest env) Q Nev s')
    (hk : env.scope.kind = .function := by rfl) (hs : swapsWith (.List [] lp) (some (.Name y py)) pos.line env = pure false := by rfl) : wpAny (model prog w) A (execs (.Assign [.Name y py] (.List [] lp) pos :: rest) env) Q Nev s := by
  refine xs_cons (wpAny_Assign_Name (List_ (spl_nil (wpAny_newList ?_ (by simp)))) hs)
  refine f.fresh (a := s.heap.objs.size) (vs := []) (pl := true) (xs := []) W₀ hk hy hρ (Kp.push s _) (fresh_none _) ?_ scal_nil fun s' f' u => h _ s' (fresh_none _) f' u
  unfold SL
  exact ⟨_, Heap.get?_push_size _ rfl⟩
/-- y = e, e a new list of scalars that hangs on scalars alone -/
theorem xs_new_list {y : Str} {py pos : Pos} {e : Expr} {xs : List PV} {ρ' : Rho} (f : FS w s₀ env ρ none s) (W₀ : WF w s₀.heap) (hy : env.kindOf y = some .local) (hρ : ρ.lookup y = none) (he : Ev prog w A env ρ' e (.list xs))
    (hρ' : ∀ x d, ρ'.lookup x = some d → ρ.lookup x = some d ∧ Scalar d) (hxs : ∀ d ∈ xs, Scalar d)
    (h : ∀ a s', s.heap.get? a = none → FS w s₀ env ρ (some ⟨y, a, false, xs⟩) s' → UpC [] s.heap s'.heap → wpAny (model prog w) A (execs rest env) Q Nev s')
    (hk : env.scope.kind = .function := by rfl) (hs : swapsWith e (some (.Name y py)) pos.line env = pure false := by rfl) : wpAny (model prog w) A (execs (.Assign [.Name y py] e pos :: rest) env) Q Nev s := by
  have hZ : ∀ a, a ∈ (List.range s.heap.objs.size).filter (fun a => (s.heap.get? a).isSome) ↔ ∃ o, s.heap.get? a = some o := fun a => by
    rw [List.mem_filter, List.mem_range]
    constructor
    · rintro ⟨_, h⟩; exact Option.isSome_iff_exists.mp h
    · rintro ⟨o, e⟩; exact ⟨Heap.lt_size e, by rw [e]; rfl⟩
  have G : Gd w ((List.range s.heap.objs.size).filter (fun a => (s.heap.get? a).isSome)) s.heap env ρ' := by
    refine ⟨fun a ha => (hZ a).mp ha, f.W, fun x d e => ?_⟩
    obtain ⟨e1, sd⟩ := hρ' x d e
    rcases f.E x d e1 with ⟨kk, m₂, v₂, n₂, e₂, r₂⟩ | ⟨kk, c₂, v₂, l₂, n₂, r₂⟩
    · exact .inl ⟨kk, m₂, v₂, n₂, e₂, sd.rep r₂⟩
    · exact .inr ⟨kk, c₂, v₂, l₂, n₂, sd.rep r₂⟩
  refine xs_cons (wpAny_Assign_Name (wpM (he s _ G) fun v s₁ h₁ => ?_) hs)
  obtain ⟨r, k⟩ := h₁
  obtain ⟨a, vs, rfl, ha, hl, hr⟩ := r.list_inv
  have ha' : s.heap.get? a = none := by
    cases e : s.heap.get? a with
    | none => rfl
    | some o => exact absurd ((hZ a).mpr ⟨o, e⟩) ha
  exact f.fresh (vs := vs) (pl := false) W₀ hk hy hρ k ha' (by unfold SL; exact hl) (scal_of hxs hr) fun s' f' u => h a s' ha' f' u
end
end Mine

/-! M12 -/
namespace Mine
open PySem PySem.W PySem.Calls PyProof.Rows PySem.Spec

section
variable {prog : Program} {w : World} {A : Around} {env : Env} {ρ : Rho} {s₀ s : Shared} {sl : Option Slot} {Q : Flow → Shared → Prop} {rest : List Stmt}

/-- a field record that the frame does not know may change -/
theorem FS.iter {I : Addr} {h' : Heap} {tk : Nat} (f : FS w s₀ env ρ sl s) (W₀ : WF w s₀.heap) (hI : ∃ o vs, s.heap.get? I = some o ∧ o.data = .fields vs) (h0 : s₀.heap.get? I = none) (k : ∀ b o, b ≠ I → s.heap.get? b = some o → h'.get? b = some o) :
    FS w s₀ env ρ sl { s with heap := h', toks := tk } := by
  obtain ⟨oI, vI, eI, dI⟩ := hI
  obtain ⟨m, cm, i, so⟩ := f.ex
  have nL : env.locals ≠ I := fun e => by
    obtain ⟨o, es, ep, ho, hd, _⟩ := i.toInCall.ns
    rw [e, eI] at ho; cases ho
    rw [dI] at hd; cases hd
  have nC : ∀ c v, s.heap.IsCell c v → c ≠ I := fun c v hc e => by
    obtain ⟨o, ho, hd⟩ := hc
    rw [e, eI] at ho; cases ho
    rw [dI] at hd; cases hd
  have keep0 : ∀ b o, s₀.heap.get? b = some o → h'.get? b = some o := fun b o e => k b o (fun q' => by rw [q', h0] at e; cases e) (i.toInCall.keep b o e)
  have u : ∀ Z, UpZ Z s.heap h' := fun Z b o _ e hq => k b o (fun q' => by
    rw [q', eI] at e; cases e
    obtain ⟨xs, n, hq⟩ := hq
    rw [dI] at hq; cases hq) e
  have ns : ∀ {m}, s.heap.Ns env.locals m → h'.Ns env.locals m := fun n => n.at' fun o e => k _ o nL e
  have cl : ∀ {c v}, s.heap.IsCell c v → h'.IsCell c v := fun {c v} n => by
    have hne := nC c v n
    obtain ⟨o, ho, hd⟩ := n
    exact ⟨o, k c o hne ho, hd⟩
  refine ⟨W₀.up keep0, fun x d e => ?_, m, cm, ⟨⟨?_, ns i.toInCall.ns, keep0, i.toInCall.fresh⟩, fun n c hc => cl (i.cell n c hc), i.apart, i.above⟩, ?_⟩
  · rcases f.E x d e with ⟨kk, m₂, v₂, n₂, e₂, r₂⟩ | ⟨kk, c₂, v₂, l₂, n₂, r₂⟩
    · exact .inl ⟨kk, m₂, v₂, ns n₂, e₂, Rep.upZ (u _) (fun _ q _ => q) _ _ r₂⟩
    · exact .inr ⟨kk, c₂, v₂, l₂, cl n₂, Rep.upZ (u _) (fun _ q _ => q) _ _ r₂⟩
  · obtain ⟨h₁, tk₁, e⟩ := i.toInCall.same
    exact ⟨h', tk, by rw [e]⟩
  · cases sl with
    | none => trivial
    | some q =>
      obtain ⟨h1, h2, h3, vs, h4, h5⟩ := so
      refine ⟨h1, h2, h3, vs, h4.at fun o e => ?_, h5⟩
      obtain ⟨oo, e1, e2, n, e3⟩ := h4.isList
      rw [e1] at e; cases e
      exact k _ _ (fun q' => by rw [q', eI] at e1; cases e1; rw [dI] at e3; cases e3) e1

/-- for x in iter: body -/
theorem xs_for {x : Str} {px pos : Pos} {iter : Expr} {body : List Stmt} {ds : List PV} (ρs : Nat → Rho) (sls : Nat → Option Slot) (zs : List Addr) (hz : ∀ i, Slot.zs (sls i) = zs) (f : FS w s₀ env (ρs 0) (sls 0) s) (W₀ : WF w s₀.heap)
    (hs : Src prog w A env (ρs 0) iter ds) (hds : ∀ d ∈ ds, Scalar d) (hx : Stor env x) (hsl : ∀ i q, sls i = some q → q.y ≠ x)
    (hb : ∀ i d s', ds[i]? = some d → FS w s₀ env ((x, d) :: ρs i) (sls i) s' → wpAny (model prog w) A (execs body env) (fun fl s'' => fl = .next ∧ FS w s₀ env (ρs (i + 1)) (sls (i + 1)) s'' ∧ UpC zs s'.heap s''.heap) Nev s')
    (h : ∀ s', FS w s₀ env (ρs ds.length) (sls ds.length) s' → UpC zs s.heap s'.heap → wpAny (model prog w) A (execs rest env) Q Nev s')
    (hk : env.scope.kind = .function := by rfl) (hf : ∀ x, foldedSetIterable iter env x = pure x := by intro _; rfl) : wpAny (model prog w) A (execs (.For (.Name x px) iter body [] pos :: rest) env) Q Nev s := by
  refine xs_cons (wpAny_For (wpM (hs s _ f.gd) fun xv s₁ h₁ => ?_) hf)
  obtain ⟨k₁, it₁⟩ := h₁
  refine wpM it₁ fun it s₂ h₂ => ?_
  obtain ⟨k₂, I, fp, P, St, rfl, T⟩ := h₂
  have f₂ := (f.kp k₁).kp k₂
  have h0 : s₀.heap.get? I = none := by
    obtain ⟨m', cm', i', _⟩ := (f.kp k₁).ex
    cases e : s₀.heap.get? I with
    | none => rfl
    | some o => have := i'.toInCall.keep I o e; rw [T.new] at this; cases this
  have hIz : ∀ i s', FS w s₀ env (ρs i) (sls i) s' → (∃ o vs, s'.heap.get? I = some o ∧ o.data = .fields vs) → I ∉ zs := fun i s' f' hI q => by
    rw [← hz i] at q
    cases e : sls i with
    | none => rw [e] at q; cases q
    | some sq =>
      rw [e] at q f'
      obtain ⟨m, cm, _, _, _, _, vs, h4, _⟩ := f'.ex
      obtain ⟨oo, e1, e2, n, e3⟩ := h4.isList
      obtain ⟨o, vs', e4, e5⟩ := hI
      rw [List.mem_singleton.mp q, e1] at e4; cases e4
      rw [e3] at e5; cases e5
  refine codeAny_mono (codeAny_forLoop_any (R := fun r s' => r = .ok .next ∧ FS w s₀ env (ρs ds.length) (sls ds.length) s' ∧ UpC zs s₁.heap s'.heap)
    (fun k s' => ∃ i, i ≤ ds.length ∧ k = ds.length + 1 - i ∧ FS w s₀ env (ρs i) (sls i) s' ∧ St i s'.heap ∧ UpC zs s₁.heap s'.heap) ?_ (ds.length + 1) ⟨0, Nat.zero_le _, rfl, f₂, T.st, k₂.u.c⟩) fun r s' hr => ?_
  · rintro k s' ⟨i, hi, rfl, f', st, u⟩
    have hIf := T.own _ _ st
    by_cases hlt : i < ds.length
    · refine T.walks.item i _ _ _ hlt st fun v h₁ tk₁ hPv st₁ hk₁ => ?_
      have hk₁' : ∀ b o, b ≠ I → s'.heap.get? b = some o → h₁.get? b = some o := fun b o hb e => hk₁ b o (fun hm => hb (List.mem_singleton.mp hm)) e
      have f₁ := f'.iter (tk := tk₁) W₀ hIf h0 hk₁'
      have u₁ : UpC zs s₁.heap h₁ := fun b o hb e hq => hk₁' b o (fun q => by rw [q, T.new] at e; cases e) (u b o hb e hq)
      obtain ⟨d, hd, r⟩ := T.item i v hPv
      have sd := hds d (List.mem_of_getElem? hd)
      show wpAny (model prog w) A (pure ()) _ _ _
      refine wpAny_pure ?_
      refine wpAny_assign_Name (wpE (f₁.store (Q := fun _ s'' => FS w s₀ env ((x, d) :: ρs i) (sls i) s'' ∧ UpC [] h₁ s''.heap) W₀ hk hx (sd.rep r) (hsl i) fun s'' f'' u'' => ⟨f'', u''⟩) fun _ s₂' h₂' => ?_)
      obtain ⟨f₂', u₂'⟩ := h₂'
      refine wpE (hb i d s₂' hd f₂') fun fl s₃ h₃ => ?_
      obtain ⟨rfl, f₃, u₃⟩ := h₃
      have u13 : UpC zs h₁ s₃.heap := (UpC.nil u₂').trans u₃
      refine ⟨ds.length + 1 - (i + 1), by omega, i + 1, hlt, rfl, f₃, T.walks.frame _ _ _ st₁ fun b hb o e => ?_, u₁.trans u13⟩
      obtain ⟨o', e', hq⟩ := T.kinds _ _ st₁ b hb
      rw [e'] at e; cases e
      rcases hq with ⟨vs, hq⟩ | ⟨hbz, hq⟩
      · refine u13 b _ ?_ e' (.inl ⟨vs, hq⟩)
        intro q
        have : sls i ≠ none := fun e => by have := hz i; rw [e] at this; rw [← this] at q; cases q
        cases e : sls i with
        | none => exact this e
        | some sq =>
          have := hz i
          rw [e] at this
          rw [← this] at q
          have f₁' := f₁
          rw [e] at f₁'
          obtain ⟨m, cm, _, _, _, _, vs', h4, _⟩ := f₁'.ex
          obtain ⟨oo, e1, e2, n, e3⟩ := h4.isList
          rw [List.mem_singleton.mp q] at e'
          rw [show h₁.get? sq.a = some oo from e1] at e'; cases e'
          rw [e3] at hq; cases hq
      · exact u13 b _ (by rw [hz 0] at hbz; exact hbz) e' (.inr hq)
    · have hin : i = ds.length := by omega
      subst hin
      refine T.walks.done _ _ _ st fun h₁ tk₁ hk₁ => ?_
      have hk₁' : ∀ b o, b ≠ I → s'.heap.get? b = some o → h₁.get? b = some o := fun b o hb e => hk₁ b o (fun hm => hb (List.mem_singleton.mp hm)) e
      exact wpAny_execs_nil ⟨rfl, f'.iter (tk := tk₁) W₀ hIf h0 hk₁', fun b o hb e hq => hk₁' b o (fun q => by rw [q, T.new] at e; cases e) (u b o hb e hq)⟩
  · obtain ⟨rfl, f', u⟩ := hr
    exact h s' f' (k₁.u.c.trans u)

/-- while e: body -/
theorem xs_while {e : Expr} {body : List Stmt} {pos : Pos} (ρs : Nat → Rho) (n : Nat) (b : Nat → Bool) (f : FS w s₀ env (ρs 0) sl s) (he : ∀ i, i ≤ n → EvT prog w A env (Slot.rho sl ++ ρs i) e (b i)) (hb1 : ∀ i, i < n → b i = true) (hb2 : b n = false)
    (hb : ∀ i s', i < n → FS w s₀ env (ρs i) sl s' → wpAny (model prog w) A (execs body env) (fun fl s'' => fl = .next ∧ FS w s₀ env (ρs (i + 1)) sl s'' ∧ UpC [] s'.heap s''.heap) Nev s')
    (h : ∀ s', FS w s₀ env (ρs n) sl s' → UpC [] s.heap s'.heap → wpAny (model prog w) A (execs rest env) Q Nev s') : wpAny (model prog w) A (execs (.While e body [] pos :: rest) env) Q Nev s := by
  refine xs_cons (wpAny_While (codeAny_mono (codeAny_whileLoop (R := fun r s' => r = .ok .next ∧ FS w s₀ env (ρs n) sl s' ∧ UpC [] s.heap s'.heap)
    (fun k s' => ∃ i, i ≤ n ∧ k = n + 1 - i ∧ FS w s₀ env (ρs i) sl s' ∧ UpC [] s.heap s'.heap) ?_ (n + 1) ⟨0, Nat.zero_le _, rfl, f, UpC.refl⟩) fun r s' hr => ?_))
  · rintro k s' ⟨i, hi, rfl, f', u⟩
    refine wpE (he i hi s' [] f'.gdS) fun ok s₁ h₁ => ?_
    obtain ⟨rfl, k⟩ := h₁
    by_cases hlt : i < n
    · rw [hb1 i hlt]
      simp only [if_true]
      refine wpE (hb i s₁ hlt (f'.kp k)) fun fl s₂ h₂ => ?_
      obtain ⟨rfl, f₂, u₂⟩ := h₂
      exact ⟨n + 1 - (i + 1), by omega, i + 1, hlt, rfl, f₂, u.trans (k.u.c.trans u₂)⟩
    · have hin : i = n := by omega
      subst hin
      rw [hb2]
      simp only [Bool.false_eq_true, if_false]
      exact wpAny_execs_nil ⟨rfl, f'.kp k, u.trans k.u.c⟩
  · obtain ⟨rfl, f', u⟩ := hr
    exact h s' f' u

theorem Src.tup {e : Expr} {ds : List PV} (hh : A.handled = none) (h : Ev prog w A env ρ e (.tup ds)) : Src prog w A env ρ e ds := by
  intro s Z G
  refine wpM (h s Z G) fun v s₁ h₁ => ?_
  obtain ⟨r, k⟩ := h₁
  obtain ⟨a, vs, rfl, ha, hl, hr⟩ := r.tup_inv
  refine ⟨k, wpAny_pyIter_tuple hl ⟨Kp.push s₁ _, ?_⟩⟩
  have hne : a ≠ s₁.heap.objs.size := by
    obtain ⟨o, ho, _⟩ := hl
    exact Nat.ne_of_lt (Heap.lt_size ho)
  have W := Walks.tuple (prog := prog) (w := w) hh s₁.heap.objs.size a hne vs.toArray
  rw [show vs.toArray.size = ds.length by rw [List.size_toArray]; exact hr.length] at W
  refine ⟨_, _, _, _, rfl, W, ⟨⟨_, Heap.get?_push_size _ rfl, rfl, rfl⟩, ?_⟩, fresh_none _, ?_, ?_, ?_, ?_⟩
  · obtain ⟨o, ho, hc, n, hd⟩ := hl
    exact ⟨o, Heap.get?_push_of_some _ ho, hc, n, hd⟩
  · intro b hb
    show b < (s₁.heap.push _).objs.size
    rw [Heap.size_push]
    rcases List.mem_cons.mp hb with rfl | hb
    · exact Nat.lt_succ_self _
    · rcases List.mem_cons.mp hb with rfl | hb
      · obtain ⟨o, ho, _⟩ := hl; exact Nat.lt_succ_of_lt (Heap.lt_size ho)
      · cases hb
  · rintro i h ⟨⟨o, ho, _, hd⟩, _⟩
    exact ⟨o, _, ho, hd⟩
  · rintro i h ⟨⟨o, ho, _, hd⟩, ⟨o', ho', _, n, hd'⟩⟩ b hb
    rcases List.mem_cons.mp hb with rfl | hb
    · exact ⟨o, ho, .inl ⟨_, hd⟩⟩
    · rcases List.mem_cons.mp hb with rfl | hb
      · exact ⟨o', ho', .inr ⟨ha, _, _, hd'⟩⟩
      · cases hb
  · intro i v hP
    have hP' : vs[i]? = some v := by simpa using hP
    have hi : i < ds.length := by rw [← hr.length]; exact (List.getElem?_eq_some_iff.mp hP').1
    obtain ⟨v', hv', rv⟩ := hr.get (List.getElem?_eq_getElem hi)
    rw [hP'] at hv'; cases hv'
    exact ⟨_, List.getElem?_eq_getElem hi, rv.up (Kp.push s₁ _).u⟩
end
end Mine

/-! M13 -/
namespace Mine
open PySem PySem.W PySem.Calls PyProof.Rows PySem.Spec

theorem bindL_other {kindOf : Str → Option NameKind} : ∀ {binds : List (Str × Value)} {m : Str → Option Value} {x : Str}, x ∉ binds.map (·.1) → bindL kindOf binds m x = m x
  | [], _, _, _ => rfl
  | (n, v) :: r, m, x, h => by
    simp only [List.map_cons, List.mem_cons, not_or] at h
    unfold bindL
    rw [bindL_other h.2]
    split
    · simp only [if_neg h.1]
    · rfl
theorem bindL_get {kindOf : Str → Option NameKind} : ∀ {binds : List (Str × Value)} {m : Str → Option Value} {x : Str} {v : Value}, (binds.map (·.1)).Nodup → (x, v) ∈ binds → kindOf x = some .local → bindL kindOf binds m x = some v
  | (n, u) :: r, m, x, v, hn, hm, hk => by
    simp only [List.map_cons, List.nodup_cons] at hn
    unfold bindL
    rcases List.mem_cons.mp hm with e | hm
    · cases e
      rw [bindL_other hn.1, if_pos hk]; simp
    · exact bindL_get hn.2 hm hk
theorem bindC_other {kindOf : Str → Option NameKind} : ∀ {binds : List (Str × Value)} {m : Str → Option Value} {x : Str}, x ∉ binds.map (·.1) → bindC kindOf binds m x = m x
  | [], _, _, _ => rfl
  | (n, v) :: r, m, x, h => by
    simp only [List.map_cons, List.mem_cons, not_or] at h
    unfold bindC
    rw [bindC_other h.2]
    split
    · rfl
    · simp only [if_neg h.1]
theorem bindC_get {kindOf : Str → Option NameKind} : ∀ {binds : List (Str × Value)} {m : Str → Option Value} {x : Str} {v : Value}, (binds.map (·.1)).Nodup → (x, v) ∈ binds → kindOf x ≠ some .local → bindC kindOf binds m x = some v
  | (n, u) :: r, m, x, v, hn, hm, hk => by
    simp only [List.map_cons, List.nodup_cons] at hn
    unfold bindC
    rcases List.mem_cons.mp hm with e | hm
    · cases e
      rw [bindC_other hn.1, if_neg hk]; simp
    · exact bindC_get hn.2 hm hk

section
variable {prog : Program} {w : World} {A : Around}
/-- what a body hands back -/
noncomputable def RetOK (s₀ : Shared) (d : PV) (fl : Flow) (s' : Shared) : Prop := ∃ v, fl = .ret v ∧ (∀ Z, (∀ a ∈ Z, ∃ o, s₀.heap.get? a = some o) → Rep Z s'.heap d v) ∧ Kp s₀ s'
theorem FS.done {env : Env} {ρ : Rho} {s₀ s : Shared} {sl : Option Slot} (f : FS w s₀ env ρ sl s) : Kp s₀ s := by
  obtain ⟨m, cm, i, _⟩ := f.ex
  obtain ⟨h', tk, e, u⟩ := i.done
  exact ⟨h', tk, e, u⟩
theorem retScalar {env : Env} {ρ : Rho} {s₀ s : Shared} {sl : Option Slot} {d : PV} {v : Value} {Z : List Addr} (hd : Scalar d) (r : Rep Z s.heap d v) (f : FS w s₀ env ρ sl s) : RetOK s₀ d (.ret v) s := ⟨v, rfl, fun _ _ => hd.rep r, f.done⟩

theorem fn_ok {f : Addr} {fo : Obj} {fd : FuncData} {body : List Stmt} {ds : List PV} {d : PV} {params : List Str} (hA : A.depth < recursionLimit) (hf : (hd.heap_39 w.params).lookup f = some fo) (hfd : fo.data = .func fd) (hbody : fd.body = .stmts body) (hclo : fd.closure = [])
    (hcd : codeIn (hd.heap_39 w.params) fd.code fd.qualname = true) (hlen : params.length = ds.length) (hnd : params.Nodup) (hbind : ∀ vs : List Value, vs.length = ds.length → bindArgs fd ⟨vs, []⟩ = pure (params.zip vs))
    (hkind : ∀ L, ∀ x ∈ params, fd.scope.names.lookup x = some .local ∨ (fd.scope.names.lookup x = some .cell ∧ ((cellsFrom (L + 1) fd.scope.names []).lookup x).isSome = true))
    (h : ∀ (s₀ s : Shared), WF w s₀.heap → FS w s₀ (callEnvC fd s₀.heap.objs.size f) (params.zip ds) none s → wpAny (model prog w) (A.deeper (callEnvC fd s₀.heap.objs.size f)) (execs body (callEnvC fd s₀.heap.objs.size f)) (RetOK s₀ d) Nev s)
    (hco : fd.scope.isCoroutine = false := by rfl) (hgen : fd.scope.isGenerator = false := by rfl) (hk : fd.scope.kind = .function := by rfl) : FnOK prog w A f ds d := by
  intro s Z vs z W r
  have hl := r.length
  have hz : (params.zip vs).map (·.1) = params := by rw [List.map_fst_zip]; omega
  refine wpAny_call (codeAny_call_cells hA (W.K _ _ hf) hfd W.nolimit (codeRec_of W.K hcd) hbody (hbind vs hl) hclo (fun x hx => ?_) (fun s₁ i => ?_) hco hgen hk)
  · exact hkind s.heap.objs.size x.1 (by rw [← hz]; exact List.mem_map_of_mem hx)
  · have hup : Up s.heap s₁.heap := i.toInCall.keep
    have fs : FS w s (callEnvC fd s.heap.objs.size f) (params.zip ds) none s₁ := by
      refine ⟨W.up hup, fun x e he => ?_, _, _, i, trivial⟩
      have hmem : ∀ (ps : List Str) (es : List PV) (us : List Value), ps.Nodup → RepAll Z s.heap es us → (ps.zip es).lookup x = some e → ∃ u, (x, u) ∈ ps.zip us ∧ Rep Z s.heap e u := by
        intro ps
        induction ps with
        | nil => intro es us _ _ h; simp at h
        | cons p ps ih =>
          intro es us hn r h
          cases es with
          | nil => simp at h
          | cons e' es =>
            simp only [RepAll] at r
            obtain ⟨u, us', rfl, r1, r2⟩ := r
            rw [List.zip_cons_cons, List.lookup_cons] at h
            rw [List.zip_cons_cons]
            cases hb : x == p with
            | true =>
              rw [hb] at h; cases h
              rw [beq_iff_eq.mp hb]
              exact ⟨u, List.mem_cons_self, r1⟩
            | false =>
              rw [hb] at h
              obtain ⟨u', hu, ru⟩ := ih es us' (List.nodup_cons.mp hn).2 r2 h
              exact ⟨u', List.mem_cons_of_mem _ hu, ru⟩
      obtain ⟨u, hu, ru⟩ := hmem params ds vs hnd r he
      have ru' : Rep [] s₁.heap e u := (ru.up hup).sub fun a ha => (nomatch ha)
      have hxp : x ∈ params := by rw [← hz]; exact List.mem_map.mpr ⟨_, hu, rfl⟩
      rcases hkind s.heap.objs.size x hxp with hl | ⟨hl, hc⟩
      · exact .inl ⟨hl, _, u, i.toInCall.ns, bindL_get (by rw [hz]; exact hnd) hu hl, ru'⟩
      · obtain ⟨c, hc⟩ := Option.isSome_iff_exists.mp hc
        have hcell := i.cell x c hc
        rw [bindC_get (by rw [hz]; exact hnd) hu (by show ¬ fd.scope.names.lookup x = _; rw [hl]; decide)] at hcell
        exact .inr ⟨.inl hl, c, u, hc, hcell, ru'⟩
    refine wpE (h s s₁ W fs) fun fl s' h' => ?_
    obtain ⟨v, rfl, rv, k⟩ := h'
    exact ⟨rv Z z, k⟩

theorem retSlot {env : Env} {ρ : Rho} {s₀ s : Shared} {q : Slot} (f : FS w s₀ env ρ (some q) s) : ∀ v, v = .ref q.a → RetOK s₀ (.list q.xs) (.ret v) s := by
  rintro v rfl
  obtain ⟨m, cm, i, h1, h2, h3, vs, h4, h5⟩ := f.ex
  refine ⟨_, rfl, fun Z z => Rep.list_mk (notin_of_none z h3) h4.isList (h5 _ _), f.done⟩
/-- return y, y the slot -/
theorem xs_ret_slot {env : Env} {ρ : Rho} {s₀ s : Shared} {q : Slot} {rest : List Stmt} {np pos : Pos} {Q : Flow → Shared → Prop} (f : FS w s₀ env ρ (some q) s) (h : ∀ fl s', RetOK s₀ (.list q.xs) fl s' → Q fl s')
    (hk : env.scope.kind = .function := by rfl) (hdb : (q.y == ("__debug__" : Str)) = false := by first | decide | rfl) : wpAny (model prog w) A (execs (.Return (some (.Name q.y np)) pos :: rest) env) Q Nev s := by
  obtain ⟨m, cm, i, h1, h2, h3, vs, h4, h5⟩ := f.ex
  exact xs_cons (wpAny_Return_some (wpAny_Name (wpAny_loadName_local hk h1 i.toInCall.ns h2 (h _ _ (retSlot f _ rfl))) hdb))
end
end Mine

/-! M14 -/
namespace Mine
open PySem PySem.W PySem.Calls PyProof.Rows PySem.Spec
set_option maxRecDepth 100000

theorem one_arg {vs : List Value} (h : vs.length = 1) : ∃ v, vs = [v] := by
  match vs, h with
  | [v], _ => exact ⟨v, rfl⟩
theorem two_args {vs : List Value} (h : vs.length = 2) : ∃ v u, vs = [v, u] := by
  match vs, h with
  | [v, u], _ => exact ⟨v, u, rfl⟩

section
variable {prog : Program} {w : World} {A : Around}

theorem strxfrm_ok (hA : A.depth < recursionLimit) (x : Str) : FnOK prog w A 28 [.str x] (.str x) := by
  refine fn_ok (params := [Str.ofString "s"]) hA rfl rfl rfl rfl rfl rfl (by simp) (fun vs h => ?_) (fun L x hx => ?_) (fun s₀ s W₀ f => ?_)
  · obtain ⟨v, rfl⟩ := one_arg h
    rfl
  · obtain rfl := List.mem_singleton.mp hx
    exact .inl rfl
  · exact xs_ret f (.name rfl) fun v s' r f' => retScalar trivial r f'

theorem strcoll_ok (hA : A.depth < recursionLimit) (x y : Str) : FnOK prog w A 21 [.str x, .str y] (.int (b2i (decide (y.cps.toList < x.cps.toList)) - b2i (decide (x.cps.toList < y.cps.toList)))) := by
  refine fn_ok (params := [Str.ofString "a", Str.ofString "b"]) hA rfl rfl rfl rfl rfl rfl (by decide) (fun vs h => ?_) (fun L x hx => ?_) (fun s₀ s W₀ f => ?_)
  · obtain ⟨v, u, rfl⟩ := two_args h
    rfl
  · rcases List.mem_cons.mp hx with rfl | hx
    · exact .inl rfl
    · obtain rfl := List.mem_singleton.mp hx
      exact .inl rfl
  · exact xs_ret f (.subb (.gts (.name rfl) (.name rfl)) (.lts (.name rfl) (.name rfl))) fun v s' r f' => retScalar trivial r f'
end
end Mine

/-! M15 -/
namespace Mine
open PySem PySem.W PySem.Calls PyProof.Rows PySem.Spec
set_option maxRecDepth 100000

noncomputable def SubL (ρ : Rho) : Rho → Prop
  | [] => True
  | p :: r => ρ.lookup p.1 = some p.2 ∧ SubL ρ r
theorem SubL.sub {ρ : Rho} : ∀ {ρ' : Rho}, SubL ρ ρ' → ∀ x d, ρ'.lookup x = some d → ρ.lookup x = some d
  | [], _, x, d, h => by simp at h
  | p :: r, ⟨h1, h2⟩, x, d, h => by
    obtain ⟨y, e⟩ := p
    rw [List.lookup_cons] at h
    cases hb : x == y with
    | true =>
      rw [hb] at h; cases h
      rw [beq_iff_eq.mp hb]; exact h1
    | false => rw [hb] at h; exact SubL.sub h2 x d h
theorem FS.to {w : World} {s₀ s : Shared} {env : Env} {ρ ρ' : Rho} {sl : Option Slot} (f : FS w s₀ env ρ sl s) (h : SubL ρ ρ') : FS w s₀ env ρ' sl s := f.sub h.sub

noncomputable abbrev nm (x : String) : Str := Str.ofString x
noncomputable abbrev gI (l : List Int) (i : Nat) : Int := l.getD i 0
theorem iL_get {l : List Int} {i : Nat} (h : i < l.length) : (iL l)[i]? = some (.int (gI l i)) := by
  simp [iL, gI, List.getD, h]

/-! _law_pieces -/
noncomputable def comT (ns : List Int) (m k p : Int) (c : Nat) : Bool := decide (0 ≤ p) && (decide (max k p + c < m) && (gI ns (k + c).toNat == gI ns (p + c).toNat))
noncomputable def comGo (t : Nat → Bool) : Nat → Nat → Nat
  | 0, c => c
  | f + 1, c => if t c then comGo t f (c + 1) else c
theorem comGo_spec (t : Nat → Bool) : ∀ (f c : Nat), t (c + f) = false → (∀ i, c ≤ i → i < comGo t f c → t i = true) ∧ t (comGo t f c) = false ∧ c ≤ comGo t f c
  | 0, c, h => ⟨fun i h1 h2 => by unfold comGo at h2; omega, h, Nat.le_refl _⟩
  | f + 1, c, h => by
    unfold comGo
    cases e : t c with
    | true =>
      simp only [if_true]
      obtain ⟨h1, h2, h3⟩ := comGo_spec t f (c + 1) (by rw [show c + 1 + f = c + (f + 1) by omega]; exact h)
      refine ⟨fun i h4 h5 => ?_, h2, by omega⟩
      rcases Nat.lt_or_ge c i with h6 | h6
      · exact h1 i h6 h5
      · have : i = c := by omega
        rw [this]; exact e
    | false => simp only [Bool.false_eq_true, if_false]; exact ⟨fun i h1 h2 => by omega, e, Nat.le_refl _⟩
noncomputable def com (ns : List Int) (m : Nat) (k p : Int) : Nat := comGo (comT ns m k p) m 0
theorem com_spec (ns : List Int) (m : Nat) (k p : Int) (hk : 0 ≤ k) : (∀ i, i < com ns m k p → comT ns m k p i = true) ∧ comT ns m k p (com ns m k p) = false := by
  obtain ⟨h1, h2, _⟩ := comGo_spec (comT ns m k p) m 0 (by
    unfold comT
    have : decide (max k p + ((0 + m : Nat) : Int) < (m : Int)) = false := by
      simp only [decide_eq_false_iff_not]; omega
    rw [this]; simp)
  exact ⟨fun i h => h1 i (Nat.zero_le _) h, h2⟩
noncomputable def pcStep (ns : List Int) (m : Nat) (st : Int × Int) (k : Int) : Int × Int := if k < m then (st.1 + (m - k - com ns m k st.2), k) else st
noncomputable def pcAt (ns order : List Int) (m i : Nat) : Int × Int := (order.take i).foldl (pcStep ns m) (0, -1)
theorem pcAt_succ (ns order : List Int) (m i : Nat) (h : i < order.length) : pcAt ns order m (i + 1) = pcStep ns m (pcAt ns order m i) (gI order i) := by
  unfold pcAt
  rw [List.take_add_one, List.getElem?_eq_getElem h, List.foldl_append]
  simp [gI, List.getD, h]
theorem pcAt_prior (ns order : List Int) (m : Nat) (ho : ∀ k ∈ order, 0 ≤ k) : ∀ i, i ≤ order.length → -1 ≤ (pcAt ns order m i).2 ∧ (pcAt ns order m i).2 < max m 1
  | 0, _ => by simp [pcAt]; omega
  | i + 1, h => by
    obtain ⟨h1, h2⟩ := pcAt_prior ns order m ho i (by omega)
    rw [pcAt_succ _ _ _ _ (by omega)]
    unfold pcStep
    have : 0 ≤ gI order i := by
      have hi : i < order.length := by omega
      have := ho order[i] (List.getElem_mem hi)
      simpa [gI, List.getD, hi] using this
    split <;> omega
noncomputable def pieces (ns order : List Int) : Int := (pcAt ns order (ns.length - 1) order.length).1

section
variable {prog : Program} {w : World} {A : Around}
theorem Ev.cast {env : Env} {ρ : Rho} {e : Expr} {d d' : PV} (h : Ev prog w A env ρ e d) (hd : d = d') : Ev prog w A env ρ e d' := hd ▸ h
theorem pieces_ok (hA : A.depth < recursionLimit) (hh : A.handled = none) (ns order : List Int) (h1 : 1 ≤ ns.length) (h2 : ns.length ≤ 100) (ho : ∀ k ∈ order, 0 ≤ k ∧ k < ns.length) :
    FnOK prog w A 46 [.list (iL ns), .list (iL order)] (.int (pieces ns order)) := by
  obtain ⟨m, hm⟩ : ∃ m, ns.length = m + 1 := ⟨ns.length - 1, by omega⟩
  refine fn_ok (params := [nm "numbers", nm "order"]) hA rfl rfl rfl rfl rfl rfl (by decide) (fun vs h => ?_) (fun L x hx => ?_) (fun s₀ s W₀ f => ?_)
  · obtain ⟨v, u, rfl⟩ := two_args h
    rfl
  · rcases List.mem_cons.mp hx with rfl | hx
    · exact .inl rfl
    · obtain rfl := List.mem_singleton.mp hx
      exact .inl rfl
  · refine xs_assign f W₀ (d := .int m) (.cast (.sub (.len_list (xs := iL ns) ⟨rfl, rfl, rfl, rfl, by decide, by decide, .inl ⟨rfl, boot_len⟩⟩ (.cons (.name rfl) rfl .nil) (by rw [List.length_map]; omega)) .int) (by rw [List.length_map, hm]; congr 1; omega)) (.inl rfl) (.inl rfl) (fun _ h => nomatch h) fun s₁ f₁ u₁ => ?_
    refine xs_assign f₁ W₀ .int (.inl rfl) (.inl rfl) (fun _ h => nomatch h) fun s₂ f₂ u₂ => ?_
    refine xs_assign f₂ W₀ (.neg .int) (.inl rfl) (.inl rfl) (fun _ h => nomatch h) fun s₃ f₃ u₃ => ?_
    let ρs : Nat → Rho := fun i => [(nm "count", .int (pcAt ns order m i).1), (nm "prior", .int (pcAt ns order m i).2), (nm "size", .int m), (nm "numbers", .list (iL ns)), (nm "order", .list (iL order))]
    have f₃' : FS w s₀ _ (ρs 0) none s₃ := f₃.to ⟨rfl, rfl, rfl, rfl, rfl, trivial⟩
    refine xs_for ρs (fun _ => none) [] (fun _ => rfl) f₃' W₀ (.list hh (.name rfl)) (by simp [iL, Scalar]) (.inl rfl) (fun _ _ h => nomatch h) (fun i d s' hd f => ?_) (fun s' f u => ?_)
    · have hi : i < order.length := by simpa using (List.getElem?_eq_some_iff.mp hd).1
      obtain rfl : .int (gI order i) = d := by rw [iL_get hi] at hd; exact Option.some.inj hd
      have hk : 0 ≤ gI order i ∧ gI order i < m + 1 := by
        have := ho order[i] (List.getElem_mem hi)
        rw [hm] at this
        simpa [gI, List.getD, hi] using this
      obtain ⟨hp1, hp2⟩ := pcAt_prior ns order m (fun k hk => (ho k hk).1) i (by omega)
      refine xs_if f (.cmp (.name rfl) (.name rfl) .lt) (fun hb s₄ f₄ k₄ => ?_) (fun hb s₄ f₄ k₄ => ?_)
      · have hb' : gI order i < m := of_decide_eq_true hb
        refine xs_assign f₄ W₀ .int (.inl rfl) (.inl rfl) (fun _ h => nomatch h) fun s₅ f₅ u₅ => ?_
        obtain ⟨hc1, hc2⟩ := com_spec ns m (gI order i) (pcAt ns order m i).2 hk.1
        let σs : Nat → Rho := fun c => (nm "common", .int c) :: (nm "k", .int (gI order i)) :: ρs i
        have hbnd : ∀ c, comT ns m (gI order i) (pcAt ns order m i).2 c = true → max (gI order i) (pcAt ns order m i).2 + c < m ∧ 0 ≤ (pcAt ns order m i).2 := by
          intro c hc
          unfold comT at hc
          simp only [Bool.and_eq_true, decide_eq_true_eq] at hc
          exact ⟨hc.2.1, hc.1⟩
        have hcm : com ns m (gI order i) (pcAt ns order m i).2 ≤ m := by
          rcases Nat.eq_zero_or_pos (com ns m (gI order i) (pcAt ns order m i).2) with e | e
          · omega
          · have := (hbnd _ (hc1 (com ns m (gI order i) (pcAt ns order m i).2 - 1) (by omega))).1
            omega
        refine xs_while σs (com ns m (gI order i) (pcAt ns order m i).2) (comT ns m (gI order i) (pcAt ns order m i).2) f₅ (fun c hc => ?_) hc1 hc2 (fun c s₆ hc f₆ => ?_) (fun s₆ f₆ u₆ => ?_)
        · refine EvT.and2 (.cmp (.name rfl) .int .ge) fun hp => ?_
          have hp' : 0 ≤ (pcAt ns order m i).2 := of_decide_eq_true hp
          refine EvT.and2 (.cmp (.add (.max2 hh ⟨rfl, rfl, rfl, rfl, by decide, by decide, .inl ⟨rfl, boot_max⟩⟩ (.cons (.name rfl) rfl (.cons (.name rfl) rfl .nil))) (.name rfl)) (.name rfl) .lt) fun hl => ?_
          have hl' := of_decide_eq_true hl
          refine EvT.and1 (.cmp (.item (.name rfl) (.add (.name rfl) (.name rfl)) (by omega) (by omega) (iL_get (by omega))) (.item (.name rfl) (.add (.name rfl) (.name rfl)) (by omega) (by omega) (iL_get (by omega))) .eqi)
        · refine xs_aug f₆ W₀ rfl .int (.inl rfl) (fun _ h => nomatch h) fun s₇ f₇ u₇ => wpAny_execs_nil ⟨rfl, f₇.to ?_, u₇⟩
          exact ⟨rfl, rfl, rfl, rfl, rfl, rfl, rfl, trivial⟩
        · refine xs_aug f₆ W₀ rfl (.sub (.sub (.name rfl) (.name rfl)) (.name rfl)) (.inl rfl) (fun _ h => nomatch h) fun s₇ f₇ u₇ => ?_
          refine xs_assign f₇ W₀ (.name rfl) (.inl rfl) (.inl rfl) (fun _ h => nomatch h) fun s₈ f₈ u₈ => wpAny_execs_nil (wpAny_execs_nil ⟨rfl, f₈.to ?_, (k₄.u.c.trans u₅).trans ((u₆.trans u₇).trans u₈)⟩)
          have e := pcAt_succ ns order m i hi
          unfold pcStep at e
          rw [if_pos hb'] at e
          show SubL _ (ρs (i + 1))
          unfold ρs
          rw [e]
          exact ⟨rfl, rfl, rfl, rfl, rfl, trivial⟩
      · have hb' : ¬ gI order i < m := of_decide_eq_false hb
        refine wpAny_execs_nil (wpAny_execs_nil ⟨rfl, f₄.to ?_, k₄.u.c⟩)
        have e := pcAt_succ ns order m i hi
        unfold pcStep at e
        rw [if_neg hb'] at e
        show SubL _ (ρs (i + 1))
        unfold ρs
        rw [e]
        exact ⟨rfl, rfl, rfl, rfl, rfl, trivial⟩
    · have hl : (iL order).length = order.length := by simp
      refine xs_ret f (.cast (.name rfl) ?_) fun v s' r f' => retScalar trivial r f'
      unfold pieces
      rw [hl, hm]; rfl
end
end Mine

/-! M16 -/
namespace Mine
open PySem PySem.W PySem.Calls PyProof.Rows PySem.Spec
set_option maxRecDepth 100000
set_option maxHeartbeats 4000000

/-! _law_walked_back -/
noncomputable def rowOf (col : List Int) (i : Nat) : Nat := ((List.range col.length).filter fun k => decide (gI col k < gI col i)).length + ((List.range i).filter fun j => gI col j == gI col i).length
theorem filter_two {n i : Nat} {p q : Nat → Bool} (hi : i < n) (h : ∀ k, p k = true → q k = true → False) (hp : p i = false) : ((List.range n).filter p).length + ((List.range i).filter q).length < n := by
  have h1 : ((List.range i).filter q).length ≤ ((List.range n).filter fun k => q k && decide (k < i)).length := by
    have e : (List.range i).filter q = (List.range i).filter fun k => q k && decide (k < i) := by
      apply List.filter_congr
      intro x hx
      have := List.mem_range.mp hx
      simp [this]
    rw [e]
    have : (List.range i).Sublist (List.range n) := by
      have := List.take_sublist i (List.range n)
      rwa [List.take_range, Nat.min_eq_left (by omega)] at this
    exact (this.filter _).length_le
  have h2 : ∀ (l : List Nat), l.Nodup → i ∈ l → (l.filter p).length + (l.filter fun k => q k && decide (k < i)).length < l.length := by
    have h3 : ∀ l : List Nat, (l.filter p).length + (l.filter fun k => q k && decide (k < i)).length ≤ l.length := by
      intro l
      induction l with
      | nil => simp
      | cons a l ih =>
        rw [List.filter_cons, List.filter_cons, List.length_cons]
        cases e1 : p a with
        | true =>
          have e2 : q a = false := by
            cases e2 : q a with
            | false => rfl
            | true => exact (h a e1 e2).elim
          rw [e2]
          simp only [Bool.false_and, Bool.false_eq_true, if_false, if_true, List.length_cons]
          omega
        | false =>
          simp only [Bool.false_eq_true, if_false]
          split
          · simp only [List.length_cons]; omega
          · omega
    intro l
    induction l with
    | nil => intro _ h; cases h
    | cons a l ih =>
      intro hn hm
      rcases List.mem_cons.mp hm with rfl | hm
      · have := h3 l
        rw [List.filter_cons, List.filter_cons, List.length_cons, hp]
        simp only [Nat.lt_irrefl, decide_false, Bool.and_false, Bool.false_eq_true, if_false]
        omega
      · have := ih (List.nodup_cons.mp hn).2 hm
        rw [List.filter_cons, List.filter_cons, List.length_cons]
        cases e1 : p a with
        | true =>
          have e2 : q a = false := by
            cases e2 : q a with
            | false => rfl
            | true => exact (h a e1 e2).elim
          rw [e2]
          simp only [Bool.false_and, Bool.false_eq_true, if_false, if_true, List.length_cons]
          omega
        | false =>
          simp only [Bool.false_eq_true, if_false]
          split
          · simp only [List.length_cons]; omega
          · omega
  have := h2 (List.range n) List.nodup_range (List.mem_range.mpr hi)
  rw [List.length_range] at this
  omega
theorem rowOf_lt (col : List Int) {i : Nat} (hi : i < col.length) : rowOf col i < col.length := by
  refine filter_two hi (fun k h1 h2 => ?_) (by simp)
  have h1' := of_decide_eq_true h1
  have h2' := beq_iff_eq.mp h2
  omega
noncomputable def iter (f : Nat → Nat) : Nat → Nat → Nat
  | 0, x => x
  | k + 1, x => f (iter f k x)
theorem iter_lt (col : List Int) (h : 0 < col.length) : ∀ k, iter (rowOf col) k 0 < col.length
  | 0 => h
  | k + 1 => rowOf_lt col (iter_lt col h k)
noncomputable def walked (col : List Int) : List Int := (List.range col.length).map fun k => gI col (iter (rowOf col) k 0)
theorem range_get {α : Type} (f : Nat → α) {n i : Nat} {d : α} (h : ((List.range n).map f)[i]? = some d) : i < n ∧ d = f i := by
  have hi : i < n := by simpa using (List.getElem?_eq_some_iff.mp h).1
  refine ⟨hi, ?_⟩
  simpa [hi] using h.symm
theorem range_snoc {α : Type} (f : Nat → α) (i : Nat) : (List.range (i + 1)).map f = (List.range i).map f ++ [f i] := by rw [List.range_succ, List.map_append]; rfl
theorem rI_snoc (f : Nat → Int) (i : Nat) : iL ((List.range (i + 1)).map f) = iL ((List.range i).map f) ++ [.int (f i)] := by rw [range_snoc]; simp [iL]
theorem rI_get (f : Nat → Int) {n i : Nat} (h : i < n) : (iL ((List.range n).map f))[i]? = some (.int (f i)) := by simp [iL, h]

section
variable {prog : Program} {w : World} {A : Around}
theorem walked_ok (hA : A.depth < recursionLimit) (hh : A.handled = none) (col : List Int) (h1 : 1 ≤ col.length) (h2 : col.length ≤ 100) :
    FnOK prog w A 39 [.list (iL col)] (.list (iL (walked col))) := by
  refine fn_ok (params := [nm "column"]) hA rfl rfl rfl rfl rfl rfl (by simp) (fun vs h => ?_) (fun L x hx => ?_) (fun s₀ s W₀ f => ?_)
  · obtain ⟨v, rfl⟩ := one_arg h
    rfl
  · obtain rfl := List.mem_singleton.mp hx
    exact .inr ⟨rfl, rfl⟩
  · refine xs_nil_list f W₀ rfl rfl fun a s₁ ha f₁ u₁ => ?_
    let ρ₀ : Rho := [(nm "column", .list (iL col))]
    let row : Nat → Int := fun i => rowOf col i
    let sls : Nat → Option Slot := fun i => some ⟨nm "rows", a, true, iL ((List.range i).map row)⟩
    refine xs_for (fun _ => ρ₀) sls [a] (fun _ => rfl) f₁ W₀ (.range1 (n := col.length) hh ⟨rfl, rfl, rfl, rfl, by decide, by decide, .inl ⟨rfl, boot_range⟩⟩ (.cons (.cast (.len_list (xs := iL col) ⟨rfl, rfl, rfl, rfl, by decide, by decide, .inl ⟨rfl, boot_len⟩⟩ (.cons (.name rfl) rfl .nil) (by rw [List.length_map]; omega)) (by rw [List.length_map])) rfl .nil) (by omega))
      (by simp [Scalar]) (.inr ⟨rfl, _, rfl⟩) (fun i q h => by cases h; exact (by decide : nm "rows" ≠ nm "i")) (fun i d s₂ hd f₂ => ?_) (fun s₂ f₂ u₂ => ?_)
    · obtain ⟨hi, rfl⟩ := range_get _ hd
      refine xs_assign f₂ W₀ (d := .int ((List.range col.length).filter fun k => decide (gI col k < gI col i)).length) (.cast (.len_list ⟨rfl, rfl, rfl, rfl, by decide, by decide, .inl ⟨rfl, boot_len⟩⟩ (.cons (Ev.comp (ρ' := [(nm "column", .list (iL col)), (nm "i", .int i)]) (p := fun k => decide (gI col k < gI col i)) (g := fun k => .int (gI col k)) (.list hh (.name rfl)) ?_ rfl ?_ ?_ ?_) rfl .nil) ?_) ?_) (.inl rfl) (.inr trivial) (fun q h => by cases h; exact (by decide : nm "rows" ≠ nm "smaller")) fun s₃ f₃ u₃ => ?_
      · rw [List.length_map]; omega
      · intro C k d hd
        have hk : k < col.length := by simpa using (List.getElem?_eq_some_iff.mp hd).1
        obtain rfl : .int (gI col k) = d := by rw [iL_get hk] at hd; exact Option.some.inj hd
        exact .one (.cmp (.name rfl) (.item (.name rfl) (.name rfl) (by omega) (by omega) (iL_get (by omega))) .lt)
      · intro C k d hd _
        have hk : k < col.length := by simpa using (List.getElem?_eq_some_iff.mp hd).1
        obtain rfl : .int (gI col k) = d := by rw [iL_get hk] at hd; exact Option.some.inj hd
        exact .name rfl
      · intro C
        exact ⟨⟨rfl, .inl rfl, .inl rfl, rfl⟩, ⟨rfl, .inl rfl, .inl rfl, rfl⟩, trivial⟩
      · unfold compOut
        rw [List.length_map]
        have := List.length_filter_le (fun k => decide (gI col k < gI col i)) (List.range (iL col).length)
        rw [List.length_range, List.length_map] at this
        rw [List.length_map]; omega
      · unfold compOut
        rw [List.length_map, List.length_map]
      · refine xs_append f₃ W₀ rfl (d := .int (row i)) (.cast (.add (.name rfl) (.len_list ⟨rfl, rfl, rfl, rfl, by decide, by decide, .inl ⟨rfl, boot_len⟩⟩ (.cons (Ev.comp (ρ' := [(nm "column", .list (iL col)), (nm "i", .int i)]) (p := fun j => gI col j == gI col i) (g := fun j => .int j) (.range1 (n := i) hh ⟨rfl, rfl, rfl, rfl, by decide, by decide, .inl ⟨rfl, boot_range⟩⟩ (.cons (.name rfl) rfl .nil) (by omega)) ?_ rfl ?_ ?_ ?_) rfl .nil) ?_)) ?_) trivial ?_ (fun s₄ f₄ u₄ => wpAny_execs_nil ⟨rfl, ?_, ?_⟩) _
        · rw [List.length_map, List.length_range]; omega
        · intro C k d hd
          obtain ⟨hk, rfl⟩ := range_get _ hd
          exact .one (.cmp (.item (.name rfl) (.name rfl) (by omega) (by omega) (iL_get (by omega))) (.item (.name rfl) (.name rfl) (by omega) (by omega) (iL_get (by omega))) .eqi)
        · intro C k d hd _
          obtain ⟨hk, rfl⟩ := range_get _ hd
          exact .name rfl
        · intro C
          exact ⟨⟨rfl, .inl rfl, .inl rfl, rfl⟩, ⟨rfl, .inl rfl, .inl rfl, rfl⟩, trivial⟩
        · unfold compOut
          rw [List.length_map, List.length_map, List.length_range]
          have := List.length_filter_le (fun j => gI col j == gI col i) (List.range i)
          rw [List.length_range] at this
          omega
        · unfold compOut
          rw [List.length_map, List.length_map, List.length_range]
          rfl
        · show (iL ((List.range i).map row)).length < 1000000
          rw [List.length_map, List.length_map, List.length_range]; omega
        · show FS w s₀ _ ρ₀ (some ⟨nm "rows", a, true, iL ((List.range (i + 1)).map row)⟩) s₄
          rw [rI_snoc]
          exact f₄.to ⟨rfl, trivial⟩
        · exact (UpC.nil u₃).trans u₄
    · have hl : ((List.range col.length).map fun i : Nat => PV.int i).length = col.length := by simp
      rw [hl] at f₂
      have f₂' := f₂.freeze
      refine xs_nil_list f₂' W₀ rfl rfl fun b s₃ hb f₃ u₃ => ?_
      refine xs_assign f₃ W₀ .int (.inr ⟨rfl, _, rfl⟩) (.inr trivial) (fun q h => by cases h; exact (by decide : nm "word" ≠ nm "i")) fun s₄ f₄ u₄ => ?_
      let at_ : Nat → Nat := fun k => iter (rowOf col) k 0
      let ρs : Nat → Rho := fun k => [(nm "i", .int (at_ k)), (nm "rows", .list (iL ((List.range col.length).map row))), (nm "column", .list (iL col))]
      let wls : Nat → Option Slot := fun i => some ⟨nm "word", b, true, iL ((List.range i).map fun k => gI col (at_ k))⟩
      have f₄' : FS w s₀ _ (ρs 0) (wls 0) s₄ := f₄.to ⟨rfl, rfl, rfl, trivial⟩
      refine xs_for ρs wls [b] (fun _ => rfl) f₄' W₀ (.range1 (n := col.length) hh ⟨rfl, rfl, rfl, rfl, by decide, by decide, .inl ⟨rfl, boot_range⟩⟩ (.cons (.cast (.len_list (xs := iL col) ⟨rfl, rfl, rfl, rfl, by decide, by decide, .inl ⟨rfl, boot_len⟩⟩ (.cons (.name rfl) rfl .nil) (by rw [List.length_map]; omega)) (by rw [List.length_map])) rfl .nil) (by omega))
        (by simp [Scalar]) (.inl rfl) (fun i q h => by cases h; exact (by decide : nm "word" ≠ nm "k")) (fun k d s₅ hd f₅ => ?_) (fun s₅ f₅ u₅ => ?_)
      · obtain ⟨hk, rfl⟩ := range_get _ hd
        have hi : at_ k < col.length := iter_lt col h1 k
        refine xs_append f₅ W₀ rfl (d := .int (gI col (at_ k))) (.item (.name rfl) (.name rfl) (by omega) (by omega) (iL_get hi)) trivial ?_ (fun s₆ f₆ u₆ => ?_) _
        · show (iL ((List.range k).map _)).length < 1000000
          rw [List.length_map, List.length_map, List.length_range]; omega
        · refine xs_assign f₆ W₀ (d := .int (row (at_ k))) (.item (.name rfl) (.name rfl) (by omega) (by omega) (rI_get row hi)) (.inr ⟨rfl, _, rfl⟩) (.inr trivial) (fun q h => by cases h; exact (by decide : nm "word" ≠ nm "i")) fun s₇ f₇ u₇ => wpAny_execs_nil ⟨rfl, ?_, u₆.trans (UpC.nil u₇)⟩
          show FS w s₀ _ _ (some ⟨nm "word", b, true, iL ((List.range (k + 1)).map fun k => gI col (at_ k))⟩) s₇
          rw [rI_snoc]
          exact f₇.to ⟨rfl, rfl, rfl, trivial⟩
      · rw [hl] at f₅
        exact xs_ret_slot f₅ fun fl s' r => r
end
end Mine

/-! M17 -/
namespace Mine
open PySem PySem.W PySem.Calls PyProof.Rows PySem.Spec
set_option maxRecDepth 100000
set_option maxHeartbeats 4000000

/-! a sorted list of numbers below n -/
noncomputable def ins (lt : Nat → Nat → Bool) (x : Nat) : List Nat → List Nat
  | [] => [x]
  | y :: r => if lt x y then x :: y :: r else y :: ins lt x r
noncomputable def srt (lt : Nat → Nat → Bool) : Nat → List Nat
  | 0 => []
  | n + 1 => ins lt n (srt lt n)
theorem ins_perm (lt : Nat → Nat → Bool) (x : Nat) : ∀ l, (ins lt x l).Perm (x :: l)
  | [] => .refl _
  | y :: r => by
    unfold ins
    split
    · exact .refl _
    · exact ((ins_perm lt x r).cons y).trans (.swap x y r)
theorem srt_perm (lt : Nat → Nat → Bool) : ∀ n, (srt lt n).Perm (List.range n)
  | 0 => .refl _
  | n + 1 => by
    rw [List.range_succ]
    exact (ins_perm lt n _).trans (((srt_perm lt n).cons n).trans (List.perm_append_singleton n _).symm)
theorem ins_sorted {N : Nat} {lt : Nat → Nat → Bool} (O : Ord N lt) {x : Nat} (hx : x < N) : ∀ {l : List Nat}, (∀ y ∈ l, y < N ∧ y ≠ x) → l.Pairwise (fun a b => lt a b = true) → (ins lt x l).Pairwise (fun a b => lt a b = true)
  | [], _, _ => by unfold ins; exact List.pairwise_singleton _ _
  | y :: r, h, p => by
    obtain ⟨p1, p2⟩ := List.pairwise_cons.mp p
    have hy := h y List.mem_cons_self
    unfold ins
    cases e : lt x y with
    | true =>
      simp only [if_true]
      refine List.pairwise_cons.mpr ⟨fun z hz => ?_, p⟩
      rcases List.mem_cons.mp hz with rfl | hz
      · exact e
      · exact O.tr _ _ _ e (p1 z hz)
    | false =>
      simp only [Bool.false_eq_true, if_false]
      refine List.pairwise_cons.mpr ⟨fun z hz => ?_, ins_sorted O hx (fun z hz => h z (List.mem_cons_of_mem _ hz)) p2⟩
      rcases List.mem_cons.mp ((ins_perm lt x r).subset hz) with rfl | hz
      · rcases O.tot z y hx hy.1 (Ne.symm hy.2) with q | q
        · rw [q] at e; cases e
        · exact q
      · exact p1 z hz
theorem srt_sorted {N : Nat} {lt : Nat → Nat → Bool} (O : Ord N lt) : ∀ n, n ≤ N → (srt lt n).Pairwise (fun a b => lt a b = true)
  | 0, _ => .nil
  | n + 1, h => ins_sorted O h (fun y hy => by
      have := List.mem_range.mp ((srt_perm lt n).subset hy)
      omega) (srt_sorted O n (by omega))

theorem lexB_irr : ∀ x : List PV, lexB x x = false
  | [] => rfl
  | .int a :: r => by simp only [lexB, if_true]; exact lexB_irr r
  | .str a :: r => by simp only [lexB, if_true]; exact lexB_irr r
  | .bool _ :: _ => rfl
  | .list _ :: _ => rfl
  | .tup _ :: _ => rfl
theorem lexB_tr : ∀ x y z : List PV, lexB x y = true → lexB y z = true → lexB x z = true
  | .int a :: x, .int b :: y, .int c :: z, h1, h2 => by
    simp only [lexB] at h1 h2 ⊢
    by_cases e1 : a = b
    · rw [if_pos e1] at h1
      by_cases e2 : b = c
      · rw [if_pos e2] at h2
        rw [if_pos (e1.trans e2)]
        exact lexB_tr x y z h1 h2
      · rw [if_neg e2] at h2
        rw [e1, if_neg e2]; exact h2
    · rw [if_neg e1, decide_eq_true_eq] at h1
      by_cases e2 : b = c
      · rw [← e2, if_neg e1]; simpa using h1
      · rw [if_neg e2, decide_eq_true_eq] at h2
        have : a ≠ c := by omega
        rw [if_neg this, decide_eq_true_eq]; omega
  | .str a :: x, .str b :: y, .str c :: z, h1, h2 => by
    simp only [lexB] at h1 h2 ⊢
    by_cases e1 : a = b
    · rw [if_pos e1] at h1
      by_cases e2 : b = c
      · rw [if_pos e2] at h2
        rw [if_pos (e1.trans e2)]
        exact lexB_tr x y z h1 h2
      · rw [if_neg e2] at h2
        rw [e1, if_neg e2]; exact h2
    · rw [if_neg e1, decide_eq_true_eq] at h1
      by_cases e2 : b = c
      · rw [← e2, if_neg e1]; simpa using h1
      · rw [if_neg e2, decide_eq_true_eq] at h2
        have h3 : a.cps.toList < c.cps.toList := List.lt_trans h1 h2
        have : a ≠ c := fun e => by rw [e] at h3; exact List.lt_irrefl _ h3
        rw [if_neg this, decide_eq_true_eq]; exact h3
  | [], _, _, h1, _ => by simp [lexB] at h1
  | .bool _ :: _, _, _, h1, _ => by simp [lexB] at h1
  | .list _ :: _, _, _, h1, _ => by simp [lexB] at h1
  | .tup _ :: _, _, _, h1, _ => by simp [lexB] at h1
  | .int _ :: _, [], _, h1, _ => by simp [lexB] at h1
  | .int _ :: _, .bool _ :: _, _, h1, _ => by simp [lexB] at h1
  | .int _ :: _, .str _ :: _, _, h1, _ => by simp [lexB] at h1
  | .int _ :: _, .list _ :: _, _, h1, _ => by simp [lexB] at h1
  | .int _ :: _, .tup _ :: _, _, h1, _ => by simp [lexB] at h1
  | .int _ :: _, .int _ :: _, [], _, h2 => by simp [lexB] at h2
  | .int _ :: _, .int _ :: _, .bool _ :: _, _, h2 => by simp [lexB] at h2
  | .int _ :: _, .int _ :: _, .str _ :: _, _, h2 => by simp [lexB] at h2
  | .int _ :: _, .int _ :: _, .list _ :: _, _, h2 => by simp [lexB] at h2
  | .int _ :: _, .int _ :: _, .tup _ :: _, _, h2 => by simp [lexB] at h2
  | .str _ :: _, [], _, h1, _ => by simp [lexB] at h1
  | .str _ :: _, .bool _ :: _, _, h1, _ => by simp [lexB] at h1
  | .str _ :: _, .int _ :: _, _, h1, _ => by simp [lexB] at h1
  | .str _ :: _, .list _ :: _, _, h1, _ => by simp [lexB] at h1
  | .str _ :: _, .tup _ :: _, _, h1, _ => by simp [lexB] at h1
  | .str _ :: _, .str _ :: _, [], _, h2 => by simp [lexB] at h2
  | .str _ :: _, .str _ :: _, .bool _ :: _, _, h2 => by simp [lexB] at h2
  | .str _ :: _, .str _ :: _, .int _ :: _, _, h2 => by simp [lexB] at h2
  | .str _ :: _, .str _ :: _, .list _ :: _, _, h2 => by simp [lexB] at h2
  | .str _ :: _, .str _ :: _, .tup _ :: _, _, h2 => by simp [lexB] at h2

noncomputable abbrev ltR (rows : List (List PV)) (i j : Nat) : Bool := lexB (rows.getD i []) (rows.getD j [])
/-- rows that no two are alike -/
theorem rows_srt {rows : List (List PV)} {T : String} (two : 2 ≤ rows.length) (few : rows.length < 64) (first : ∀ r ∈ rows, ∃ d ds, r = d :: ds ∧ FirstKind T d)
    (same : ∀ i j, i < rows.length → j < rows.length → Same (rows.getD i []) (rows.getD j [])) (tot : ∀ i j, i < rows.length → j < rows.length → i ≠ j → ltR rows i j = true ∨ ltR rows j i = true) : Rows rows T (srt (ltR rows) rows.length) := by
  have O : Ord rows.length (ltR rows) := ⟨fun a => lexB_irr _, fun a b c => lexB_tr _ _ _, tot⟩
  exact ⟨two, few, first, same, O, srt_perm _ _, srt_sorted O _ (Nat.le_refl _)⟩
end Mine

/-! M18 -/
namespace Mine
open PySem PySem.W PySem.Calls PyProof.Rows PySem.Spec
set_option maxRecDepth 100000
set_option maxHeartbeats 4000000

/-! _law_doubled -/
noncomputable def trow (rs : List Int) (h n k : Nat) : List PV := [.int (gI rs k), .int (gI rs ((k + h) % n)), .int k]
noncomputable def trows (rs : List Int) (h n : Nat) : List (List PV) := (List.range n).map (trow rs h n)
noncomputable def sig (rs : List Int) (h n : Nat) : List Nat := srt (ltR (trows rs h n)) n
noncomputable def sg (rs : List Int) (h n i : Nat) : Nat := (sig rs h n).getD i 0
noncomputable def keyEq (rs : List Int) (h n a b : Nat) : Bool := decide (gI rs a = gI rs b ∧ gI rs ((a + h) % n) = gI rs ((b + h) % n))
noncomputable def lv (rs : List Int) (h n : Nat) : Nat → Nat
  | 0 => 0
  | i + 1 => lv rs h n i + if keyEq rs h n (sg rs h n (i + 1)) (sg rs h n i) then 0 else 1
noncomputable def fr (rs : List Int) (h n : Nat) : Nat → List Int
  | 0 => List.replicate n 0
  | i + 1 => (fr rs h n i).set (sg rs h n i) (lv rs h n i)
noncomputable def stage (rs : List Int) (h n : Nat) : List Int := fr rs h n n
noncomputable def stg (ns : List Int) : Nat → List Int
  | 0 => ns
  | t + 1 => stage (stg ns t) (2 ^ t) ns.length
noncomputable def od (rk : List Int) (n : Nat) : Nat → List Int
  | 0 => List.replicate n 0
  | k + 1 => (od rk n k).set (gI rk k).toNat k
noncomputable def doubled (ns : List Int) : List Int := od (stg ns 4) ns.length ns.length

theorem trows_len (rs : List Int) (h n : Nat) : (trows rs h n).length = n := by simp [trows]
theorem trows_get (rs : List Int) (h n : Nat) {k : Nat} (hk : k < n) : (trows rs h n).getD k [] = trow rs h n k := by simp [trows, List.getD, hk]
theorem trows_ok (rs : List Int) (h n : Nat) (h1 : 2 ≤ n) (h2 : n < 64) : Rows (trows rs h n) "int" (sig rs h n) := by
  have := rows_srt (rows := trows rs h n) (T := "int") (by rw [trows_len]; exact h1) (by rw [trows_len]; exact h2) (fun r hr => ?_) (fun i j hi hj => ?_) (fun i j hi hj hij => ?_)
  · rw [trows_len] at this; exact this
  · obtain ⟨k, _, rfl⟩ := List.mem_map.mp hr
    exact ⟨_, _, rfl, .inl ⟨rfl, _, rfl⟩⟩
  · rw [trows_len] at hi hj
    rw [trows_get _ _ _ hi, trows_get _ _ _ hj]
    exact .int _ _ (.int _ _ (.int _ _ .nil))
  · rw [trows_len] at hi hj
    unfold ltR
    rw [trows_get _ _ _ hi, trows_get _ _ _ hj]
    simp only [trow, lexB]
    by_cases e1 : gI rs i = gI rs j
    · by_cases e2 : gI rs ((i + h) % n) = gI rs ((j + h) % n)
      · have e3 : (i : Int) ≠ j := by omega
        rw [if_pos e1, if_pos e2, if_neg e3, if_pos e1.symm, if_pos e2.symm, if_neg e3.symm]
        simp only [decide_eq_true_eq]; omega
      · rw [if_pos e1, if_neg e2, if_pos e1.symm, if_neg (Ne.symm e2)]
        simp only [decide_eq_true_eq]; omega
    · rw [if_neg e1, if_neg (Ne.symm e1)]
      simp only [decide_eq_true_eq]; omega
theorem sig_perm (rs : List Int) (h n : Nat) : (sig rs h n).Perm (List.range n) := srt_perm _ _
theorem sig_len (rs : List Int) (h n : Nat) : (sig rs h n).length = n := by rw [(sig_perm rs h n).length_eq, List.length_range]
theorem sg_get (rs : List Int) (h n : Nat) {i : Nat} (hi : i < n) : (sig rs h n)[i]? = some (sg rs h n i) := by
  have : i < (sig rs h n).length := by rw [sig_len]; exact hi
  simp [sg, List.getD, this]
theorem sg_lt (rs : List Int) (h n : Nat) {i : Nat} (hi : i < n) : sg rs h n i < n := List.mem_range.mp ((sig_perm rs h n).subset (List.mem_of_getElem? (sg_get rs h n hi)))
theorem fr_len (rs : List Int) (h n : Nat) : ∀ i, (fr rs h n i).length = n
  | 0 => by simp [fr]
  | i + 1 => by simp [fr, fr_len rs h n i]
theorem od_len (rk : List Int) (n : Nat) : ∀ i, (od rk n i).length = n
  | 0 => by simp [od]
  | i + 1 => by simp [od, od_len rk n i]
theorem lv_le (rs : List Int) (h n : Nat) : ∀ i, lv rs h n i ≤ i
  | 0 => Nat.le_refl _
  | i + 1 => by
    have := lv_le rs h n i
    unfold lv
    split <;> omega
theorem fr_bound (rs : List Int) (h n : Nat) (hn : 0 < n) : ∀ i, i ≤ n → ∀ x ∈ fr rs h n i, 0 ≤ x ∧ x < n
  | 0, _, x, hx => by
    obtain ⟨_, rfl⟩ := List.mem_replicate.mp hx
    omega
  | i + 1, hi, x, hx => by
    rcases List.mem_or_eq_of_mem_set hx with hx | rfl
    · exact fr_bound rs h n hn i (by omega) x hx
    · have := lv_le rs h n i
      omega
theorem stage_bound (rs : List Int) (h n : Nat) (hn : 0 < n) {k : Nat} (hk : k < n) : 0 ≤ gI (stage rs h n) k ∧ gI (stage rs h n) k < n := by
  have hl : k < (stage rs h n).length := by rw [stage, fr_len]; exact hk
  have : gI (stage rs h n) k = (stage rs h n)[k] := by simp [gI, List.getD, hl]
  rw [this]
  exact fr_bound rs h n hn n (Nat.le_refl _) _ (List.getElem_mem hl)
theorem stg_len (ns : List Int) : ∀ t, (stg ns t).length = ns.length
  | 0 => rfl
  | t + 1 => fr_len _ _ _ _
theorem RW_get (rs : List Int) (h n : Nat) {i : Nat} (hi : i < n) : ((sig rs h n).map fun i => PV.tup ((trows rs h n).getD i []))[i]? = some (.tup (trow rs h n (sg rs h n i))) := by
  rw [List.getElem?_map, sg_get rs h n hi, Option.map_some, trows_get _ _ _ (sg_lt rs h n hi)]
theorem fmod_nat (a b : Nat) : ((a : Int)).fmod (b : Int) = ((a % b : Nat) : Int) := by
  rw [Int.fmod_eq_emod_of_nonneg _ (by omega)]; rfl
theorem hs_get {t : Nat} {d : PV} (h : ([.int 1, .int 2, .int 4, .int 8] : List PV)[t]? = some d) : t < 4 ∧ d = .int ((2 ^ t : Nat) : Int) := by
  match t, h with
  | 0, h => cases h; exact ⟨by omega, rfl⟩
  | 1, h => cases h; exact ⟨by omega, rfl⟩
  | 2, h => cases h; exact ⟨by omega, rfl⟩
  | 3, h => cases h; exact ⟨by omega, rfl⟩

structure BOk (A : Around) : Prop where
  hh : A.handled = none
  hu : A.units + 300 < cLine
  hd : A.depth + 20 < recursionLimit
theorem BOk.deep {A : Around} (h : BOk A) (env : Env) : AOk (A.deeper env) := ⟨h.hh, by have := h.hu; rw [units_deeper]; omega, by have := h.hd; rw [depth_deeper]; omega⟩
theorem BOk.a {A : Around} (h : BOk A) : AOk A := ⟨h.hh, by have := h.hu; omega, by have := h.hd; omega⟩
theorem BOk.d {A : Around} (h : BOk A) : A.depth < recursionLimit := by have := h.hd; omega
theorem tup2 {a b : PV} : [a, b].length ≤ sizeLine := by rw [sizeLine_eq]; exact (by decide : 2 ≤ 16777216)

section
variable {prog : Program} {w : World} {A : Around}
theorem xs_when {env : Env} {ρ ρ' : Rho} {s₀ s : Shared} {sl : Option Slot} {Q : Flow → Shared → Prop} {rest : List Stmt} {e : Expr} {body : List Stmt} {pos : Pos} {b : Bool} (f : FS w s₀ env ρ sl s) (he : EvT prog w A env (Slot.rho sl ++ ρ) e b)
    (ht : b = true → ∀ s', FS w s₀ env ρ sl s' → wpAny (model prog w) A (execs body env) (fun fl s'' => fl = .next ∧ FS w s₀ env ρ' sl s'' ∧ UpC [] s'.heap s''.heap) Nev s')
    (hf : b = false → ∀ s', FS w s₀ env ρ sl s' → FS w s₀ env ρ' sl s')
    (h : ∀ s', FS w s₀ env ρ' sl s' → UpC [] s.heap s'.heap → wpAny (model prog w) A (execs rest env) Q Nev s') : wpAny (model prog w) A (execs (.If e body [] pos :: rest) env) Q Nev s := by
  refine xs_if f he (fun hb s' f' k => wpE (ht hb s' f') fun fl s'' h' => ?_) (fun hb s' f' k => wpAny_execs_nil (h s' (hf hb s' f') k.u.c))
  obtain ⟨rfl, f'', u⟩ := h'
  exact h s'' f'' (k.u.c.trans u)
theorem doubled_ok (hok : BOk A) (ns : List Int) (h1 : 2 ≤ ns.length) (h2 : ns.length < 64) :
    FnOK prog w A 34 [.list (iL ns)] (.list (iL (doubled ns))) := by
  obtain ⟨n, hn⟩ : ∃ n, ns.length = n := ⟨_, rfl⟩
  refine fn_ok (params := [nm "numbers"]) hok.d rfl rfl rfl rfl rfl rfl (by simp) (fun vs h => ?_) (fun L x hx => ?_) (fun s₀ s W₀ f => ?_)
  · obtain ⟨v, rfl⟩ := one_arg h
    rfl
  · obtain rfl := List.mem_singleton.mp hx
    exact .inl rfl
  · refine xs_assign f W₀ (d := .int n) (.cast (.len_list (xs := iL ns) ⟨rfl, rfl, rfl, rfl, by decide, by decide, .inl ⟨rfl, boot_len⟩⟩ (.cons (.name rfl) rfl .nil) (by rw [List.length_map]; omega)) (by rw [List.length_map, hn])) (.inr ⟨rfl, _, rfl⟩) (.inl rfl) (fun _ h => nomatch h) fun s₁ f₁ u₁ => ?_
    refine xs_assign f₁ W₀ (.list_list (xs := iL ns) ⟨rfl, rfl, rfl, rfl, by decide, by decide, .inl ⟨rfl, boot_list⟩⟩ (.cons (.name rfl) rfl .nil) (by rw [List.length_map, sizeLine_eq]; omega)) (.inr ⟨rfl, _, rfl⟩) (.inl rfl) (fun _ h => nomatch h) fun s₂ f₂ u₂ => ?_
    let ρs : Nat → Rho := fun t => [(nm "ranks", .list (iL (stg ns t))), (nm "size", .int n)]
    have f₂' : FS w s₀ _ (ρs 0) none s₂ := f₂.to ⟨rfl, rfl, trivial⟩
    refine xs_for (ds := [.int 1, .int 2, .int 4, .int 8]) ρs (fun _ => none) [] (fun _ => rfl) f₂' W₀ (.tup hok.hh (.tup (.cons .int rfl (.cons .int rfl (.cons .int rfl (.cons .int rfl .nil)))))) (by simp [Scalar]) (.inr ⟨rfl, _, rfl⟩) (fun _ _ h => nomatch h) (fun t d s₃ hd f₃ => ?_) (fun s₃ f₃ u₃ => ?_)
    · obtain ⟨ht, rfl⟩ := hs_get hd
      let rs := stg ns t
      let h : Nat := 2 ^ t
      refine xs_assign f₃ W₀ (.sorted (trows_ok rs h n (by omega) (by omega)) ⟨rfl, rfl, rfl, rfl, by decide, by decide, .inl ⟨rfl, boot_sorted⟩⟩ (.cons (.cast (.comp (ρ' := [(nm "ranks", .list (iL rs)), (nm "h", .int h), (nm "size", .int n)]) (p := fun _ => true) (g := fun k => .tup (trow rs h n k)) (.range1 (n := n) hok.hh ⟨rfl, rfl, rfl, rfl, by decide, by decide, .inl ⟨rfl, boot_range⟩⟩ (.cons (.name rfl) rfl .nil) (by omega)) ?_ rfl ?_ ?_ ?_) ?_) rfl .nil)) (.inl rfl) (.inl rfl) (fun _ h => nomatch h) fun s₄ f₄ u₄ => ?_
      · rw [List.length_map, List.length_range]; omega
      · intro C k d hd
        exact .nil
      · intro C k d hd _
        obtain ⟨hk, rfl⟩ := range_get _ hd
        have hl : rs.length = n := by rw [← hn]; exact stg_len ns t
        have hm : (k + h) % n < n := Nat.mod_lt _ (by omega)
        refine .tup (.cons (.item (.name rfl) (.name rfl) (by omega) (by omega) (iL_get (by omega))) rfl (.cons (.item (k := ((k + h) % n : Nat)) (.name rfl) (.cast (.mod (.add (.name rfl) (.name rfl)) (.name rfl) (by omega)) ?_) (by omega) (by omega) (iL_get (by omega))) rfl (.cons (.name rfl) rfl .nil))) (by rw [sizeLine_eq]; exact (by decide : 3 ≤ 16777216))
        rw [← fmod_nat, Int.natCast_add]
      · intro C
        exact ⟨⟨rfl, .inl rfl, .inl rfl, rfl⟩, ⟨rfl, .inl rfl, .inl rfl, rfl⟩, ⟨rfl, .inl rfl, .inl rfl, rfl⟩, trivial⟩
      · unfold compOut trows
        rw [List.length_map, List.length_range, List.filter_eq_self.mpr (fun _ _ => rfl), List.map_map]; rfl
      · let RW : List PV := (sig rs h n).map fun i => PV.tup ((trows rs h n).getD i [])
        let ρ₁ : Rho := [(nm "rows", .list RW), (nm "ranks", .list (iL rs)), (nm "size", .int n)]
        have f₄' : FS w s₀ _ ρ₁ none s₄ := f₄.to ⟨rfl, rfl, rfl, trivial⟩
        refine xs_new_list (xs := iL (List.replicate n 0)) (ρ' := [(nm "size", .int n)]) f₄' W₀ rfl rfl (.cast (.rep .int (.name rfl) rfl (by omega) (by omega)) (by simp [iL])) (fun x d hx => ?_) (by simp [iL, Scalar]) fun a s₅ ha f₅ u₅ => ?_
        · have hxs : x = nm "size" := by
            rw [List.lookup_cons] at hx
            cases hb : x == nm "size" with
            | true => exact beq_iff_eq.mp hb
            | false => rw [hb] at hx; cases hx
          subst hxs
          cases hx
          exact ⟨rfl, trivial⟩
        refine xs_assign f₅ W₀ .int (.inl rfl) (.inr trivial) (fun q h => by cases h; exact (by decide : nm "fresh" ≠ nm "level")) fun s₆ f₆ u₆ => ?_
        let τs : Nat → Rho := fun i => [(nm "level", .int (lv rs h n (i - 1))), (nm "rows", .list RW), (nm "ranks", .list (iL rs)), (nm "size", .int n)]
        let sls : Nat → Option Slot := fun i => some ⟨nm "fresh", a, false, iL (fr rs h n i)⟩
        have f₆' : FS w s₀ _ (τs 0) (sls 0) s₆ := f₆.to ⟨rfl, rfl, rfl, rfl, trivial⟩
        have hl : ((List.range n).map fun i : Nat => PV.int i).length = n := by simp
        refine xs_for τs sls [a] (fun _ => rfl) f₆' W₀ (.range1 (n := n) hok.hh ⟨rfl, rfl, rfl, rfl, by decide, by decide, .inl ⟨rfl, boot_range⟩⟩ (.cons (.name rfl) rfl .nil) (by omega)) (by simp [Scalar]) (.inl rfl) (fun i q h => by cases h; exact (by decide : nm "fresh" ≠ nm "i")) (fun i d s₇ hd f₇ => ?_) (fun s₇ f₇ u₇ => ?_)
        · obtain ⟨hi, rfl⟩ := range_get _ hd
          have hR : RW[i]? = some (.tup (trow rs h n (sg rs h n i))) := RW_get rs h n hi
          have hR' : RW[((i : Int) - 1).toNat]? = some (.tup (trow rs h n (sg rs h n (i - 1)))) := by
            rw [show ((i : Int) - 1).toNat = i - 1 by omega]
            exact RW_get rs h n (by omega)
          refine xs_when (ρ' := [(nm "level", .int (lv rs h n i)), (nm "i", .int i), (nm "rows", .list RW), (nm "ranks", .list (iL rs)), (nm "size", .int n)]) f₇ (EvT.and2 (.cmp (.name rfl) .int .gt) fun hp => EvT.and1 (.cmp
              (.tup (.cons (.titem (.item (.name rfl) (.name rfl) (by omega) (by omega) hR) .int (by decide) (by decide) rfl) rfl (.cons (.titem (.item (.name rfl) (.name rfl) (by omega) (by omega) hR) .int (by decide) (by decide) rfl) rfl .nil)) tup2)
              (.tup (.cons (.titem (.item (.name rfl) (.sub (.name rfl) .int) (by have := of_decide_eq_true hp; omega) (by omega) hR') .int (by decide) (by decide) rfl) rfl (.cons (.titem (.item (.name rfl) (.sub (.name rfl) .int) (by have := of_decide_eq_true hp; omega) (by omega) hR') .int (by decide) (by decide) rfl) rfl .nil)) tup2)
              (.nep (hok.deep _)))) (fun hb s₈ f₈ => ?_) (fun hb s₈ f₈ => ?_) fun s₈ f₈ u₈ => ?_
          · refine xs_aug f₈ W₀ rfl .int (.inl rfl) (fun q h => by cases h; exact (by decide : nm "fresh" ≠ nm "level")) fun s₉ f₉ u₉ => wpAny_execs_nil ⟨rfl, f₉.to ?_, u₉⟩
            simp only [Bool.and_eq_true, decide_eq_true_eq, Bool.not_eq_true', decide_eq_false_iff_not] at hb
            obtain ⟨j, rfl⟩ : ∃ j, i = j + 1 := ⟨i - 1, by omega⟩
            have e : lv rs h n (j + 1) = lv rs h n j + 1 := by
              show lv rs h n j + (if keyEq rs h n (sg rs h n (j + 1)) (sg rs h n j) then 0 else 1) = _
              rw [if_neg]
              exact fun q => hb.2 (of_decide_eq_true q)
            refine ⟨?_, rfl, rfl, rfl, rfl, trivial⟩
            rw [e]; rfl
          · refine f₈.to ⟨?_, rfl, rfl, rfl, rfl, trivial⟩
            have e : lv rs h n (i - 1) = lv rs h n i := by
              cases i with
              | zero => rfl
              | succ j =>
                show lv rs h n j = lv rs h n j + (if keyEq rs h n (sg rs h n (j + 1)) (sg rs h n j) then 0 else 1)
                rw [if_pos]; rfl
                by_cases q : keyEq rs h n (sg rs h n (j + 1)) (sg rs h n j) = true
                · exact q
                · exfalso
                  have q' := of_decide_eq_false (Bool.eq_false_iff.mpr q)
                  have hb1 : decide ((0 : Int) < ((j + 1 : Nat) : Int)) = true := decide_eq_true (by omega)
                  rw [hb1, Bool.true_and] at hb
                  exact q' (by simpa [keyEq] using hb)
            rw [← e]; rfl
          · refine xs_assign f₈ W₀ (.titem (.item (.name rfl) (.name rfl) (by omega) (by omega) hR) .int (by decide) (by decide) rfl) (.inl rfl) (.inr trivial) (fun q h => by cases h; exact (by decide : nm "fresh" ≠ nm "place")) fun s₉ f₉ u₉ => ?_
            have hs := sg_lt rs h n hi
            have hfl : (iL (fr rs h n i)).length = n := by rw [List.length_map, fr_len]
            refine xs_set f₉ W₀ rfl (.name rfl) (.name rfl) trivial (by omega) (by rw [hfl]; omega) (by rw [hfl]; omega) fun s₁₀ f₁₀ u₁₀ => wpAny_execs_nil ⟨rfl, ?_, ((UpC.nil u₈).trans (UpC.nil u₉)).trans u₁₀⟩
            have e : (iL (fr rs h n i)).set (sg rs h n i) (.int (lv rs h n i)) = iL (fr rs h n (i + 1)) := by
              show _ = iL ((fr rs h n i).set (sg rs h n i) (lv rs h n i))
              simp [iL, List.map_set]
            show FS w s₀ _ _ (some ⟨nm "fresh", a, false, iL (fr rs h n (i + 1))⟩) s₁₀
            rw [← e]
            exact f₁₀.to ⟨rfl, rfl, rfl, rfl, trivial⟩
        · rw [hl] at f₇
          have f₇' := f₇.freeze
          refine xs_assign f₇' W₀ (.name rfl) (.inr ⟨rfl, _, rfl⟩) (.inl rfl) (fun _ h => nomatch h) fun s₈ f₈ u₈ => wpAny_execs_nil ⟨rfl, ?_, ?_⟩
          · have e : stg ns (t + 1) = fr rs h n n := by
              show stage (stg ns t) (2 ^ t) ns.length = _
              rw [hn]; rfl
            show FS w s₀ _ [(nm "ranks", .list (iL (stg ns (t + 1)))), (nm "size", .int n)] none s₈
            rw [e]
            exact f₈.to ⟨rfl, rfl, trivial⟩
          · have u57 : UpC [a] s₄.heap s₈.heap := ((UpC.nil (u₅.trans u₆)).trans u₇).trans (UpC.nil u₈)
            exact u₄.trans (UpC.drop u57 ha)
    · let rk := stg ns 4
      have f₃' : FS w s₀ _ [(nm "ranks", .list (iL rk)), (nm "size", .int n)] none s₃ := f₃
      refine xs_new_list (xs := iL (List.replicate n 0)) (ρ' := [(nm "size", .int n)]) f₃' W₀ rfl rfl (.cast (.rep .int (.name rfl) rfl (by omega) (by omega)) (by simp [iL])) (fun x d hx => ?_) (by simp [iL, Scalar]) fun a s₅ ha f₅ u₅ => ?_
      · have hxs : x = nm "size" := by
          rw [List.lookup_cons] at hx
          cases hb : x == nm "size" with
          | true => exact beq_iff_eq.mp hb
          | false => rw [hb] at hx; cases hx
        subst hxs
        cases hx
        exact ⟨rfl, trivial⟩
      have hl : ((List.range n).map fun i : Nat => PV.int i).length = n := by simp
      let sls : Nat → Option Slot := fun i => some ⟨nm "order", a, false, iL (od rk n i)⟩
      refine xs_for (fun _ => [(nm "ranks", .list (iL rk)), (nm "size", .int n)]) sls [a] (fun _ => rfl) f₅ W₀ (.range1 (n := n) hok.hh ⟨rfl, rfl, rfl, rfl, by decide, by decide, .inl ⟨rfl, boot_range⟩⟩ (.cons (.name rfl) rfl .nil) (by omega)) (by simp [Scalar]) (.inl rfl) (fun i q h => by cases h; exact (by decide : nm "order" ≠ nm "k")) (fun k d s₇ hd f₇ => ?_) (fun s₇ f₇ u₇ => ?_)
      · obtain ⟨hk, rfl⟩ := range_get _ hd
        have hrl : rk.length = n := by rw [← hn]; exact stg_len ns 4
        refine xs_assign f₇ W₀ (.item (.name rfl) (.name rfl) (by omega) (by omega) (iL_get (by omega))) (.inl rfl) (.inr trivial) (fun q h => by cases h; exact (by decide : nm "order" ≠ nm "place")) fun s₉ f₉ u₉ => ?_
        obtain ⟨hb1, hb2⟩ : 0 ≤ gI rk k ∧ gI rk k < n := by
          have := stage_bound (stg ns 3) (2 ^ 3) n (by omega) hk
          rw [← hn] at this ⊢
          exact this
        have hol : (iL (od rk n k)).length = n := by rw [List.length_map, od_len]
        refine xs_set f₉ W₀ rfl (.name rfl) (.name rfl) trivial hb1 (by rw [hol]; exact hb2) (by rw [hol]; omega) fun s₁₀ f₁₀ u₁₀ => wpAny_execs_nil ⟨rfl, ?_, (UpC.nil u₉).trans u₁₀⟩
        have e : (iL (od rk n k)).set (gI rk k).toNat (.int k) = iL (od rk n (k + 1)) := by
          show _ = iL ((od rk n k).set (gI rk k).toNat k)
          simp [iL, List.map_set]
        show FS w s₀ _ _ (some ⟨nm "order", a, false, iL (od rk n (k + 1))⟩) s₁₀
        rw [← e]
        exact f₁₀.to ⟨rfl, rfl, trivial⟩
      · rw [hl] at f₇
        refine xs_ret_slot f₇ fun fl s' r => ?_
        have e : doubled ns = od rk n n := by unfold doubled; rw [hn]
        rw [e]; exact r
end
end Mine

/-! M19 -/
namespace Mine
open PySem PySem.W PySem.Calls PyProof.Rows PySem.Spec
set_option maxRecDepth 100000
set_option maxHeartbeats 4000000

section
variable {prog : Program} {w : World} {A : Around} {env : Env} {ρ : Rho} {s₀ s : Shared}
theorem FS.storeL {x : Str} {d : PV} {v : Value} {Q : Unit → Shared → Prop} (f : FS w s₀ env ρ none s) (W₀ : WF w s₀.heap) (hk : env.scope.kind = .function) (hl : env.kindOf x = some .local) (r : Rep [] s.heap d v)
    (h : ∀ s', FS w s₀ env ((x, d) :: ρ) none s' → UpC [] s.heap s'.heap → Heap.SameBut env.locals s.heap s'.heap → Q () s') : wpAny (model prog w) A (storeName env x v) Q Nev s := by
  obtain ⟨m, cm, i, _⟩ := f.ex
  have hp : (env.scope.kind == .class || (env.scope.kind == .module && env.locals != env.globals)) = false := by rw [hk]; rfl
  have st : wpAny (model prog w) A (storeName env x v) (fun _ s' => ∃ h', s' = { s with heap := h', toks := s.toks + 1 } ∧ Heap.SameBut env.locals s.heap h' ∧ InCallC s₀ env.locals (fun y => if y = x then some v else m y) env.cells cm s') Nev s := by
    refine wpAny_storeName_local hl i.toInCall.ns (fun h' hn' hs' => ⟨h', rfl, hs', ⟨?_, hn', fun b o e => ?_, i.toInCall.fresh⟩, fun k c hc => ?_, i.apart, i.above⟩) hp
    · obtain ⟨h₁, tk, e⟩ := i.toInCall.same
      exact ⟨h', _, by rw [e]⟩
    · exact hs'.extBut b o (Nat.ne_of_lt (Nat.lt_of_lt_of_le (Heap.lt_size e) i.toInCall.fresh)) (i.toInCall.keep b o e)
    · exact (i.cell k c hc).sameBut hs' (Nat.ne_of_gt (i.above k c (mem_of_lookup hc)))
  refine wpM st fun _ s' h' => ?_
  obtain ⟨h', rfl, hs', i'⟩ := h'
  have u : ∀ {Z}, UpC Z s.heap h' := upC_ns i.toInCall.ns hs'
  refine h _ ⟨W₀.up i'.toInCall.keep, fun y e he => ?_, _, cm, i', trivial⟩ u hs'
  rw [List.lookup_cons] at he
  cases hb : y == x with
  | true =>
    rw [hb] at he; cases he
    have hyx : y = x := beq_iff_eq.mp hb
    subst hyx
    exact .inl ⟨hl, _, v, i'.toInCall.ns, by simp, Rep.upZ (u.z (Z := [])) (fun _ q _ => q) _ _ r⟩
  | false =>
    rw [hb] at he
    have hne : y ≠ x := fun q => by rw [q] at hb; simp at hb
    rcases f.E y e he with ⟨k, m₂, v₂, n₂, e₂, r₂⟩ | ⟨k, c₂, v₂, l₂, n₂, r₂⟩
    · refine .inl ⟨k, _, v₂, i'.toInCall.ns, ?_, Rep.upZ (u.z (Z := [])) (fun _ q _ => q) _ _ r₂⟩
      simp only [if_neg hne]
      rw [← e₂]
      exact congrFun (ns_unique i.toInCall.ns n₂) y
    · exact .inr ⟨k, c₂, v₂, l₂, n₂.sameBut hs' (Nat.ne_of_gt (i.above y c₂ (mem_of_lookup l₂))), Rep.upZ (u.z (Z := [])) (fun _ q _ => q) _ _ r₂⟩

/-- a namespace that the frame does not know may change -/
theorem FS.but {I : Addr} {h' : Heap} {m' : Str → Option Value} (f : FS w s₀ env ρ none s) (W₀ : WF w s₀.heap) (hI : s.heap.Ns I m') (hL : env.locals ≠ I) (h0 : s₀.heap.get? I = none) (k : ∀ b o, b ≠ I → s.heap.get? b = some o → h'.get? b = some o) :
    FS w s₀ env ρ none { s with heap := h' } ∧ UpC [] s.heap h' := by
  obtain ⟨oI, es, ep, eI, dI, _⟩ := hI
  obtain ⟨m, cm, i, so⟩ := f.ex
  have nC : ∀ c v, s.heap.IsCell c v → c ≠ I := fun c v hc e => by
    obtain ⟨o, ho, hd⟩ := hc
    rw [e, eI] at ho; cases ho
    rw [dI] at hd; cases hd
  have keep0 : ∀ b o, s₀.heap.get? b = some o → h'.get? b = some o := fun b o e => k b o (fun q' => by rw [q', h0] at e; cases e) (i.toInCall.keep b o e)
  have u : UpC [] s.heap h' := fun b o _ e hq => k b o (fun q' => by
    rw [q', eI] at e; cases e
    rcases hq with ⟨vs, hq⟩ | ⟨xs, n, hq⟩ <;> rw [dI] at hq <;> cases hq) e
  have ns : ∀ {m}, s.heap.Ns env.locals m → h'.Ns env.locals m := fun n => n.at' fun o e => k _ o hL e
  have cl : ∀ {c v}, s.heap.IsCell c v → h'.IsCell c v := fun {c v} n => by
    have hne := nC c v n
    obtain ⟨o, ho, hd⟩ := n
    exact ⟨o, k c o hne ho, hd⟩
  refine ⟨⟨W₀.up keep0, fun x d e => ?_, m, cm, ⟨⟨?_, ns i.toInCall.ns, keep0, i.toInCall.fresh⟩, fun n c hc => cl (i.cell n c hc), i.apart, i.above⟩, trivial⟩, u⟩
  · rcases f.E x d e with ⟨kk, m₂, v₂, n₂, e₂, r₂⟩ | ⟨kk, c₂, v₂, l₂, n₂, r₂⟩
    · exact .inl ⟨kk, m₂, v₂, ns n₂, e₂, Rep.upZ u.z (fun _ q _ => q) _ _ r₂⟩
    · exact .inr ⟨kk, c₂, v₂, l₂, cl n₂, Rep.upZ u.z (fun _ q _ => q) _ _ r₂⟩
  · obtain ⟨h₁, tk₁, e⟩ := i.toInCall.same
    exact ⟨h', _, by rw [e]⟩

/-- y = [.. for x in ..], the list handed over within the comprehension -/
theorem xs_comp {elt iter : Expr} {x y : Str} {px py : Pos} {ifs : List Expr} {scope : Scope} {cl : List (Str × Addr)} {pos spos : Pos} {ds : List PV} {ρ' : Rho} {p : Nat → Bool} {g : Nat → PV} {Q : Flow → Shared → Prop} {rest : List Stmt}
    (f : FS w s₀ env ρ none s) (W₀ : WF w s₀.heap) (hs : Src prog w A env ρ iter ds) (hsz : ds.length ≤ 1000) (hy : env.kindOf y = some .local) (hclos : closureFor scope env = pure cl)
    (htest : ∀ C i d, ds[i]? = some d → TestsOK prog w A (compEnvC scope cl C env) ((x, d) :: ρ') ifs (p i)) (helt : ∀ C i d, ds[i]? = some d → p i = true → Ev prog w A (compEnvC scope cl C env) ((x, d) :: ρ') elt (g i))
    (hfree : ∀ C, FreeOK env (compEnvC scope cl C env) ρ ρ')
    (h : ∀ s', FS w s₀ env ((y, .list (compOut ds.length p g)) :: ρ) none s' → UpC [] s.heap s'.heap → wpAny (model prog w) A (execs rest env) Q Nev s')
    (hk : env.scope.kind = .function := by rfl)
    (hcell : ∀ y ∈ scope.names, y.2 ≠ .cell := by decide) (hkind : scope.kind = .function := by rfl)
    (hnames : ∀ y ∈ scope.names, y.2 = .local → scope.names.lookup y.1 = some .local := by decide) (hx : scope.names.lookup x = some .local := by rfl)
    (hf : ∀ x, foldedSetIterable iter env x = pure x := by intro _; rfl)
    (hsw : swapsWith (.ListComp elt [⟨.Name x px, iter, ifs, 0⟩] scope pos) (some (.Name y py)) spos.line env = pure true := by rfl) :
    wpAny (model prog w) A (execs (.Assign [.Name y py] (.ListComp elt [⟨.Name x px, iter, ifs, 0⟩] scope pos) spos :: rest) env) Q Nev s := by
  refine xs_cons ?_
  rw [exec_Assign_Name_used _ _ _ _ hsw]
  refine wpAny_bind (wpAny_standAt (wpAny_bind ?_))
  show wpAny _ A (do let _ ← comprehension (.ListComp elt [⟨.Name x px, iter, ifs, 0⟩] scope pos) scope env _ (newList []) false (eval iter env) (some (assign (.Name y py) env))) _ _ s
  refine wpAny_bind (wpE (Q := fun _ s' => wpAny (model prog w) A (execs rest env) Q Nev s') (wpAny_comprehension_free (E := Nev) (use := some (assign (.Name y py) env)) rfl hf hclos hkind hnames (wpM (hs s _ f.gd) fun xv s₁ h₁ => ?_)) (fun _ s' hq => wpAny_pure (wpAny_pure hq)))
  obtain ⟨k₁, it₁⟩ := h₁
  refine wpM it₁ fun it s₂ h₂ => ?_
  obtain ⟨k₂, I, fp, P, St, rfl, T⟩ := h₂
  have f₁ := f.kp k₁
  have f₂ := f₁.kp k₂
  refine compCore (RR := fun acc C => compPost (model prog w) A Nev (some (assign (.Name y py) env)) (fun _ s' => wpAny (model prog w) A (execs rest env) Q Nev s') acc C) T k₂ f₁.gd hsz htest helt hfree hcell hkind hx ?_
  intro D C h' tk m' ys hD hC hDC hn hl hr hk'
  have none0 : ∀ b, s₂.heap.get? b = none → s₀.heap.get? b = none := fun b e => by
    obtain ⟨_, _, i', _⟩ := f₂.ex
    cases e' : s₀.heap.get? b with
    | none => rfl
    | some o => rw [i'.toInCall.keep b o e'] at e; cases e
  have hI0 : s₀.heap.get? I = none := by
    obtain ⟨_, _, i', _⟩ := f₁.ex
    cases e' : s₀.heap.get? I with
    | none => rfl
    | some o => have := i'.toInCall.keep I o e'; rw [T.new] at this; cases this
  have f₃ := f₂.iter (tk := tk) W₀ (T.own _ _ T.st) hI0 hk'
  have hLC : env.locals ≠ C := by
    obtain ⟨_, _, i', _⟩ := f₂.ex
    obtain ⟨o, es, ep, ho, _⟩ := i'.toInCall.ns
    rintro rfl
    rw [hC] at ho; cases ho
  have u13 : UpC [] s₁.heap h' := fun b o hb e hq => hk' b o (fun q => by rw [q, T.new] at e; cases e) (k₂.u b o e)
  have rD : Rep [] h' (.list (compOut ds.length p g)) (.ref D) := by
    obtain ⟨n, el⟩ := hl
    exact Rep.list_mk (vs := ys.toList) (by simp) ⟨_, el, rfl, n, by rw [Array.toArray_toList]⟩ (hr.sub fun a ha => nomatch ha)
  show wpAny _ A (assign (.Name y py) env (.ref D)) _ _ _
  refine wpAny_assign_Name (f₃.storeL W₀ hk hy rD fun s₄ f₄ u₄ hs₄ => ?_)
  have nC : s₄.heap.Ns C m' := hn.sameBut hs₄ hLC.symm
  refine ⟨m', nC, fun h₅ hs₅ => ?_⟩
  obtain ⟨f₅, u₅⟩ := f₄.but W₀ nC hLC (none0 C hC) hs₅.extBut
  exact h _ f₅ (((k₁.u.c.trans u13).trans u₄).trans u₅)
end
end Mine

/-! M20 -/
namespace Mine
open PySem PySem.W PySem.Calls PyProof.Rows PySem.Spec
set_option maxRecDepth 100000
set_option maxHeartbeats 8000000

/-! law: what it computes -/
noncomputable def al (r : Nat) : List Nat := if r = 0 then [36, 97, 98, 99] else if r = 1 then [32, 65, 97, 233] else [9, 49, 50, 128512]
noncomputable def nums (sc : List Int) : List Int := (sc.take 9).map (fun x => 1 + x.fmod 3) ++ [2, 1, 2, 0]
noncomputable def txt (α : List Nat) (ns : List Int) : List Nat := ns.map fun k => α.getD k.toNat 0
noncomputable def turn (l : List Nat) (k : Nat) : List Nat := l.drop k ++ l.take k
noncomputable def orow (l : List Nat) (k : Nat) : List PV := [.str (S (turn l k)), .int k]
noncomputable def orows (l : List Nat) (n : Nat) : List (List PV) := (List.range n).map (orow l)
noncomputable def osig (l : List Nat) (n : Nat) : List Nat := srt (ltR (orows l n)) n
noncomputable def oI (l : List Nat) (n : Nat) : List Int := (osig l n).map fun i : Nat => (i : Int)
noncomputable def colOf (ns : List Int) (σ : List Nat) : List Int := σ.map fun k => gI ns ((k + ns.length - 1) % ns.length)
noncomputable def seenStep (acc : List Str) (x : Str) : List Str := if acc.any (· == x) then acc else acc ++ [x]
noncomputable def seenIn (l : List Nat) (i : Nat) (acc : List Str) : Nat → List Str
  | 0 => acc
  | c + 1 => seenStep (seenIn l i acc c) (S ((l.drop i).take (c + 1)))
noncomputable def seenOut (l : List Nat) (n : Nat) : Nat → List Str
  | 0 => []
  | i + 1 => seenIn l i (seenOut l n i) (n - (i + 1))

structure LawMath (l : List Nat) (ns : List Int) : Prop where
  dbl : oI l ns.length = doubled ns
  asc : ∀ i, i + 1 < ns.length → turn l ((osig l ns.length).getD i 0) < turn l ((osig l ns.length).getD (i + 1) 0)
  back : walked (colOf ns (osig l ns.length)) = (List.range (ns.length - 1)).map (fun k => gI ns (ns.length - 2 - k)) ++ [0]
  pcs : pieces ns (oI l ns.length) = ((seenOut l ns.length (ns.length - 1)).length : Int)

theorem orows_len (l : List Nat) (n : Nat) : (orows l n).length = n := by simp [orows]
theorem orows_get (l : List Nat) (n : Nat) {k : Nat} (hk : k < n) : (orows l n).getD k [] = orow l k := by simp [orows, List.getD, hk]
theorem lst_tri (a b : List Nat) : a < b ∨ a = b ∨ b < a := by
  by_cases h : a < b
  · exact .inl h
  · by_cases h' : b < a
    · exact .inr (.inr h')
    · exact .inr (.inl (List.le_antisymm (List.not_lt.mp h') (List.not_lt.mp h)))
theorem orows_ok (l : List Nat) (n : Nat) (h1 : 2 ≤ n) (h2 : n < 64) : Rows (orows l n) "str" (osig l n) := by
  have := rows_srt (rows := orows l n) (T := "str") (by rw [orows_len]; exact h1) (by rw [orows_len]; exact h2) (fun r hr => ?_) (fun i j hi hj => ?_) (fun i j hi hj hij => ?_)
  · rw [orows_len] at this; exact this
  · obtain ⟨k, _, rfl⟩ := List.mem_map.mp hr
    exact ⟨_, _, rfl, .inr ⟨rfl, _, rfl⟩⟩
  · rw [orows_len] at hi hj
    rw [orows_get _ _ hi, orows_get _ _ hj]
    exact .str _ _ (.int _ _ .nil)
  · rw [orows_len] at hi hj
    unfold ltR
    rw [orows_get _ _ hi, orows_get _ _ hj]
    simp only [orow, lexB]
    by_cases e1 : S (turn l i) = S (turn l j)
    · have e3 : (i : Int) ≠ j := by omega
      rw [if_pos e1, if_neg e3, if_pos e1.symm, if_neg e3.symm]
      simp only [decide_eq_true_eq]; omega
    · rw [if_neg e1, if_neg (Ne.symm e1)]
      simp only [S_list]
      rcases lst_tri (turn l i) (turn l j) with h | h | h
      · exact .inl (decide_eq_true h)
      · exact absurd (S_inj.mpr h) e1
      · exact .inr (decide_eq_true h)
theorem osig_perm (l : List Nat) (n : Nat) : (osig l n).Perm (List.range n) := srt_perm _ _
theorem osig_len (l : List Nat) (n : Nat) : (osig l n).length = n := by rw [(osig_perm l n).length_eq, List.length_range]
theorem osig_lt (l : List Nat) (n : Nat) {i : Nat} (h : i ∈ osig l n) : i < n := List.mem_range.mp ((osig_perm l n).subset h)
theorem osig_get (l : List Nat) (n : Nat) {i : Nat} (hi : i < n) : (osig l n)[i]? = some ((osig l n).getD i 0) := by
  have : i < (osig l n).length := by rw [osig_len]; exact hi
  simp [List.getD, this]
theorem osig_getD_lt (l : List Nat) (n : Nat) {i : Nat} (hi : i < n) : (osig l n).getD i 0 < n := osig_lt l n (List.mem_of_getElem? (osig_get l n hi))
theorem OW_get (l : List Nat) (n : Nat) {i : Nat} (hi : i < n) : ((osig l n).map fun i => PV.tup ((orows l n).getD i []))[i]? = some (.tup (orow l ((osig l n).getD i 0))) := by
  rw [List.getElem?_map, osig_get l n hi, Option.map_some, orows_get _ _ (osig_getD_lt l n hi)]
theorem oI_get (l : List Nat) (n : Nat) {i : Nat} (hi : i < n) : (iL (oI l n))[i]? = some (.int ((osig l n).getD i 0 : Nat)) := by
  simp only [iL, oI, List.getElem?_map, osig_get l n hi, Option.map_some]
theorem compOut_all (n : Nat) (g : Nat → PV) : compOut n (fun _ => true) g = (List.range n).map g := by
  unfold compOut
  rw [List.filter_eq_self.mpr (fun _ _ => rfl)]
theorem map_range_get {α : Type} (xs : List α) (d : α) : (List.range xs.length).map (fun i => xs.getD i d) = xs := by
  apply List.ext_getElem
  · simp
  · intro i h1 h2
    simp [List.getD, h2]
theorem seenIn_le (l : List Nat) (i : Nat) (acc : List Str) : ∀ c, (seenIn l i acc c).length ≤ acc.length + c
  | 0 => Nat.le_refl _
  | c + 1 => by
    have := seenIn_le l i acc c
    unfold seenIn seenStep
    split
    · omega
    · rw [List.length_append, List.length_singleton]; omega
theorem seenOut_le (l : List Nat) (n : Nat) : ∀ i, (seenOut l n i).length ≤ i * n
  | 0 => by simp [seenOut]
  | i + 1 => by
    have h1 := seenOut_le l n i
    have h2 := seenIn_le l i (seenOut l n i) (n - (i + 1))
    show (seenIn l i (seenOut l n i) (n - (i + 1))).length ≤ _
    rw [Nat.succ_mul]; omega

theorem iL_take (xs : List Int) (k : Nat) : (iL xs).take k = iL (xs.take k) := by simp [iL, List.map_take]
theorem nums_bound (sc : List Int) : ∀ x ∈ nums sc, 0 ≤ x ∧ x ≤ 3 := by
  intro x hx
  unfold nums at hx
  rcases List.mem_append.mp hx with hx | hx
  · obtain ⟨y, _, rfl⟩ := List.mem_map.mp hx
    have h1 := Int.fmod_nonneg_of_pos y (b := 3) (by decide)
    have h2 := Int.fmod_lt_of_pos y (b := 3) (by decide)
    omega
  · simp only [List.mem_cons, List.not_mem_nil, or_false] at hx
    omega
theorem getD_some {α : List Nat} {i : Nat} (h : i < α.length) : α[i]? = some (α.getD i 0) := by simp [List.getD, h]
theorem al_len (r : Nat) : (al r).length = 4 := by unfold al; split; rfl; split <;> rfl
theorem gI_mem {xs : List Int} {k : Nat} (h : k < xs.length) : gI xs k ∈ xs := by
  have : gI xs k = xs[k] := by simp [gI, List.getD, h]
  rw [this]; exact List.getElem_mem h
section
variable {prog : Program} {w : World} {A : Around} {env : Env} {ρ : Rho}
theorem EvT.cast {e : Expr} {b b' : Bool} (h : EvT prog w A env ρ e b) (hb : b = b') : EvT prog w A env ρ e b' := hb ▸ h
theorem al_list (r : Nat) (hr : r < 3) : ∃ x t, ([Value.str (Str.ofString "$abc") 206, Value.str (Str.ofString " Aaé") 207, Value.str (Str.ofString "\t12😀") 208] : List Value)[r]? = some (.str x t) ∧ x = S (al r) := by
  match r, hr with
  | 0, _ => exact ⟨_, _, rfl, by decide⟩
  | 1, _ => exact ⟨_, _, rfl, by decide⟩
  | 2, _ => exact ⟨_, _, rfl, by decide⟩
/-- the alphabets, by number -/
theorem Ev.alph {i : Expr} {np pos : Pos} {r : Nat} (g : IsGlob w env "_law_ALPHABETS" (.ref 29)) (hi : Ev prog w A env ρ i (.int r)) (hr : r < 3)
    (hs : ∀ l u, subscripted i false (.ref l) (.int r u) = operate [.ref l, .int r u] (getItem (.ref l) (.int r u)) := by intros; with_unfolding_all rfl) : Ev prog w A env ρ (.Subscript (.Name "_law_ALPHABETS" np) i pos) (.str (S (al r))) := by
  intro s Z G
  refine Subscript_ (g.run G.W (wpM (hi s Z G) fun vi s₂ h₂ => ?_))
  obtain ⟨ri, k₂⟩ := h₂
  obtain ⟨u, rfl⟩ := ri.int_inv
  obtain ⟨x, t, hx, rfl⟩ := al_list r hr
  have ht : IsTup s₂.heap 29 (#[Value.str (Str.ofString "$abc") 206, Value.str (Str.ofString " Aaé") 207, Value.str (Str.ofString "\t12😀") 208] : Array Value) := ⟨_, (G.up k₂.u).W.K _ _ rfl, rfl, _, rfl⟩
  exact item_tupleT ht (by omega) (by omega) (j := r) (by unfold seqIndex?; simp; omega) hx ⟨rep_str, k₂⟩ (hs 29 u)
theorem Ev.slice_c {o e f : Expr} {p pos : Pos} {l : List Nat} {i c : Nat} (ho : Ev prog w A env ρ o (.str (S l))) (he : Ev prog w A env ρ e (.int i)) (hf : Ev prog w A env ρ f (.int ((i : Int) + 1 + c))) (hb : i + 1 + c ≤ l.length) (hz : l.length ≤ sizeLine)
    (ht : ∀ o' r, letTemporaryGo o o' r = pure () := by intro _ _; rfl) : Ev prog w A env ρ (.Subscript o (.Slice (some e) (some f) none p) pos) (.str (S ((l.drop i).take (c + 1)))) := by
  have h := Ev.slice_mid (a := i) (b := i + 1 + c) (p := p) (pos := pos) ho he (hf.cast (by congr 1)) (by omega) hb hz ht
  rwa [show i + 1 + c - i = c + 1 by omega] at h

theorem law_ok (hh : A.handled = none) (hu : A.units < 1000) (hd : A.depth < 500) (sc : List Int) (hsc : sc.length ≤ 1000) (M : LawMath (txt (al (sc.sum.fmod 3).toNat) (nums sc)) (nums sc)) :
    FnOK prog w A 51 [.list (iL sc)] (.bool true) := by
  obtain ⟨α, hα⟩ : ∃ α, al (sc.sum.fmod 3).toNat = α := ⟨_, rfl⟩
  obtain ⟨ns, hns⟩ : ∃ ns, nums sc = ns := ⟨_, rfl⟩
  obtain ⟨l, hl⟩ : ∃ l, txt α ns = l := ⟨_, rfl⟩
  obtain ⟨n, hn⟩ : ∃ n, ns.length = n := ⟨_, rfl⟩
  have hl' : l.length = n := by rw [← hl, ← hn]; simp [txt]
  have hn1 : 4 ≤ n ∧ n ≤ 13 := by rw [← hn, ← hns]; simp [nums]; omega
  rw [hα, hns, hl] at M
  have hfm : sc.sum.fmod 3 = ((sc.sum.fmod 3).toNat : Nat) ∧ (sc.sum.fmod 3).toNat < 3 := by
    have h1 := Int.fmod_nonneg_of_pos sc.sum (b := 3) (by decide)
    have h2 := Int.fmod_lt_of_pos sc.sum (b := 3) (by decide)
    omega
  refine fn_ok (params := [nm "script"]) (by have : recursionLimit = 1000 := rfl; omega) rfl rfl rfl rfl rfl rfl (by simp) (fun vs h => ?_) (fun L x hx => ?_) (fun s₀ s W₀ f => ?_)
  · obtain ⟨v, rfl⟩ := one_arg h
    rfl
  · obtain rfl := List.mem_singleton.mp hx
    exact .inl rfl
  · have hB : ∀ env, BOk (A.deeper env) := fun env => ⟨hh, by rw [units_deeper]; have : cLine = 9900 := rfl; omega, by rw [depth_deeper]; have : recursionLimit = 1000 := rfl; omega⟩
    refine xs_assign f W₀ (.alph (r := (sc.sum.fmod 3).toNat) ⟨rfl, rfl, rfl, rfl, by decide, by decide, .inr rfl⟩ (.cast (.mod (.sum hh ⟨rfl, rfl, rfl, rfl, by decide, by decide, .inl ⟨rfl, boot_sum⟩⟩ (.cons (.name rfl) rfl .nil)) .int (by decide)) (by rw [← hfm.1])) hfm.2) (.inr ⟨rfl, _, rfl⟩) (.inl rfl) (fun _ h => nomatch h) fun s₁ f₁ u₁ => ?_
    rw [hα] at f₁
    have hT : (sc.take 9).length ≤ 9 := by rw [List.length_take]; omega
    refine xs_assign f₁ W₀ (d := .list (iL ns)) (.cast (.addl (.comp (ds := iL (sc.take 9)) (ρ' := []) (p := fun _ => true) (g := fun k => .int (1 + (gI (sc.take 9) k).fmod 3)) (.list hh (.cast (.take (k := 9) (.name rfl) .int (by rw [List.length_map, sizeLine_eq]; omega)) (by rw [iL_take]))) ?_ rfl ?_ ?_ ?_) (.lst (.cons .int rfl (.cons .int rfl (.cons .int rfl (.cons .int rfl .nil)))))  ?_) ?_) (.inr ⟨rfl, _, rfl⟩) (.inl rfl) (fun _ h => nomatch h) fun s₂ f₂ u₂ => ?_
    · rw [List.length_map]; omega
    · intro C k d hd
      exact .nil
    · intro C k d hd _
      have hk : k < (sc.take 9).length := by simpa using (List.getElem?_eq_some_iff.mp hd).1
      obtain rfl : .int (gI (sc.take 9) k) = d := by rw [iL_get hk] at hd; exact Option.some.inj hd
      exact .add .int (.mod (.name rfl) .int (by decide))
    · intro C
      trivial
    · rw [compOut_all, List.length_map, List.length_range, List.length_map, sizeLine_eq]
      simp only [List.length_cons, List.length_nil]; omega
    · rw [compOut_all, List.length_map, ← hns]
      unfold nums
      rw [iL, List.map_append, List.map_map]
      congr 2
      have := map_range_get (sc.take 9) 0
      conv => rhs; rw [← this]
      rw [List.map_map]; rfl
    refine xs_assign f₂ W₀ (d := .str (S l)) (.join (l := l) (.cons (.cast (.comp (ds := iL ns) (ρ' := [(nm "alphabet", .str (S α))]) (p := fun _ => true) (g := fun k => .str (S [l.getD k 0])) (.list hh (.name rfl)) ?_ rfl ?_ ?_ ?_) ?_) rfl .nil) (by omega) _) (.inr ⟨rfl, _, rfl⟩) (.inl rfl) (fun _ h => nomatch h) fun s₃ f₃ u₃ => ?_
    · rw [List.length_map]; omega
    · intro C k d hd
      exact .nil
    · intro C k d hd _
      have hk : k < ns.length := by simpa using (List.getElem?_eq_some_iff.mp hd).1
      obtain rfl : .int (gI ns k) = d := by rw [iL_get hk] at hd; exact Option.some.inj hd
      have hb : 0 ≤ gI ns k ∧ gI ns k ≤ 3 := by rw [← hns] at hk ⊢; exact nums_bound sc _ (gI_mem hk)
      have hα4 : α.length = 4 := by rw [← hα]; exact al_len _
      refine .sitem (x := S α) (.name rfl) (.name rfl) hb.1 (by omega) ?_
      rw [S_list]
      have h1 : (gI ns k).toNat < α.length := by omega
      have h2 : l.getD k 0 = α.getD (gI ns k).toNat 0 := by
        rw [← hl]
        simp [txt, List.getD, hk, gI]
      rw [h2]
      exact getD_some h1
    · intro C
      exact ⟨⟨rfl, .inl rfl, .inl rfl, rfl⟩, trivial⟩
    · rw [compOut_all, List.length_map, hn, ← hl']
      have := map_range_get l 0
      conv => rhs; rw [← this]
      simp [sL]
    refine xs_assign f₃ W₀ (d := .int n) (.cast (.len_str (x := S l) ⟨rfl, rfl, rfl, rfl, by decide, by decide, .inl ⟨rfl, boot_len⟩⟩ (.cons (.name rfl) rfl .nil) (by rw [S_len]; omega)) (by rw [S_len, hl'])) (.inr ⟨rfl, _, rfl⟩) (.inl rfl) (fun _ h => nomatch h) fun s₄ f₄ u₄ => ?_
    let TS : List PV := (List.range n).map fun k => .str (S (turn l k))
    have TS_get : ∀ {k : Nat}, k < n → TS[k]? = some (.str (S (turn l k))) := fun {k} hk => by simp [TS, hk]
    have hrl : ((List.range n).map fun i : Nat => PV.int i).length = n := by simp
    refine xs_assign f₄ W₀ (d := .list TS) (.cast (.comp (ρ' := [(nm "text", .str (S l))]) (p := fun _ => true) (g := fun k => .str (S (turn l k))) (.range1 (n := n) hh ⟨rfl, rfl, rfl, rfl, by decide, by decide, .inl ⟨rfl, boot_range⟩⟩ (.cons (.name rfl) rfl .nil) (by omega)) ?_ rfl ?_ ?_ ?_) ?_) (.inr ⟨rfl, _, rfl⟩) (.inl rfl) (fun _ h => nomatch h) fun s₅ f₅ u₅ => ?_
    · rw [hrl]; omega
    · intro C k d hd
      exact .nil
    · intro C k d hd _
      obtain ⟨hk, rfl⟩ := range_get _ hd
      refine .cast (.adds (.slice_from (l := l) (k := k) (.name rfl) (.name rfl) (by omega) (by rw [sizeLine_eq]; omega)) (.slice_upto (l := l) (k := k) (.name rfl) (.name rfl) (by omega) (by rw [sizeLine_eq]; omega)) ?_) (by rw [S_app]; rfl)
      rw [S_len, S_len, List.length_drop, List.length_take, sizeLine_eq]; omega
    · intro C
      exact ⟨⟨rfl, .inl rfl, .inl rfl, rfl⟩, trivial⟩
    · rw [compOut_all, hrl]
    let OD : List PV := (osig l n).map fun i => .tup ((orows l n).getD i [])
    have ODl : OD.length = n := by simp [OD, osig_len]
    refine xs_comp (ds := OD) (ρ' := []) (p := fun _ => true) (g := fun k => .int ((osig l n).getD k 0 : Nat)) f₅ W₀ (.list hh (.sorted (orows_ok l n (by omega) (by omega)) ⟨rfl, rfl, rfl, rfl, by decide, by decide, .inl ⟨rfl, boot_sorted⟩⟩ (.cons (.cast (.comp (ρ' := [(nm "turnings", .list TS)]) (p := fun _ => true) (g := fun k => .tup (orow l k)) (.range1 (n := n) hh ⟨rfl, rfl, rfl, rfl, by decide, by decide, .inl ⟨rfl, boot_range⟩⟩ (.cons (.name rfl) rfl .nil) (by omega)) ?_ rfl ?_ ?_ ?_) ?_) rfl .nil))) (by rw [ODl]; omega) rfl rfl ?_ ?_ ?_ (fun s₆ f₆ u₆ => ?_)
    · rw [hrl]; omega
    · intro C k d hd
      exact .nil
    · intro C k d hd _
      obtain ⟨hk, rfl⟩ := range_get _ hd
      exact .tup (.cons (.callF ⟨rfl, rfl, rfl, rfl, by decide, by decide, .inr rfl⟩ rfl rfl (.cons (.item (.name rfl) (.name rfl) (by omega) (by omega) (TS_get hk)) rfl .nil) (strxfrm_ok (hB _).d _)) rfl (.cons (.name rfl) rfl .nil)) tup2
    · intro C
      exact ⟨⟨rfl, .inl rfl, .inl rfl, rfl⟩, trivial⟩
    · rw [compOut_all, hrl]
      unfold orows
      rw [List.map_map]; rfl
    · intro C k d hd
      exact .nil
    · intro C k d hd _
      have hk : k < n := by rw [← ODl]; exact (List.getElem?_eq_some_iff.mp hd).1
      rw [OW_get l n hk] at hd
      cases hd
      exact .titem (.name rfl) .int (by decide) (by decide) rfl
    · intro C
      trivial
    have e6 : compOut OD.length (fun _ => true) (fun k => .int ((osig l n).getD k 0 : Nat)) = iL (oI l n) := by
      rw [compOut_all, ODl]
      have := map_range_get (osig l n) 0
      rw [osig_len] at this
      unfold oI iL
      conv => rhs; rw [← this]
      simp
    rw [e6] at f₆
    let ρ₆ : Rho := [(nm "order", .list (iL (oI l n))), (nm "turnings", .list TS), (nm "size", .int n), (nm "text", .str (S l)), (nm "numbers", .list (iL ns))]
    have f₆' : FS w s₀ _ ρ₆ none s₆ := f₆.to ⟨rfl, rfl, rfl, rfl, rfl, trivial⟩
    refine xs_skip f₆' (.cast (.cmp (.name rfl) (.callF ⟨rfl, rfl, rfl, rfl, by decide, by decide, .inr rfl⟩ rfl rfl (.cons (.name rfl) rfl .nil) (doubled_ok (hB _) ns (by omega) (by omega))) (.nel (hB _).a)) ?_) fun s₇ f₇ k₇ => ?_
    · rw [← M.dbl, hn]; simp
    refine xs_for (fun _ => ρ₆) (fun _ => none) [] (fun _ => rfl) f₇ W₀ (.range2 (a := 1) (b := n) (n := n - 1) hh ⟨rfl, rfl, rfl, rfl, by decide, by decide, .inl ⟨rfl, boot_range⟩⟩ (.cons .int rfl (.cons (.name rfl) rfl .nil)) (by omega) (by omega) (by omega) (by omega) (by omega)) (by simp [Scalar]) (.inl rfl) (fun _ _ h => nomatch h) (fun i d s₈ hd f₈ => ?_) (fun s₈ f₈ u₈ => ?_)
    · obtain ⟨hi, rfl⟩ := range_get _ hd
      have o1 : (iL (oI l n))[((1 : Int) + i - 1).toNat]? = some (.int ((osig l n).getD i 0 : Nat)) := by
        rw [show ((1 : Int) + i - 1).toNat = i by omega]; exact oI_get l n (by omega)
      have o2 : (iL (oI l n))[((1 : Int) + i).toNat]? = some (.int ((osig l n).getD (i + 1) 0 : Nat)) := by
        rw [show ((1 : Int) + i).toNat = i + 1 by omega]; exact oI_get l n (by omega)
      have b1 := osig_getD_lt l n (i := i) (by omega)
      have b2 := osig_getD_lt l n (i := i + 1) (by omega)
      refine xs_skip f₈ (.cast (.cmp (.callF ⟨rfl, rfl, rfl, rfl, by decide, by decide, .inr rfl⟩ rfl rfl
        (.cons (.item (.name rfl) (.item (.name rfl) (.sub (.name rfl) .int) (by omega) (by omega) o1) (by omega) (by omega) (TS_get b1)) rfl
          (.cons (.item (.name rfl) (.item (.name rfl) (.name rfl) (by omega) (by omega) o2) (by omega) (by omega) (TS_get b2)) rfl .nil)) (strcoll_ok (hB _).d _ _)) (.neg .int) .nei) ?_) fun s₉ f₉ k₉ => wpAny_execs_nil ⟨rfl, f₉.to ⟨rfl, rfl, rfl, rfl, rfl, trivial⟩, k₉.u.c⟩
      have h1 := M.asc i (by omega)
      rw [hn] at h1
      rw [S_list, S_list, Int.toNat_natCast, Int.toNat_natCast, decide_eq_true h1, decide_eq_false (fun h2 => List.lt_irrefl _ (List.lt_trans h1 h2))]
      rfl
    have hoI : (oI l n).length = n := by simp [oI, osig_len]
    have hiL : (iL (oI l n)).length = n := by rw [List.length_map, hoI]
    refine xs_comp (ds := iL (oI l n)) (ρ' := [(nm "numbers", .list (iL ns)), (nm "size", .int n)]) (p := fun _ => true) (g := fun i => .int (gI ns (((osig l n).getD i 0 + n - 1) % n))) f₈ W₀ (.list hh (.name rfl)) (by rw [hiL]; omega) rfl rfl ?_ ?_ ?_ (fun s₉ f₉ u₉ => ?_)
    · intro C k d hd
      exact .nil
    · intro C k d hd _
      have hk : k < n := by rw [← hiL]; exact (List.getElem?_eq_some_iff.mp hd).1
      rw [oI_get l n hk] at hd
      cases hd
      have hm : ((osig l n).getD k 0 + n - 1) % n < n := Nat.mod_lt _ (by omega)
      refine .item (k := (((osig l n).getD k 0 + n - 1) % n : Nat)) (.name rfl) (.cast (.mod (.sub (.name rfl) .int) (.name rfl) (by omega)) ?_) (by omega) (by omega) (iL_get (by rw [hn]; exact hm))
      rw [← fmod_nat]
      congr 1
      have : (((osig l n).getD k 0 + n - 1 : Nat) : Int) = ((osig l n).getD k 0 : Int) - 1 + n := by omega
      rw [this, Int.add_fmod_right]
    · intro C
      exact ⟨⟨rfl, .inl rfl, .inl rfl, rfl⟩, ⟨rfl, .inl rfl, .inl rfl, rfl⟩, trivial⟩
    have e9 : compOut (iL (oI l n)).length (fun _ => true) (fun i => .int (gI ns (((osig l n).getD i 0 + n - 1) % n))) = iL (colOf ns (osig l n)) := by
      rw [compOut_all, hiL]
      have := map_range_get (osig l n) 0
      rw [osig_len] at this
      unfold colOf iL
      conv => rhs; rw [← this]
      rw [hn]; simp
    rw [e9] at f₉
    have hcl : (colOf ns (osig l n)).length = n := by simp [colOf, osig_len]
    refine xs_skip f₉ (.cast (.cmp (.callF ⟨rfl, rfl, rfl, rfl, by decide, by decide, .inr rfl⟩ rfl rfl (.cons (.name rfl) rfl .nil) (walked_ok (hB _).d hh (colOf ns (osig l n)) (by omega) (by omega)))
        (.cast (d' := .list (iL ((List.range (n - 1)).map (fun k => gI ns (n - 2 - k)) ++ [0]))) (.addl (.comp (ρ' := [(nm "numbers", .list (iL ns)), (nm "size", .int n)]) (p := fun _ => true) (g := fun k => .int (gI ns (n - 2 - k))) (.range1 (n := n - 1) hh ⟨rfl, rfl, rfl, rfl, by decide, by decide, .inl ⟨rfl, boot_range⟩⟩ (.cons (.cast (.sub (.name rfl) .int) (by congr 1; omega)) rfl .nil) (by omega)) ?_ rfl ?_ ?_ ?_) (.lst (.cons .int rfl .nil)) ?_) ?_) (.nel (hB _).a)) ?_) fun s₁₀ f₁₀ k₁₀ => ?_
    · rw [List.length_map, List.length_range]; omega
    · intro C k d hd
      exact .nil
    · intro C k d hd _
      obtain ⟨hk, rfl⟩ := range_get _ hd
      exact .item (k := (n - 2 - k : Nat)) (.name rfl) (.cast (.sub (.sub (.name rfl) .int) (.name rfl)) (by congr 1; omega)) (by omega) (by omega) (iL_get (by omega))
    · intro C
      exact ⟨⟨rfl, .inl rfl, .inl rfl, rfl⟩, ⟨rfl, .inl rfl, .inl rfl, rfl⟩, trivial⟩
    · rw [compOut_all, List.length_map, List.length_range, List.length_map, List.length_range, sizeLine_eq]
      simp only [List.length_cons, List.length_nil]; omega
    · rw [compOut_all, List.length_map, List.length_range]
      simp [iL]
    · have := M.back
      rw [hn] at this
      rw [this]; simp
    have f₁₀' : FS w s₀ _ ρ₆ none s₁₀ := f₁₀.to ⟨rfl, rfl, rfl, rfl, rfl, trivial⟩
    refine xs_nil_list f₁₀' W₀ rfl rfl fun a s₁₁ ha f₁₁ u₁₁ => ?_
    let sls : Nat → Option Slot := fun i => some ⟨nm "seen", a, true, sL (seenOut l n i)⟩
    have hsz : ∀ i, i ≤ n → (seenOut l n i).length ≤ 13 * 13 := fun i hi => Nat.le_trans (seenOut_le l n i) (Nat.mul_le_mul (by omega) (by omega))
    refine xs_for (fun _ => ρ₆) sls [a] (fun _ => rfl) f₁₁ W₀ (.range1 (n := n - 1) hh ⟨rfl, rfl, rfl, rfl, by decide, by decide, .inl ⟨rfl, boot_range⟩⟩ (.cons (.cast (.sub (.name rfl) .int) (by congr 1; omega)) rfl .nil) (by omega)) (by simp [Scalar]) (.inl rfl) (fun i q h => by cases h; exact (by decide : nm "seen" ≠ nm "i")) (fun i d s₁₂ hd f₁₂ => ?_) (fun s₁₂ f₁₂ u₁₂ => ?_)
    · obtain ⟨hi, rfl⟩ := range_get _ hd
      let tls : Nat → Option Slot := fun c => some ⟨nm "seen", a, true, sL (seenIn l i (seenOut l n i) c)⟩
      have hcl : ((List.range (n - (i + 1))).map fun t : Nat => PV.int ((i : Int) + 1 + t)).length = n - (i + 1) := by simp
      refine xs_for (fun _ => (nm "i", .int i) :: ρ₆) tls [a] (fun _ => rfl) f₁₂ W₀ (.range2 (a := (i : Int) + 1) (b := n) (n := n - (i + 1)) hh ⟨rfl, rfl, rfl, rfl, by decide, by decide, .inl ⟨rfl, boot_range⟩⟩ (.cons (.add (.name rfl) .int) rfl (.cons (.name rfl) rfl .nil)) (by omega) (by omega) (by omega) (by omega) (by omega)) (by simp [Scalar]) (.inl rfl) (fun i q h => by cases h; exact (by decide : nm "seen" ≠ nm "j")) (fun c d s₁₃ hd f₁₃ => ?_) (fun s₁₃ f₁₃ u₁₃ => ?_)
      · obtain ⟨hc, rfl⟩ := range_get _ hd
        refine xs_if f₁₃ (.cmp (.slice_c (.name rfl) (.name rfl) (.name rfl) (by omega) (by rw [sizeLine_eq]; omega)) (.name rfl) .nins) (fun hb s₁₄ f₁₄ k₁₄ => ?_) (fun hb s₁₄ f₁₄ k₁₄ => wpAny_execs_nil (wpAny_execs_nil ⟨rfl, ?_, k₁₄.u.c⟩))
        · refine xs_append f₁₄ W₀ rfl (.slice_c (.name rfl) (.name rfl) (.name rfl) (by omega) (by rw [sizeLine_eq]; omega)) trivial ?_ (fun s₁₅ f₁₅ u₁₅ => wpAny_execs_nil (wpAny_execs_nil ⟨rfl, ?_, k₁₄.u.c.nil.trans u₁₅⟩)) _
          · show (sL (seenIn l i (seenOut l n i) c)).length < 1000000
            have h1 := seenIn_le l i (seenOut l n i) c
            have h2 := hsz i (by omega)
            rw [List.length_map]; omega
          · have e : seenIn l i (seenOut l n i) (c + 1) = seenIn l i (seenOut l n i) c ++ [S ((l.drop i).take (c + 1))] := by
              show seenStep _ _ = _
              unfold seenStep
              rw [if_neg]
              rw [Bool.not_eq_true'] at hb
              rw [hb]; exact Bool.false_ne_true
            show FS w s₀ _ _ (some ⟨nm "seen", a, true, sL (seenIn l i (seenOut l n i) (c + 1))⟩) s₁₅
            rw [e, sL, List.map_append]
            exact f₁₅.to ⟨rfl, rfl, rfl, rfl, rfl, rfl, trivial⟩
        · have e : seenIn l i (seenOut l n i) (c + 1) = seenIn l i (seenOut l n i) c := by
            show seenStep _ _ = _
            unfold seenStep
            rw [if_pos]
            simpa using hb
          show FS w s₀ _ _ (some ⟨nm "seen", a, true, sL (seenIn l i (seenOut l n i) (c + 1))⟩) s₁₄
          rw [e]
          exact f₁₄.to ⟨rfl, rfl, rfl, rfl, rfl, rfl, trivial⟩
      · rw [hcl] at f₁₃
        refine wpAny_execs_nil ⟨rfl, ?_, u₁₃⟩
        exact f₁₃.to ⟨rfl, rfl, rfl, rfl, rfl, trivial⟩
    · have hrl' : ((List.range (n - 1)).map fun i : Nat => PV.int i).length = n - 1 := by simp
      rw [hrl'] at f₁₂
      have f₁₂' := f₁₂.freeze
      refine xs_ret f₁₂' (.cast (.eqi (.callF ⟨rfl, rfl, rfl, rfl, by decide, by decide, .inr rfl⟩ rfl rfl (.cons (.name rfl) rfl (.cons (.name rfl) rfl .nil)) (pieces_ok (hB _).d hh ns (oI l n) (by omega) (by omega) ?_)) (.len_list (xs := sL (seenOut l n (n - 1))) ⟨rfl, rfl, rfl, rfl, by decide, by decide, .inl ⟨rfl, boot_len⟩⟩ (.cons (.name rfl) rfl .nil) ?_)) ?_) fun v s' r f' => retScalar trivial r f'
      · intro k hk
        obtain ⟨j, hj, rfl⟩ := List.mem_map.mp hk
        have := osig_lt l n hj
        omega
      · have := hsz (n - 1) (by omega)
        rw [List.length_map]; omega
      · have := M.pcs
        rw [hn] at this
        rw [this, List.length_map]; simp
end
end Mine

/-! M21 -/
namespace Mine
open PySem PySem.W PySem.Calls PyProof.Rows PySem.Spec
set_option maxRecDepth 100000
set_option maxHeartbeats 8000000

noncomputable def Maths : Prop := ∀ sc : List Int, LawMath (txt (al (sc.sum.fmod 3).toNat) (nums sc)) (nums sc)
theorem Kp.rest {s s' : Shared} (k : Kp s s') : s'.os = s.os ∧ s'.gens = s.gens := by
  obtain ⟨h, t, rfl, u⟩ := k
  exact ⟨rfl, rfl⟩
end Mine
namespace Mine
open PySem PySem.W PyProof.Rows
set_option maxRecDepth 100000
set_option maxHeartbeats 8000000
theorem joined (MM : Maths) : PySem.Challenge.rw_ab6005_01.Holds := hd (by
  intro w s₀ s₁ mg mb G Y fa o pm cd doc dV kV ho hd' hcd hD hmg hg args vals as hpre hlay hrd hwl hlo
  have KX := kIn_of Y
  refine Ground.open G ?_
  intro T B D TE TW
  have hfa : fa = 51 := by
    have e : mg (Str.ofString "law") = some (.ref 51) := mg_of KX T.g rfl
    have e' : mg (Str.ofString "law") = some (.ref fa) := hmg
    rw [e] at e'
    cases e'; rfl
  have W : WF w s₁.heap := ⟨KX, ⟨_, T.g⟩, ⟨_, T.b, T.builtins⟩, T.nolimit⟩
  clear ho hd' hcd hD hmg Y G B D TE TW T
  subst hfa
  wrow_args hpre hlay hrd hwl hlo
  rename_i sc _ _ _ _ _ _ _ la us _ hL _ _ _ hI _ hc _
  refine wpAny_mono (law_ok (A := callerA) rfl (by decide) (by decide) sc ?_ (MM sc) s₁ [] _ (fun a ha => nomatch ha) W ?_) (fun v s' h => ?_) (fun _ _ h => h.elim)
  · omega
  · simp only [RepAll]
    exact ⟨_, [], rfl, Rep.list_mk (vs := us) (fun h => nomatch h) hL (of_intsAre hI), rfl⟩
  · obtain ⟨r, k⟩ := h
    obtain rfl := r.bool_inv
    refine GoodW.toG ⟨.inl ⟨_, _, _, rfl, raisesW_false ?_, .bool true, ?_, unshared_nil⟩, k.u, k.rest.1, by rw [k.rest.2]; exact hg⟩
    · wrow_none_raised
    · wrow_post)
end Mine

/-! M22 -/
namespace Mine
open PySem PySem.W PySem.Calls PyProof.Rows PySem.Spec

/-! an order of starting points, by what follows -/
noncomputable def LT (f : Nat → Int) (L a b : Nat) : Prop := ∃ j, j < L ∧ (∀ i, i < j → f (a + i) = f (b + i)) ∧ f (a + j) < f (b + j)
noncomputable def EQ (f : Nat → Int) (L a b : Nat) : Prop := ∀ i, i < L → f (a + i) = f (b + i)
section
variable {f : Nat → Int} {L M a b c : Nat}
theorem LT.irrefl : ¬ LT f L a a := fun ⟨_, _, _, h⟩ => by omega
theorem LT.asymm (h : LT f L a b) : ¬ LT f L b a := fun h' => by
  obtain ⟨j, h1, h2, h3⟩ := h
  obtain ⟨k, k1, k2, k3⟩ := h'
  rcases Nat.lt_trichotomy j k with e | e | e
  · have := k2 j e; omega
  · subst e; omega
  · have := h2 k e; omega
theorem LT.trans (h : LT f L a b) (h' : LT f L b c) : LT f L a c := by
  obtain ⟨j, h1, h2, h3⟩ := h
  obtain ⟨k, k1, k2, k3⟩ := h'
  rcases Nat.lt_trichotomy j k with e | e | e
  · exact ⟨j, h1, fun i hi => (h2 i hi).trans (k2 i (by omega)), by rw [← k2 j e]; exact h3⟩
  · subst e; exact ⟨j, h1, fun i hi => (h2 i hi).trans (k2 i hi), by omega⟩
  · exact ⟨k, k1, fun i hi => (h2 i (by omega)).trans (k2 i hi), by rw [h2 k e]; exact k3⟩
theorem LT.ne (h : LT f L a b) : ¬ EQ f L a b := fun e => by
  obtain ⟨j, h1, _, h3⟩ := h
  have := e j h1; omega
theorem EQ.symm (h : EQ f L a b) : EQ f L b a := fun i hi => (h i hi).symm
theorem EQ.trans (h : EQ f L a b) (h' : EQ f L b c) : EQ f L a c := fun i hi => (h i hi).trans (h' i hi)
theorem EQ.le (h : EQ f L a b) (hM : M ≤ L) : EQ f M a b := fun i hi => h i (by omega)
theorem LT.le (h : LT f M a b) (hM : M ≤ L) : LT f L a b := by
  obtain ⟨j, h1, h2, h3⟩ := h
  exact ⟨j, by omega, h2, h3⟩
theorem tri (f : Nat → Int) (L a b : Nat) : LT f L a b ∨ EQ f L a b ∨ LT f L b a := by
  induction L with
  | zero => exact .inr (.inl fun i hi => by omega)
  | succ L ih =>
    rcases ih with h | h | h
    · exact .inl (h.le (by omega))
    · rcases Int.lt_trichotomy (f (a + L)) (f (b + L)) with e | e | e
      · exact .inl ⟨L, by omega, h, e⟩
      · refine .inr (.inl fun i hi => ?_)
        rcases Nat.lt_or_ge i L with q | q
        · exact h i q
        · have : i = L := by omega
          rw [this]; exact e
      · exact .inr (.inr ⟨L, by omega, fun i hi => (h i hi).symm, e⟩)
    · exact .inr (.inr (h.le (by omega)))
theorem EQ_add : EQ f (L + M) a b ↔ EQ f L a b ∧ EQ f M (a + L) (b + L) := by
  constructor
  · intro h
    exact ⟨h.le (by omega), fun i hi => by rw [Nat.add_assoc, Nat.add_assoc]; exact h (L + i) (by omega)⟩
  · rintro ⟨h1, h2⟩ i hi
    rcases Nat.lt_or_ge i L with q | q
    · exact h1 i q
    · have := h2 (i - L) (by omega)
      rw [Nat.add_assoc, Nat.add_assoc, show L + (i - L) = i by omega] at this
      exact this
theorem LT_add : LT f (L + M) a b ↔ LT f L a b ∨ (EQ f L a b ∧ LT f M (a + L) (b + L)) := by
  constructor
  · rintro ⟨j, h1, h2, h3⟩
    rcases Nat.lt_or_ge j L with q | q
    · exact .inl ⟨j, q, h2, h3⟩
    · refine .inr ⟨fun i hi => h2 i (by omega), j - L, by omega, fun i hi => ?_, ?_⟩
      · rw [Nat.add_assoc, Nat.add_assoc]; exact h2 (L + i) (by omega)
      · rw [Nat.add_assoc, Nat.add_assoc, show L + (j - L) = j by omega]; exact h3
  · rintro (h | ⟨h1, j, k1, k2, k3⟩)
    · exact h.le (by omega)
    · refine ⟨L + j, by omega, fun i hi => ?_, by rw [← Nat.add_assoc, ← Nat.add_assoc]; exact k3⟩
      rcases Nat.lt_or_ge i L with q | q
      · exact h1 i q
      · have := k2 (i - L) (by omega)
        rw [Nat.add_assoc, Nat.add_assoc, show L + (i - L) = i by omega] at this
        exact this
/-- what lies between two alike is alike -/
theorem squeeze (h : ¬ LT f M b a) (h' : ¬ LT f M c b) (hL : L ≤ M) (e : EQ f L a c) : EQ f L a b ∧ EQ f L b c := by
  rcases tri f L a b with q | q | q
  · rcases tri f L b c with q' | q' | q'
    · exact absurd e (q.trans q').ne
    · have : LT f L a c := by
        obtain ⟨j, h1, h2, h3⟩ := q
        exact ⟨j, h1, fun i hi => (h2 i hi).trans (q' i (by omega)), by rw [← q' j h1]; exact h3⟩
      exact absurd e this.ne
    · exact absurd (q'.le hL) h'
  · exact ⟨q, q.symm.trans e⟩
  · exact absurd (q.le hL) h
end

/-! words with one least sign, at the end -/
noncomputable def cy (ns : List Int) (k : Nat) : Int := gI ns (k % ns.length)
structure Word (ns : List Int) : Prop where
  lo : 2 ≤ ns.length
  hi : ns.length ≤ 13
  last : gI ns (ns.length - 1) = 0
  pos : ∀ k, k < ns.length - 1 → 1 ≤ gI ns k
  three : ∀ k, k < ns.length → gI ns k ≤ 3
section
variable {ns : List Int} {L a b : Nat}
theorem cy_mod (a i : Nat) : cy ns (a % ns.length + i) = cy ns (a + i) := by
  unfold cy
  rw [Nat.mod_add_mod]
theorem LT_mod : LT (cy ns) L (a % ns.length) (b % ns.length) ↔ LT (cy ns) L a b := by
  unfold LT
  simp only [cy_mod]
theorem EQ_mod : EQ (cy ns) L (a % ns.length) (b % ns.length) ↔ EQ (cy ns) L a b := by
  unfold EQ
  simp only [cy_mod]
theorem Word.nonneg (W : Word ns) {k : Nat} : 0 ≤ cy ns k := by
  have := W.lo
  have hk : k % ns.length < ns.length := Nat.mod_lt _ (by omega)
  unfold cy
  rcases Nat.lt_or_ge (k % ns.length) (ns.length - 1) with q | q
  · have := W.pos _ q; omega
  · rw [show k % ns.length = ns.length - 1 by omega, W.last]; omega
theorem Word.zero (W : Word ns) {k : Nat} : cy ns k = 0 ↔ k % ns.length = ns.length - 1 := by
  have := W.lo
  have hk : k % ns.length < ns.length := Nat.mod_lt _ (by omega)
  unfold cy
  constructor
  · intro h
    rcases Nat.lt_or_ge (k % ns.length) (ns.length - 1) with q | q
    · have := W.pos _ q; omega
    · omega
  · intro h; rw [h, W.last]
theorem Word.inj (W : Word ns) (ha : a < ns.length) (hb : b < ns.length) (hL : ns.length ≤ L) (h : EQ (cy ns) L a b) : a = b := by
  have := W.lo
  have e := h (ns.length - 1 - a) (by omega)
  have e1 : cy ns (a + (ns.length - 1 - a)) = 0 := W.zero.mpr (by rw [show a + (ns.length - 1 - a) = ns.length - 1 by omega]; exact Nat.mod_eq_of_lt (by omega))
  rw [e1] at e
  have e2 := W.zero.mp e.symm
  rcases Nat.lt_trichotomy a b with q | q | q
  · rw [show b + (ns.length - 1 - a) = ns.length + (b - a - 1) by omega, Nat.add_mod_left, Nat.mod_eq_of_lt (by omega)] at e2
    omega
  · exact q
  · rw [Nat.mod_eq_of_lt (by omega)] at e2
    omega
theorem Word.tot (W : Word ns) (ha : a < ns.length) (hb : b < ns.length) (hL : ns.length ≤ L) (h : a ≠ b) : LT (cy ns) L a b ∨ LT (cy ns) L b a := by
  rcases tri (cy ns) L a b with q | q | q
  · exact .inl q
  · exact absurd (W.inj ha hb hL q) h
  · exact .inr q
/-- from n signs on the length does not matter -/
theorem Word.long (W : Word ns) (ha : a < ns.length) (hb : b < ns.length) (hL : ns.length ≤ L) : LT (cy ns) L a b ↔ LT (cy ns) ns.length a b := by
  constructor
  · intro h
    have hne : a ≠ b := fun e => by rw [e] at h; exact LT.irrefl h
    rcases W.tot ha hb (Nat.le_refl _) hne with q | q
    · exact q
    · exact absurd (q.le hL) h.asymm
  · exact fun h => h.le hL
end
end Mine

/-! M23 -/
namespace Mine
open PySem PySem.W PySem.Calls PyProof.Rows PySem.Spec

/-! permutations of 0 .. n-1 -/
section
variable {σ : List Nat} {n : Nat}
theorem pr_len (P : σ.Perm (List.range n)) : σ.length = n := by rw [P.length_eq, List.length_range]
theorem pr_get (P : σ.Perm (List.range n)) {i : Nat} (hi : i < n) : ∃ h : i < σ.length, σ[i] = σ.getD i 0 := by
  have h : i < σ.length := by rw [pr_len P]; exact hi
  exact ⟨h, by simp [List.getD, h]⟩
theorem pr_lt (P : σ.Perm (List.range n)) {i : Nat} (hi : i < n) : σ.getD i 0 < n := by
  obtain ⟨h, e⟩ := pr_get P hi
  rw [← e]; exact List.mem_range.mp (P.subset (List.getElem_mem h))
theorem pr_inj (P : σ.Perm (List.range n)) {i j : Nat} (hi : i < n) (hj : j < n) (e : σ.getD i 0 = σ.getD j 0) : i = j := by
  obtain ⟨h1, e1⟩ := pr_get P hi
  obtain ⟨h2, e2⟩ := pr_get P hj
  have nd : σ.Nodup := P.nodup_iff.mpr List.nodup_range
  have nd' := List.pairwise_iff_getElem.mp nd
  rcases Nat.lt_trichotomy i j with q | q | q
  · exact absurd (by rw [e1, e2, e]) (nd' i j h1 h2 q)
  · exact q
  · exact absurd (by rw [e1, e2, e]) (nd' j i h2 h1 q)
theorem pr_sur (P : σ.Perm (List.range n)) {a : Nat} (ha : a < n) : ∃ i, i < n ∧ σ.getD i 0 = a := by
  have : a ∈ σ := P.symm.subset (List.mem_range.mpr ha)
  obtain ⟨i, h, e⟩ := List.getElem_of_mem this
  have hi : i < n := by rw [← pr_len P]; exact h
  obtain ⟨h', e'⟩ := pr_get P hi
  exact ⟨i, hi, by rw [← e', e]⟩
theorem pr_pair (P : σ.Perm (List.range n)) {R : Nat → Nat → Prop} (h : σ.Pairwise R) {i j : Nat} (hij : i < j) (hj : j < n) : R (σ.getD i 0) (σ.getD j 0) := by
  obtain ⟨h1, e1⟩ := pr_get P (i := i) (by omega)
  obtain ⟨h2, e2⟩ := pr_get P hj
  have := List.pairwise_iff_getElem.mp h i j h1 h2 hij
  rwa [e1, e2] at this
end

/-! the signs of a word -/
noncomputable def Al (α : List Nat) : Prop := ∀ x y : Nat, x ≤ 3 → y ≤ 3 → (α.getD x 0 < α.getD y 0 ↔ x < y)
theorem al_ok (r : Nat) : Al (al r) := by
  have : ∀ r : Nat, r < 3 → ∀ x : Nat, x < 4 → ∀ y : Nat, y < 4 → ((al r).getD x 0 < (al r).getD y 0 ↔ x < y) := by decide
  intro x y hx hy
  rcases Nat.lt_or_ge r 2 with h | h
  · exact this r (by omega) x (by omega) y (by omega)
  · have e : al r = al 2 := by unfold al; rw [if_neg (by omega), if_neg (by omega)]; rfl
    rw [e]; exact this 2 (by omega) x (by omega) y (by omega)
theorem lex_iff : ∀ {x y : List Nat}, x.length = y.length → (x < y ↔ ∃ j, j < x.length ∧ (∀ i, i < j → x.getD i 0 = y.getD i 0) ∧ x.getD j 0 < y.getD j 0)
  | [], [], _ => by
    constructor
    · intro h; exact absurd h (List.lt_irrefl _)
    · rintro ⟨j, h, _⟩; simp at h
  | [], _ :: _, h => by simp at h
  | _ :: _, [], h => by simp at h
  | a :: x, b :: y, h => by
    rw [List.cons_lt_cons_iff, lex_iff (x := x) (y := y) (by simpa using h)]
    constructor
    · rintro (h1 | ⟨rfl, j, h1, h2, h3⟩)
      · exact ⟨0, by simp, fun i hi => by omega, by simpa using h1⟩
      · refine ⟨j + 1, by simpa using h1, fun i hi => ?_, by simpa using h3⟩
        cases i with
        | zero => simp
        | succ i => simpa using h2 i (by omega)
    · rintro ⟨j, h1, h2, h3⟩
      cases j with
      | zero => exact .inl (by simpa using h3)
      | succ j =>
        refine .inr ⟨by simpa using h2 0 (by omega), j, by simpa using h1, fun i hi => ?_, by simpa using h3⟩
        simpa using h2 (i + 1) (by omega)
section
variable {ns : List Int} {α : List Nat}
theorem txt_len : (txt α ns).length = ns.length := by simp [txt]
theorem txt_get {i : Nat} (hi : i < ns.length) : (txt α ns).getD i 0 = α.getD (gI ns i).toNat 0 := by simp [txt, List.getD, hi, gI]
theorem turn_len {k : Nat} : (turn (txt α ns) k).length = ns.length := by
  unfold turn
  rw [List.length_append, List.length_drop, List.length_take, txt_len]; omega
theorem turn_get {a i : Nat} (ha : a < ns.length) (hi : i < ns.length) : (turn (txt α ns) a).getD i 0 = α.getD (cy ns (a + i)).toNat 0 := by
  have hm : (a + i) % ns.length < ns.length := Nat.mod_lt _ (by omega)
  unfold cy
  rw [← txt_get hm]
  unfold turn
  simp only [List.getD]
  rcases Nat.lt_or_ge (a + i) ns.length with q | q
  · rw [List.getElem?_append_left (by rw [List.length_drop, txt_len]; omega), List.getElem?_drop, Nat.mod_eq_of_lt q]
  · rw [List.getElem?_append_right (by rw [List.length_drop, txt_len]; omega), List.length_drop, txt_len, List.getElem?_take, if_pos (by omega)]
    rw [show (a + i) % ns.length = i - (ns.length - a) by
      rw [Nat.mod_eq_sub_mod q, Nat.mod_eq_of_lt (by omega)]; omega]
theorem sign_lt (W : Word ns) (hA : Al α) (a b : Nat) : α.getD (cy ns a).toNat 0 < α.getD (cy ns b).toNat 0 ↔ cy ns a < cy ns b := by
  have h1 : 0 ≤ cy ns a := W.nonneg
  have h2 : 0 ≤ cy ns b := W.nonneg
  have hp := W.lo
  have h3 : cy ns a ≤ 3 := W.three _ (Nat.mod_lt _ (by omega))
  have h4 : cy ns b ≤ 3 := W.three _ (Nat.mod_lt _ (by omega))
  rw [hA _ _ (by omega) (by omega)]; omega
theorem sign_eq (W : Word ns) (hA : Al α) (a b : Nat) : α.getD (cy ns a).toNat 0 = α.getD (cy ns b).toNat 0 ↔ cy ns a = cy ns b := by
  have h1 := sign_lt W hA a b
  have h2 := sign_lt W hA b a
  omega
theorem turn_lt (W : Word ns) (hA : Al α) {a b : Nat} (ha : a < ns.length) (hb : b < ns.length) : turn (txt α ns) a < turn (txt α ns) b ↔ LT (cy ns) ns.length a b := by
  rw [lex_iff (by rw [turn_len, turn_len]), turn_len]
  unfold LT
  constructor
  · rintro ⟨j, h1, h2, h3⟩
    refine ⟨j, h1, fun i hi => ?_, ?_⟩
    · have := h2 i hi
      rw [turn_get ha (by omega), turn_get hb (by omega)] at this
      exact (sign_eq W hA _ _).mp this
    · rw [turn_get ha h1, turn_get hb h1] at h3
      exact (sign_lt W hA _ _).mp h3
  · rintro ⟨j, h1, h2, h3⟩
    refine ⟨j, h1, fun i hi => ?_, ?_⟩
    · rw [turn_get ha (by omega), turn_get hb (by omega)]
      exact (sign_eq W hA _ _).mpr (h2 i hi)
    · rw [turn_get ha h1, turn_get hb h1]
      exact (sign_lt W hA _ _).mpr h3

/-- the starting points in their order -/
structure SP (ns : List Int) (σ : List Nat) : Prop where
  perm : σ.Perm (List.range ns.length)
  lt : σ.Pairwise (LT (cy ns) ns.length)
theorem osig_SP (W : Word ns) (hA : Al α) : SP ns (osig (txt α ns) ns.length) := by
  refine ⟨osig_perm _ _, ?_⟩
  have h1 := W.lo
  have h2 := W.hi
  refine List.Pairwise.imp_of_mem (fun {a b} ha hb h => ?_) (orows_ok (txt α ns) ns.length h1 (by omega)).sorted
  have ha' := osig_lt _ _ ha
  have hb' := osig_lt _ _ hb
  rw [orows_get _ _ ha', orows_get _ _ hb'] at h
  simp only [orow, lexB] at h
  by_cases e : S (turn (txt α ns) a) = S (turn (txt α ns) b)
  · rw [if_pos e] at h
    have e' := S_inj.mp e
    have hne : a ≠ b := by
      rintro rfl
      simp at h
    exfalso
    rcases W.tot ha' hb' (Nat.le_refl _) hne with q | q
    · have := (turn_lt W hA ha' hb').mpr q
      rw [e'] at this; exact List.lt_irrefl _ this
    · have := (turn_lt W hA hb' ha').mpr q
      rw [e'] at this; exact List.lt_irrefl _ this
  · rw [if_neg e] at h
    have h := of_decide_eq_true h
    rw [S_list, S_list] at h
    exact (turn_lt W hA ha' hb').mp h
theorem pw_unique {R : Nat → Nat → Prop} (has : ∀ a b, R a b → ¬ R b a) : ∀ {a b : List Nat}, a.Perm b → a.Pairwise R → b.Pairwise R → a = b
  | [], b, h, _, _ => (List.Perm.nil_eq h)
  | x :: a, [], h, _, _ => absurd h.length_eq (by simp)
  | x :: a, y :: b, h, ha, hb => by
    have hxy : x = y := by
      have hx : x ∈ y :: b := h.subset List.mem_cons_self
      have hy : y ∈ x :: a := h.symm.subset List.mem_cons_self
      rcases List.mem_cons.mp hx with e | hx
      · exact e
      · rcases List.mem_cons.mp hy with e | hy
        · exact e.symm
        · exact absurd ((List.pairwise_cons.mp hb).1 x hx) (has _ _ ((List.pairwise_cons.mp ha).1 y hy))
    subst hxy
    rw [pw_unique has (List.Perm.cons_inv h) (List.pairwise_cons.mp ha).2 (List.pairwise_cons.mp hb).2]
theorem SP.unique {σ τ : List Nat} (h : SP ns σ) (h' : SP ns τ) : σ = τ := pw_unique (fun _ _ q => q.asymm) (h.perm.trans h'.perm.symm) h.lt h'.lt
end
end Mine

/-! M24 -/
namespace Mine
open PySem PySem.W PySem.Calls PyProof.Rows PySem.Spec

/-- the ranks are in the order of the first L signs -/
structure Rk (ns : List Int) (L : Nat) (rs : List Int) : Prop where
  lt : ∀ a b, a < ns.length → b < ns.length → (gI rs a < gI rs b ↔ LT (cy ns) L a b)
  eq : ∀ a b, a < ns.length → b < ns.length → (gI rs a = gI rs b ↔ EQ (cy ns) L a b)
section
variable {ns rs : List Int} {L n : Nat}
theorem Rk.zero (W : Word ns) : Rk ns 1 ns := by
  have hc : ∀ a, a < ns.length → cy ns (a + 0) = gI ns a := fun a ha => by unfold cy; rw [Nat.add_zero, Nat.mod_eq_of_lt ha]
  refine ⟨fun a b ha hb => ⟨fun h => ⟨0, by omega, fun i hi => by omega, by rw [hc a ha, hc b hb]; exact h⟩, ?_⟩, fun a b ha hb => ⟨fun h i hi => ?_, fun h => ?_⟩⟩
  · rintro ⟨j, h1, _, h3⟩
    obtain rfl : j = 0 := by omega
    rw [hc a ha, hc b hb] at h3; exact h3
  · obtain rfl : i = 0 := by omega
    rw [hc a ha, hc b hb]; exact h
  · have := h 0 (by omega)
    rw [hc a ha, hc b hb] at this; exact this
theorem Rk.key (W : Word ns) (R : Rk ns L rs) {a b : Nat} (ha : a < ns.length) (hb : b < ns.length) : keyEq rs L ns.length a b = true ↔ EQ (cy ns) (L + L) a b := by
  have hp := W.lo
  have ha' : (a + L) % ns.length < ns.length := Nat.mod_lt _ (by omega)
  have hb' : (b + L) % ns.length < ns.length := Nat.mod_lt _ (by omega)
  unfold keyEq
  rw [decide_eq_true_eq, R.eq a b ha hb, R.eq _ _ ha' hb', EQ_mod, EQ_add]
theorem Rk.row (W : Word ns) (R : Rk ns L rs) {a b : Nat} (ha : a < ns.length) (hb : b < ns.length) (h : lexB (trow rs L ns.length a) (trow rs L ns.length b) = true) : LT (cy ns) (L + L) a b ∨ (EQ (cy ns) (L + L) a b ∧ a < b) := by
  have hp := W.lo
  have ha' : (a + L) % ns.length < ns.length := Nat.mod_lt _ (by omega)
  have hb' : (b + L) % ns.length < ns.length := Nat.mod_lt _ (by omega)
  simp only [trow, lexB] at h
  by_cases e1 : gI rs a = gI rs b
  · rw [if_pos e1] at h
    have q1 := (R.eq a b ha hb).mp e1
    by_cases e2 : gI rs ((a + L) % ns.length) = gI rs ((b + L) % ns.length)
    · rw [if_pos e2] at h
      have q2 := EQ_mod.mp ((R.eq _ _ ha' hb').mp e2)
      refine .inr ⟨EQ_add.mpr ⟨q1, q2⟩, ?_⟩
      by_cases e3 : (a : Int) = b
      · rw [if_pos e3] at h; cases h
      · rw [if_neg e3] at h
        have := of_decide_eq_true h
        omega
    · rw [if_neg e2] at h
      have q2 := LT_mod.mp ((R.lt _ _ ha' hb').mp (of_decide_eq_true h))
      exact .inl (LT_add.mpr (.inr ⟨q1, q2⟩))
  · rw [if_neg e1] at h
    exact .inl (LT_add.mpr (.inl ((R.lt a b ha hb).mp (of_decide_eq_true h))))

theorem sig_sorted (W : Word ns) (R : Rk ns L rs) {i j : Nat} (hij : i < j) (hj : j < ns.length) :
    LT (cy ns) (L + L) (sg rs L ns.length i) (sg rs L ns.length j) ∨ (EQ (cy ns) (L + L) (sg rs L ns.length i) (sg rs L ns.length j) ∧ sg rs L ns.length i < sg rs L ns.length j) := by
  have h1 := W.lo
  have h2 := W.hi
  have hs := pr_pair (sig_perm rs L ns.length) (trows_ok rs L ns.length h1 (by omega)).sorted hij hj
  have ha : sg rs L ns.length i < ns.length := sg_lt _ _ _ (by omega)
  have hb : sg rs L ns.length j < ns.length := sg_lt _ _ _ hj
  have hs : lexB ((trows rs L ns.length).getD (sg rs L ns.length i) []) ((trows rs L ns.length).getD (sg rs L ns.length j) []) = true := hs
  rw [trows_get _ _ _ ha, trows_get _ _ _ hb] at hs
  exact R.row W ha hb hs
theorem sig_not (W : Word ns) (R : Rk ns L rs) {i j : Nat} (hij : i < j) (hj : j < ns.length) : ¬ LT (cy ns) (L + L) (sg rs L ns.length j) (sg rs L ns.length i) := by
  rcases sig_sorted W R hij hj with h | ⟨h, _⟩
  · exact h.asymm
  · exact fun q => q.ne h.symm
theorem lv_step (i : Nat) : lv rs L n (i + 1) = lv rs L n i ∧ keyEq rs L n (sg rs L n (i + 1)) (sg rs L n i) = true ∨ lv rs L n (i + 1) = lv rs L n i + 1 ∧ keyEq rs L n (sg rs L n (i + 1)) (sg rs L n i) = false := by
  show lv rs L n i + (if keyEq rs L n (sg rs L n (i + 1)) (sg rs L n i) then 0 else 1) = _ ∧ _ ∨ lv rs L n i + (if keyEq rs L n (sg rs L n (i + 1)) (sg rs L n i) then 0 else 1) = _ ∧ _
  cases h : keyEq rs L n (sg rs L n (i + 1)) (sg rs L n i)
  · exact .inr ⟨rfl, rfl⟩
  · exact .inl ⟨rfl, rfl⟩
theorem lv_mono {i : Nat} : ∀ {j : Nat}, i ≤ j → lv rs L n i ≤ lv rs L n j
  | 0, h => by rw [show i = 0 by omega]; exact Nat.le_refl _
  | j + 1, h => by
    rcases Nat.lt_or_ge i (j + 1) with q | q
    · have := lv_mono (i := i) (j := j) (by omega)
      rcases lv_step (rs := rs) (L := L) (n := n) j with ⟨e, _⟩ | ⟨e, _⟩ <;> omega
    · rw [show i = j + 1 by omega]; exact Nat.le_refl _
theorem lv_eq (W : Word ns) (R : Rk ns L rs) {i : Nat} : ∀ {j : Nat}, i ≤ j → j < ns.length → (lv rs L ns.length i = lv rs L ns.length j ↔ EQ (cy ns) (L + L) (sg rs L ns.length i) (sg rs L ns.length j))
  | 0, h, _ => by
    rw [show i = 0 by omega]
    exact ⟨fun _ _ _ => rfl, fun _ => rfl⟩
  | j + 1, h, hj => by
    rcases Nat.lt_or_ge i (j + 1) with q | q
    · have ih := lv_eq W R (i := i) (j := j) (by omega) (by omega)
      have hm := lv_mono (rs := rs) (L := L) (n := ns.length) (i := i) (j := j) (by omega)
      have k1 : sg rs L ns.length (j + 1) < ns.length := sg_lt _ _ _ hj
      have k2 : sg rs L ns.length j < ns.length := sg_lt _ _ _ (by omega)
      constructor
      · intro e
        rcases lv_step (rs := rs) (L := L) (n := ns.length) j with ⟨e1, e2⟩ | ⟨e1, e2⟩
        · exact (ih.mp (by omega)).trans ((R.key W k1 k2).mp e2).symm
        · omega
      · intro e
        have hsq : EQ (cy ns) (L + L) (sg rs L ns.length i) (sg rs L ns.length j) ∧ EQ (cy ns) (L + L) (sg rs L ns.length j) (sg rs L ns.length (j + 1)) := by
          rcases Nat.lt_or_ge i j with q' | q'
          · exact squeeze (M := L + L) (sig_not W R q' (by omega)) (sig_not W R (Nat.lt_succ_self j) hj) (Nat.le_refl _) e
          · have : i = j := by omega
            subst this
            exact ⟨fun _ _ => rfl, e⟩
        have e1 := ih.mpr hsq.1
        rcases lv_step (rs := rs) (L := L) (n := ns.length) j with ⟨e2, _⟩ | ⟨_, e2⟩
        · omega
        · rw [(R.key W k1 k2).mpr hsq.2.symm] at e2; cases e2
    · rw [show i = j + 1 by omega]
      exact ⟨fun _ _ _ => rfl, fun _ => rfl⟩
theorem fr_get {i : Nat} : ∀ {m : Nat}, i < m → m ≤ n → gI (fr rs L n m) (sg rs L n i) = lv rs L n i
  | 0, h, _ => by omega
  | m + 1, h, hm => by
    have hlen : (fr rs L n m).length = n := fr_len _ _ _ _
    have hs : sg rs L n m < n := sg_lt _ _ _ (by omega)
    show gI ((fr rs L n m).set (sg rs L n m) (lv rs L n m)) (sg rs L n i) = _
    unfold gI
    rcases Nat.lt_or_ge i m with q | q
    · have hne : sg rs L n m ≠ sg rs L n i := fun e => by
        have := pr_inj (sig_perm rs L n) (i := m) (j := i) (by omega) (by omega) e
        omega
      have := fr_get (i := i) (m := m) q (by omega)
      unfold gI at this
      simp only [List.getD] at this ⊢
      rw [List.getElem?_set_ne hne]
      exact this
    · obtain rfl : i = m := by omega
      simp only [List.getD]
      rw [List.getElem?_set_self (by omega)]
      rfl
theorem stage_get {i : Nat} (hi : i < n) : gI (stage rs L n) (sg rs L n i) = lv rs L n i := fr_get hi (Nat.le_refl _)
theorem lv_lt (W : Word ns) (R : Rk ns L rs) {i j : Nat} (hi : i < ns.length) (hj : j < ns.length) : (lv rs L ns.length i < lv rs L ns.length j ↔ LT (cy ns) (L + L) (sg rs L ns.length i) (sg rs L ns.length j)) ∧
    (lv rs L ns.length i = lv rs L ns.length j ↔ EQ (cy ns) (L + L) (sg rs L ns.length i) (sg rs L ns.length j)) := by
  rcases Nat.lt_or_ge i j with q | q
  · have h1 := lv_eq W R (i := i) (j := j) (by omega) hj
    refine ⟨?_, h1⟩
    have hm := lv_mono (rs := rs) (L := L) (n := ns.length) (i := i) (j := j) (by omega)
    constructor
    · intro h
      rcases sig_sorted W R q hj with h2 | ⟨h2, _⟩
      · exact h2
      · have := h1.mpr h2; omega
    · intro h
      have : ¬ lv rs L ns.length i = lv rs L ns.length j := fun e => h.ne (h1.mp e)
      omega
  · have h1 := lv_eq W R (i := j) (j := i) q hi
    have hm := lv_mono (rs := rs) (L := L) (n := ns.length) (i := j) (j := i) q
    refine ⟨⟨fun h => by omega, fun h => ?_⟩, ⟨fun h => (h1.mp h.symm).symm, fun h => (h1.mpr h.symm).symm⟩⟩
    rcases Nat.lt_or_ge j i with q' | q'
    · exact absurd h (sig_not W R q' hi)
    · obtain rfl : i = j := by omega
      exact absurd h LT.irrefl
theorem Rk.next (W : Word ns) (R : Rk ns L rs) : Rk ns (L + L) (stage rs L ns.length) := by
  have key : ∀ a b, a < ns.length → b < ns.length → (gI (stage rs L ns.length) a < gI (stage rs L ns.length) b ↔ LT (cy ns) (L + L) a b) ∧ (gI (stage rs L ns.length) a = gI (stage rs L ns.length) b ↔ EQ (cy ns) (L + L) a b) := by
    intro a b ha hb
    obtain ⟨i, hi, rfl⟩ := pr_sur (sig_perm rs L ns.length) ha
    obtain ⟨j, hj, rfl⟩ := pr_sur (sig_perm rs L ns.length) hb
    have h1 := stage_get (rs := rs) (L := L) hi
    have h2 := stage_get (rs := rs) (L := L) hj
    have h3 := lv_lt W R hi hj
    unfold sg at h1 h2 h3
    rw [h1, h2]
    refine ⟨Iff.trans ?_ h3.1, Iff.trans ?_ h3.2⟩ <;> omega
  exact ⟨fun a b ha hb => (key a b ha hb).1, fun a b ha hb => (key a b ha hb).2⟩

theorem stg_Rk (W : Word ns) : ∀ t, Rk ns (2 ^ t) (stg ns t)
  | 0 => Rk.zero W
  | t + 1 => by
    have := (stg_Rk W t).next W
    rw [Nat.pow_succ, Nat.mul_two]
    exact this
theorem od_get {rk : List Int} (hb : ∀ k, k < n → 0 ≤ gI rk k ∧ gI rk k < n) (hi : ∀ a b, a < n → b < n → gI rk a = gI rk b → a = b) {k : Nat} : ∀ {m : Nat}, k < m → m ≤ n → gI (od rk n m) (gI rk k).toNat = k
  | 0, h, _ => by omega
  | m + 1, h, hm => by
    have hlen : (od rk n m).length = n := od_len _ _ _
    have b1 := hb m (by omega)
    have b2 := hb k (by omega)
    show gI ((od rk n m).set (gI rk m).toNat m) (gI rk k).toNat = _
    rcases Nat.lt_or_ge k m with q | q
    · have hne : (gI rk m).toNat ≠ (gI rk k).toNat := fun e => by
        have := hi m k (by omega) (by omega) (by omega)
        omega
      have := od_get hb hi (k := k) (m := m) q (by omega)
      rw [gI, List.getD] at this ⊢
      rw [List.getElem?_set_ne hne]
      exact this
    · obtain rfl : k = m := by omega
      rw [gI, List.getD, List.getElem?_set_self (by omega)]
      rfl
/-- the last ranks are the places in the order -/
theorem doubled_eq (W : Word ns) {σ : List Nat} (P : SP ns σ) : doubled ns = σ.map fun i : Nat => (i : Int) := by
  have h1 := W.lo
  have h2 := W.hi
  have R3 := stg_Rk W 3
  have R4 := stg_Rk W 4
  have hL : ns.length ≤ 2 ^ 3 + 2 ^ 3 := by omega
  have hst : stg ns 4 = stage (stg ns 3) (2 ^ 3) ns.length := rfl
  have hsg : SP ns (sig (stg ns 3) (2 ^ 3) ns.length) := by
    refine ⟨sig_perm _ _ _, List.pairwise_iff_getElem.mpr fun i j hi hj hij => ?_⟩
    rw [sig_len] at hi hj
    obtain ⟨q1, e1⟩ := pr_get (sig_perm (stg ns 3) (2 ^ 3) ns.length) hi
    obtain ⟨q2, e2⟩ := pr_get (sig_perm (stg ns 3) (2 ^ 3) ns.length) hj
    rw [e1, e2]
    have b1 := pr_lt (sig_perm (stg ns 3) (2 ^ 3) ns.length) hi
    have b2 := pr_lt (sig_perm (stg ns 3) (2 ^ 3) ns.length) hj
    rcases sig_sorted W R3 hij hj with h | ⟨h, h'⟩
    · exact (W.long b1 b2 hL).mp h
    · have := W.inj b1 b2 hL h
      unfold sg at h'
      omega
  have hσ := hsg.unique P
  have hlv : ∀ i, i < ns.length → lv (stg ns 3) (2 ^ 3) ns.length i = i := by
    intro i
    induction i with
    | zero => intro _; rfl
    | succ i ih =>
      intro hi
      have ih := ih (by omega)
      rcases lv_step (rs := stg ns 3) (L := 2 ^ 3) (n := ns.length) i with ⟨_, e2⟩ | ⟨e1, _⟩
      · have k1 : sg (stg ns 3) (2 ^ 3) ns.length (i + 1) < ns.length := sg_lt _ _ _ hi
        have k2 : sg (stg ns 3) (2 ^ 3) ns.length i < ns.length := sg_lt _ _ _ (by omega)
        have := W.inj k1 k2 hL ((R3.key W k1 k2).mp e2)
        have := pr_inj (sig_perm (stg ns 3) (2 ^ 3) ns.length) hi (by omega) this
        omega
      · omega
  have hrk : ∀ i, i < ns.length → gI (stg ns 4) (σ.getD i 0) = i := by
    intro i hi
    rw [← hσ, hst]
    have := stage_get (rs := stg ns 3) (L := 2 ^ 3) (n := ns.length) hi
    rw [hlv i hi] at this
    exact this
  have hb : ∀ k, k < ns.length → 0 ≤ gI (stg ns 4) k ∧ gI (stg ns 4) k < ns.length := fun k hk => by rw [hst]; exact stage_bound _ _ _ (by omega) hk
  have hi : ∀ a b, a < ns.length → b < ns.length → gI (stg ns 4) a = gI (stg ns 4) b → a = b := fun a b ha hb e => W.inj ha hb (by omega) ((R4.eq a b ha hb).mp e)
  have hlen : (doubled ns).length = ns.length := od_len _ _ _
  have hσl := pr_len P.perm
  apply List.ext_getElem
  · rw [List.length_map, hlen, hσl]
  · intro i q1 q2
    rw [hlen] at q1
    obtain ⟨q3, e3⟩ := pr_get P.perm q1
    rw [List.getElem_map, e3]
    have hlt := pr_lt P.perm q1
    have := od_get hb hi hlt (Nat.le_refl _)
    rw [hrk i q1] at this
    have hd : gI (doubled ns) i = ((σ.getD i 0 : Nat) : Int) := by
      unfold doubled
      simpa using this
    rw [← hd]
    simp [gI, List.getD, hlen, q1]
end
end Mine

/-! M25 -/
namespace Mine
open PySem PySem.W PySem.Calls PyProof.Rows PySem.Spec
open Classical in
noncomputable def ltC (ns : List Int) (b c : Nat) : Bool := decide (LT (cy ns) ns.length c b)
theorem ltC_iff {ns : List Int} {b c : Nat} : ltC ns b c = true ↔ LT (cy ns) ns.length c b := by unfold ltC; exact @decide_eq_true_iff _ (_)
theorem count_lt (p : Nat) : ∀ n, p ≤ n → ((List.range n).filter fun k => decide (k < p)).length = p
  | 0, h => by simp; omega
  | n + 1, h => by
    rw [List.range_succ, List.filter_append, List.length_append]
    rcases Nat.lt_or_ge n p with q | q
    · have : (List.range n).filter (fun k => decide (k < p)) = List.range n := List.filter_eq_self.mpr fun k hk => by
        have := List.mem_range.mp hk
        simp; omega
      rw [this, List.length_range]
      simp [q]; omega
    · rw [count_lt p n q]
      have : ¬ n < p := by omega
      simp [this]
theorem count_two {A E : Nat → Bool} {i : Nat} (hd : ∀ k, A k = true → E k = true → False) : ∀ l : List Nat, (l.filter A).length + (l.filter fun k => E k && decide (k < i)).length = (l.filter fun k => A k || (E k && decide (k < i))).length
  | [] => rfl
  | a :: l => by
    have ih := count_two (i := i) hd l
    rw [List.filter_cons, List.filter_cons, List.filter_cons]
    cases e1 : A a with
    | true =>
      have e2 : E a = false := by
        cases e2 : E a with
        | false => rfl
        | true => exact (hd a e1 e2).elim
      rw [e2]
      simp only [Bool.false_and, Bool.or_false, Bool.false_eq_true, if_false, if_true, List.length_cons]
      omega
    | false =>
      simp only [Bool.false_or, Bool.false_eq_true, if_false]
      split
      · simp only [List.length_cons]; omega
      · exact ih
theorem count_below {E : Nat → Bool} {i : Nat} : ∀ n, i ≤ n → ((List.range i).filter E).length = ((List.range n).filter fun k => E k && decide (k < i)).length
  | 0, h => by rw [show i = 0 by omega]; rfl
  | n + 1, h => by
    rcases Nat.lt_or_ge n i with q | q
    · rw [show i = n + 1 by omega]
      congr 1
      apply List.filter_congr
      intro x hx
      have := List.mem_range.mp hx
      simp [this]
    · rw [count_below n q, List.range_succ, List.filter_append, List.length_append]
      have : ¬ n < i := by omega
      simp [this]
theorem turn_perm : ∀ {n : Nat}, 0 < n → ((List.range n).map fun a => (a + n - 1) % n).Perm (List.range n)
  | 0, h => by omega
  | m + 1, _ => by
    rw [List.range_succ_eq_map, List.map_cons, List.map_map]
    have e1 : (0 + (m + 1) - 1) % (m + 1) = m := by rw [show 0 + (m + 1) - 1 = m by omega]; exact Nat.mod_eq_of_lt (by omega)
    have e2 : (List.range m).map ((fun a => (a + (m + 1) - 1) % (m + 1)) ∘ Nat.succ) = List.range m := by
      conv => rhs; rw [← List.map_id (List.range m)]
      apply List.map_congr_left
      intro a ha
      have ha := List.mem_range.mp ha
      show (a + 1 + (m + 1) - 1) % (m + 1) = a
      rw [show a + 1 + (m + 1) - 1 = a + (m + 1) by omega, Nat.add_mod_right, Nat.mod_eq_of_lt (by omega)]
    rw [e1, e2, ← List.range_succ_eq_map, List.range_succ]
    exact (List.perm_append_singleton m _).symm
section
variable {ns : List Int} {σ : List Nat}
theorem SP.idx (P : SP ns σ) {i j : Nat} (hi : i < ns.length) (hj : j < ns.length) : LT (cy ns) ns.length (σ.getD i 0) (σ.getD j 0) ↔ i < j := by
  constructor
  · intro h
    rcases Nat.lt_trichotomy i j with q | q | q
    · exact q
    · subst q; exact absurd h LT.irrefl
    · exact absurd h (pr_pair P.perm P.lt q hi).asymm
  · intro h; exact pr_pair P.perm P.lt h hj
theorem SP.list (P : SP ns σ) : (List.range ns.length).map (fun k => σ.getD k 0) = σ := by
  have := map_range_get σ 0
  rwa [pr_len P.perm] at this
theorem col_get (P : SP ns σ) {i : Nat} (hi : i < ns.length) : gI (colOf ns σ) i = cy ns (σ.getD i 0 + ns.length - 1) := by
  have h : i < σ.length := by rw [pr_len P.perm]; exact hi
  unfold colOf cy gI
  simp only [List.getD]
  rw [List.getElem?_map, List.getElem?_eq_getElem h]
  simp
theorem col_len (P : SP ns σ) : (colOf ns σ).length = ns.length := by unfold colOf; rw [List.length_map, pr_len P.perm]
/-- one place back in every turning -/
theorem back_lt (W : Word ns) (P : SP ns σ) {k i : Nat} (hk : k < ns.length) (hi : i < ns.length) :
    LT (cy ns) ns.length ((σ.getD k 0 + ns.length - 1) % ns.length) ((σ.getD i 0 + ns.length - 1) % ns.length) ↔ gI (colOf ns σ) k < gI (colOf ns σ) i ∨ (gI (colOf ns σ) k = gI (colOf ns σ) i ∧ k < i) := by
  have hp := W.lo
  rw [← W.long (L := 1 + ns.length) (Nat.mod_lt _ (by omega)) (Nat.mod_lt _ (by omega)) (by omega), LT_mod, LT_add, col_get P hk, col_get P hi, ← P.idx hk hi]
  rw [show σ.getD k 0 + ns.length - 1 + 1 = σ.getD k 0 + ns.length by omega, show σ.getD i 0 + ns.length - 1 + 1 = σ.getD i 0 + ns.length by omega]
  have e : LT (cy ns) ns.length (σ.getD k 0 + ns.length) (σ.getD i 0 + ns.length) ↔ LT (cy ns) ns.length (σ.getD k 0) (σ.getD i 0) := by
    rw [← LT_mod, Nat.add_mod_right, Nat.add_mod_right, LT_mod]
  rw [e]
  have e1 : LT (cy ns) 1 (σ.getD k 0 + ns.length - 1) (σ.getD i 0 + ns.length - 1) ↔ cy ns (σ.getD k 0 + ns.length - 1) < cy ns (σ.getD i 0 + ns.length - 1) := by
    constructor
    · rintro ⟨j, h1, _, h3⟩
      obtain rfl : j = 0 := by omega
      exact h3
    · intro h; exact ⟨0, by omega, fun i hi => by omega, h⟩
  have e2 : EQ (cy ns) 1 (σ.getD k 0 + ns.length - 1) (σ.getD i 0 + ns.length - 1) ↔ cy ns (σ.getD k 0 + ns.length - 1) = cy ns (σ.getD i 0 + ns.length - 1) := by
    constructor
    · intro h; exact h 0 (by omega)
    · intro h i hi
      obtain rfl : i = 0 := by omega
      exact h
  rw [e1, e2]
theorem row_back (W : Word ns) (P : SP ns σ) {i : Nat} (hi : i < ns.length) : rowOf (colOf ns σ) i < ns.length ∧ σ.getD (rowOf (colOf ns σ) i) 0 = (σ.getD i 0 + ns.length - 1) % ns.length := by
  have hp := W.lo
  obtain ⟨p, hpl, ep⟩ := pr_sur P.perm (Nat.mod_lt (σ.getD i 0 + ns.length - 1) (show 0 < ns.length by omega))
  suffices h : rowOf (colOf ns σ) i = p by rw [h]; exact ⟨hpl, ep⟩
  let b := (σ.getD i 0 + ns.length - 1) % ns.length
  let col := colOf ns σ
  have h1 : rowOf col i = ((List.range ns.length).filter fun k => decide (gI col k < gI col i) || (gI col k == gI col i && decide (k < i))).length := by
    unfold rowOf
    rw [col_len P, count_below (i := i) ns.length (by omega), count_two]
    intro k q1 q2
    have := of_decide_eq_true q1
    have := beq_iff_eq.mp q2
    omega
  have h2 : (List.range ns.length).filter (fun k => decide (gI col k < gI col i) || (gI col k == gI col i && decide (k < i))) = (List.range ns.length).filter (fun k => ltC ns b ((σ.getD k 0 + ns.length - 1) % ns.length)) := by
    apply List.filter_congr
    intro k hk
    have hk := List.mem_range.mp hk
    rw [Bool.eq_iff_iff, ltC_iff, back_lt W P hk hi]
    simp [col]
  have h3 : ((List.range ns.length).filter (fun k => ltC ns b ((σ.getD k 0 + ns.length - 1) % ns.length))).length = (((List.range ns.length).map fun k => (σ.getD k 0 + ns.length - 1) % ns.length).filter (ltC ns b)).length := by
    rw [List.filter_map, List.length_map]; rfl
  have h4 : ((List.range ns.length).map fun k => (σ.getD k 0 + ns.length - 1) % ns.length).Perm σ := by
    have e : (List.range ns.length).map (fun k => (σ.getD k 0 + ns.length - 1) % ns.length) = ((List.range ns.length).map fun k => σ.getD k 0).map fun a => (a + ns.length - 1) % ns.length := by rw [List.map_map]; rfl
    rw [e, P.list]
    exact ((P.perm.map _).trans (turn_perm (by omega))).trans P.perm.symm
  have h5 : (σ.filter (ltC ns b)).length = p := by
    conv => lhs; rw [← P.list]
    rw [List.filter_map, List.length_map]
    have e : (List.range ns.length).filter (ltC ns b ∘ fun k => σ.getD k 0) = (List.range ns.length).filter fun k => decide (k < p) := by
      apply List.filter_congr
      intro k hk
      have hk := List.mem_range.mp hk
      rw [Bool.eq_iff_iff, Function.comp, ltC_iff, decide_eq_true_iff]
      show LT (cy ns) ns.length (σ.getD k 0) b ↔ _
      rw [show b = σ.getD p 0 from ep.symm, P.idx hk hpl]
    rw [e, count_lt p _ (by omega)]
  show rowOf col i = p
  rw [h1, h2, h3, (h4.filter _).length_eq, h5]
theorem first_last (W : Word ns) (P : SP ns σ) : σ.getD 0 0 = ns.length - 1 := by
  have hp := W.lo
  obtain ⟨p, hpl, ep⟩ := pr_sur P.perm (show ns.length - 1 < ns.length by omega)
  rcases Nat.eq_zero_or_pos p with h | h
  · rw [h] at ep; exact ep
  · have h1 := pr_pair P.perm P.lt h hpl
    rw [ep] at h1
    obtain ⟨j, q1, q2, q3⟩ := h1
    have z : cy ns (ns.length - 1 + 0) = 0 := W.zero.mpr (Nat.mod_eq_of_lt (by omega))
    rcases Nat.eq_zero_or_pos j with e | e
    · subst e
      rw [z] at q3
      have : 0 ≤ cy ns (σ.getD 0 0 + 0) := W.nonneg
      omega
    · have := q2 0 e
      rw [z] at this
      have h2 := W.zero.mp this
      rw [Nat.add_zero, Nat.mod_eq_of_lt (pr_lt P.perm (by omega))] at h2
      exact h2
theorem walk_at (W : Word ns) (P : SP ns σ) : ∀ k, k < ns.length → iter (rowOf (colOf ns σ)) k 0 < ns.length ∧ σ.getD (iter (rowOf (colOf ns σ)) k 0) 0 = ns.length - 1 - k
  | 0, h => ⟨h, first_last W P⟩
  | k + 1, h => by
    obtain ⟨h1, h2⟩ := walk_at W P k (by omega)
    obtain ⟨h3, h4⟩ := row_back W P h1
    refine ⟨h3, ?_⟩
    show σ.getD (rowOf (colOf ns σ) (iter (rowOf (colOf ns σ)) k 0)) 0 = _
    rw [h4, h2, show ns.length - 1 - k + ns.length - 1 = (ns.length - 1 - (k + 1)) + ns.length by omega, Nat.add_mod_right, Nat.mod_eq_of_lt (by omega)]
theorem back_eq (W : Word ns) (P : SP ns σ) : walked (colOf ns σ) = (List.range (ns.length - 1)).map (fun k => gI ns (ns.length - 2 - k)) ++ [0] := by
  have hp := W.lo
  have key : ∀ k, k < ns.length → gI (colOf ns σ) (iter (rowOf (colOf ns σ)) k 0) = cy ns (ns.length - 1 - k + ns.length - 1) := fun k hk => by
    obtain ⟨h1, h2⟩ := walk_at W P k hk
    rw [col_get P h1, h2]
  unfold walked
  rw [col_len P]
  obtain ⟨m, hm⟩ : ∃ m, ns.length = m + 1 := ⟨ns.length - 1, by omega⟩
  have e : List.range ns.length = List.range m ++ [m] := by rw [hm, List.range_succ]
  rw [e, List.map_append, show ns.length - 1 = m by omega]
  congr 1
  · apply List.map_congr_left
    intro k hk
    have hk := List.mem_range.mp hk
    rw [key k (by omega)]
    unfold cy
    rw [show ns.length - 1 - k + ns.length - 1 = (ns.length - 2 - k) + ns.length by omega, Nat.add_mod_right, Nat.mod_eq_of_lt (by omega)]
  · rw [List.map_cons, List.map_nil, key m (by omega)]
    congr 1
    refine W.zero.mpr ?_
    rw [show ns.length - 1 - m + ns.length - 1 = ns.length - 1 by omega]
    exact Nat.mod_eq_of_lt (by omega)
end
end Mine

/-! M26 -/
namespace Mine
open PySem PySem.W PySem.Calls PyProof.Rows PySem.Spec

/-- a piece of the text -/
noncomputable def piece (l : List Nat) (a c : Nat) : Str := S ((l.drop a).take c)
section
variable {ns : List Int} {α : List Nat} {σ : List Nat}
theorem piece_eq (W : Word ns) (hA : Al α) {a b c c' : Nat} (ha : a + c ≤ ns.length) (hb : b + c' ≤ ns.length) : piece (txt α ns) a c = piece (txt α ns) b c' ↔ c = c' ∧ EQ (cy ns) c a b := by
  unfold piece
  rw [S_inj]
  have g : ∀ {a c i : Nat}, a + c ≤ ns.length → i < c → (((txt α ns).drop a).take c).getD i 0 = α.getD (cy ns (a + i)).toNat 0 := by
    intro a c i h hi
    have h1 : a + i < ns.length := by omega
    unfold cy
    rw [Nat.mod_eq_of_lt h1, ← txt_get h1]
    simp only [List.getD]
    rw [List.getElem?_take_of_lt hi, List.getElem?_drop]
  have hl : ∀ {a c : Nat}, a + c ≤ ns.length → (((txt α ns).drop a).take c).length = c := by
    intro a c h
    rw [List.length_take, List.length_drop, txt_len]; omega
  constructor
  · intro h
    have hc : c = c' := by rw [← hl ha, ← hl hb, h]
    subst hc
    refine ⟨rfl, fun i hi => ?_⟩
    have := congrArg (fun x : List Nat => x.getD i 0) h
    rw [g ha hi, g hb hi] at this
    exact (sign_eq W hA _ _).mp this
  · rintro ⟨rfl, h⟩
    apply List.ext_getElem
    · rw [hl ha, hl hb]
    · intro i h1 h2
      have hi : i < c := by rw [hl ha] at h1; exact h1
      have e1 := g ha hi
      have e2 := g hb hi
      simp only [List.getD, List.getElem?_eq_getElem h1, Option.getD_some] at e1
      simp only [List.getD, List.getElem?_eq_getElem h2, Option.getD_some] at e2
      rw [e1, e2]
      exact (sign_eq W hA _ _).mpr (h i hi)

/-! what is seen -/
theorem seenStep_mem {acc : List Str} {x y : Str} : y ∈ seenStep acc x ↔ y ∈ acc ∨ y = x := by
  unfold seenStep
  split
  · rename_i h
    have : x ∈ acc := by simpa using h
    exact ⟨.inl, fun h => h.elim id fun e => e ▸ this⟩
  · simp
theorem seenStep_nodup {acc : List Str} {x : Str} (h : acc.Nodup) : (seenStep acc x).Nodup := by
  unfold seenStep
  split
  · exact h
  · rename_i hx
    have : x ∉ acc := by simpa using hx
    refine List.nodup_append.mpr ⟨h, by simp, fun a ha b hb => ?_⟩
    rw [List.mem_singleton.mp hb]
    rintro rfl
    exact this ha
theorem seenIn_mem {l : List Nat} {i : Nat} {acc : List Str} {y : Str} : ∀ {c : Nat}, y ∈ seenIn l i acc c ↔ y ∈ acc ∨ ∃ t, t < c ∧ y = piece l i (t + 1)
  | 0 => by
    show y ∈ acc ↔ _
    constructor
    · exact .inl
    · rintro (h | ⟨t, h, _⟩)
      · exact h
      · omega
  | c + 1 => by
    show y ∈ seenStep _ _ ↔ _
    rw [seenStep_mem, seenIn_mem (c := c)]
    constructor
    · rintro ((h | ⟨t, h, e⟩) | e)
      · exact .inl h
      · exact .inr ⟨t, by omega, e⟩
      · exact .inr ⟨c, by omega, e⟩
    · rintro (h | ⟨t, h, e⟩)
      · exact .inl (.inl h)
      · rcases Nat.lt_or_ge t c with q | q
        · exact .inl (.inr ⟨t, q, e⟩)
        · obtain rfl : t = c := by omega
          exact .inr e
theorem seenIn_nodup {l : List Nat} {i : Nat} {acc : List Str} (h : acc.Nodup) : ∀ c, (seenIn l i acc c).Nodup
  | 0 => h
  | c + 1 => seenStep_nodup (seenIn_nodup h c)
theorem seenOut_mem {l : List Nat} {n : Nat} {y : Str} : ∀ {i : Nat}, y ∈ seenOut l n i ↔ ∃ k, k < i ∧ ∃ t, t < n - (k + 1) ∧ y = piece l k (t + 1)
  | 0 => by
    show y ∈ ([] : List Str) ↔ _
    constructor
    · intro h; cases h
    · rintro ⟨k, h, _⟩; omega
  | i + 1 => by
    show y ∈ seenIn l i (seenOut l n i) (n - (i + 1)) ↔ _
    rw [seenIn_mem, seenOut_mem (i := i)]
    constructor
    · rintro (⟨k, h, e⟩ | e)
      · exact ⟨k, by omega, e⟩
      · exact ⟨i, by omega, e⟩
    · rintro ⟨k, h, e⟩
      rcases Nat.lt_or_ge k i with q | q
      · exact .inl ⟨k, q, e⟩
      · obtain rfl : k = i := by omega
        exact .inr e
theorem seenOut_nodup {l : List Nat} {n : Nat} : ∀ i, (seenOut l n i).Nodup
  | 0 => List.nodup_nil
  | i + 1 => seenIn_nodup (seenOut_nodup i) _

/-! what is counted -/
noncomputable def prior (σ : List Nat) (i : Nat) : Int := if i ≤ 1 then -1 else (σ.getD (i - 1) 0 : Nat)
noncomputable def cm (ns : List Int) (σ : List Nat) (i : Nat) : Nat := com ns (ns.length - 1) (σ.getD i 0 : Nat) (prior σ i)
noncomputable def pl (l : List Nat) (ns : List Int) (σ : List Nat) (i : Nat) : List Str := (List.range (ns.length - 1 - σ.getD i 0 - cm ns σ i)).map fun t => piece l (σ.getD i 0) (cm ns σ i + 1 + t)
noncomputable def pls (l : List Nat) (ns : List Int) (σ : List Nat) : Nat → List Str
  | 0 => []
  | i + 1 => pls l ns σ i ++ if i = 0 then [] else pl l ns σ i
theorem below (W : Word ns) (P : SP ns σ) {i : Nat} (h0 : 0 < i) (hi : i < ns.length) : σ.getD i 0 < ns.length - 1 := by
  have h1 := pr_lt P.perm hi
  have h2 := first_last W P
  have : σ.getD i 0 ≠ σ.getD 0 0 := fun e => by
    have := pr_inj P.perm hi (by omega) e
    omega
  omega
theorem cm_first (hi : i ≤ 1) : cm ns σ i = 0 := by
  unfold cm prior
  rw [if_pos hi]
  obtain ⟨h1, _⟩ := com_spec ns (ns.length - 1) (σ.getD i 0 : Nat) (-1) (by omega)
  rcases Nat.eq_zero_or_pos (com ns (ns.length - 1) (σ.getD i 0 : Nat) (-1)) with e | e
  · exact e
  · have := h1 0 e
    unfold comT at this
    simp at this
theorem cm_next (W : Word ns) (P : SP ns σ) {i : Nat} (h1 : 1 < i) (hi : i < ns.length) :
    (EQ (cy ns) (cm ns σ i) (σ.getD i 0) (σ.getD (i - 1) 0) ∧ σ.getD i 0 + cm ns σ i ≤ ns.length - 1 ∧ σ.getD (i - 1) 0 + cm ns σ i ≤ ns.length - 1) ∧
    ∀ c, σ.getD i 0 + c ≤ ns.length - 1 → σ.getD (i - 1) 0 + c ≤ ns.length - 1 → EQ (cy ns) c (σ.getD i 0) (σ.getD (i - 1) 0) → c ≤ cm ns σ i := by
  have b1 := below W P (by omega) hi
  have b2 := below W P (i := i - 1) (by omega) (by omega)
  unfold cm prior
  rw [if_neg (by omega)]
  obtain ⟨q1, q2⟩ := com_spec ns (ns.length - 1) (σ.getD i 0 : Nat) (σ.getD (i - 1) 0 : Nat) (by omega)
  generalize com ns (ns.length - 1) (σ.getD i 0 : Nat) (σ.getD (i - 1) 0 : Nat) = c at q1 q2
  have hT : ∀ t, comT ns (ns.length - 1 : Nat) (σ.getD i 0 : Nat) (σ.getD (i - 1) 0 : Nat) t = true ↔ (σ.getD i 0 + t < ns.length - 1 ∧ σ.getD (i - 1) 0 + t < ns.length - 1 ∧ cy ns (σ.getD i 0 + t) = cy ns (σ.getD (i - 1) 0 + t)) := by
    intro t
    unfold comT
    have e1 : ((σ.getD i 0 : Nat) + (t : Int)).toNat = σ.getD i 0 + t := by omega
    have e2 : ((σ.getD (i - 1) 0 : Nat) + (t : Int)).toNat = σ.getD (i - 1) 0 + t := by omega
    rw [e1, e2]
    simp only [Bool.and_eq_true, decide_eq_true_eq, beq_iff_eq]
    constructor
    · rintro ⟨_, h, e⟩
      refine ⟨by omega, by omega, ?_⟩
      unfold cy
      rw [Nat.mod_eq_of_lt (by omega), Nat.mod_eq_of_lt (by omega)]; exact e
    · rintro ⟨h, h', e⟩
      refine ⟨by omega, by omega, ?_⟩
      unfold cy at e
      rw [Nat.mod_eq_of_lt (by omega), Nat.mod_eq_of_lt (by omega)] at e; exact e
  refine ⟨⟨fun t ht => ((hT t).mp (q1 t ht)).2.2, ?_, ?_⟩, fun c' h1 h2 h3 => ?_⟩
  · rcases Nat.eq_zero_or_pos c with e | e
    · omega
    · have := ((hT (c - 1)).mp (q1 (c - 1) (by omega))).1
      omega
  · rcases Nat.eq_zero_or_pos c with e | e
    · omega
    · have := ((hT (c - 1)).mp (q1 (c - 1) (by omega))).2.1
      omega
  · rcases Nat.lt_or_ge c c' with q | q
    · have := (hT c).mpr ⟨by omega, by omega, h3 c q⟩
      rw [this] at q2; cases q2
    · exact q
theorem cm_le (W : Word ns) (P : SP ns σ) {i : Nat} (h0 : 0 < i) (hi : i < ns.length) : σ.getD i 0 + cm ns σ i ≤ ns.length - 1 := by
  rcases Nat.lt_or_ge 1 i with q | q
  · exact (cm_next W P q hi).1.2.1
  · rw [cm_first q]
    have := below W P h0 hi
    omega
theorem pls_mem {l : List Nat} {x : Str} : ∀ {j : Nat}, x ∈ pls l ns σ j ↔ ∃ i, 0 < i ∧ i < j ∧ ∃ t, t < ns.length - 1 - σ.getD i 0 - cm ns σ i ∧ x = piece l (σ.getD i 0) (cm ns σ i + 1 + t)
  | 0 => by
    show x ∈ ([] : List Str) ↔ _
    constructor
    · intro h; cases h
    · rintro ⟨i, _, h, _⟩; omega
  | j + 1 => by
    show x ∈ _ ++ _ ↔ _
    rw [List.mem_append, pls_mem (j := j)]
    constructor
    · rintro (⟨i, h0, h, e⟩ | h)
      · exact ⟨i, h0, by omega, e⟩
      · by_cases hj : j = 0
        · rw [if_pos hj] at h; cases h
        · rw [if_neg hj] at h
          obtain ⟨t, ht, e⟩ := List.mem_map.mp h
          exact ⟨j, by omega, by omega, t, List.mem_range.mp ht, e.symm⟩
    · rintro ⟨i, h0, h, t, ht, e⟩
      rcases Nat.lt_or_ge i j with q | q
      · exact .inl ⟨i, h0, q, t, ht, e⟩
      · obtain rfl : i = j := by omega
        right
        rw [if_neg (by omega)]
        exact List.mem_map.mpr ⟨t, List.mem_range.mpr ht, e.symm⟩
theorem pls_nodup (W : Word ns) (hA : Al α) (P : SP ns σ) : ∀ j, j ≤ ns.length → (pls (txt α ns) ns σ j).Nodup
  | 0, _ => List.nodup_nil
  | j + 1, hj => by
    show (_ ++ _ : List Str).Nodup
    by_cases h0 : j = 0
    · rw [if_pos h0, List.append_nil]; exact pls_nodup W hA P j (by omega)
    · rw [if_neg h0]
      have bj := cm_le W P (i := j) (by omega) (by omega)
      refine List.nodup_append.mpr ⟨pls_nodup W hA P j (by omega), ?_, fun x hx y hy => ?_⟩
      · refine List.pairwise_map.mpr ((List.Pairwise.imp_of_mem fun {a b} ha hb h e => ?_) List.pairwise_lt_range)
        have ha := List.mem_range.mp ha
        have hb := List.mem_range.mp hb
        have := ((piece_eq W hA (by omega) (by omega)).mp e).1
        omega
      · obtain ⟨i, hi0, hij, t, ht, rfl⟩ := pls_mem.mp hx
        obtain ⟨u, hu, rfl⟩ := List.mem_map.mp hy
        have hu := List.mem_range.mp hu
        have bi := cm_le W P (i := i) hi0 (by omega)
        intro e
        obtain ⟨e1, e2⟩ := (piece_eq W hA (by omega) (by omega)).mp e
        have bj' := below W P (i := j) (by omega) (by omega)
        rw [e1] at e2
        have h1 : EQ (cy ns) (cm ns σ j + 1 + u) (σ.getD (j - 1) 0) (σ.getD j 0) := by
          rcases Nat.lt_or_ge i (j - 1) with q | q
          · exact (squeeze (M := ns.length) ((P.idx (i := i) (j := j - 1) (by omega) (by omega)).mpr q).asymm ((P.idx (i := j - 1) (j := j) (by omega) (by omega)).mpr (by omega)).asymm (by omega) e2).2
          · obtain rfl : i = j - 1 := by omega
            exact e2
        have bp := below W P (i := j - 1) (by omega) (by omega)
        have h2 : σ.getD (j - 1) 0 + (cm ns σ j + 1 + u) ≤ ns.length - 1 := by
          rcases Nat.lt_or_ge (ns.length - 1) (σ.getD (j - 1) 0 + (cm ns σ j + 1 + u)) with q | q
          · have := h1 (ns.length - 1 - σ.getD (j - 1) 0) (by omega)
            have z : cy ns (σ.getD (j - 1) 0 + (ns.length - 1 - σ.getD (j - 1) 0)) = 0 := W.zero.mpr (by rw [show σ.getD (j - 1) 0 + (ns.length - 1 - σ.getD (j - 1) 0) = ns.length - 1 by omega]; exact Nat.mod_eq_of_lt (by omega))
            rw [z] at this
            have := W.zero.mp this.symm
            rw [Nat.mod_eq_of_lt (by omega)] at this
            omega
          · exact q
        have := (cm_next W P (i := j) (by omega) (by omega)).2 _ (by omega) h2 h1.symm
        omega
theorem pls_len (l : List Nat) : ∀ j, (pls l ns σ (j + 1)).length = (pls l ns σ j).length + if j = 0 then 0 else ns.length - 1 - σ.getD j 0 - cm ns σ j := fun j => by
  show (_ ++ _ : List Str).length = _
  rw [List.length_append]
  by_cases h : j = 0
  · rw [if_pos h, if_pos h]; rfl
  · rw [if_neg h, if_neg h, pl, List.length_map, List.length_range]
theorem pls_seen (W : Word ns) (hA : Al α) (P : SP ns σ) (x : Str) : x ∈ pls (txt α ns) ns σ ns.length ↔ x ∈ seenOut (txt α ns) ns.length (ns.length - 1) := by
  rw [pls_mem, seenOut_mem]
  constructor
  · rintro ⟨i, h0, hi, t, ht, rfl⟩
    have b := below W P h0 hi
    exact ⟨σ.getD i 0, b, cm ns σ i + t, by omega, by rw [show cm ns σ i + 1 + t = cm ns σ i + t + 1 by omega]⟩
  · rintro ⟨k, hk, t, ht, rfl⟩
    have go : ∀ i, 0 < i → i < ns.length → σ.getD i 0 + (t + 1) ≤ ns.length - 1 → EQ (cy ns) (t + 1) (σ.getD i 0) k →
        ∃ i, 0 < i ∧ i < ns.length ∧ ∃ u, u < ns.length - 1 - σ.getD i 0 - cm ns σ i ∧ piece (txt α ns) k (t + 1) = piece (txt α ns) (σ.getD i 0) (cm ns σ i + 1 + u) := by
      intro i
      induction i with
      | zero => intro h; omega
      | succ i ih =>
        intro h0 hi hb he
        rcases Nat.lt_or_ge (cm ns σ (i + 1)) (t + 1) with q | q
        · refine ⟨i + 1, h0, hi, t - cm ns σ (i + 1), by omega, ?_⟩
          rw [show cm ns σ (i + 1) + 1 + (t - cm ns σ (i + 1)) = t + 1 by omega]
          exact (piece_eq W hA (by omega) (by omega)).mpr ⟨rfl, he.symm⟩
        · rcases Nat.eq_zero_or_pos i with e | e
          · subst e
            rw [cm_first (Nat.le_refl 1)] at q; omega
          · obtain ⟨⟨c1, _, c3⟩, _⟩ := cm_next W P (i := i + 1) (by omega) hi
            rw [Nat.add_sub_cancel] at c1 c3
            exact ih e (by omega) (by omega) ((c1.le q).symm.trans he)
    obtain ⟨i, hi, rfl⟩ := pr_sur P.perm (show k < ns.length by omega)
    have h0 : 0 < i := by
      rcases Nat.eq_zero_or_pos i with e | e
      · rw [e, first_last W P] at hk; omega
      · exact e
    exact go i h0 hi (by omega) fun _ _ => rfl
theorem pc_state (W : Word ns) (P : SP ns σ) (l : List Nat) : ∀ i, i ≤ ns.length → (pcAt ns (σ.map fun i : Nat => (i : Int)) (ns.length - 1) i).1 = ((pls l ns σ i).length : Int) ∧ (0 < i → (pcAt ns (σ.map fun i : Nat => (i : Int)) (ns.length - 1) i).2 = prior σ i)
  | 0, _ => ⟨rfl, fun h => by omega⟩
  | i + 1, hi => by
    obtain ⟨h1, h2⟩ := pc_state W P l i (by omega)
    have hl := pr_len P.perm
    obtain ⟨hi', ei⟩ := pr_get P.perm (i := i) (by omega)
    have eg : gI (σ.map fun i : Nat => (i : Int)) i = ((σ.getD i 0 : Nat) : Int) := by
      unfold gI
      simp only [List.getD]
      rw [List.getElem?_map, List.getElem?_eq_getElem hi']
      rfl
    rw [pcAt_succ _ _ _ _ (by rw [List.length_map]; omega), eg, pls_len]
    unfold pcStep
    rcases Nat.eq_zero_or_pos i with e | e
    · subst e
      have := first_last W P
      rw [if_neg (by omega), if_pos rfl]
      refine ⟨by rw [h1]; rfl, fun _ => ?_⟩
      show (-1 : Int) = prior σ 1
      rfl
    · have b := below W P e (by omega)
      have c := cm_le W P e (by omega)
      rw [if_pos (by omega), if_neg (by omega), h2 e]
      refine ⟨?_, fun _ => ?_⟩
      · show _ + (_ - _ - ((cm ns σ i : Nat) : Int)) = _
        rw [h1]; omega
      · show ((σ.getD i 0 : Nat) : Int) = prior σ (i + 1)
        unfold prior
        rw [if_neg (by omega), Nat.add_sub_cancel]
theorem pieces_eq (W : Word ns) (hA : Al α) (P : SP ns σ) : pieces ns (σ.map fun i : Nat => (i : Int)) = ((seenOut (txt α ns) ns.length (ns.length - 1)).length : Int) := by
  have h1 := (pc_state W P (txt α ns) ns.length (Nat.le_refl _)).1
  unfold pieces
  rw [List.length_map, pr_len P.perm, h1]
  have := (List.perm_ext_iff_of_nodup (pls_nodup W hA P ns.length (Nat.le_refl _)) (seenOut_nodup (l := txt α ns) (n := ns.length) (ns.length - 1))).mpr (pls_seen W hA P)
  rw [this.length_eq]
end
end Mine

/-! M27 -/
namespace Mine
open PySem PySem.W PySem.Calls PyProof.Rows PySem.Spec

theorem nums_len (sc : List Int) : (nums sc).length = min 9 sc.length + 4 := by
  unfold nums
  rw [List.length_append, List.length_map, List.length_take]; rfl
theorem nums_word (sc : List Int) : Word (nums sc) := by
  have hl := nums_len sc
  have h4 : (4 : Nat) ≤ (nums sc).length := by omega
  have tl : ∀ i, i < 4 → gI (nums sc) (min 9 sc.length + i) = gI [2, 1, 2, 0] i := by
    intro i hi
    unfold gI nums
    simp only [List.getD]
    rw [List.getElem?_append_right (by rw [List.length_map, List.length_take]; omega), List.length_map, List.length_take]
    congr 2
    omega
  refine ⟨by omega, by omega, ?_, fun k hk => ?_, fun k hk => (nums_bound sc _ (gI_mem hk)).2⟩
  · rw [show (nums sc).length - 1 = min 9 sc.length + 3 by omega, tl 3 (by omega)]; rfl
  · rcases Nat.lt_or_ge k (min 9 sc.length) with q | q
    · have hk' : k < ((sc.take 9).map (fun x => 1 + x.fmod 3)).length := by rw [List.length_map, List.length_take]; exact q
      have hm : gI (nums sc) k ∈ (sc.take 9).map (fun x => 1 + x.fmod 3) := by
        unfold gI nums
        simp only [List.getD]
        rw [List.getElem?_append_left hk', List.getElem?_eq_getElem hk']
        exact List.getElem_mem hk'
      obtain ⟨y, _, e⟩ := List.mem_map.mp hm
      have := Int.fmod_nonneg_of_pos y (b := 3) (by decide)
      omega
    · obtain ⟨i, rfl⟩ : ∃ i, k = min 9 sc.length + i := ⟨k - min 9 sc.length, by omega⟩
      have hi : i < 3 := by omega
      rw [tl i (by omega)]
      match i, hi with
      | 0, _ => decide
      | 1, _ => decide
      | 2, _ => decide
theorem maths : Maths := fun sc => by
  have W := nums_word sc
  have hA := al_ok (sc.sum.fmod 3).toNat
  have P := osig_SP W hA
  refine ⟨(doubled_eq W P).symm, fun i hi => ?_, back_eq W P, pieces_eq W hA P⟩
  exact (turn_lt W hA (pr_lt P.perm (by omega)) (pr_lt P.perm hi)).mpr (pr_pair P.perm P.lt (Nat.lt_succ_self i) hi)
end Mine

theorem PySem.Challenge.cw_ab6005_01_holds : PySem.Challenge.rw_ab6005_01.Holds :=
  Mine.joined Mine.maths
