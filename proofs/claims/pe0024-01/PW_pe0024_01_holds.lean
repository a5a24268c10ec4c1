import PyProof.Rows.All
import Wide.All
import OpenK.AllK
import Wide.FinOn
import PySem.Challenge.RW_pe0024_01
open PySem PySem.Spec PySem.Calls PyProof.Rows PySem.W
set_option Elab.async false
set_option maxRecDepth 100000
set_option maxHeartbeats 4000000
set_option linter.all false
set_option linter.unusedVariables false

namespace Mine
open_top hd for PySem.Challenge.rw_pe0024_01
end Mine

namespace Mine

def recAt (i : Nat) : DefRec := match PySem.Challenge.pw_pe0024_01.main.body.getD i (.Pass default) with
  | .FunctionDef n a b _ _ _ sc _ _ pos => ⟨n, a, b, sc, pos⟩
  | _ => ⟨"", ⟨[], [], none, [], [], none, []⟩, [], default, default⟩

abbrev prog : Program := PySem.Challenge.pw_pe0024_01

def biNames : List (Str × Value) := [("len", .builtin "len"), ("abs", .builtin "abs"), ("divmod", .builtin "divmod"), ("int", .type "int"), ("str", .type "str"), ("min", .builtin "min"),
  ("enumerate", .type "enumerate"), ("range", .type "range"), ("zip", .type "zip"), ("sorted", .builtin "sorted"), ("type", .type "type")]

structure Fn (mg : Str → Option Value) (h : Heap) (d : DefRec) (a : Addr) (cd : Value) : Prop where
  at_ : mg d.name = some (.ref a)
  obj : ∃ o pm doc, h.get? a = some o ∧ o.data = .func (docDef d.name d.params d.body d.scope pm cd doc)
  code : h.CodeRec cd d.name

theorem Fn.keeps {mg h h' d a cd} (F : Fn mg h d a cd) (hk : ∀ b o, h.get? b = some o → h'.get? b = some o) : Fn mg h' d a cd :=
  ⟨F.at_, let ⟨o, pm, doc, h1, h2⟩ := F.obj; ⟨o, pm, doc, hk _ _ h1, h2⟩, F.code.keeps hk⟩

structure Gd (mg mb : Str → Option Value) (h : Heap) : Prop where
  g : h.Ns mainGlobals mg
  b : h.Ns builtinsNs mb
  lim : h.NoLimit
  fn : ∀ i ∈ [1, 3, 4, 5, 7], ∃ a cd, Fn mg h (recAt i) a cd
  bi : ∀ p ∈ biNames, mg p.1 = none ∧ mb p.1 = some p.2

theorem Gd.keeps {mg mb h h'} (G : Gd mg mb h) (hk : ∀ b o, h.get? b = some o → h'.get? b = some o) : Gd mg mb h' :=
  ⟨G.g.keeps hk, G.b.keeps hk, G.lim.keeps hk, fun i hi => let ⟨a, cd, F⟩ := G.fn i hi; ⟨a, cd, F.keeps hk⟩, G.bi⟩

theorem gd_of_top {p : Program} {loose : List Str} {mean : ExcName → Option Value} {mg mb : Str → Option Value} {h : Heap} (T : Top p loose mean mg mb h)
    (h1 : ∀ i ∈ [1, 3, 4, 5, 7], recAt i ∈ recsOf p)
    (h2 : ∀ q ∈ biNames, q.1 ∉ startupNames ∧ q.1 ∉ loose ∧ q.1 ∉ (recsOf p).map (·.name) ∧ q.1 ∉ (litsOf p).map (·.1) ∧ q.1 ∉ (clssOf p loose).map (·.name) ∧ q.1 ≠ "__name__" ∧ bootBuiltins q.1 = some q.2) : Gd mg mb h :=
  ⟨T.g, T.b, T.nolimit, fun i hi => let ⟨a, o, pm, cd, doc, e1, e2, e3, e4⟩ := T.fn _ (h1 i hi); ⟨a, cd, e1, ⟨o, pm, doc, e2, e3⟩, e4⟩,
    fun q hq => let ⟨a1, a2, a3, a4, a5, a6, a7⟩ := h2 q hq; ⟨T.free _ a1 a2 a3 a4 a5, (T.builtins _ a6).trans a7⟩⟩
end Mine

namespace Mine

theorem kp_refl (s : Shared) : Keeps s s := ⟨s.heap, s.toks, rfl, fun _ _ e => e⟩
theorem kp_trans {s s' s'' : Shared} (h : Keeps s s') (h' : Keeps s' s'') : Keeps s s'' := by
  obtain ⟨a, b, rfl, k⟩ := h
  obtain ⟨c, d, rfl, k'⟩ := h'
  exact ⟨c, d, rfl, fun x o e => k' x o (k x o e)⟩
theorem kp_get {s s' : Shared} (h : Keeps s s') : ∀ b o, s.heap.get? b = some o → s'.heap.get? b = some o := by
  obtain ⟨a, b, rfl, k⟩ := h; exact k
theorem kp_tok {s : Shared} (n : Nat) : Keeps s { s with toks := n } := ⟨s.heap, n, rfl, fun _ _ e => e⟩
theorem kp_heap {s : Shared} {h : Heap} {n : Nat} (k : ∀ b o, s.heap.get? b = some o → h.get? b = some o) : Keeps s { s with heap := h, toks := n } := ⟨h, n, rfl, k⟩
theorem kp_heap' {s : Shared} {h : Heap} (k : ∀ b o, s.heap.get? b = some o → h.get? b = some o) : Keeps s { s with heap := h } := ⟨h, s.toks, rfl, k⟩

def Do (w : World) (A : Around) {α : Type} (t : Sem α) (P : α → Shared → Prop) (s : Shared) : Prop :=
  ∀ E, wpAny (model prog w) A t (fun v s' => Keeps s s' ∧ P v s') E s

section
variable {w : World} {A : Around} {s : Shared} {α β : Type}
theorem Do.use {t : Sem α} {P Q : α → Shared → Prop} {E} (h : Do w A t P s) (k : ∀ v s', Keeps s s' → P v s' → Q v s') : wpAny (model prog w) A t Q E s :=
  wpAny_mono (h E) (fun v s' x => k v s' x.1 x.2) fun _ _ e => e
theorem Do.mono {t : Sem α} {P Q : α → Shared → Prop} (h : Do w A t P s) (k : ∀ v s', Keeps s s' → P v s' → Q v s') : Do w A t Q s :=
  fun _ => h.use fun v s' a b => ⟨a, k v s' a b⟩
theorem do_pure {a : α} {P : α → Shared → Prop} (h : P a s) : Do w A (pure a) P s := fun _ => wpAny_pure ⟨kp_refl s, h⟩
theorem do_bind {t : Sem α} {f : α → Sem β} {P : β → Shared → Prop} (h : Do w A t (fun a s' => Do w A (f a) P s') s) : Do w A (t >>= f) P s :=
  fun _ => wpAny_bind (h.use fun _ _ k1 h1 => h1.use fun _ _ k2 h2 => ⟨kp_trans k1 k2, h2⟩)

def Nm (env : Env) (h : Heap) (x : Str) (v : Value) : Prop :=
  env.scope.kind = .function ∧ (x == ("__debug__" : Str)) = false ∧
  ((env.kindOf x = some .local ∧ ∃ m, h.Ns env.locals m ∧ m x = some v) ∨
   (env.kindOf x = some .cell ∧ ∃ c, env.cells.lookup x = some c ∧ h.IsCell c (some v)) ∨
   (env.kindOf x = some .globalImplicit ∧ ∃ mg, h.Ns env.globals mg ∧ (mg x = some v ∨ (mg x = none ∧ ∃ mb, h.Ns env.builtins mb ∧ mb x = some v))))
theorem Nm.keeps {env h h' x v} (N : Nm env h x v) (hk : ∀ b o, h.get? b = some o → h'.get? b = some o) : Nm env h' x v := by
  obtain ⟨a, b, c⟩ := N
  refine ⟨a, b, ?_⟩
  rcases c with ⟨c1, m, c2, c3⟩ | ⟨c1, c, c2, c3⟩ | ⟨c1, mg, c2, c3⟩
  · exact .inl ⟨c1, m, c2.keeps hk, c3⟩
  · exact .inr (.inl ⟨c1, c, c2, c3.keeps hk⟩)
  · refine .inr (.inr ⟨c1, mg, c2.keeps hk, ?_⟩)
    rcases c3 with c3 | ⟨c3, mb, c4, c5⟩
    · exact .inl c3
    · exact .inr ⟨c3, mb, c4.keeps hk, c5⟩
theorem Nm.kp {env x v} {s s' : Shared} (N : Nm env s.heap x v) (hk : Keeps s s') : Nm env s'.heap x v := N.keeps (kp_get hk)

theorem wp_load {env x v Q E} (N : Nm env s.heap x v) (h : Q v s) : wpAny (model prog w) A (loadName env x) Q E s := by
  obtain ⟨hk, hd, c⟩ := N
  rcases c with ⟨c1, m, c2, c3⟩ | ⟨c1, c, c2, c3⟩ | ⟨c1, mg, c2, c3⟩
  · exact wpAny_loadName_local hk c1 c2 c3 h
  · exact wpAny_loadName_cell hk c1 c2 c3 h
  · unfold loadName
    simp only [Env.blockKind, hk, c1, ScopeKind.isAnnotationScope, Bool.false_and, Bool.false_eq_true, if_false]
    rcases c3 with c3 | ⟨c3, mb, c4, c5⟩
    · exact loadGlobal_global c2 c3 h
    · exact loadGlobal_builtin c2 c3 c4 c5 h
theorem wp_name {env x v Q E pos} (N : Nm env s.heap x v) (h : Q v s) : wpAny (model prog w) A (eval (.Name x pos) env) Q E s :=
  wpAny_Name (wp_load N h) N.2.1
theorem do_name {env x v pos} {P : Value → Shared → Prop} (N : Nm env s.heap x v) (h : P v s) : Do w A (eval (.Name x pos) env) P s := fun _ => wp_name N ⟨kp_refl s, h⟩

theorem nm_bi {env : Env} {mg mb x v h} (G : Gd mg mb h) (hk : env.scope.kind = .function) (hg : env.globals = mainGlobals) (hb : env.builtins = builtinsNs) (hx : env.kindOf x = some .globalImplicit) (hm : (x, v) ∈ biNames)
    (hd : (x == ("__debug__" : Str)) = false := by decide) : Nm env h x v :=
  ⟨hk, hd, .inr (.inr ⟨hx, mg, hg ▸ G.g, .inr ⟨(G.bi _ hm).1, mb, hb ▸ G.b, (G.bi _ hm).2⟩⟩)⟩
theorem nm_fn {env : Env} {mg mb h d a cd} (G : Gd mg mb h) (F : Fn mg h d a cd) (hk : env.scope.kind = .function) (hg : env.globals = mainGlobals) (hx : env.kindOf d.name = some .globalImplicit)
    (hd : (d.name == ("__debug__" : Str)) = false := by decide) : Nm env h d.name (.ref a) :=
  ⟨hk, hd, .inr (.inr ⟨hx, mg, hg ▸ G.g, .inl F.at_⟩)⟩
theorem nm_loc {env : Env} {m x v h} (hk : env.scope.kind = .function) (hx : env.kindOf x = some .local) (hn : h.Ns env.locals m) (hv : m x = some v)
    (hd : (x == ("__debug__" : Str)) = false := by decide) : Nm env h x v := ⟨hk, hd, .inl ⟨hx, m, hn, hv⟩⟩
theorem nm_cell {env : Env} {c x v h} (hk : env.scope.kind = .function) (hx : env.kindOf x = some .cell) (hc : env.cells.lookup x = some c) (hv : h.IsCell c (some v))
    (hd : (x == ("__debug__" : Str)) = false := by decide) : Nm env h x v := ⟨hk, hd, .inr (.inl ⟨hx, c, hc, hv⟩)⟩

-- expressions
theorem do_binop {env l op r pos} {P : Value → Shared → Prop} (h : Do w A (eval l env) (fun a s₁ => Do w A (eval r env) (fun b s₂ => Do w A (binaryOp op a b) P s₂) s₁) s) : Do w A (eval (.BinOp l op r pos) env) P s :=
  fun _ => wpAny_BinOp (h.use fun _ _ k1 h1 => h1.use fun _ _ k2 h2 => h2.use fun _ _ k3 h3 => ⟨kp_trans k1 (kp_trans k2 k3), h3⟩)
theorem do_cmp {env l op r pos} {P : Value → Shared → Prop} (h : Do w A (eval l env) (fun a s₁ => Do w A (eval r env) (fun b s₂ => Do w A (compareOp op a b) P s₂) s₁) s) (hm : behindInMarks op r = false := by rfl) : Do w A (eval (.Compare l [op] [r] pos) env) P s :=
  fun _ => wpAny_Compare1 (h.use fun _ _ k1 h1 => h1.use fun _ _ k2 h2 => h2.use fun _ _ k3 h3 => ⟨kp_trans k1 (kp_trans k2 k3), h3⟩) hm
theorem do_true_cmp {env l op r pos whole} {P : Bool → Shared → Prop} (h : Do w A (eval l env) (fun a s₁ => Do w A (eval r env) (fun b s₂ => Do w A (compareOp op a b) (fun c s₃ => Do w A (truthy c) P s₃) s₂) s₁) s)
    (hm : behindInMarks op r = false := by rfl) : Do w A (isTrue (.Compare l [op] [r] pos) env whole) P s :=
  fun _ => wpAny_isTrue_Compare1 (h.use fun _ _ k1 h1 => h1.use fun _ _ k2 h2 => h2.use fun _ _ k3 h3 => h3.use fun _ _ k4 h4 => ⟨kp_trans k1 (kp_trans k2 (kp_trans k3 k4)), h4⟩) hm
theorem do_int {env i k pos} {P : Value → Shared → Prop} (h : ∀ t tk, P (.int i t) { s with toks := tk }) : Do w A (eval (.Constant (.int i) k pos) env) P s :=
  fun _ => wpAny_Constant_int ⟨kp_tok _, h _ _⟩
theorem do_str {env x k pos} {P : Value → Shared → Prop} (h : ∀ t tk, P (.str x t) { s with toks := tk }) : Do w A (eval (.Constant (.str x) k pos) env) P s :=
  fun _ => wpAny_Constant_str ⟨kp_tok _, h _ _⟩
theorem do_bytes {env x k pos} {P : Value → Shared → Prop} (h : ∀ t tk, P (.bytes x.toArray t) { s with toks := tk }) : Do w A (eval (.Constant (.bytes x) k pos) env) P s :=
  fun _ _ _ _ => ⟨kp_tok _, h _ _⟩
theorem do_truthy_bool {b : Bool} {P : Bool → Shared → Prop} (h : P b s) : Do w A (truthy (.bool b)) P s := fun _ => wpAny_truthy_bool ⟨kp_refl s, h⟩

-- calls
theorem do_items_nil {env pos} {P : List Value → Shared → Prop} (h : P [] s) : Do w A (spliced (backTo pos (starEach [] env))) P s := fun _ => wpAny_items_nil ⟨kp_refl s, h⟩
theorem do_items_cons {env pos e rest} {P : List Value → Shared → Prop}
    (h : Do w A (eval e env) (fun v s₁ => Do w A (spliced (backTo pos (starEach rest env))) (fun vs s₂ => P (v :: vs) s₂) s₁) s)
    (he : starEach (e :: rest) env = (false, eval e env) :: starEach rest env := by rfl) : Do w A (spliced (backTo pos (starEach (e :: rest) env))) P s :=
  fun _ => wpAny_items_cons (h.use fun _ _ k1 h1 => h1.use fun _ _ k2 h2 => ⟨kp_trans k1 k2, h2⟩) he
theorem do_one {env pos e} {P : List Value → Shared → Prop} (h : Do w A (eval e env) (fun v s₁ => P [v] s₁) s) (he : starEach [e] env = (false, eval e env) :: starEach [] env := by rfl) :
    Do w A (spliced (backTo pos (starEach [e] env))) P s := do_items_cons (h.mono fun _ _ _ h1 => do_items_nil h1) he
theorem do_two {env pos e e'} {P : List Value → Shared → Prop} (h : Do w A (eval e env) (fun v s₁ => Do w A (eval e' env) (fun v' s₂ => P [v, v'] s₂) s₁) s)
    (he : starEach [e, e'] env = (false, eval e env) :: starEach [e'] env := by rfl) (he' : starEach [e'] env = (false, eval e' env) :: starEach [] env := by rfl) :
    Do w A (spliced (backTo pos (starEach [e, e'] env))) P s := do_items_cons (h.mono fun _ _ _ h1 => do_one h1 he') he

theorem do_call_b {env f args e pos id} {P : Value → Shared → Prop} (hf : Do w A (eval f env) (fun v s₁ => v = .builtin id ∧ Do w A (spliced (backTo pos (starEach (e :: args) env))) (fun vs s₂ => Do w A (call (.builtin id) vs) P s₂) s₁) s)
    (hc : eval (.Call f (e :: args) [] pos) env = (do callWith pos (← eval f env) [] (backTo pos (starEach (e :: args) env)) (backToKw pos (keywordEach [] env))) := by rfl)
    (he : starEach (e :: args) env = (false, eval e env) :: starEach args env := by rfl)
    (hp : (backTo pos (starEach args env)).any (·.1) = false := by rfl) : Do w A (eval (.Call f (e :: args) [] pos) env) P s := by
  intro E
  refine Call_ (hf.use fun v s₁ k1 h1 => ?_) hc
  obtain ⟨rfl, h1⟩ := h1
  exact PyProof.Rows.callWith_builtin1 (h1.use fun _ _ k2 h2 => h2.use fun _ _ k3 h3 => ⟨kp_trans k1 (kp_trans k2 k3), h3⟩) he hp
theorem do_call_t {env f args e pos T} {P : Value → Shared → Prop} (hf : Do w A (eval f env) (fun v s₁ => v = .type T ∧ Do w A (spliced (backTo pos (starEach (e :: args) env))) (fun vs s₂ => Do w A (call (.type T) vs) P s₂) s₁) s)
    (hc : eval (.Call f (e :: args) [] pos) env = (do callWith pos (← eval f env) [] (backTo pos (starEach (e :: args) env)) (backToKw pos (keywordEach [] env))) := by rfl)
    (he : starEach (e :: args) env = (false, eval e env) :: starEach args env := by rfl)
    (hp : (backTo pos (starEach args env)).any (·.1) = false := by rfl) : Do w A (eval (.Call f (e :: args) [] pos) env) P s := by
  intro E
  refine Call_ (hf.use fun v s₁ k1 h1 => ?_) hc
  obtain ⟨rfl, h1⟩ := h1
  exact PyProof.Rows.callWith_type1 (h1.use fun _ _ k2 h2 => h2.use fun _ _ k3 h3 => ⟨kp_trans k1 (kp_trans k2 k3), h3⟩) he hp
theorem do_call_f {env f args e pos mg d a cd} {P : Value → Shared → Prop} (F : Fn mg s.heap d a cd)
    (hf : Do w A (eval f env) (fun v s₁ => v = .ref a ∧ Do w A (spliced (backTo pos (starEach (e :: args) env))) (fun vs s₂ => Do w A (call (.ref a) vs) P s₂) s₁) s)
    (hc : eval (.Call f (e :: args) [] pos) env = (do callWith pos (← eval f env) [] (backTo pos (starEach (e :: args) env)) (backToKw pos (keywordEach [] env))) := by rfl)
    (he : starEach (e :: args) env = (false, eval e env) :: starEach args env := by rfl) : Do w A (eval (.Call f (e :: args) [] pos) env) P s := by
  intro E
  obtain ⟨o, pm, doc, ho, hd⟩ := F.obj
  refine Call_ (hf.use fun v s₁ k1 h1 => ?_) hc
  obtain ⟨rfl, h1⟩ := h1
  exact callWith_def hd (h1.use fun _ _ k2 h2 => ⟨kp_get (kp_trans k1 k2) _ _ ho, h2.use fun _ _ k3 h3 => ⟨kp_trans k1 (kp_trans k2 k3), h3⟩⟩) he

-- a def's frame
structure Lf (s₀ : Shared) (env : Env) (m : Str → Option Value) (s : Shared) : Prop where
  keeps : Keeps s₀ s
  ns : s.heap.Ns env.locals m
  fresh : s₀.heap.get? env.locals = none
theorem Lf.kp {s₀ env m} {s s' : Shared} (L : Lf s₀ env m s) (k : Keeps s s') : Lf s₀ env m s' := ⟨kp_trans L.keeps k, L.ns.keeps (kp_get k), L.fresh⟩
theorem wp_store {s₀ env m x v Q E} (L : Lf s₀ env m s) (hx : env.kindOf x = some .local) (hk : env.scope.kind = .function)
    (h : ∀ s', Lf s₀ env (fun y => if y = x then some v else m y) s' → Q () s') : wpAny (model prog w) A (storeName env x v) Q E s := by
  refine wpAny_storeName_local hx L.ns (fun h' hn hs => h _ ⟨?_, hn, L.fresh⟩) (by rw [hk]; rfl)
  obtain ⟨a, b, rfl, k⟩ := L.keeps
  exact ⟨h', _, rfl, fun c o e => hs.extBut c o (fun q => by rw [q, L.fresh] at e; cases e) (k c o e)⟩

theorem do_def {mg} {d : DefRec} {a : Addr} {cd : Value} {args : List Value} {binds : List (Str × Value)} {P : Value → Shared → Prop} (F : Fn mg s.heap d a cd) (hlim : s.heap.NoLimit) (hroom : A.depth < recursionLimit)
    (hbind : ∀ pm doc, bindArgs (docDef d.name d.params d.body d.scope pm cd doc) ⟨args, []⟩ = pure binds) (hloc : (binds.all fun x => decide (d.scope.names.lookup x.1 = some .local)) = true)
    (h : ∀ L s₁, Lf s (envOf d.name d.scope L a cd) (fun x => binds.reverse.lookup x) s₁ → wpAny (model prog w) (A.deeper (envOf d.name d.scope L a cd)) (execs d.body (envOf d.name d.scope L a cd))
      (fun f s' => Keeps s s' ∧ P (match f with | .ret v => v | _ => .none) s') (fun _ _ => False) s₁)
    (hco : d.scope.isCoroutine = false := by rfl) (hgen : d.scope.isGenerator = false := by rfl) (hk : d.scope.kind = .function := by rfl)
    (hcell : ∀ x ∈ d.scope.names, x.2 ≠ .cell := by decide) : Do w A (call (.ref a) args) P s := by
  intro E
  obtain ⟨o, pm, doc, ho, hd⟩ := F.obj
  refine wpAny_call (call_plain_ret hroom ho hd hlim F.code (hbind pm doc) (locs hloc) (fun h₁ Fr1 => ?_) hco hgen hk hcell)
  refine h s.heap.objs.size _ ⟨⟨h₁, _, rfl, Fr1.keep⟩, Fr1.ns, ?_⟩
  exact Heap.get?_none_of_le (Nat.le_refl _)
end
end Mine

namespace Mine

def PL (h : Heap) (v : Value) (vs : List Value) : Prop := ∃ a, v = .ref a ∧ h.PlainList a vs.toArray
theorem PL.keeps {h h' v vs} (p : PL h v vs) (hk : ∀ b o, h.get? b = some o → h'.get? b = some o) : PL h' v vs := let ⟨a, e, q⟩ := p; ⟨a, e, q.at fun o x => hk _ o x⟩
theorem PL.kp {v vs} {s s' : Shared} (p : PL s.heap v vs) (k : Keeps s s') : PL s'.heap v vs := p.keeps (kp_get k)
def LI (h : Heap) (v : Value) (ns : List Int) : Prop := ∃ vs, PL h v vs ∧ IntsAre vs ns
def LS (h : Heap) (v : Value) (ss : List Str) : Prop := ∃ vs, PL h v vs ∧ StrsAre vs ss
theorem LI.keeps {h h' v ns} (p : LI h v ns) (hk : ∀ b o, h.get? b = some o → h'.get? b = some o) : LI h' v ns := let ⟨a, e, q⟩ := p; ⟨a, e.keeps hk, q⟩
theorem LS.keeps {h h' v ns} (p : LS h v ns) (hk : ∀ b o, h.get? b = some o → h'.get? b = some o) : LS h' v ns := let ⟨a, e, q⟩ := p; ⟨a, e.keeps hk, q⟩
theorem LI.kp {v ns} {s s' : Shared} (p : LI s.heap v ns) (k : Keeps s s') : LI s'.heap v ns := p.keeps (kp_get k)
theorem LS.kp {v ns} {s s' : Shared} (p : LS s.heap v ns) (k : Keeps s s') : LS s'.heap v ns := p.keeps (kp_get k)

theorem pl_push (s : Shared) (vs : List Value) : PL (s.heap.push { cls := .type "list", data := .seq vs.toArray }) (.ref s.heap.objs.size) vs :=
  ⟨_, rfl, 0, Heap.get?_push_size _ rfl⟩
theorem kp_push {s : Shared} (o : Obj) : Keeps s { s with heap := s.heap.push o } := kp_heap' fun _ _ e => Heap.get?_push_of_some _ e

section
variable {w : World} {A : Around} {s : Shared}
theorem do_add_int {a b t u} {P : Value → Shared → Prop} (h : ∀ t tk, P (.int (a + b) t) { s with toks := tk }) : Do w A (binaryOp .Add (.int a t) (.int b u)) P s := fun _ => add_int ⟨kp_tok _, h _ _⟩
theorem do_sub_int {a b t u} {P : Value → Shared → Prop} (h : ∀ t tk, P (.int (a - b) t) { s with toks := tk }) : Do w A (binaryOp .Sub (.int a t) (.int b u)) P s := fun _ => sub_int ⟨kp_tok _, h _ _⟩
theorem do_mul_int {a b t u} {P : Value → Shared → Prop} (hm : IntMulOk a b) (h : ∀ t tk, P (.int (a * b) t) { s with toks := tk }) : Do w A (binaryOp .Mult (.int a t) (.int b u)) P s := fun _ => mul_int ⟨kp_tok _, h _ _⟩ hm
theorem do_mod_int {a b t u} {P : Value → Shared → Prop} (hb : b ≠ 0) (h : ∀ t tk, P (.int (a.fmod b) t) { s with toks := tk }) : Do w A (binaryOp .Mod (.int a t) (.int b u)) P s := fun _ => mod_int' hb ⟨kp_tok _, h _ _⟩
theorem do_fdiv_int {a b t u} {P : Value → Shared → Prop} (hb : b ≠ 0) (hp : Builtin.divisionGoesByPylong a b = false) (h : ∀ t tk, P (.int (a.fdiv b) t) { s with toks := tk }) : Do w A (binaryOp .FloorDiv (.int a t) (.int b u)) P s := fun _ => floordiv_int hb ⟨kp_tok _, h _ _⟩ (.inl hp)
theorem do_pow_int {a n t u} {P : Value → Shared → Prop} (h0 : 0 ≤ n) (h1 : (Builtin.Int.intBits a : Int) * n ≤ 2 ^ 27) (h : ∀ t tk, P (.int (a ^ n.toNat) t) { s with toks := tk }) : Do w A (binaryOp .Pow (.int a t) (.int n u)) P s := fun _ => pow_int h0 h1 ⟨kp_tok _, h _ _⟩
theorem do_sub_bool {p q} {P : Value → Shared → Prop} (h : ∀ t tk, P (.int (b2i p - b2i q) t) { s with toks := tk }) : Do w A (binaryOp .Sub (.bool p) (.bool q)) P s := fun _ => sub_bool ⟨kp_tok _, h _ _⟩
theorem do_neg_int {a t} {P : Value → Shared → Prop} (h : ∀ t tk, P (.int (-a) t) { s with toks := tk }) : Do w A (unaryOp .USub (.int a t)) P s := fun _ => PyProof.Rows.neg_int ⟨kp_tok _, h _ _⟩
theorem do_lt_int {a b t u} {P : Value → Shared → Prop} (h : P (.bool (decide (a < b))) s) : Do w A (compareOp .Lt (.int a t) (.int b u)) P s := fun _ => PyProof.Rows.lt_int ⟨kp_refl _, h⟩
theorem do_gt_int {a b t u} {P : Value → Shared → Prop} (h : P (.bool (decide (b < a))) s) : Do w A (compareOp .Gt (.int a t) (.int b u)) P s := fun _ => PyProof.Rows.gt_int ⟨kp_refl _, h⟩
theorem do_ge_int {a b t u} {P : Value → Shared → Prop} (h : P (.bool (decide (b ≤ a))) s) : Do w A (compareOp .GtE (.int a t) (.int b u)) P s := fun _ => PyProof.Rows.ge_int ⟨kp_refl _, h⟩
theorem do_truthy_int {a t} {P : Bool → Shared → Prop} (h : P (a != 0) s) : Do w A (truthy (.int a t)) P s := fun _ => PyProof.Rows.truthy_int ⟨kp_refl _, h⟩
theorem do_lt_str {x y t u} {P : Value → Shared → Prop} (h : P (.bool (decide (x.cps.toList < y.cps.toList))) s) : Do w A (compareOp .Lt (.str x t) (.str y u)) P s := fun _ => PyProof.Rows.lt_str ⟨kp_refl _, h⟩
theorem do_gt_str {x y t u} {P : Value → Shared → Prop} (h : P (.bool (decide (y.cps.toList < x.cps.toList))) s) : Do w A (compareOp .Gt (.str x t) (.str y u)) P s := fun _ => PySem.P.gt_str ⟨kp_refl _, h⟩
theorem do_eq_str {x y t u} {P : Value → Shared → Prop} (h : P (.bool (x == y)) s) : Do w A (compareOp .Eq (.str x t) (.str y u)) P s := fun _ => PyProof.Rows.eq_str ⟨kp_refl _, h⟩
theorem do_add_str {x y t u} {P : Value → Shared → Prop} (hz : x.length + y.length ≤ 16777216) (h : ∀ t tk, P (.str (x ++ y) t) { s with toks := tk }) : Do w A (binaryOp .Add (.str x t) (.str y u)) P s :=
  fun _ => PyProof.Rows.add_str (fun t tk => ⟨kp_tok _, h _ _⟩) (by rw [sizeLine_eq]; exact hz)
theorem do_mul_str {x n t u} {P : Value → Shared → Prop} (hm : MulOk x n) (h : ∀ t tk, P (.str (Txt.mul x n) t) { s with toks := tk }) : Do w A (binaryOp .Mult (.str x t) (.int n u)) P s := fun _ => SB.mul hm fun t tk => ⟨kp_tok _, h _ _⟩
theorem do_add_bytes {b c t u} {P : Value → Shared → Prop} (hz : b.size + c.size ≤ 16777216) (h : ∀ t tk, P (.bytes (b ++ c) t) { s with toks := tk }) : Do w A (binaryOp .Add (.bytes b t) (.bytes c u)) P s :=
  fun _ => KBy.add_bytes hz fun t tk => ⟨kp_tok _, h _ _⟩
theorem do_abs {a t} {P : Value → Shared → Prop} (h : ∀ t tk, P (.int (if a < 0 then -a else a) t) { s with toks := tk }) : Do w A (call (.builtin "abs") [.int a t]) P s := fun _ => call_abs_int fun _ _ => ⟨kp_tok _, h _ _⟩
theorem do_int_int {a t} {P : Value → Shared → Prop} (h : P (.int a t) s) : Do w A (call (.type "int") [.int a t]) P s := fun _ => call_int_int ⟨kp_refl _, h⟩
theorem do_len_str {x t} {P : Value → Shared → Prop} (hz : x.length ≤ 16777216) (h : ∀ t tk, P (.int x.length t) { s with toks := tk }) : Do w A (call (.builtin "len") [.str x t]) P s := fun _ => len_str (by omega) ⟨kp_tok _, h _ _⟩
theorem do_min {a b t u} {P : Value → Shared → Prop} (hh : A.handled = none) (h : ∀ t s', Keeps s s' → P (.int (min a b) t) s') : Do w A (call (.builtin "min") [.int a t, .int b u]) P s := fun _ =>
  min_two_ints hh fun h' tk hk => ⟨kp_heap hk, by
    by_cases c : b < a
    · rw [if_pos c]; have := h u { s with heap := h', toks := tk } (kp_heap hk); rwa [show min a b = b by omega] at this
    · rw [if_neg c]; have := h t { s with heap := h', toks := tk } (kp_heap hk); rwa [show min a b = a by omega] at this⟩
theorem do_divmod {a b t u} {P : Value → Shared → Prop} (hb : b ≠ 0) (hp : Builtin.divisionGoesByPylong a b = false)
    (h : ∀ T t1 t2 s', Keeps s s' → s'.heap.IsTuple T #[.int (a.fdiv b) t1, .int (a.fmod b) t2] → P (.ref T) s') : Do w A (call (.builtin "divmod") [.int a t, .int b u]) P s := fun _ =>
  divmod_int hb ⟨kp_heap fun _ _ e => Heap.get?_push_of_some _ e, h _ _ _ _ (kp_heap fun _ _ e => Heap.get?_push_of_some _ e) ⟨_, Heap.get?_push_size _ rfl, rfl, _, rfl⟩⟩ (.inl hp)
theorem do_unary {env op x pos} {P : Value → Shared → Prop} (h : Do w A (eval x env) (fun a s₁ => Do w A (unaryOp op a) P s₁) s) : Do w A (eval (.UnaryOp op x pos) env) P s :=
  fun _ => wpAny_UnaryOp (h.use fun _ _ k1 h1 => h1.use fun _ _ k2 h2 => ⟨kp_trans k1 k2, h2⟩)

-- lists
theorem do_newList {vs} {P : Value → Shared → Prop} (hz : vs.length ≤ 16777216) (h : ∀ v s', Keeps s s' → PL s'.heap v vs → P v s') : Do w A (newList vs) P s := fun _ =>
  wpAny_newList ⟨kp_push _, h _ _ (kp_push _) (pl_push s vs)⟩ (by rw [sizeLine_eq]; exact hz)
theorem do_list {env elts pos} {P : Value → Shared → Prop} (h : Do w A (spliced (backTo pos (starEach elts env))) (fun vs s₁ => vs.length ≤ 16777216 ∧ ∀ v s', Keeps s₁ s' → PL s'.heap v vs → P v s') s) : Do w A (eval (.List elts pos) env) P s :=
  fun _ => List_ (h.use fun vs s₁ k1 h1 => (do_newList (P := P) h1.1 h1.2).use fun _ _ k2 h2 => ⟨kp_trans k1 k2, h2⟩)
theorem do_add_list {u v xs ys} {P : Value → Shared → Prop} (hu : PL s.heap u xs) (hv : PL s.heap v ys) (hz : xs.length + ys.length ≤ 16777216) (h : ∀ r s', Keeps s s' → PL s'.heap r (xs ++ ys) → P r s') : Do w A (binaryOp .Add u v) P s := by
  obtain ⟨a, rfl, n, ha⟩ := hu
  obtain ⟨b, rfl, m, hb⟩ := hv
  intro E
  refine PySem.P.add_list ha hb ?_ (by rw [sizeLine_eq]; simpa using hz)
  have e : xs.toArray ++ ys.toArray = (xs ++ ys).toArray := by simp
  rw [e]
  exact ⟨kp_push _, h _ _ (kp_push _) (pl_push s _)⟩

-- subscripts
theorem do_sub {env value slice pos} {P : Value → Shared → Prop} (h : Do w A (eval value env) (fun o s₁ => Do w A (eval slice env) (fun i s₂ => ∃ T id ops, s₂.TypeIs o T ∧ typeLookup (.type T) "__getitem__" = pure (some (.builtin id)) ∧
      subscripted slice false o i = operate ops (getItem o i) ∧ Do w A (getItem o i) P s₂) s₁) s) : Do w A (eval (.Subscript value slice pos) env) P s := by
  intro E
  refine Subscript_ (h.use fun o s₁ k1 h1 => h1.use fun i s₂ k2 h2 => ?_)
  obtain ⟨T, id, ops, hT, hl, hs, h3⟩ := h2
  exact tail_any hT hl (h3.use fun _ _ k3 h4 => ⟨kp_trans k1 (kp_trans k2 k3), h4⟩) hs
theorem do_slice {env lo hi p} {P : Value → Shared → Prop} (h : Do w A (evalPart lo env) (fun l s₁ => Do w A (evalPart hi env) (fun u s₂ => ∀ a s', Keeps s₂ s' → s'.heap.IsSliceOf a l u .none → P (.ref a) s') s₁) s) :
    Do w A (eval (.Slice lo hi none p) env) P s := fun _ =>
  wpAny_Slice (h.use fun l s₁ k1 h1 => h1.use fun u s₂ k2 h2 => wpAny_of_eq (evalPart_none _) ⟨kp_trans k1 (kp_trans k2 (kp_push _)), h2 _ _ (kp_push _) (Heap.IsSliceOf.new _ _ _ _)⟩)
theorem do_part_none {env} {P : Value → Shared → Prop} (h : P .none s) : Do w A (evalPart none env) P s := fun _ => wpAny_of_eq (evalPart_none _) ⟨kp_refl _, h⟩
theorem do_part {env e} {P : Value → Shared → Prop} (h : Do w A (eval e env) P s) : Do w A (evalPart (some e) env) P s := h
theorem do_get_slice {v sl vs vl vu lo hi} {P : Value → Shared → Prop} (hv : PL s.heap v vs) (hs : s.heap.IsSliceOf sl vl vu .none) (hl : IsPart vl lo) (hu : IsPart vu hi) (hz : vs.length ≤ 16777216)
    (h : ∀ r s', Keeps s s' → PL s'.heap r (slicePick vs.toArray lo hi none).toList → P r s') : Do w A (getItem v (.ref sl)) P s := by
  obtain ⟨a, rfl, ha⟩ := hv
  intro E
  refine wpAny_getItem_list_slice ha.isList hs hl hu .none (by intro e; cases e) ⟨kp_push _, h _ _ (kp_push _) ?_⟩ (by rw [sizeLine_eq]; simpa using hz)
  exact ⟨_, rfl, 0, by simpa using Heap.get?_push_size _ rfl⟩
theorem do_get_item {v vs x t} {k : Int} {P : Value → Shared → Prop} (hv : PL s.heap v vs) (h0 : 0 ≤ k) (h1 : k < 2 ^ 63) (hx : vs[k.toNat]? = some x) (h : P x s) : Do w A (getItem v (.int k t)) P s := by
  obtain ⟨a, rfl, ha⟩ := hv
  exact fun E => wpAny_getItem_list ha.isList h0 h1 (by simpa using hx) ⟨kp_refl _, h⟩
theorem do_get_str {x t k u} {c : Nat} {P : Value → Shared → Prop} (h1 : -(2^63) ≤ k) (h2 : k < 2 ^ 63) (hc : (seqIndex? k x.length).bind (x.cps[·]?) = some c) (h : ∀ t tk, P (.str ⟨#[c]⟩ t) { s with toks := tk }) : Do w A (getItem (.str x t) (.int k u)) P s := fun _ =>
  PyProof.Rows.getItem_str (by simp only [Bool.or_eq_false_iff, decide_eq_false_iff_not]; omega) hc ⟨kp_tok _, h _ _⟩
end
end Mine

namespace Mine

def KpX (X : List Addr) (s s' : Shared) : Prop := ∃ h tk, s' = { s with heap := h, toks := tk } ∧ ∀ b o, b ∉ X → s.heap.get? b = some o → h.get? b = some o
theorem kpx_refl (X) (s : Shared) : KpX X s s := ⟨s.heap, s.toks, rfl, fun _ _ _ e => e⟩
theorem kpx_of {X s s'} (k : Keeps s s') : KpX X s s' := let ⟨h, tk, e, q⟩ := k; ⟨h, tk, e, fun b o _ x => q b o x⟩
theorem kpx_get {X s s'} (k : KpX X s s') : ∀ b o, b ∉ X → s.heap.get? b = some o → s'.heap.get? b = some o := by
  obtain ⟨h, tk, rfl, q⟩ := k; exact q
theorem kpx_trans {X s s' s''} (k : KpX X s s') (k' : KpX X s' s'') : KpX X s s'' := by
  obtain ⟨h, tk, rfl, q⟩ := k
  obtain ⟨h', tk', rfl, q'⟩ := k'
  exact ⟨h', tk', rfl, fun b o hb e => q' b o hb (q b o hb e)⟩
theorem kpx_mono {X Y s s'} (k : KpX X s s') (hs : ∀ b ∈ X, b ∈ Y) : KpX Y s s' := let ⟨h, tk, e, q⟩ := k; ⟨h, tk, e, fun b o hb x => q b o (fun y => hb (hs b y)) x⟩
theorem kpx_keeps {X s s'} (k : KpX X s s') (hn : ∀ b ∈ X, s.heap.get? b = none) : Keeps s s' := by
  obtain ⟨h, tk, rfl, q⟩ := k
  exact ⟨h, tk, rfl, fun b o e => q b o (fun hb => by rw [hn b hb] at e; cases e) e⟩
theorem kpx_sameBut {s : Shared} {a : Addr} {h' : Heap} {tk : Nat} {X : List Addr} (hs : Heap.SameBut a s.heap h') (ha : a ∈ X) : KpX X s { s with heap := h', toks := tk } :=
  ⟨h', tk, rfl, fun b o hb e => hs.extBut b o (fun q => hb (q ▸ ha)) e⟩

structure Turns (w : World) (A : Around) (target : Expr) (cenv : Env) (it : Value) (fp wr : List Addr) (n : Nat) (upd : Nat → (Str → Option Value) → (Str → Option Value) → Prop) (St : Nat → Heap → Prop) : Prop where
  sub : ∀ b ∈ wr, b ∈ fp
  frame : ∀ i h h', St i h → (∀ b ∈ fp, ∀ o, h.get? b = some o → h'.get? b = some o) → St i h'
  item : ∀ i (s : Shared) m (Q : Shared → Prop) E, i < n → St i s.heap → s.heap.Ns cenv.locals m →
    (∀ s' m', upd i m m' → St (i + 1) s'.heap → s'.heap.Ns cenv.locals m' → KpX (cenv.locals :: wr) s s' → Q s') →
    wpAny (model prog w) A (pyNext it) (fun r s1 => match r with
      | none => False
      | some v => wpAny (model prog w) A (letOwnedTupleGo target it v) (fun _ s2 => wpAny (model prog w) A (assign target cenv v) (fun _ s3 => Q s3) E s2) E s1) E s
  done : ∀ (s : Shared) (Q : Shared → Prop) E, St n s.heap → (∀ s', KpX wr s s' → Q s') → wpAny (model prog w) A (pyNext it) (fun r s' => match r with | none => Q s' | some _ => False) E s
  self : ∀ i (s : Shared) (Q : Value → Shared → Prop) E, St i s.heap → Q it s → wpAny (model prog w) A (pyIter it) Q E s

theorem turns_name {w A I fp wr n P St x px} {cenv : Env} (W : Walks prog w A I fp wr n P St) (hx : cenv.kindOf x = some .local) (hk : cenv.scope.kind = .function) (hC : cenv.locals ∉ fp) :
    Turns w A (.Name x px) cenv (.ref I) fp wr n (fun i m m' => ∃ v, P i v ∧ m' = fun y => if y = x then some v else m y) St where
  sub := W.sub
  frame := W.frame
  item := fun i s m Q E hi hst hns h => by
    refine W.item i s _ E hi hst fun v h' tk hP hst' hk' => ?_
    refine wpAny_of_eq (rfl : letOwnedTupleGo (.Name x px) (.ref I) v = pure ()) ?_
    have hCw : cenv.locals ∉ wr := fun q => hC (W.sub _ q)
    refine wpAny_assign_Name (wpAny_storeName_local hx (hns.at' fun o e => hk' _ o hCw e) (fun h₂ hn₂ hs₂ => ?_) (by rw [hk]; rfl))
    refine h _ _ ⟨v, hP, rfl⟩ ?_ hn₂ ?_
    · exact W.frame _ _ _ hst' fun b hb o e => hs₂.extBut b o (fun q => hC (q ▸ hb)) e
    · exact ⟨h₂, _, rfl, fun b o hb e => hs₂.extBut b o (fun q => hb (q ▸ List.mem_cons_self)) (hk' b o (fun q => hb (List.mem_cons_of_mem _ q)) e)⟩
  done := fun s Q E hst h => W.done s _ E hst fun h' tk hk' => h _ ⟨h', tk, rfl, hk'⟩
  self := fun i s Q E hst h => W.self i s Q E hst h

theorem turns_pair {w A I fp wr n Pt St Mid xa xb pa pb kt pt} {cenv : Env} (W : WalksT prog w A I fp wr n Pt St Mid) (hh : A.handled = none) (hP : ∀ i vals, Pt i vals → ∃ u v, vals = #[u, v])
    (hxa : cenv.kindOf xa = some .local) (hxb : cenv.kindOf xb = some .local) (hk : cenv.scope.kind = .function) (hC : cenv.locals ∉ fp) :
    Turns w A (.Tuple [.Name xa pa, .Name xb pb] kt pt) cenv (.ref I) fp wr n (fun i m m' => ∃ u v, Pt i #[u, v] ∧ m' = fun y => if y = xb then some v else if y = xa then some u else m y) St where
  sub := W.sub
  frame := W.frame
  item := fun i s m Q E hi hst hns h => by
    have hCw : cenv.locals ∉ wr := fun q => hC (W.sub _ q)
    refine W.item i s _ E hi hst fun T vals h' tk hPt hT hTup hMid hk' => ?_
    obtain ⟨u, v, rfl⟩ := hP i vals hPt
    refine W.go _ _ _ i T _ _ E hMid fun h₂ hst₂ hk₂ => ?_
    have hTw : T ∉ wr := W.apart i T _ hMid
    have hns₂ : h₂.Ns cenv.locals m := hns.at' fun o e => hk₂ _ o hCw (hk' _ o hCw e)
    have hTup₂ : h₂.IsTuple T #[u, v] := let ⟨o, ho, r⟩ := hTup; ⟨o, hk₂ _ o hTw ho, r⟩
    have hlt : ∀ b, (∃ o, h₂.get? b = some o) → b ≠ h₂.objs.size := fun b ⟨o, e⟩ => Nat.ne_of_lt (Heap.lt_size e)
    refine wpAny_assign_Tuple hh hTup₂ rfl rfl fun h₃ he₃ => ?_
    show wpAny _ _ (assignInOrder [assign (.Name xa pa) cenv, assign (.Name xb pb) cenv] [u, v]) _ _ _
    have hns₃ : h₃.Ns cenv.locals m := hns₂.extBut he₃ (hlt _ (by obtain ⟨o, _, _, ho, _⟩ := hns₂; exact ⟨o, ho⟩))
    refine wpAny_bind (wpAny_holding (wpAny_assign_Name (wpAny_storeName_local hxa hns₃ (fun h₄ hn₄ hs₄ => ?_) (by rw [hk]; rfl))))
    refine wpAny_bind (wpAny_holding (wpAny_assign_Name (wpAny_storeName_local hxb hn₄ (fun h₅ hn₅ hs₅ => ?_) (by rw [hk]; rfl))))
    refine wpAny_pure ?_
    have key : ∀ b o, b ≠ cenv.locals → h₂.get? b = some o → h₅.get? b = some o := fun b o hb e =>
      hs₅.extBut b o hb (hs₄.extBut b o hb (he₃ b o (hlt b ⟨o, e⟩) e))
    refine h _ _ ⟨u, v, hPt, rfl⟩ (W.frame _ _ _ hst₂ fun b hb o e => key b o (fun q => hC (q ▸ hb)) e) hn₅ ⟨h₅, _, rfl, fun b o hb e => ?_⟩
    have hbw : b ∉ wr := fun q => hb (List.mem_cons_of_mem _ q)
    exact key b o (fun q => hb (q ▸ List.mem_cons_self)) (hk₂ b o hbw (hk' b o hbw e))
  done := fun s Q E hst h => W.done s _ E hst fun h' tk hk' => h _ ⟨h', tk, rfl, hk'⟩
  self := fun i s Q E hst h => W.self i s Q E hst h

theorem flatten_le {B : Nat} : ∀ (yss : List (List Value)), (∀ (i : Nat) (new : List Value), yss[i]? = some new → new.length ≤ B) → yss.flatten.length ≤ B * yss.length
  | [], _ => by simp
  | a :: r, h => by
    have h1 := h 0 a rfl
    have h2 := flatten_le r fun i new hi => h (i + 1) new (by simpa using hi)
    simp only [List.flatten_cons, List.length_append, List.length_cons, Nat.mul_succ]
    omega
theorem comp_loop {w A target it fp wr n upd St D elt gens scope pos depth R ipos} {cenv : Env} {s : Shared} {m : Str → Option Value} (T : Turns w A target cenv it fp wr n upd St) (hn : n ≤ 1048576)
    (body : Sem PySem.Fin) (G : Nat → List Value → Heap → Prop) (B : Nat) (hB : ∀ i (new : List Value) h, G i new h → new.length ≤ B)
    (heq : compTurn (.ListComp elt gens scope pos) depth it (.ref D) cenv = (do
      standAt ipos
      match ← pyNext it with
      | none => pure (.done .next)
      | some v =>
        letOwnedTupleGo target it v
        assign target cenv v
        body))
    (hC : cenv.locals ∉ fp) (hD : D ∉ fp) (hDC : D ≠ cenv.locals) (ys₀ : List Value)
    (hst : St 0 s.heap) (hacc : s.heap.PlainList D ys₀.toArray) (hns : s.heap.Ns cenv.locals m)
    (hG : ∀ i new h h', G i new h → (∀ b o, b ∉ cenv.locals :: D :: wr → h.get? b = some o → h'.get? b = some o) → G i new h')
    (turn : ∀ i (s₃ : Shared) m m' (ys : List Value) E, i < n → upd i m m' → s₃.heap.Ns cenv.locals m' → KpX (cenv.locals :: D :: wr) s s₃ → s₃.heap.PlainList D ys.toArray → ys.length ≤ ys₀.length + B * n →
      wpAny (model prog w) A body (fun fin s₄ => fin = .again (.compLoop (.ListComp elt gens scope pos) depth it (.ref D) cenv) ∧ ∃ new, s₄.heap.PlainList D (ys ++ new).toArray ∧ G i new s₄.heap ∧ (∃ m'', s₄.heap.Ns cenv.locals m'') ∧ KpX [cenv.locals, D] s₃ s₄) E s₃)
    (hR : ∀ s' m' (yss : List (List Value)), s'.heap.Ns cenv.locals m' → s'.heap.PlainList D (ys₀ ++ yss.flatten).toArray → yss.length = n → (∀ i new, yss[i]? = some new → G i new s'.heap) → KpX (cenv.locals :: D :: wr) s s' → R (.ok .next) s') :
    codeAny (model prog w) A (.compLoop (.ListComp elt gens scope pos) depth it (.ref D) cenv) R s := by
  have hDw : D ∉ wr := fun q => hD (T.sub _ q)
  have hCw : cenv.locals ∉ wr := fun q => hC (T.sub _ q)
  refine codeAny_loop rfl (fun k s' => ∃ m' yss, St yss.length s'.heap ∧ s'.heap.PlainList D (ys₀ ++ yss.flatten).toArray ∧ s'.heap.Ns cenv.locals m' ∧ yss.length ≤ n ∧ k = n - yss.length ∧
    (∀ i new, yss[i]? = some new → G i new s'.heap) ∧ KpX (cenv.locals :: D :: wr) s s') ?_ n ⟨m, [], hst, by simpa using hacc, hns, Nat.zero_le _, rfl, by simp, kpx_refl _ _⟩
  rintro k s' ⟨m', yss, hst', hpl, hns', hle, rfl, hGs, hk⟩
  show wpAny _ A ((compTurn (.ListComp elt gens scope pos) depth it (.ref D) cenv).onRaise (fun x => do noteFrame x cenv; theTreesLotGoes x)) _ _ s'
  refine wpAny_noted ?_
  rw [heq]
  refine wpAny_bind (wpAny_standAt (wpAny_bind ?_))
  by_cases hlt : yss.length < n
  · refine wpAny_mono (T.item yss.length s' m' (fun s₃ => wpAny (model prog w) A body (fun fin s₄ => fin = .again (.compLoop (.ListComp elt gens scope pos) depth it (.ref D) cenv) ∧ ∃ new, s₄.heap.PlainList D (ys₀ ++ (yss ++ [new]).flatten).toArray ∧ G yss.length new s₄.heap ∧ (∃ m'', s₄.heap.Ns cenv.locals m'') ∧ KpX [cenv.locals, D] s₃ s₄ ∧
        St (yss.length + 1) s₃.heap ∧ KpX (cenv.locals :: wr) s' s₃) (notedBy (model prog w) A cenv fun e s' => R (.error e) s') s₃) _ hlt hst' hns' fun s₃ m₃ hu hst₃ hns₃ hk₃ => ?_) (fun r s₁ h₁ => ?_) fun _ _ e => e
    · have hpl₃ : s₃.heap.PlainList D (ys₀ ++ yss.flatten).toArray := hpl.at fun o e => kpx_get hk₃ _ o (by simp [hDC, hDw]) e
      have hbd : (ys₀ ++ yss.flatten).length ≤ ys₀.length + B * n := by
        have h1 := flatten_le yss fun i new hi => hB i new _ (hGs i new hi)
        have h2 := Nat.mul_le_mul_left B hle
        rw [List.length_append]
        omega
      refine wpAny_mono (turn yss.length s₃ m' m₃ (ys₀ ++ yss.flatten) _ hlt hu hns₃ (kpx_trans hk (kpx_mono hk₃ (by simp; exact fun b hb => .inr (.inr hb)))) hpl₃ hbd) (fun _ s₄ h₄ => ?_) fun _ _ e => e
      obtain ⟨e0, new, a1, a2, a3, a4⟩ := h₄
      exact ⟨e0, new, by simpa using a1, a2, a3, a4, hst₃, hk₃⟩
    · cases r with
      | none => exact h₁.elim
      | some v =>
        refine wpAny_bind (wpAny_mono h₁ (fun _ s₂ h₂ => wpAny_bind (wpAny_mono h₂ (fun _ s₃ h₃ => wpAny_mono h₃ (fun fin s₄ h₄ => ?_) fun _ _ e => e) fun _ _ e => e)) fun _ _ e => e)
        obtain ⟨rfl, new, a1, a2, ⟨m'', a3⟩, a4, a5, a6⟩ := h₄
        refine ⟨rfl, n - (yss.length + 1), by omega, m'', yss ++ [new], ?_, a1, a3, by simp; omega, by simp, ?_, ?_⟩
        · rw [List.length_append]
          exact T.frame _ _ _ a5 fun b hb o e => kpx_get a4 b o (by simp; exact ⟨fun q => hC (q ▸ hb), fun q => hD (q ▸ hb)⟩) e
        · intro i nw hi
          rcases Nat.lt_trichotomy i yss.length with h | h | h
          · rw [List.getElem?_append_left h] at hi
            refine hG i nw _ _ (hGs i nw hi) fun b o hb e => ?_
            simp only [List.mem_cons, not_or] at hb
            exact kpx_get a4 b o (by simp [hb]) (kpx_get a6 b o (by simp [hb]) e)
          · subst h; simp at hi; subst hi; exact a2
          · have hnone : (yss ++ [new])[i]? = none := List.getElem?_eq_none (by rw [List.length_append, List.length_singleton]; omega)
            rw [hnone] at hi; cases hi
        · refine kpx_trans hk (kpx_trans (kpx_mono a6 (by simp; exact fun b hb => .inr (.inr hb))) (kpx_mono a4 (by simp)))
  · have hin : yss.length = n := by omega
    refine wpAny_mono (T.done s' (fun s₁ => KpX wr s' s₁) _ (hin ▸ hst') fun _ q => q) (fun r s₁ h₁ => ?_) fun _ _ e => e
    cases r with
    | some v => exact h₁.elim
    | none =>
      refine wpAny_pure (hR s₁ m' yss (hns'.at' fun o e => kpx_get h₁ _ o hCw e) (hpl.at fun o e => kpx_get h₁ _ o hDw e) hin (fun i nw hi => hG i nw _ _ (hGs i nw hi) fun b o hb e => ?_) (kpx_trans hk (kpx_mono h₁ (by simp; exact fun b hb => .inr (.inr hb)))))
      simp only [List.mem_cons, not_or] at hb
      exact kpx_get h₁ b o hb.2.2 e
end Mine

namespace Mine

def tests (ifs : List Expr) (env : Env) : Sem Bool := forIn ifs true fun c r => if r = true then do let ok ← isTrue c env (eval c env); pure (ForInStep.yield ok) else pure (ForInStep.yield r)

theorem paired_of {F : Nat → Value → Prop} {p : Nat → Bool} : ∀ (yss : List (List Value)) (k : Nat), (∀ i new, yss[i]? = some new → if p (k + i) then ∃ y, new = [y] ∧ F (k + i) y else new = []) →
    Paired F ((List.range' k yss.length).filter p) yss.flatten
  | [], _, _ => .nil
  | new :: r, k, h => by
    have ih := paired_of (F := F) (p := p) r (k + 1) fun i nw hi => by
      have := h (i + 1) nw (by simpa using hi)
      rwa [show k + (i + 1) = k + 1 + i by omega] at this
    have h0 := h 0 new rfl
    rw [Nat.add_zero] at h0
    rw [List.length_cons, List.range'_succ, List.filter_cons, List.flatten_cons]
    cases hp : p k with
    | true =>
      rw [hp] at h0
      simp only [if_true] at h0 ⊢
      obtain ⟨y, rfl, hy⟩ := h0
      exact .cons hy ih
    | false =>
      rw [hp] at h0
      simp only [Bool.false_eq_true, if_false] at h0 ⊢
      subst h0
      exact ih

section
variable {w : World} {A : Around} {s : Shared} {env : Env}

def SrcOk (w : World) (A : Around) (s : Shared) (env : Env) (scope : Scope) (cl : List (Str × Addr)) (target : Expr) (ifs : List Expr) (elt : Expr) (F : List Addr → Nat → Value → Heap → Prop) (p : Nat → Bool) (n : Nat) (it : Value) (s₂ : Shared) : Prop :=
  ∃ fp wr upd St, (∀ C, C ∉ fp → Turns w A target (compEnvC scope cl C env) it fp wr n upd St) ∧ n ≤ 1048576 ∧ St 0 s₂.heap ∧ (∀ b ∈ fp, b < s₂.heap.objs.size) ∧ (∀ b ∈ wr, s.heap.get? b = none) ∧
    (∀ C X i m m' s₃, i < n → upd i m m' → s₃.heap.Ns C m' → Keeps s s₃ → (∀ s', Keeps s₃ s' → ∀ b ∈ X, b < s'.heap.objs.size) →
      Do w A (tests ifs (compEnvC scope cl C env)) (fun ok s₄ => ok = p i ∧ (p i = true → Do w A (eval elt (compEnvC scope cl C env)) (fun y s₅ => F X i y s₅.heap) s₄)) s₃)

theorem comp_core {elt target iter ifs scope pos cl} {s₂ : Shared} {n : Nat} {it : Value} (F : List Addr → Nat → Value → Heap → Prop) (p : Nat → Bool)
    (hF : ∀ X i y h h', F X i y h → (∀ b o, b ∉ X → h.get? b = some o → h'.get? b = some o) → F X i y h')
    (hcell : ∀ y ∈ scope.names, y.2 ≠ .cell) (hkind : scope.kind = .function) (h02 : Keeps s s₂) (S : SrcOk w A s env scope cl target ifs elt F p n it s₂) {E} {RR : Value → Addr → Result → Shared → Prop}
    (hRR : ∀ D C X s' m' (ys : List Value), s.heap.get? D = none → s.heap.get? C = none → D ≠ C → C ∈ X → s'.heap.Ns C m' → s'.heap.PlainList D ys.toArray → Keeps s s' → Paired (fun i y => F X i y s'.heap) ((List.range n).filter p) ys → RR (.ref D) C (.ok .next) s') :
    wpAny (model prog w) A (newList []) (fun acc s₃ => wpAny (model prog w) A (newFunctionEnv scope env.globals cl [] env.qual none .none (some env)) (fun cenv s₄ =>
      codeAny (model prog w) A (.compStart (.ListComp elt [⟨target, iter, ifs, 0⟩] scope pos) 0 it acc { cenv with scope := relabel scope env }) (RR acc cenv.locals) s₄) E s₃) E s₂ := by
  obtain ⟨fp, wr, upd, St, hT, hn, hst, hfp, hwr, turn⟩ := S
  refine wpAny_newObj_type (wpAny_newFunctionEnv hcell (by intro y hy; simp at hy) (fun h₁ hns₁ hsb₁ => ?_) hkind)
  dsimp only at hns₁ hsb₁ ⊢
  generalize hH2 : s₂.heap.push { cls := .type "list", dict := none, data := .seq ([] : List Value).toArray } = H2 at hns₁ hsb₁ ⊢
  have hCs : H2.objs.size = s₂.heap.objs.size + 1 := by rw [← hH2, Heap.size_push]
  generalize hD : s₂.heap.objs.size = D at *
  generalize hC : H2.objs.size = C at *
  have hDC : D ≠ C := by omega
  have hfp' : ∀ b ∈ fp, @LT.lt Nat _ b D := hfp
  have hCf : C ∉ fp := fun q => by have := hfp' _ q; omega
  have hDf : D ∉ fp := fun q => by have := hfp' _ q; omega
  have old : ∀ b o, s₂.heap.get? b = some o → h₁.get? b = some o := fun b o e => by
    have hb : @LT.lt Nat _ b D := hD ▸ Heap.lt_size e
    have hne : @Ne Nat b C := by omega
    exact hsb₁.extBut b o hne (Heap.get?_push_of_some _ (hH2 ▸ Heap.get?_push_of_some _ e))
  have hacc : h₁.PlainList D ([] : List Value).toArray := ⟨_, hsb₁.extBut _ _ hDC (Heap.get?_push_of_some _ (hH2 ▸ hD ▸ Heap.get?_push_size _ rfl))⟩
  have T := hT C hCf
  have hst₁ : St 0 h₁ := T.frame _ _ _ hst fun b _ o e => old b o e
  have dom : ∀ b o, s.heap.get? b = some o → b ∉ C :: D :: wr := fun b o e q => by
    have hb : @LT.lt Nat _ b D := hD ▸ Heap.lt_size (kp_get h02 b o e)
    rcases List.mem_cons.mp q with q | q
    · have q' : @Eq Nat b C := q
      omega
    · rcases List.mem_cons.mp q with q | q
      · have q' : @Eq Nat b D := q
        omega
      · rw [hwr b q] at e; cases e
  have fr : ∀ b : Nat, D ≤ b → s.heap.get? b = none := fun b hb => by
    cases e : s.heap.get? b with
    | none => rfl
    | some o => have : @LT.lt Nat _ b D := hD ▸ Heap.lt_size (kp_get h02 b o e); omega
  have loop : ∀ s₃ : Shared, s₃ = { s₂ with heap := h₁, toks := s₂.toks + ([] : List (Str × Value)).length } →
      codeAny (model prog w) A (.compLoop (.ListComp elt [⟨target, iter, ifs, 0⟩] scope pos) 0 it (.ref D) (compEnvC scope cl C env)) (RR (.ref D) C) s₃ := by
    intro s₃ e3
    have hk3 : Keeps s s₃ := by rw [e3]; exact kp_trans h02 (kp_heap old)
    have hh3 : s₃.heap = h₁ := by rw [e3]
    have kx : ∀ s', KpX (C :: D :: wr) s₃ s' → Keeps s s' := fun s' k => by
      obtain ⟨hh, tk, rfl, q⟩ := k
      obtain ⟨h', tk', rfl, q'⟩ := hk3
      exact ⟨hh, tk, rfl, fun b o e => q b o (dom b o e) (q' b o e)⟩
    refine comp_loop (cenv := compEnvC scope cl C env) (m := fun x => ([] : List (Str × Value)).reverse.lookup x) (ipos := iter.pos) T hn _
      (fun i new h => if p i then ∃ y, new = [y] ∧ F (C :: D :: wr) i y h else new = []) 1 ?bound (compTurn_list elt target iter ifs scope pos it (.ref D) (compEnvC scope cl C env))
      hCf hDf hDC [] (hh3 ▸ hst₁) (hh3 ▸ hacc) (hh3 ▸ hns₁) ?mono ?turn ?fin
    case bound =>
      intro i new h hg
      cases hp : p i with
      | true =>
        rw [hp] at hg
        simp only [if_true] at hg
        obtain ⟨y, rfl, hy⟩ := hg
        exact Nat.le_refl _
      | false => rw [hp] at hg; simp at hg; simp [hg]
    case mono =>
      intro i new h h' hg hk
      cases hp : p i with
      | true =>
        rw [hp] at hg
        simp only [if_true] at hg ⊢
        obtain ⟨y, rfl, hy⟩ := hg
        exact ⟨y, rfl, hF _ _ _ _ _ hy hk⟩
      | false => rw [hp] at hg; simpa using hg
    case turn =>
      intro i s₄ m m' ys E' hi hu hns hk hpl hbd
      have hX : ∀ s', Keeps s₄ s' → ∀ b ∈ C :: D :: wr, @LT.lt Nat _ b s'.heap.objs.size := fun s' k b hb => by
        have hCl : @LT.lt Nat _ C s'.heap.objs.size := by
          obtain ⟨o, _, _, ho, _⟩ := hns
          exact Heap.lt_size (kp_get k _ _ ho)
        rcases List.mem_cons.mp hb with rfl | hb
        · exact hCl
        · rcases List.mem_cons.mp hb with rfl | hb
          · omega
          · have := hfp' _ (T.sub _ hb); omega
      refine wpAny_bind ((turn C (C :: D :: wr) i m m' s₄ hi hu hns (kx _ hk) hX).use fun ok s₅ k5 h5 => ?_)
      obtain ⟨rfl, h5⟩ := h5
      cases hp : p i with
      | false =>
        refine wpAny_pure ⟨rfl, [], by simpa using hpl.at fun o e => kp_get k5 _ o e, by simp [hp], ⟨m', hns.keeps (kp_get k5)⟩, kpx_of k5⟩
      | true =>
        refine wpAny_bind (wpAny_bind ((h5 hp).use fun y s₆ k6 h6 => wpAny_bind (wpAny_list_append_plain (hpl.at fun o e => kp_get (kp_trans k5 k6) _ o e) (fun h' hl' hs' => wpAny_pure (wpAny_pure ?_)) ?_)))
        · refine ⟨rfl, [y], by simpa using hl', ?_, ⟨m', ?_⟩, ?_⟩
          · simp only [hp, if_true]
            exact ⟨y, rfl, hF _ _ _ _ _ h6 fun b o hb e => hs'.extBut b o (fun q => hb (by simp [q])) e⟩
          · exact (hns.keeps (kp_get (kp_trans k5 k6))).sameBut hs' (Ne.symm hDC)
          · exact kpx_trans (kpx_of (kp_trans k5 k6)) (kpx_sameBut (tk := s₆.toks) hs' (by simp))
        · rw [sizeLine_eq, List.size_toArray]; simp only [List.length_nil, Nat.one_mul] at hbd; omega
    case fin =>
      intro s' m' yss hns hpl hlen hg hk
      refine hRR D C (C :: D :: wr) s' m' yss.flatten (fr _ (Nat.le_refl _)) (fr _ (by omega)) hDC (by simp) hns (by simpa using hpl) (kx _ hk) ?_
      have := paired_of (F := fun i y => F (C :: D :: wr) i y s'.heap) (p := p) yss 0 (fun i new hi => by simpa using hg i new hi)
      rwa [hlen, ← List.range_eq_range'] at this
  exact codeAny_compStart_list (loop _ rfl) (T.self 0 _ _ _ hst₁ (loop _ rfl))

theorem do_comp {elt target iter ifs scope pos cl} {P : Value → Shared → Prop} (F : List Addr → Nat → Value → Heap → Prop) (p : Nat → Bool)
    (hF : ∀ X i y h h', F X i y h → (∀ b o, b ∉ X → h.get? b = some o → h'.get? b = some o) → F X i y h')
    (src : Do w A (eval iter env) (fun xv s₁ => Do w A (pyIter xv) (fun it s₂ => ∃ n, SrcOk w A s env scope cl target ifs elt F p n it s₂ ∧
      (∀ v s' ys X, Keeps s s' → PL s'.heap v ys → Paired (fun i y => F X i y s'.heap) ((List.range n).filter p) ys → P v s')) s₁) s)
    (hclos : closureFor scope env = pure cl) (hcell : ∀ y ∈ scope.names, y.2 ≠ .cell := by decide) (hkind : scope.kind = .function := by rfl) (hnames : ∀ y ∈ scope.names, y.2 = .local → scope.names.lookup y.1 = some .local := by decide)
    (hs : ∀ x, foldedSetIterable iter env x = pure x := by intro _; rfl) : Do w A (eval (.ListComp elt [⟨target, iter, ifs, 0⟩] scope pos) env) P s := by
  intro E
  rw [eval_ListComp]
  refine wpAny_comprehension_free (use := none) rfl hs hclos hkind hnames (src.use fun xv s₁ k1 h1 => h1.use fun it s₂ k2 h2 => ?_)
  obtain ⟨n, S, hP⟩ := h2
  refine comp_core (RR := fun acc C => compPost (model prog w) A E none _ acc C) F p hF hcell hkind (kp_trans k1 k2) S ?_
  intro D C X s' m' ys hD hC hDC hCX hns hpl hk hpr
  refine ⟨m', hns, fun h' hs' => ?_⟩
  have kk : Keeps s { s' with heap := h' } := by
    obtain ⟨a, b, rfl, q⟩ := hk
    exact ⟨h', b, rfl, fun x o e => hs'.extBut x o (fun q => by rw [q, hC] at e; cases e) (q x o e)⟩
  refine ⟨kk, hP _ _ ys X kk ⟨D, rfl, hpl.extBut hs'.extBut hDC⟩ (hpr.mono fun i y hy => hF _ _ _ _ _ hy fun b o hb e => hs'.extBut b o (fun q => hb (q ▸ hCX)) e)⟩

theorem wp_comp_store {elt target iter ifs scope pos cl y py spos} {Q : Flow → Shared → Prop} {E} {m : Str → Option Value} (F : List Addr → Nat → Value → Heap → Prop) (p : Nat → Bool)
    (hF : ∀ X i y h h', F X i y h → (∀ b o, b ∉ X → h.get? b = some o → h'.get? b = some o) → F X i y h')
    (hns : s.heap.Ns env.locals m)
    (src : Do w A (eval iter env) (fun xv s₁ => Do w A (pyIter xv) (fun it s₂ => ∃ n, SrcOk w A s env scope cl target ifs elt F p n it s₂ ∧
      (∀ v s' ys X, KpX [env.locals] s s' → s'.heap.Ns env.locals (fun z => if z = y then some v else m z) → PL s'.heap v ys → Paired (fun i y => F X i y s'.heap) ((List.range n).filter p) ys → Q .next s')) s₁) s)
    (hFL : ∀ X i y h h', s.heap.get? env.locals ≠ none → F X i y h → (∀ b o, b ≠ env.locals → h.get? b = some o → h'.get? b = some o) → F X i y h')
    (hclos : closureFor scope env = pure cl)
    (hsw : swapsWith (.ListComp elt [⟨target, iter, ifs, 0⟩] scope pos) (some (.Name y py)) spos.line env = pure true)
    (hy : env.kindOf y = some .local) (hk : env.scope.kind = .function)
    (hcell : ∀ y ∈ scope.names, y.2 ≠ .cell := by decide) (hkind : scope.kind = .function := by rfl) (hnames : ∀ y ∈ scope.names, y.2 = .local → scope.names.lookup y.1 = some .local := by decide)
    (hs : ∀ x, foldedSetIterable iter env x = pure x := by intro _; rfl) : wpAny (model prog w) A (exec (.Assign [.Name y py] (.ListComp elt [⟨target, iter, ifs, 0⟩] scope pos) spos) env) Q E s := by
  rw [exec_Assign_Name_used _ _ _ _ hsw]
  refine wpAny_bind (wpAny_standAt (wpAny_bind ?_))
  show wpAny _ A (do let _ ← comprehension (.ListComp elt [⟨target, iter, ifs, 0⟩] scope pos) scope env _ (newList []) false (eval iter env) (some (assign (.Name y py) env))) _ _ s
  refine wpAny_bind (wpAny_mono (wpAny_comprehension_free (use := some (assign (.Name y py) env)) (Q := fun _ s' => Q .next s') rfl hs hclos hkind hnames
    (src.use fun xv s₁ k1 h1 => h1.use fun it s₂ k2 h2 => ?_)) (fun _ s' hq => wpAny_pure (wpAny_pure hq)) fun _ _ e => e)
  obtain ⟨n, S, hP⟩ := h2
  refine comp_core (RR := fun acc C => compPost (model prog w) A E (some (assign (.Name y py) env)) (fun _ s' => Q .next s') acc C) F p hF hcell hkind (kp_trans k1 k2) S ?_
  intro D C X s' m' ys hD hC hDC hCX hnC hpl hkk hpr
  obtain ⟨oL, eL, epL, hoL, rL⟩ := id hns
  have hLC : env.locals ≠ C := by rintro rfl; rw [hC] at hoL; cases hoL
  have hLD : env.locals ≠ D := by rintro rfl; rw [hD] at hoL; cases hoL
  show wpAny _ A (assign (.Name y py) env (.ref D)) _ _ _
  refine wpAny_assign_Name (wpAny_storeName_local hy (hns.keeps (kp_get hkk)) (fun h₂ hn₂ hs₂ => ?_) (by rw [hk]; rfl))
  refine ⟨m', hnC.sameBut hs₂ (Ne.symm hLC), fun h₃ hs₃ => ?_⟩
  have kk : KpX [env.locals] s { s' with heap := h₃, toks := s'.toks + 1 } := by
    obtain ⟨a, b, rfl, q⟩ := hkk
    exact ⟨h₃, _, rfl, fun x o hx e => hs₃.extBut x o (fun q => by rw [q, hC] at e; cases e) (hs₂.extBut x o (by simpa using hx) (q x o e))⟩
  exact hP _ _ ys X kk (hn₂.sameBut hs₃ hLC) ⟨D, rfl, (hpl.extBut hs₂.extBut (Ne.symm hLD)).extBut hs₃.extBut hDC⟩
    (hpr.mono fun i y hy => hF _ _ _ _ _ (hFL _ _ _ _ _ (by rw [hoL]; simp) hy fun b o hb e => hs₂.extBut b o hb e) fun b o hb e => hs₃.extBut b o (fun q => hb (q ▸ hCX)) e)
end
end Mine

namespace Mine

theorem fresh_of {s s₁ : Shared} (k : Keeps s s₁) {b : Nat} (hb : s₁.heap.objs.size ≤ b) : s.heap.get? b = none := by
  cases e : s.heap.get? b with
  | none => rfl
  | some o => have : @LT.lt Nat _ b s₁.heap.objs.size := Heap.lt_size (kp_get k b o e); omega

def SrcN (w : World) (A : Around) (s : Shared) (vs : List Value) (it : Value) (s₂ : Shared) : Prop :=
  ∃ fp wr St, (∀ x px (cenv : Env), cenv.locals ∉ fp → cenv.kindOf x = some .local → cenv.scope.kind = .function →
    Turns w A (.Name x px) cenv it fp wr vs.length (fun i m m' => ∃ v, vs[i]? = some v ∧ m' = fun y => if y = x then some v else m y) St) ∧ St 0 s₂.heap ∧ (∀ b ∈ fp, b < s₂.heap.objs.size) ∧ (∀ b ∈ wr, s.heap.get? b = none)
def SrcP (w : World) (A : Around) (s : Shared) (n : Nat) (R : Nat → Value → Value → Prop) (it : Value) (s₂ : Shared) : Prop :=
  ∃ fp wr St, (∀ xa xb pa pb kt pt (cenv : Env), cenv.locals ∉ fp → cenv.kindOf xa = some .local → cenv.kindOf xb = some .local → cenv.scope.kind = .function →
    Turns w A (.Tuple [.Name xa pa, .Name xb pb] kt pt) cenv it fp wr n (fun i m m' => ∃ u v, R i u v ∧ m' = fun y => if y = xb then some v else if y = xa then some u else m y) St) ∧ St 0 s₂.heap ∧ (∀ b ∈ fp, b < s₂.heap.objs.size) ∧ (∀ b ∈ wr, s.heap.get? b = none)

section
variable {w : World} {A : Around} {s s₁ : Shared} {env : Env}
theorem iter_list {xv vs} (hh : A.handled = none) (k : Keeps s s₁) (hl : PL s₁.heap xv vs) : Do w A (pyIter xv) (SrcN w A s vs) s₁ := by
  obtain ⟨a, rfl, hp⟩ := hl
  intro E
  have hal : @LT.lt Nat _ a s₁.heap.objs.size := by obtain ⟨n, e⟩ := hp; exact Heap.lt_size e
  refine wpAny_pyIter_list hp.isList ⟨kp_push _, [s₁.heap.objs.size, a], [s₁.heap.objs.size], fun i h => h.IsListIter s₁.heap.objs.size a i ∧ h.IsList a vs.toArray, fun x px cenv hC hx hk => ?_, ?_, ?_, ?_⟩
  · have W := Walks.list (prog := prog) (w := w) hh s₁.heap.objs.size a (Nat.ne_of_lt hal) vs.toArray
    rw [List.size_toArray] at W
    have := turns_name (px := px) W hx hk hC
    simpa using this
  · exact ⟨⟨_, Heap.get?_push_size _ rfl, rfl, rfl⟩, (hp.at fun o e => Heap.get?_push_of_some _ e).isList⟩
  · intro b hb
    rw [Heap.size_push]
    simp only [List.mem_cons, List.not_mem_nil, or_false] at hb
    rcases hb with rfl | rfl
    · exact Nat.lt_succ_self _
    · exact Nat.lt_succ_of_lt hal
  · intro b hb
    simp only [List.mem_cons, List.not_mem_nil, or_false] at hb
    subst hb
    exact fresh_of k (Nat.le_refl _)

theorem iter_enum {xv vs} (hh : A.handled = none) (k : Keeps s s₁) (hl : PL s₁.heap xv vs) :
    Do w A (call (.type "enumerate") [xv]) (fun ev s₂ => Do w A (pyIter ev) (SrcP w A s vs.length fun i u v => (∃ t, u = .int i t) ∧ vs[i]? = some v) s₂) s₁ := by
  obtain ⟨a, rfl, hp⟩ := hl
  intro E
  have hal : @LT.lt Nat _ a s₁.heap.objs.size := by obtain ⟨n, e⟩ := hp; exact Heap.lt_size e
  refine call_enumerate_list hp.isList fun h' e1 e2 e3 e4 => ⟨kp_heap' e4, fun E' => ?_⟩
  generalize hN : s₁.heap.objs.size = N at *
  refine wpAny_pyIter_enum e1 ⟨kp_refl _, [N + 1, N, a], [N + 1, N], fun i h => (∃ old, IsEnum h (N + 1) N i old) ∧ h.IsListIter N a i ∧ h.IsList a vs.toArray, fun xa xb pa pb kt pt cenv hC hxa hxb hk => ?_, ?_, ?_, ?_⟩
  · have W := WalksT.enumerate (prog := prog) (w := w) hh (N + 1) N a (by simp) (neN (by omega)) (neN (by omega)) vs.toArray
    rw [List.size_toArray] at W
    have := turns_pair (pa := pa) (pb := pb) (kt := kt) (pt := pt) W hh (by rintro i vals ⟨t, x, hx, rfl⟩; exact ⟨_, _, rfl⟩) hxa hxb hk hC
    have e : (fun (i : Nat) (m m' : Str → Option Value) => ∃ u v, (∃ t x, vs.toArray[i]? = some x ∧ (#[u, v] : Array Value) = #[.int i t, x]) ∧ m' = fun y => if y = xb then some v else if y = xa then some u else m y) =
        (fun i m m' => ∃ u v, ((∃ t, u = .int i t) ∧ vs[i]? = some v) ∧ m' = fun y => if y = xb then some v else if y = xa then some u else m y) := by
      funext i m m'
      apply propext
      constructor
      · rintro ⟨u, v, ⟨t, x, hx, e⟩, h⟩
        simp at e hx
        obtain ⟨rfl, rfl⟩ := e
        exact ⟨_, _, ⟨⟨t, rfl⟩, hx⟩, h⟩
      · rintro ⟨u, v, ⟨⟨t, rfl⟩, hx⟩, h⟩
        exact ⟨_, _, ⟨t, v, by simpa using hx, rfl⟩, h⟩
    rw [e] at this
    exact this
  · exact ⟨⟨_, e1⟩, e2, (hp.at fun o e => e4 _ _ e).isList⟩
  · intro b hb
    show @LT.lt Nat _ b h'.objs.size
    rw [e3]
    simp only [List.mem_cons, List.not_mem_nil, or_false] at hb
    rcases hb with rfl | rfl | rfl <;> omega
  · intro b hb
    simp only [List.mem_cons, List.not_mem_nil, or_false] at hb
    rcases hb with rfl | rfl <;> exact fresh_of k (by omega)
theorem iter_zip {xv yv vs us} (hh : A.handled = none) (k : Keeps s s₁) (hl : PL s₁.heap xv vs) (hl' : PL s₁.heap yv us) :
    Do w A (call (.type "zip") [xv, yv]) (fun ev s₂ => Do w A (pyIter ev) (SrcP w A s (min vs.length us.length) fun i u v => vs[i]? = some u ∧ us[i]? = some v) s₂) s₁ := by
  obtain ⟨a, rfl, hp⟩ := hl
  obtain ⟨b, rfl, hq⟩ := hl'
  intro E
  have hal : @LT.lt Nat _ a s₁.heap.objs.size := by obtain ⟨n, e⟩ := hp; exact Heap.lt_size e
  have hbl : @LT.lt Nat _ b s₁.heap.objs.size := by obtain ⟨n, e⟩ := hq; exact Heap.lt_size e
  refine call_zip_2 hp.isList hq.isList fun h' z1 z2 z3 z4 z5 z6 z7 => ⟨kp_heap' z7, fun E' => ?_⟩
  generalize hN : s₁.heap.objs.size = N at *
  have D : ZipApart (N + 4) (N + 2) (N + 3) N (N + 1) a b := by
    constructor <;> (refine neN ?_; omega)
  refine wpAny_pyIter_zip z1 ⟨kp_refl _, [N + 4, N + 2, N + 3, N, N + 1, a, b], [N + 4, N + 3, N, N + 1], fun i h => IsZip h (N + 4) (N + 2) (N + 3) .none ∧ IsPair h (N + 2) (.ref N) (.ref (N + 1)) ∧ (∃ u v, IsPair h (N + 3) u v) ∧ h.IsListIter N a i ∧ h.IsListIter (N + 1) b i ∧ h.IsList a vs.toArray ∧ h.IsList b us.toArray,
    fun xa xb pa pb kt pt cenv hC hxa hxb hk => ?_, ?_, ?_, ?_⟩
  · have W := WalksT.zip2 (prog := prog) (w := w) hh _ _ _ _ _ _ _ D vs.toArray us.toArray
    rw [List.size_toArray, List.size_toArray] at W
    have := turns_pair (pa := pa) (pb := pb) (kt := kt) (pt := pt) W hh (by rintro i vals ⟨x, y, _, _, rfl⟩; exact ⟨_, _, rfl⟩) hxa hxb hk hC
    have e : (fun (i : Nat) (m m' : Str → Option Value) => ∃ u v, (∃ x y, vs.toArray[i]? = some x ∧ us.toArray[i]? = some y ∧ (#[u, v] : Array Value) = #[x, y]) ∧ m' = fun z => if z = xb then some v else if z = xa then some u else m z) =
        (fun i m m' => ∃ u v, (vs[i]? = some u ∧ us[i]? = some v) ∧ m' = fun y => if y = xb then some v else if y = xa then some u else m y) := by
      funext i m m'
      apply propext
      constructor
      · rintro ⟨u, v, ⟨x, y, hx, hy, e⟩, h⟩
        simp at e hx hy
        obtain ⟨rfl, rfl⟩ := e
        exact ⟨_, _, ⟨hx, hy⟩, h⟩
      · rintro ⟨u, v, ⟨hx, hy⟩, h⟩
        exact ⟨_, _, ⟨u, v, by simpa using hx, by simpa using hy, rfl⟩, h⟩
    rw [e] at this
    exact this
  · exact ⟨z1, z2, ⟨_, _, z3⟩, z4, z5, (hp.at fun o e => z7 _ _ e).isList, (hq.at fun o e => z7 _ _ e).isList⟩
  · intro c hc
    show @LT.lt Nat _ c h'.objs.size
    rw [z6]
    simp only [List.mem_cons, List.not_mem_nil, or_false] at hc
    rcases hc with rfl | rfl | rfl | rfl | rfl | rfl | rfl <;> omega
  · intro c hc
    simp only [List.mem_cons, List.not_mem_nil, or_false] at hc
    rcases hc with rfl | rfl | rfl | rfl <;> exact fresh_of k (by omega)
end
end Mine

namespace Mine

section
variable {w : World} {A : Around} {s s₁ : Shared} {env : Env}

theorem srcok_N {scope cl x px ifs elt F p vs it s₂} (h : SrcN w A s vs it s₂) (hn : vs.length ≤ 1048576) (hkind : scope.kind = .function) (hx : scope.names.lookup x = some .local) (hd : (x == ("__debug__" : Str)) = false)
    (turn : ∀ C X i v s₃, vs[i]? = some v → Nm (compEnvC scope cl C env) s₃.heap x v → Keeps s s₃ → (∀ s', Keeps s₃ s' → ∀ b ∈ X, b < s'.heap.objs.size) →
      Do w A (tests ifs (compEnvC scope cl C env)) (fun ok s₄ => ok = p i ∧ (p i = true → Do w A (eval elt (compEnvC scope cl C env)) (fun y s₅ => F X i y s₅.heap) s₄)) s₃) :
    SrcOk w A s env scope cl (.Name x px) ifs elt F p vs.length it s₂ := by
  obtain ⟨fp, wr, St, hT, h1, h2, h3⟩ := h
  refine ⟨fp, wr, _, St, fun C hC => hT x px (compEnvC scope cl C env) hC (lookup_relabel_local hx) hkind, hn, h1, h2, h3, ?_⟩
  rintro C X i m m' s₃ hi ⟨v, hv, rfl⟩ hns hk hX
  exact turn C X i v s₃ hv (nm_loc (m := fun y => if y = x then some v else m y) hkind (lookup_relabel_local hx) hns (by simp) hd) hk hX
theorem srcok_P {scope cl xa xb pa pb kt pt ifs elt F p n R it s₂} (h : SrcP w A s n R it s₂) (hn : n ≤ 1048576) (hkind : scope.kind = .function) (hxa : scope.names.lookup xa = some .local) (hxb : scope.names.lookup xb = some .local)
    (hda : (xa == ("__debug__" : Str)) = false) (hdb : (xb == ("__debug__" : Str)) = false) (hab : xa ≠ xb)
    (turn : ∀ C X i u v s₃, i < n → R i u v → Nm (compEnvC scope cl C env) s₃.heap xa u → Nm (compEnvC scope cl C env) s₃.heap xb v → Keeps s s₃ → (∀ s', Keeps s₃ s' → ∀ b ∈ X, b < s'.heap.objs.size) →
      Do w A (tests ifs (compEnvC scope cl C env)) (fun ok s₄ => ok = p i ∧ (p i = true → Do w A (eval elt (compEnvC scope cl C env)) (fun y s₅ => F X i y s₅.heap) s₄)) s₃) :
    SrcOk w A s env scope cl (.Tuple [.Name xa pa, .Name xb pb] kt pt) ifs elt F p n it s₂ := by
  obtain ⟨fp, wr, St, hT, h1, h2, h3⟩ := h
  refine ⟨fp, wr, _, St, fun C hC => hT xa xb pa pb kt pt (compEnvC scope cl C env) hC (lookup_relabel_local hxa) (lookup_relabel_local hxb) hkind, hn, h1, h2, h3, ?_⟩
  rintro C X i m m' s₃ hi ⟨u, v, hR, rfl⟩ hns hk hX
  exact turn C X i u v s₃ hi hR (nm_loc hkind (lookup_relabel_local hxa) hns (by simp [hab]) hda) (nm_loc hkind (lookup_relabel_local hxb) hns (by simp) hdb) hk hX

theorem do_tests_nil {env : Env} {P : Bool → Shared → Prop} (h : P true s) : Do w A (tests [] env) P s := fun _ => wpAny_tests_nil ⟨kp_refl s, h⟩
theorem do_tests_one {env : Env} {c} {P : Bool → Shared → Prop} (h : Do w A (isTrue c env (eval c env)) P s) : Do w A (tests [c] env) P s := fun E => wpAny_tests_one (h E)

-- a comprehension over a list, one name
theorem do_compN {elt x px iter ifs scope pos cl} {P : Value → Shared → Prop} (F : List Addr → Nat → Value → Heap → Prop) (p : Nat → Bool) (hh : A.handled = none)
    (hF : ∀ X i y h h', F X i y h → (∀ b o, b ∉ X → h.get? b = some o → h'.get? b = some o) → F X i y h')
    (src : Do w A (eval iter env) (fun xv s₁ => ∃ vs, PL s₁.heap xv vs ∧ vs.length ≤ 1048576 ∧
      (∀ C X i v s₃, vs[i]? = some v → Nm (compEnvC scope cl C env) s₃.heap x v → Keeps s s₃ → (∀ s', Keeps s₃ s' → ∀ b ∈ X, b < s'.heap.objs.size) →
        Do w A (tests ifs (compEnvC scope cl C env)) (fun ok s₄ => ok = p i ∧ (p i = true → Do w A (eval elt (compEnvC scope cl C env)) (fun y s₅ => F X i y s₅.heap) s₄)) s₃) ∧
      (∀ v s' ys X, Keeps s s' → PL s'.heap v ys → Paired (fun i y => F X i y s'.heap) ((List.range vs.length).filter p) ys → P v s')) s)
    (hclos : closureFor scope env = pure cl) (hx : scope.names.lookup x = some .local := by rfl) (hd : (x == ("__debug__" : Str)) = false := by decide)
    (hcell : ∀ y ∈ scope.names, y.2 ≠ .cell := by decide) (hkind : scope.kind = .function := by rfl) (hnames : ∀ y ∈ scope.names, y.2 = .local → scope.names.lookup y.1 = some .local := by decide)
    (hs : ∀ x, foldedSetIterable iter env x = pure x := by intro _; rfl) : Do w A (eval (.ListComp elt [⟨.Name x px, iter, ifs, 0⟩] scope pos) env) P s :=
  do_comp F p hF (src.mono fun xv s₁ k1 h1 => by
    obtain ⟨vs, hl, hn, turn, hP⟩ := h1
    exact (iter_list hh k1 hl).mono fun it s₂ k2 h2 => ⟨vs.length, srcok_N h2 hn hkind hx hd turn, hP⟩) hclos hcell hkind hnames hs

theorem do_compP {elt xa xb pa pb kt pt iter ifs scope pos cl} {P : Value → Shared → Prop} (F : List Addr → Nat → Value → Heap → Prop) (p : Nat → Bool)
    (hF : ∀ X i y h h', F X i y h → (∀ b o, b ∉ X → h.get? b = some o → h'.get? b = some o) → F X i y h')
    (src : Do w A (eval iter env) (fun xv s₁ => ∃ n R, Do w A (pyIter xv) (SrcP w A s n R) s₁ ∧ n ≤ 1048576 ∧
      (∀ C X i u v s₃, i < n → R i u v → Nm (compEnvC scope cl C env) s₃.heap xa u → Nm (compEnvC scope cl C env) s₃.heap xb v → Keeps s s₃ → (∀ s', Keeps s₃ s' → ∀ b ∈ X, b < s'.heap.objs.size) →
        Do w A (tests ifs (compEnvC scope cl C env)) (fun ok s₄ => ok = p i ∧ (p i = true → Do w A (eval elt (compEnvC scope cl C env)) (fun y s₅ => F X i y s₅.heap) s₄)) s₃) ∧
      (∀ v s' ys X, Keeps s s' → PL s'.heap v ys → Paired (fun i y => F X i y s'.heap) ((List.range n).filter p) ys → P v s')) s)
    (hclos : closureFor scope env = pure cl) (hxa : scope.names.lookup xa = some .local := by rfl) (hxb : scope.names.lookup xb = some .local := by rfl) (hda : (xa == ("__debug__" : Str)) = false := by decide) (hdb : (xb == ("__debug__" : Str)) = false := by decide) (hab : xa ≠ xb := by decide)
    (hcell : ∀ y ∈ scope.names, y.2 ≠ .cell := by decide) (hkind : scope.kind = .function := by rfl) (hnames : ∀ y ∈ scope.names, y.2 = .local → scope.names.lookup y.1 = some .local := by decide)
    (hs : ∀ x, foldedSetIterable iter env x = pure x := by intro _; rfl) : Do w A (eval (.ListComp elt [⟨.Tuple [.Name xa pa, .Name xb pb] kt pt, iter, ifs, 0⟩] scope pos) env) P s :=
  do_comp F p hF (src.mono fun xv s₁ k1 h1 => by
    obtain ⟨n, R, hit, hn, turn, hP⟩ := h1
    exact hit.mono fun it s₂ k2 h2 => ⟨n, srcok_P h2 hn hkind hxa hxb hda hdb hab turn, hP⟩) hclos hcell hkind hnames hs

-- the same, stored to a local name of the frame; elements are no objects
theorem wp_compN_store {elt x px iter ifs scope pos cl y py spos} {Q : Flow → Shared → Prop} {E} {m : Str → Option Value} (f : Nat → Value → Prop) (p : Nat → Bool) (hh : A.handled = none)
    (hns : s.heap.Ns env.locals m)
    (src : Do w A (eval iter env) (fun xv s₁ => ∃ vs, PL s₁.heap xv vs ∧ vs.length ≤ 1048576 ∧
      (∀ C i v s₃, vs[i]? = some v → Nm (compEnvC scope cl C env) s₃.heap x v → Keeps s s₃ →
        Do w A (tests ifs (compEnvC scope cl C env)) (fun ok s₄ => ok = p i ∧ (p i = true → Do w A (eval elt (compEnvC scope cl C env)) (fun y s₅ => f i y) s₄)) s₃) ∧
      (∀ v s' ys, KpX [env.locals] s s' → s'.heap.Ns env.locals (fun z => if z = y then some v else m z) → PL s'.heap v ys → Paired f ((List.range vs.length).filter p) ys → Q .next s')) s)
    (hclos : closureFor scope env = pure cl)
    (hsw : swapsWith (.ListComp elt [⟨.Name x px, iter, ifs, 0⟩] scope pos) (some (.Name y py)) spos.line env = pure true)
    (hy : env.kindOf y = some .local) (hk : env.scope.kind = .function) (hx : scope.names.lookup x = some .local := by rfl) (hd : (x == ("__debug__" : Str)) = false := by decide)
    (hcell : ∀ y ∈ scope.names, y.2 ≠ .cell := by decide) (hkind : scope.kind = .function := by rfl) (hnames : ∀ y ∈ scope.names, y.2 = .local → scope.names.lookup y.1 = some .local := by decide)
    (hs : ∀ x, foldedSetIterable iter env x = pure x := by intro _; rfl) : wpAny (model prog w) A (exec (.Assign [.Name y py] (.ListComp elt [⟨.Name x px, iter, ifs, 0⟩] scope pos) spos) env) Q E s :=
  wp_comp_store (fun _ i y _ => f i y) p (fun _ _ _ _ _ h _ => h) hns (src.mono fun xv s₁ k1 h1 => by
    obtain ⟨vs, hl, hn, turn, hP⟩ := h1
    exact (iter_list hh k1 hl).mono fun it s₂ k2 h2 => ⟨vs.length, srcok_N h2 hn hkind hx hd (fun C X i v s₃ a b c _ => turn C i v s₃ a b c), fun v s' ys X a b c d => hP v s' ys a b c d⟩) (fun _ _ _ _ _ _ h _ => h) hclos hsw hy hk hcell hkind hnames hs

-- names inside a comprehension
theorem nm_comp_bi {scope cl C mg mb x v h} (G : Gd mg mb h) (hkind : scope.kind = .function) (hg : env.globals = mainGlobals) (hb : env.builtins = builtinsNs) (hx : (relabel scope env).names.lookup x = some .globalImplicit) (hm : (x, v) ∈ biNames)
    (hd : (x == ("__debug__" : Str)) = false := by decide) : Nm (compEnvC scope cl C env) h x v := nm_bi G hkind hg hb hx hm hd
theorem nm_comp_fn {scope cl C mg mb h d a cd} (G : Gd mg mb h) (F : Fn mg h d a cd) (hkind : scope.kind = .function) (hg : env.globals = mainGlobals) (hx : (relabel scope env).names.lookup d.name = some .globalImplicit)
    (hd : (d.name == ("__debug__" : Str)) = false := by decide) : Nm (compEnvC scope cl C env) h d.name (.ref a) := nm_fn G F hkind hg hx hd
theorem nm_comp_cell {scope cl C x v c h} (hkind : scope.kind = .function) (hx : (relabel scope env).names.lookup x = some .cell) (hc : cl.lookup x = some c) (hv : h.IsCell c (some v))
    (hd : (x == ("__debug__" : Str)) = false := by decide) : Nm (compEnvC scope cl C env) h x v := nm_cell hkind hx hc hv hd
end
end Mine

namespace Mine

def word (n : Nat) : List Nat := if h : n = 0 then [] else word (n / 16) ++ [65 + n % 16]
termination_by n
decreasing_by omega
theorem word_zero : word 0 = [] := by unfold word; rfl
theorem word_pos {n : Nat} (h : n ≠ 0) : word n = word (n / 16) ++ [65 + n % 16] := by rw [word]; simp [h]

theorem word_len : ∀ (k n : Nat), n < 16 ^ k → (word n).length ≤ k
  | 0, n, h => by have : n = 0 := by simpa using h
                  subst this; simp [word_zero]
  | k + 1, n, h => by
    by_cases h0 : n = 0
    · subst h0; simp [word_zero]
    · rw [word_pos h0, List.length_append]
      have := word_len k (n / 16) (by rw [Nat.pow_succ] at h; omega)
      simp; omega

def apB : Array UInt8 := [65, 66, 67, 68, 69, 70, 71, 72, 73, 74, 75, 76, 77, 78, 79, 80].toArray
def bOf (l : List Nat) : Array UInt8 := (l.map Nat.toUInt8).toArray
theorem ap_pick : ∀ d : Fin 16, KBy.picked apB (some ((d : Nat) : Int)) (some (((d : Nat) : Int) + 1)) = bOf [65 + d] := by decide +kernel

section
variable {w : World} {A : Around} {s : Shared}
theorem do_get_bslice {b t a l u lo hi} {P : Value → Shared → Prop} (hs : s.heap.IsSliceOf a l u .none) (hl : IsPart l lo) (hu : IsPart u hi) (hz : b.size ≤ 16777216) (h : ∀ t tk, P (.bytes (KBy.picked b lo hi) t) { s with toks := tk }) :
    Do w A (getItem (.bytes b t) (.ref a)) P s := fun _ =>
  getItem_meets (typeIs_bytes _ _ _) (by decide) FB.slot_bytes_getitem FB.entry_bytes_getitem (FB.args_bytes_getitem_2 _ _) (KBc.meets_slice2 b t _ hl hu)
    ⟨hs, Nat.le_trans (KBc.size_picked_le b lo hi) (by rw [sizeLine_eq]; exact hz), fun t' k => ⟨kp_tok _, h _ _⟩⟩

theorem Lf.nm {s₀ env m x v} (L : Lf s₀ env m s) (hx : env.kindOf x = some .local) (hv : m x = some v) (hk : env.scope.kind = .function := by rfl) (hd : (x == ("__debug__" : Str)) = false := by decide) : Nm env s.heap x v := nm_loc hk hx L.ns hv hd

theorem wp_assign_pair {s₀ env m xa xb pa pb kt pt T u v Q E} (hh : A.handled = none) (hT : s.heap.IsTuple T #[u, v]) (L : Lf s₀ env m s) (hxa : env.kindOf xa = some .local) (hxb : env.kindOf xb = some .local) (hk : env.scope.kind = .function)
    (h : ∀ s', Lf s₀ env (fun y => if y = xb then some v else if y = xa then some u else m y) s' → Q () s') : wpAny (model prog w) A (assign (.Tuple [.Name xa pa, .Name xb pb] kt pt) env (.ref T)) Q E s := by
  refine wpAny_assign_Tuple hh hT rfl rfl fun h' he' => ?_
  show wpAny _ _ (assignInOrder [assign (.Name xa pa) env, assign (.Name xb pb) env] [u, v]) _ _ _
  have L' : Lf s₀ env m { s with heap := h' } := L.kp (kp_heap' fun b o e => he' b o (Nat.ne_of_lt (Heap.lt_size e)) e)
  refine wpAny_bind (wpAny_holding (wpAny_assign_Name (wp_store L' hxa hk fun s₂ L2 => ?_)))
  refine wpAny_bind (wpAny_holding (wpAny_assign_Name (wp_store L2 hxb hk fun s₃ L3 => ?_)))
  exact wpAny_pure (h s₃ L3)

theorem int2ap {mg mb} {n : Int} {t : Tok} {a : Addr} {cd : Value} {P : Value → Shared → Prop}
    (hh : A.handled = none) (hroom : A.depth < recursionLimit) (G : Gd mg mb s.heap) (F : Fn mg s.heap (recAt 1) a cd) (hn : n.natAbs < 16 ^ 6)
    (h : ∀ s' t', Keeps s s' → P (.bytes (bOf (word n.natAbs)) t') s') : Do w A (call (.ref a) [.int n t]) P s := by
  refine do_def (binds := [("num", .int n t)]) F G.lim hroom (fun _ _ => rfl) (by rfl) fun L s₁ L1 => ?_
  have hh' : (A.deeper (envOf (recAt 1).name (recAt 1).scope L a cd)).handled = none := hh
  generalize A.deeper (envOf (recAt 1).name (recAt 1).scope L a cd) = A' at hh' ⊢
  -- val = b''
  refine wpAny_execs_cons (wpAny_Assign_Name ((do_bytes (P := fun v s' => ∃ t, v = .bytes (bOf []) t) fun _ _ => ⟨_, rfl⟩).use fun v s₂ k2 h2 => ?_) rfl)
  obtain ⟨t2, rfl⟩ := h2
  refine wp_store (L1.kp k2) rfl rfl fun s₃ L3 => ?_
  -- AP = b'..'
  refine wpAny_execs_cons (wpAny_Assign_Name ((do_bytes (P := fun v s' => ∃ t, v = .bytes apB t) fun _ _ => ⟨_, rfl⟩).use fun v s₄ k4 h4 => ?_) rfl)
  obtain ⟨t4, rfl⟩ := h4
  refine wp_store (L3.kp k4) rfl rfl fun s₅ L5 => ?_
  -- num = int(abs(num))
  have G5 := G.keeps (kp_get L5.keeps)
  refine wpAny_execs_cons (wpAny_Assign_Name ((do_call_t (P := fun v s' => ∃ t, v = .int n.natAbs t) (do_name (nm_bi G5 rfl rfl rfl rfl (by decide)) ⟨rfl, do_one (do_call_b (do_name (nm_bi G5 rfl rfl rfl rfl (by decide)) ⟨rfl, do_one (do_name (L5.nm rfl rfl) (do_abs fun _ _ => do_int_int ?_))⟩))⟩)).use fun v s₆ k6 h6 => ?_) rfl)
  · exact ⟨_, by congr 1; split <;> omega⟩
  obtain ⟨t6, rfl⟩ := h6
  refine wp_store (L5.kp k6) rfl rfl fun s₇ L7 => ?_
  -- while
  refine wpAny_execs_cons (wpAny_While (codeAny_whileLoop (fun k s' => ∃ l t t' t'' m, Lf s (envOf (recAt 1).name (recAt 1).scope L a cd) m s' ∧ m "num" = some (.int k t) ∧ m "val" = some (.bytes (bOf l) t') ∧ m "AP" = some (.bytes apB t'') ∧
    word k ++ l = word n.natAbs ∧ k ≤ n.natAbs) ?turn n.natAbs ⟨[], t6, t2, t4, _, L7, rfl, rfl, rfl, by simp, Nat.le_refl _⟩))
  rintro k s₈ ⟨l, t8, t8', t8'', m, L8, m1, m2, m3, hw, hkn⟩
  have hlen : l.length ≤ 6 := by
    have h1 := word_len 6 _ hn
    rw [← hw, List.length_append] at h1
    omega
  have G8 := G.keeps (kp_get L8.keeps)
  refine wpAny_isTrue_value (wp_name (L8.nm rfl m1) (PyProof.Rows.truthy_int ?_))
  by_cases hk : k = 0
  · -- the end
    subst hk
    refine wpAny_execs_nil ?_
    refine wpAny_execs_cons (wpAny_Return_some (wp_name (L8.nm rfl m2) ?_))
    have e : l = word n.natAbs := by simpa [word_zero] using hw
    subst e
    exact ⟨L8.keeps, h _ _ L8.keeps⟩
  · have ek : (((k : Int) != 0) = true) := by simpa using hk
    rw [ek]
    simp only [if_true]
    -- num, mod = divmod(num, 16)
    refine wpAny_execs_cons (Assign_Tuple ((do_call_b (P := fun v s' => ∃ T t1 t2, v = .ref T ∧ s'.heap.IsTuple T #[.int ((k : Int).fdiv 16) t1, .int ((k : Int).fmod 16) t2]) (do_name (nm_bi G8 rfl rfl rfl rfl (by decide)) ⟨rfl, do_two (do_name (L8.nm rfl m1) (do_int fun _ _ =>
      do_divmod (by decide) ?_ fun T t1 t2 s' k' hT => ⟨T, t1, t2, rfl, hT⟩))⟩)).use fun v s₉ k9 h9 => ?_) rfl rfl)
    · exact PyProof.noPylong_small (by omega)
    obtain ⟨T, t1, t2, rfl, hT⟩ := h9
    refine wp_assign_pair hh' hT (L8.kp k9) rfl rfl rfl fun s₁₀ L10 => ?_
    have e1 : (k : Int).fdiv 16 = ((k / 16 : Nat) : Int) := by rw [Int.fdiv_eq_ediv_of_nonneg _ (by decide)]; rfl
    have e2 : (k : Int).fmod 16 = ((k % 16 : Nat) : Int) := by rw [Int.fmod_eq_emod_of_nonneg _ (by decide)]; rfl
    rw [e1, e2] at L10
    -- val = AP[mod:mod + 1] + val
    refine wpAny_execs_cons (wpAny_Assign_Name ((do_binop (P := fun v s' => ∃ t, v = .bytes (bOf ((65 + k % 16) :: l)) t) (do_sub (do_name (L10.nm (x := "AP") rfl m3) (do_slice (do_part (do_name (L10.nm rfl rfl) (do_part (do_binop (do_name (L10.nm rfl rfl) (do_int fun _ _ => do_add_int fun _ _ a s' k' hsl => ?_)))))))))).use fun v s₁₁ k11 h11 => ?_) rfl)
    · refine ⟨"bytes", _, _, typeIs_bytes _ _ _, FB.slot_bytes_getitem.lookup, rfl, ?_⟩
      refine do_get_bslice hsl (.int _ _) (.int _ _) (by decide) fun _ _ => ?_
      have := ap_pick ⟨k % 16, by omega⟩
      refine do_name ((L10.kp (kp_trans (kp_tok _) (kp_trans k' (kp_tok _)))).nm (x := "val") rfl m2) ?_
      rw [show KBy.picked apB (some ((k % 16 : Nat) : Int)) (some (((k % 16 : Nat) : Int) + 1)) = bOf [65 + k % 16] from this]
      refine do_add_bytes (by simp [bOf]; omega) fun t' _ => ⟨t', congrArg (Value.bytes · t') ?_⟩
      simp [bOf]
    · obtain ⟨t11, rfl⟩ := h11
      refine wp_store (L10.kp k11) rfl rfl fun s₁₂ L12 => ?_
      refine wpAny_execs_nil ⟨k / 16, by omega, (65 + k % 16) :: l, _, _, _, _, L12, rfl, rfl, m3, ?_, by omega⟩
      rw [← hw, word_pos hk]
      simp
end
end Mine

namespace Mine

def sOf (l : List Nat) : Str := ⟨l.toArray⟩
theorem sOf_append (a b : List Nat) : sOf a ++ sOf b = sOf (a ++ b) := by
  show Str.mk (a.toArray ++ b.toArray) = Str.mk _
  simp
theorem sOf_len (a : List Nat) : (sOf a).length = a.length := by simp [sOf, Str.length]
theorem sOf_inj {a b : List Nat} : sOf a = sOf b ↔ a = b := by
  constructor
  · intro h; have := congrArg (fun x : Str => x.cps.toList) h; simpa [sOf] using this
  · rintro rfl; rfl
theorem sOf_cps (a : List Nat) : (sOf a).cps.toList = a := by simp [sOf]

section
variable {w : World} {A : Around} {s : Shared}

theorem do_tuple {env elts k pos} {P : Value → Shared → Prop} (h : Do w A (spliced (backTo pos (starEach elts env))) (fun vs s₁ => vs.length ≤ 16777216 ∧ ∀ T s', Keeps s₁ s' → s'.heap.IsTuple T vs.toArray → P (.ref T) s') s) : Do w A (eval (.Tuple elts k pos) env) P s :=
  fun _ => wpAny_Tuple_spliced (h.use fun vs s₁ k1 h1 => ⟨by rw [sizeLine_eq]; exact h1.1, kp_trans k1 (kp_push _), h1.2 _ _ (kp_push _) ⟨_, Heap.get?_push_size _ rfl, rfl, _, rfl⟩⟩)

theorem wp_swapped {s₀ env m xa xb T u v E} {Q : Shared → Prop} (hh : A.handled = none) (hT : s.heap.IsTuple T #[u, v]) (L : Lf s₀ env m s) (hxa : env.kindOf xa = some .local) (hxb : env.kindOf xb = some .local) (hk : env.scope.kind = .function)
    (h : ∀ s', Lf s₀ env (fun y => if y = xa then some u else if y = xb then some v else m y) s' → Q s') :
    wpAny (model prog w) A (unpackItems (.ref T) [xa, xb].length none) (fun items s₂ => wpAny (model prog w) A (assignInOrder ([xa, xb].reverse.map fun n => bindName env n) items.reverse) (fun _ s' => Q s') E s₂) E s := by
  refine wpAny_unpackItems_tuple (items := #[u, v]) hh hT fun h' he' => ?_
  show wpAny _ _ (assignInOrder [bindName env xb, bindName env xa] [v, u]) _ _ _
  have L' : Lf s₀ env m { s with heap := h' } := L.kp (kp_heap' fun b o e => he' b o (Nat.ne_of_lt (Heap.lt_size e)) e)
  refine wpAny_bind (wpAny_holding (bindName_ (wp_store L' hxb hk fun s₂ L2 => ?_)))
  refine wpAny_bind (wpAny_holding (bindName_ (wp_store L2 hxa hk fun s₃ L3 => ?_)))
  exact wpAny_pure (h s₃ L3)

def apS : Str := "ABCDEFGHIJKLMNOP"
theorem ap_at : ∀ d : Fin 16, (seqIndex? ((d : Nat) : Int) apS.length).bind (apS.cps[·]?) = some (65 + (d : Nat)) := by decide +kernel

theorem law_word {mg mb} {n : Nat} {t : Tok} {a : Addr} {cd : Value} {P : Value → Shared → Prop}
    (hh : A.handled = none) (hroom : A.depth < recursionLimit) (G : Gd mg mb s.heap) (F : Fn mg s.heap (recAt 7) a cd) (hn : n < 16 ^ 6)
    (h : ∀ s' t', Keeps s s' → P (.str (sOf (word n)) t') s') : Do w A (call (.ref a) [.int n t]) P s := by
  refine do_def (binds := [("number", .int n t)]) F G.lim hroom (fun _ _ => rfl) (by rfl) fun L s₁ L1 => ?_
  have hh' : (A.deeper (envOf (recAt 7).name (recAt 7).scope L a cd)).handled = none := hh
  generalize A.deeper (envOf (recAt 7).name (recAt 7).scope L a cd) = A' at hh' ⊢
  refine wpAny_execs_cons (wpAny_Assign_Name ((do_str (P := fun v s' => ∃ t, v = .str (sOf []) t) fun _ _ => ⟨_, rfl⟩).use fun v s₂ k2 h2 => ?_) rfl)
  obtain ⟨t2, rfl⟩ := h2
  refine wp_store (L1.kp k2) rfl rfl fun s₃ L3 => ?_
  refine wpAny_execs_cons (wpAny_While (codeAny_whileLoop (fun k s' => ∃ l t t' m, Lf s (envOf (recAt 7).name (recAt 7).scope L a cd) m s' ∧ m "number" = some (.int k t) ∧ m "told" = some (.str (sOf l) t') ∧
    word k ++ l = word n ∧ k ≤ n) ?turn n ⟨[], t, t2, _, L3, rfl, rfl, by simp, Nat.le_refl _⟩))
  rintro k s₈ ⟨l, t8, t8', m, L8, m1, m2, hw, hkn⟩
  have hlen : l.length ≤ 6 := by
    have h1 := word_len 6 _ hn
    rw [← hw, List.length_append] at h1
    omega
  have G8 := G.keeps (kp_get L8.keeps)
  refine (do_true_cmp (P := fun b s' => b = decide (0 < k)) (do_name (L8.nm rfl m1) (do_int fun _ _ => do_gt_int (do_truthy_bool ?_)))).use fun b s₉ k9 h9 => ?_
  · simp
  subst h9
  by_cases hk : k = 0
  · subst hk
    refine wpAny_execs_nil ?_
    refine wpAny_execs_cons (wpAny_Return_some (wp_name ((L8.kp k9).nm rfl m2) ?_))
    have e : l = word n := by simpa [word_zero] using hw
    subst e
    exact ⟨(L8.kp k9).keeps, h _ _ (L8.kp k9).keeps⟩
  · rw [decide_eq_true (by omega : 0 < k)]
    simp only [if_true]
    have L9 := L8.kp k9
    have e1 : (k : Int).fdiv 16 = ((k / 16 : Nat) : Int) := by rw [Int.fdiv_eq_ediv_of_nonneg _ (by decide)]; rfl
    have e2 : (k : Int).fmod 16 = ((k % 16 : Nat) : Int) := by rw [Int.fmod_eq_emod_of_nonneg _ (by decide)]; rfl
    refine wpAny_execs_cons (Assign_Tuple_swapped (names := ["told", "number"]) ((do_tuple (P := fun v s' => ∃ T t1 t2, v = .ref T ∧ s'.heap.IsTuple T #[.str (sOf ((65 + k % 16) :: l)) t1, .int ((k / 16 : Nat) : Int) t2])
      (do_two (do_binop (do_sub (do_str fun _ _ => do_binop (do_name (L9.nm rfl m1) (do_int fun _ _ => do_mod_int (by decide) fun _ _ => ⟨"str", _, _, typeIs_str _ _ _, slot_str_getitem.lookup, rfl, ?_⟩)))))) ).use fun v s₁₀ k10 h10 => ?_) rfl rfl)
    · rw [e2]
      refine do_get_str (by omega) (by omega) (ap_at ⟨k % 16, by omega⟩) fun _ _ => do_name (L9.nm rfl m2) (do_add_str (by rw [sOf_len]; show 1 + _ ≤ _; omega) fun t3 _ => do_binop (do_name (L9.nm rfl m1) (do_int fun _ _ => do_fdiv_int (by decide) (PyProof.noPylong_small (by omega)) fun t4 _ => ⟨by simp, fun T s' k' hT => ⟨T, t3, t4, rfl, ?_⟩⟩)))
      rw [e1] at hT
      have e3 : (⟨#[65 + k % 16]⟩ : Str) ++ sOf l = sOf ((65 + k % 16) :: l) := sOf_append [65 + k % 16] l
      rw [← e3]
      exact hT
    · obtain ⟨T, t1, t2, rfl, hT⟩ := h10
      refine wp_swapped (xa := "told") (xb := "number") hh' hT (L9.kp k10) rfl rfl rfl fun s₁₁ L11 => ?_
      refine wpAny_execs_nil ⟨k / 16, by omega, (65 + k % 16) :: l, _, _, _, L11, rfl, rfl, ?_, by omega⟩
      rw [← hw, word_pos hk]
      simp

theorem strxfrm {mg mb} {v : Value} {a : Addr} {cd : Value} {P : Value → Shared → Prop}
    (hroom : A.depth < recursionLimit) (G : Gd mg mb s.heap) (F : Fn mg s.heap (recAt 4) a cd) (h : ∀ s', Keeps s s' → P v s') : Do w A (call (.ref a) [v]) P s := by
  refine do_def (binds := [("s", v)]) F G.lim hroom (fun _ _ => rfl) (by rfl) fun L s₁ L1 => ?_
  exact wpAny_execs_cons (wpAny_Return_some (wp_name (L1.nm rfl rfl) ⟨L1.keeps, h _ L1.keeps⟩))

theorem strcoll {mg mb} {x y : List Nat} {t u : Tok} {a : Addr} {cd : Value} {P : Value → Shared → Prop}
    (hroom : A.depth < recursionLimit) (G : Gd mg mb s.heap) (F : Fn mg s.heap (recAt 3) a cd) (h : ∀ s' t, Keeps s s' → P (.int (b2i (decide (y < x)) - b2i (decide (x < y))) t) s') : Do w A (call (.ref a) [.str (sOf x) t, .str (sOf y) u]) P s := by
  refine do_def (binds := [("a", .str (sOf x) t), ("b", .str (sOf y) u)]) F G.lim hroom (fun _ _ => rfl) (by rfl) fun L s₁ L1 => ?_
  refine wpAny_execs_cons (wpAny_Return_some ((do_binop (P := fun v s' => ∃ t, v = .int (b2i (decide (y < x)) - b2i (decide (x < y))) t) (do_cmp (do_name (L1.nm rfl rfl) (do_name (L1.nm rfl rfl) (do_gt_str (do_cmp (do_name (L1.nm rfl rfl) (do_name (L1.nm rfl rfl) (do_lt_str (do_sub_bool fun t _ => ⟨t, ?_⟩))))))))) ).use fun v s₂ k2 h2 => ?_))
  · rw [sOf_cps, sOf_cps]
  · obtain ⟨t', rfl⟩ := h2
    exact ⟨kp_trans L1.keeps k2, h _ _ (kp_trans L1.keeps k2)⟩
end
end Mine

namespace Mine

theorem picked_from (x : List Nat) (a : Nat) (ha : a ≤ x.length) (hi : Option (Int × Tok)) (hh : hi = none ∨ ∃ t, hi = some ((x.length : Int), t)) (ta : Tok) :
    slicePicked (sOf x) (some ((a : Int), ta)) hi none = (List.range (x.length - a)).map (a + ·) := by
  unfold slicePicked Builtin.Str.strSliceIndices
  rw [sOf_len]
  have e : ∀ b : Int, b = (x.length : Int) → sliceRange (max 0 (min (if (a : Int) < 0 then (a : Int) + x.length else a) x.length)) b 1 = (List.range (x.length - a)).map (a + ·) := by
    intro b hb
    rw [if_neg (by omega), show max (0 : Int) (min (a : Int) x.length) = (a : Nat) by omega, hb]
    exact sliceRange_one a x.length
  rcases hh with rfl | ⟨t, rfl⟩
  · exact e _ rfl
  · exact e _ (by simp; split <;> omega)

section
variable {w : World} {A : Around} {s : Shared}
theorem do_get_sslice {x : List Nat} {a : Nat} {b : Addr} {t ta : Tok} {hi : Option (Int × Tok)} {vu : Value} {P : Value → Shared → Prop} (hs : s.heap.IsSliceOf b (.int a ta) vu .none) (hu : vu = partValue hi) (ha : a ≤ x.length) (hz : x.length ≤ 16777216) (hh : hi = none ∨ ∃ t, hi = some ((x.length : Int), t))
    (h : ∀ t tk, P (.str (sOf (x.drop a)) t) { s with toks := tk }) : Do w A (getItem (.str (sOf x) t) (.ref b)) P s := by
  intro E
  subst hu
  refine wpAny_getItem_str_slice (l := some ((a : Int), ta)) (u := hi) (st := none) hs rfl ?_
  unfold sliceMade
  rw [picked_from x a ha hi hh ta]
  have e : (⟨(((List.range (x.length - a)).map (a + ·)).filterMap ((sOf x).cps[·]?)).toArray⟩ : Str) = sOf (x.drop a) := by
    rw [pick_run, List.take_of_length_le (by simp [sOf])]
    simp [sOf]
  rw [e]
  split
  · rename_i hc
    simp only [List.length_map, List.length_range, sOf_len, Bool.and_eq_true, beq_iff_eq] at hc
    have : a = 0 := by
      have h2 := hc.2
      by_cases hx : x.length = 0
      · omega
      · omega
    subst this
    exact ⟨kp_refl _, by simpa using h t s.toks⟩
  · exact ⟨by rw [sOf_len, sizeLine_eq, List.length_drop]; omega, kp_tok _, h _ _⟩

theorem do_true_and2 {env x y pos whole} {P : Bool → Shared → Prop} (h : Do w A (isTrue x env (eval x env)) (fun b s₁ => if b = true then Do w A (isTrue y env (eval y env)) P s₁ else P false s₁) s) : Do w A (isTrue (.BoolOp .And [x, y] pos) env whole) P s := by
  intro E
  refine wpAny_isTrue_BoolOp (wpAny_allTrue_And_cons (h.use fun b s₁ k1 h1 => ?_))
  cases b with
  | false => exact ⟨k1, h1⟩
  | true =>
    simp only [if_true] at h1 ⊢
    refine wpAny_allTrue_And_cons (h1.use fun b s₂ k2 h2 => ?_)
    cases b with
    | false => exact ⟨kp_trans k1 k2, h2⟩
    | true => exact wpAny_allTrue_And_nil ⟨kp_trans k1 k2, h2⟩
theorem do_true_or2 {env x y pos whole} {P : Bool → Shared → Prop} (h : Do w A (isTrue x env (eval x env)) (fun b s₁ => if b = true then P true s₁ else Do w A (isTrue y env (eval y env)) P s₁) s) : Do w A (isTrue (.BoolOp .Or [x, y] pos) env whole) P s := by
  intro E
  refine wpAny_isTrue_BoolOp (wpAny_allTrue_Or_cons (h.use fun b s₁ k1 h1 => ?_))
  cases b with
  | true => exact ⟨k1, h1⟩
  | false =>
    simp only [Bool.false_eq_true, if_false] at h1 ⊢
    refine wpAny_allTrue_Or_cons (h1.use fun b s₂ k2 h2 => ?_)
    cases b with
    | true => exact ⟨kp_trans k1 k2, h2⟩
    | false => exact wpAny_allTrue_Or_nil ⟨kp_trans k1 k2, h2⟩
theorem do_true_name {env x pos v whole} {P : Bool → Shared → Prop} (N : Nm env s.heap x v) (h : Do w A (truthy v) P s) (hw : whole = eval (.Name x pos) env) : Do w A (isTrue (.Name x pos) env whole) P s := by
  subst hw
  exact fun E => wpAny_isTrue_value (wp_name N (h E))

/-- what is asked of a line of six signs: the blanks are its first b signs -/
def Padded (x : List Nat) (b : Nat) : Prop := x.length = 6 ∧ b ≤ 6 ∧ ∀ i, i < 6 → ((x[i]? = some 32) ↔ i < b)

theorem char_at {x : List Nat} {b i : Nat} (hx : Padded x b) (hi : i < 6) : ∃ c, (seqIndex? ((i : Nat) : Int) (sOf x).length).bind ((sOf x).cps[·]?) = some c ∧ ((⟨#[c]⟩ : Str) == (" " : Str)) = decide (i < b) := by
  have hl := hx.1
  have hi' : i < x.length := by omega
  refine ⟨x[i], ?_, ?_⟩
  · rw [sOf_len]
    unfold seqIndex?
    simp [sOf, hi', show ¬ ((i : Int) < 0) by omega]
  · have h1 := hx.2.2 i hi
    have h2 : x[i]? = some x[i] := by simp [hi']
    rw [h2] at h1
    have e : ((" " : Str)) = ⟨#[32]⟩ := by decide +kernel
    rw [e]
    by_cases hb : i < b
    · rw [decide_eq_true hb]
      have : x[i] = 32 := by simpa using h1.mpr hb
      rw [this]
      decide +kernel
    · rw [decide_eq_false hb]
      have : x[i] ≠ 32 := fun q => hb (h1.mp (by rw [q]))
      simpa using this

theorem strip_padding {mg mb} {x : List Nat} {b n : Nat} {t u : Tok} {a : Addr} {cd : Value} {P : Value → Shared → Prop}
    (hh : A.handled = none) (hroom : A.depth < recursionLimit) (G : Gd mg mb s.heap) (F : Fn mg s.heap (recAt 5) a cd) (hx : Padded x b) (hn : n ≤ 6)
    (h : ∀ s' t', Keeps s s' → P (.str (sOf (x.drop (min n b))) t') s') : Do w A (call (.ref a) [.str (sOf x) t, .int n u]) P s := by
  refine do_def (binds := [("s", .str (sOf x) t), ("amount", .int n u)]) F G.lim hroom (fun _ _ => rfl) (by rfl) fun L s₁ L1 => ?_
  have hh' : (A.deeper (envOf (recAt 5).name (recAt 5).scope L a cd)).handled = none := hh
  generalize A.deeper (envOf (recAt 5).name (recAt 5).scope L a cd) = A' at hh' ⊢
  have hl := hx.1
  -- lpos = 0
  refine wpAny_execs_cons (wpAny_Assign_Name ((do_int (P := fun v s' => ∃ t, v = .int ((0 : Nat) : Int) t) fun _ _ => ⟨_, rfl⟩).use fun v s₂ k2 h2 => ?_) rfl)
  obtain ⟨t2, rfl⟩ := h2
  refine wp_store (L1.kp k2) rfl rfl fun s₃ L3 => ?_
  -- the first while
  refine wpAny_execs_cons (wpAny_While (codeAny_whileLoop (fun k s' => ∃ i t1 t2 m, Lf s (envOf (recAt 5).name (recAt 5).scope L a cd) m s' ∧ m "s" = some (.str (sOf x) t) ∧ m "lpos" = some (.int ((i : Nat) : Int) t1) ∧ m "amount" = some (.int ((k : Nat) : Int) t2) ∧
    i + k = n ∧ i ≤ b) ?turn n ⟨0, t2, u, _, L3, rfl, rfl, rfl, by omega, by omega⟩))
  rintro k s₄ ⟨i, t1, t2', m, L4, m1, m2, m3, hik, hib⟩
  refine (do_true_and2 (P := fun c s' => c = decide (0 < k ∧ i < b)) (do_true_name (L4.nm rfl m3) (do_truthy_int ?_) rfl)).use fun c s₅ k5 h5 => ?_
  · by_cases hk : k = 0
    · subst hk; simp
    · rw [show (((k : Nat) : Int) != 0) = true by simpa using hk]
      simp only [if_true]
      obtain ⟨c, hc, hcb⟩ := char_at hx (show i < 6 by omega)
      refine do_true_cmp (do_sub (do_name (L4.nm rfl m1) (do_name (L4.nm rfl m2) ⟨"str", _, _, typeIs_str _ _ _, slot_str_getitem.lookup, rfl, do_get_str (by omega) (by omega) hc fun _ _ => do_str fun _ _ => do_eq_str (do_truthy_bool ?_)⟩)))
      rw [hcb]
      simp [show 0 < k by omega]
  have L5 := L4.kp k5
  subst h5
  by_cases hc : 0 < k ∧ i < b
  · rw [decide_eq_true hc]
    simp only [if_true]
    refine wpAny_execs_cons (wpAny_AugAssign_Name (wp_load (L5.nm rfl m2) ((do_int (P := fun v s' => ∃ t, v = .int 1 t) fun _ _ => ⟨_, rfl⟩).use fun v s₆ k6 h6 => ?_)))
    obtain ⟨t6, rfl⟩ := h6
    refine PyProof.Rows.iadd_int (wp_store (L5.kp (kp_trans k6 (kp_tok _))) rfl rfl fun s₇ L7 => ?_)
    refine wpAny_execs_cons (wpAny_AugAssign_Name (wp_load (L7.nm (x := "amount") rfl m3) ((do_int (P := fun v s' => ∃ t, v = .int 1 t) fun _ _ => ⟨_, rfl⟩).use fun v s₈ k8 h8 => ?_)))
    obtain ⟨t8, rfl⟩ := h8
    refine PyProof.Rows.isub_int (wp_store (L7.kp (kp_trans k8 (kp_tok _))) rfl rfl fun s₉ L9 => ?_)
    rw [show ((i : Nat) : Int) + 1 = ((i + 1 : Nat) : Int) by omega, show ((k : Nat) : Int) - 1 = ((k - 1 : Nat) : Int) by omega] at L9
    exact wpAny_execs_nil ⟨k - 1, by omega, i + 1, _, _, _, L9, m1, rfl, rfl, by omega, by omega⟩
  · rw [decide_eq_false hc]
    have hi : i = min n b := by omega
    refine wpAny_execs_nil ?_
    -- rpos = len(s) - 1
    have G5 := G.keeps (kp_get L5.keeps)
    refine wpAny_execs_cons (wpAny_Assign_Name ((do_binop (P := fun v s' => ∃ t, v = .int ((5 : Nat) : Int) t) (do_call_b (do_name (nm_bi G5 rfl rfl rfl rfl (by decide)) ⟨rfl, do_one (do_name (L5.nm rfl m1) (do_len_str (by rw [sOf_len]; omega) fun _ _ => do_int fun _ _ => do_sub_int fun t' _ => ⟨t', ?_⟩))⟩))).use fun v s₆ k6 h6 => ?_) rfl)
    · rw [sOf_len, hl]; rfl
    obtain ⟨t6, rfl⟩ := h6
    refine wp_store (L5.kp k6) rfl rfl fun s₇ L7 => ?_
    -- the second while: it does not turn
    refine wpAny_execs_cons (wpAny_While (codeAny_whileLoop (fun k' s' => s' = s₇) ?turn2 0 rfl))
    rintro k' s' rfl
    refine (do_true_and2 (P := fun c s' => c = false) (do_true_name (L7.nm (x := "amount") rfl m3) (do_truthy_int ?_) rfl)).use fun c s₈ k8 h8 => ?_
    · by_cases hk : k = 0
      · subst hk; simp
      · rw [show (((k : Nat) : Int) != 0) = true by simpa using hk]
        simp only [if_true]
        obtain ⟨c, hc5, hcb⟩ := char_at hx (show 5 < 6 by omega)
        refine do_true_cmp (do_sub (do_name (L7.nm (x := "s") rfl m1) (do_name (L7.nm rfl rfl) ⟨"str", _, _, typeIs_str _ _ _, slot_str_getitem.lookup, rfl, do_get_str (by omega) (by omega) hc5 fun _ _ => do_str fun _ _ => do_eq_str (do_truthy_bool ?_)⟩)))
        rw [hcb]
        simp; omega
    subst h8
    refine wpAny_execs_nil ?_
    have L8 := L7.kp k8
    refine wpAny_execs_cons (wpAny_Return_some ((do_sub (P := fun v s' => ∃ t, v = .str (sOf (x.drop (min n b))) t) (do_name (L8.nm (x := "s") rfl m1) (do_slice (do_part (do_name (L8.nm (x := "lpos") rfl m2) (do_part (do_binop (do_name (L8.nm rfl rfl) (do_int fun _ _ => do_add_int fun t' _ => ?_))))))))).use fun v s₉ k9 h9 => ?_))
    · intro c s' kc hc'
      refine ⟨"str", _, _, typeIs_str _ _ _, slot_str_getitem.lookup, rfl, do_get_sslice (hi := some ((6 : Int), t')) hc' rfl (by omega) (by omega) (.inr ⟨t', by rw [hl]; rfl⟩) fun t'' _ => ⟨t'', by rw [hi]⟩⟩
    · obtain ⟨t9, rfl⟩ := h9
      exact ⟨(L8.kp k9).keeps, h _ _ (L8.kp k9).keeps⟩
end
end Mine

namespace Mine
open PySem.Builtin
theorem args_decode_enc (a v : Value) : argsOk "bytes.decode" ⟨[a], [("encoding", v)]⟩ := by unfold argsOk; kernel_rfl
theorem road_ascii {id : String} {b : Array UInt8} : _codecs.decodeRoad id b (PySem.Str.ofString "ascii") none [] = (_codecs.runDecoder id _codecs.asciiDecoder none true b 0 [] >>= fun r => mkStr ⟨r.1⟩) := by kernel_rfl
theorem forIn_run {β : Type} (f : Nat → β → Sem (ForInStep β)) (g : Nat → β) : ∀ k i, (∀ j, i ≤ j → j < i + k → f j (g j) = pure (.yield (g (j + 1)))) → forIn (List.range' i k) (g i) f = pure (g (i + k))
  | 0, i, _ => rfl
  | k + 1, i, h => by
    rw [List.range'_succ, List.forIn_cons, h i (Nat.le_refl _) (by omega)]
    show forIn (List.range' (i + 1) k) (g (i + 1)) f = _
    rw [forIn_run f g k (i + 1) fun j a b => h j (by omega) (by omega)]
    congr 2
    omega
theorem bOf_get (l : List Nat) (j : Nat) (hj : j < l.length) : (bOf l).getD j 0 = l[j].toUInt8 := by
  simp [bOf, Array.getD, hj]
theorem toUInt8_toNat {c : Nat} (h : c < 128) : c.toUInt8.toNat = c := by
  simp [Nat.toUInt8, UInt8.toNat_ofNat]; omega
theorem find_ascii (l : List Nat) (hl : ∀ c ∈ l, c < 128) (j : Nat) (hj : j < l.length) : _codecs.asciiDecoder.find true (bOf l) j = .char l[j] (j + 1) := by
  show (if ((bOf l).getD j 0).toNat < 128 then _codecs.Found.char ((bOf l).getD j 0).toNat (j + 1) else _) = _
  have h1 : l[j] < 128 := hl _ (List.getElem_mem hj)
  rw [bOf_get l j hj, toUInt8_toNat h1, if_pos h1]
theorem run_ascii {id : String} (l : List Nat) (hl : ∀ c ∈ l, c < 128) (hz : l.length ≤ 16777216) : _codecs.runDecoder id _codecs.asciiDecoder none true (bOf l) 0 [] = pure (l.toArray, l.length) := by
  unfold _codecs.runDecoder
  dsimp only
  have hs : (bOf l).size = l.length := by simp [bOf]
  rw [Std.Legacy.Range.forIn_eq_forIn_range']
  have hsz : ([:(bOf l).size] : Std.Legacy.Range).size = l.length := by simp [Std.Legacy.Range.size, hs]
  simp only [hsz]
  refine Eq.trans (congrArg (fun m => m >>= _) (forIn_run (β := Nat × Array Nat × _codecs.Faults) _ (fun j => (j, (l.take j).toArray, {})) l.length 0 fun j _ hj => ?_)) ?_
  · have hj' : j < l.length := by omega
    dsimp only
    rw [if_neg (by rw [sizeLine_eq]; simp; omega), if_neg (by rw [hs]; omega), find_ascii l hl j hj']
    show (pure (ForInStep.yield (j + 1, (l.take j).toArray ++ [l[j]].toArray, _)) : Sem _) = _
    rw [List.take_add_one, List.getElem?_eq_getElem hj']
    simp
  · show (pure ((l.take (0 + l.length)).toArray, 0 + l.length) : Sem (Array Nat × Nat)) = _
    simp
theorem decode_empty {t u : Tok} : «bytes.decode» ⟨[.bytes (bOf []) t], [("encoding", .str "ascii" u)]⟩ = (rule "bytes.decode.empty" >>= fun _ => retStr PySem.Str.empty) := by kernel_rfl
theorem decode_some {c cs} {t u : Tok} : «bytes.decode» ⟨[.bytes (bOf (c :: cs)) t], [("encoding", .str "ascii" u)]⟩ = (mkStr (PySem.Str.ofString "utf-8") >>= fun _ => mkStr (PySem.Str.ofString "ascii") >>= fun e => mkStr (PySem.Str.ofString "bytes.decode") >>= fun d =>
    call (.builtin "_codecs.decode.text") [.bytes (bOf (c :: cs)) t, e, .none, d] >>= fun v => ret v) := by kernel_rfl
theorem typeCall_str_2 (a b : Value) : checkTypeCall "str" ⟨[a, b], []⟩ = pure () := by kernel_rfl
theorem newCall_str_2 (a b : Value) : checkBuiltinCall "str.__new__" ⟨[.type "str", a, b], []⟩ = pure () := by kernel_rfl

theorem meets_text_ascii {t t1 t2 : Tok} {d : PySem.Str} (l : List Nat) (hl : ∀ c ∈ l, c < 128) (hz : l.length ≤ 16777216) :
    Meets («_codecs.decode.text» ⟨[.bytes (bOf l) t, .str (PySem.Str.ofString "ascii") t1, .none, .str d t2], []⟩) (fun _ R s => R (.ok (.ret (.str (sOf l) s.toks))) { s with toks := s.toks + 1 }) := by
  refine .of_wp fun prog w A R s h => ?_
  show wpAny _ _ (Bytes.bytesLike _ (.bytes (bOf l) t) >>= fun r => _) _ _ s
  refine wpAny_bind (wpAny_of_eq KBd.like_eq ?_)
  refine wpAny_bind (wpAny_of_eq KBd.held_eq ?_)
  show wpAny _ _ (_codecs.decodeRoad _ (bOf l) (PySem.Str.ofString "ascii") none [] >>= fun v => _) _ _ s
  rw [road_ascii, run_ascii l hl hz]
  refine wpAny_bind (wpAny_bind (wpAny_pure ?_))
  exact wpAny_mkStr (wpAny_pure ⟨_, rfl, h⟩) (by rw [sizeLine_eq]; show (sOf l).length ≤ _; rw [sOf_len]; exact hz)

section
variable {w : World} {A : Around} {s : Shared}
theorem do_decode {l : List Nat} {t u : Tok} {P : Value → Shared → Prop} (hl : ∀ c ∈ l, c < 128) (hz : l.length ≤ 16777216) (h : ∀ t tk, P (.str (sOf l) t) { s with toks := tk }) :
    Do w A (call (.builtin "bytes.decode") [.bytes (bOf l) t] [("encoding", .str "ascii" u)]) P s := by
  intro E
  refine wpAny_call_entry_kw FB.slot_bytes_decode (typeIs_bytes _ _ _) FB.entry_bytes_decode ?_ (args_decode_enc _ _)
  cases l with
  | nil =>
    rw [decode_empty]
    refine wpAny_bind (wpAny_rule ?_)
    show wpAny _ _ (mkStr PySem.Str.empty >>= fun v => ret v) _ _ _
    exact wpAny_bind (wpAny_mkStr (wpAny_pure ⟨_, rfl, kp_tok _, h _ _⟩) (by decide))
  | cons c cs =>
    rw [decode_some]
    refine wpAny_bind (wpAny_mkStr ?_ (by decide))
    refine wpAny_bind (wpAny_mkStr ?_ (by decide))
    refine wpAny_bind (wpAny_mkStr ?_ (by decide))
    exact wpAny_bind (call_function_meets KBd.kind_text KBd.plain_text KBd.entry_text (KBd.args_text _ _ _ _) (meets_text_ascii _ hl hz) (wpAny_pure ⟨_, rfl, kp_tok _, h _ _⟩))

theorem meets_str_new {t u : Tok} (l : List Nat) (hl : ∀ c ∈ l, c < 128) (hz : l.length ≤ 16777216) :
    MeetsIn prog w («str.__new__» ⟨[.type "str", .bytes (bOf l) t, .str "ascii" u], []⟩) (fun _ R s => ∀ t' k, R (.ok (.ret (.str (sOf l) t'))) { s with toks := k }) := by
  refine .of_wp fun A R s h => ?_
  unfold «str.__new__»
  dsimp only
  refine wpAny_bind (wpAny_of_eq (a := true) (by rfl) ?_)
  rw [if_neg (by decide)]
  refine wpAny_bind (wpAny_of_eq (a := true) (by rw [isSubtype_type]; kernel_rfl) ?_)
  rw [if_neg (by decide)]
  refine wpAny_ite (KBy.ite_no Bool.false_ne_true ?_)
  refine wpAny_bind (wpAny_of_eq (a := [some (.bytes (bOf l) t), some (.str "ascii" u), none]) rfl ?_)
  refine wpAny_bind (wpAny_of_eq (a := some ("ascii" : PySem.Str)) (by kernel_rfl) ?_)
  refine wpAny_bind (wpAny_of_eq (a := none) rfl ?_)
  refine wpAny_ite (KBy.ite_no Bool.false_ne_true ?_)
  refine wpAny_bind ?_
  refine wpAny_bind (wpAny_bind (wpAny_mkStr (wpAny_pure ?_) (by decide)))
  refine wpAny_bind (wpAny_of_eq (a := []) rfl ?_)
  refine wpAny_bind (wpAny_of_eq KBy.isInstance_eq ?_)
  refine wpAny_ite (KBc.ite_yes rfl ?_)
  refine wpAny_bind (wpAny_rule ?_)
  refine Do.use (do_decode (P := fun v s' => ∃ t' k, v = .str (sOf l) t' ∧ s' = { s with toks := k }) hl hz fun t' k => ⟨t', k, rfl, rfl⟩) fun v s' _ hv => ?_
  obtain ⟨t', k, rfl, rfl⟩ := hv
  refine wpAny_ite (KBc.ite_yes rfl ?_)
  exact wpAny_pure ⟨_, rfl, h _ _⟩
theorem do_str_ascii {l : List Nat} {t u : Tok} {P : Value → Shared → Prop} (hl : ∀ c ∈ l, c < 128) (hz : l.length ≤ 16777216) (h : ∀ t tk, P (.str (sOf l) t) { s with toks := tk }) :
    Do w A (call (.type "str") [.bytes (bOf l) t, .str "ascii" u]) P s := fun E =>
  callType_newIn F.called_str (by decide) (typeCall_str_2 _ _) (newCall_str_2 _ _) (fun obj => F.args_object_init_3 obj _ _) F.entry_str_new (meets_str_new l hl hz) fun t' k => ⟨typeIs_str _ _ _, kp_tok _, h _ _⟩
end
end Mine

namespace Mine

def Kp (key : Nat → Int) (p : Array Nat) (k : Nat) : Int := key (p.getD k 0)
def Pm (n : Nat) (p : Array Nat) : Prop := p.toList.Perm (List.range n)
def Up (key : Nat → Int) (p : Array Nat) (m : Nat) : Prop := ∀ i j, i ≤ j → j < m → Kp key p i ≤ Kp key p j
def Dn (key : Nat → Int) (p : Array Nat) (m : Nat) : Prop := ∀ i j, i ≤ j → j < m → Kp key p j ≤ Kp key p i

theorem Pm.size {n p} (h : Pm n p) : p.size = n := by have := h.length_eq; simpa using this
theorem Pm.lt {n p k} (h : Pm n p) (hk : k < n) : p.getD k 0 < n := by
  have hs := h.size
  have : p.getD k 0 ∈ p.toList := by
    rw [show p.getD k 0 = p[k]'(by omega) by simp [Array.getD, show k < p.size by omega]]
    simp
  simpa using h.mem_iff.mp this
theorem Pm.inj {n p i j} (h : Pm n p) (hi : i < n) (hj : j < n) (e : p.getD i 0 = p.getD j 0) : i = j := by
  have hs := h.size
  have hnd : p.toList.Nodup := h.nodup_iff.mpr List.nodup_range
  have hi' : i < p.size := by omega
  have hj' : j < p.size := by omega
  rw [show p.getD i 0 = p.toList[i]'(by simpa using hi') by simp [Array.getD, hi'], show p.getD j 0 = p.toList[j]'(by simpa using hj') by simp [Array.getD, hj']] at e
  exact (List.getElem_inj hnd).mp e
theorem Pm.rev {n p} (h : Pm n p) (i j : Nat) : Pm n (kas_rev p i j) := (Array.perm_iff_toList_perm.mp (mirror_perm _ _ _ _)).trans h
theorem Pm.bub {n p} (h : Pm n p) (i j : Nat) : Pm n (bubble p i j) := (Array.perm_iff_toList_perm.mp (bubble_perm _ _ _)).trans h

theorem getD_of {p q : Array Nat} {i j : Nat} (h : p[i]? = q[j]?) : p.getD i 0 = q.getD j 0 := by
  rw [Array.getD_eq_getD_getElem?, Array.getD_eq_getD_getElem?, h]
theorem Kp_rev {key n p} (h : Pm n p) {m : Nat} (hm : m ≤ n) (k : Nat) : Kp key (kas_rev p 0 m) k = if k < m then Kp key p (m - 1 - k) else Kp key p k := by
  have e := getElem?_mirror_all (xs := p) (i := 0) (j := m) (by rw [h.size]; exact hm) k
  unfold Kp kas_rev
  by_cases hk : k < m
  · rw [if_pos ⟨Nat.zero_le _, hk⟩] at e
    rw [if_pos hk]
    rw [getD_of e, Nat.zero_add]
  · rw [if_neg (fun q => hk q.2)] at e
    rw [if_neg hk, getD_of e]
theorem Kp_bub {key n p} (h : Pm n p) {src l : Nat} (hs : src < n) (hl : l ≤ src) (k : Nat) : Kp key (bubble p src (src - l)) k = if k = l then Kp key p src else if l < k ∧ k ≤ src then Kp key p (k - 1) else Kp key p k := by
  have e := getElem?_bubble (xs := p) (src := src) (by rw [h.size]; exact hs) (src - l) (by omega) k
  rw [show src - (src - l) = l by omega] at e
  unfold Kp
  split at e
  · rename_i hk; rw [if_pos hk, getD_of e]
  · rename_i hk
    rw [if_neg hk]
    split at e
    · rename_i hk2; rw [if_pos hk2, getD_of e]
    · rename_i hk2; rw [if_neg hk2, getD_of e]

section
variable {n : Nat} {key : Nat → Int} {cmp : Nat → Nat → (Bool → Shared → Prop) → Shared → Prop} {Inv : Shared → Prop}
  (hc : ∀ i j C s, i < n → j < n → Inv s → (∀ s', Inv s' → C (decide (key i < key j)) s') → cmp i j C s) (hk : ∀ i j, i < n → j < n → key i = key j → i = j)
include hc hk

omit hc in
theorem Kp_ne {p i j} (h : Pm n p) (hi : i < n) (hj : j < n) (hij : i ≠ j) : Kp key p i ≠ Kp key p j := fun e => hij (h.inj hi hj (hk _ _ (h.lt hi) (h.lt hj) e))

theorem asc_ok {p} (h : Pm n p) : ∀ (f m : Nat) (s : Shared) {Q : Nat → Shared → Prop}, 1 ≤ m → m + f ≤ n → Up key p m → Inv s →
    (∀ m' s', Inv s' → m ≤ m' → m' ≤ m + f → Up key p m' → (m' = m + f ∨ Kp key p m' < Kp key p (m' - 1)) → Q m' s') → (kas_asc p f m).kasWp cmp Q s
  | 0, m, s, Q, h1, h2, hu, hi, hq => hq m s hi (Nat.le_refl _) (Nat.le_refl _) hu (.inl rfl)
  | f + 1, m, s, Q, h1, h2, hu, hi, hq => by
    show cmp (p.getD m 0) (p.getD (m - 1) 0) (fun c s' => (if c = true then KasT.ret m else kas_asc p f (m + 1)).kasWp cmp Q s') s
    refine hc _ _ _ _ (h.lt (by omega)) (h.lt (by omega)) hi fun s' hi' => ?_
    show (if decide (Kp key p m < Kp key p (m - 1)) = true then KasT.ret m else kas_asc p f (m + 1)).kasWp cmp Q s'
    by_cases hlt : Kp key p m < Kp key p (m - 1)
    · rw [if_pos (decide_eq_true hlt)]
      exact hq m s' hi' (Nat.le_refl _) (by omega) hu (.inr hlt)
    · rw [if_neg (by simpa using hlt)]
      refine asc_ok h f (m + 1) s' (by omega) (by omega) (fun i j hij hj => ?_) hi' fun m' s'' a b c d e => hq m' s'' a (by omega) (by omega) d (e.imp (fun q => by omega) id)
      by_cases hjm : j < m
      · exact hu i j hij hjm
      · have : j = m := by omega
        subst this
        by_cases hij' : i = j
        · subst hij'; exact Int.le_refl _
        · have := hu i (j - 1) (by omega) (by omega); omega

theorem desc_ok {p} (h : Pm n p) : ∀ (f m : Nat) (s : Shared) {Q : Array Nat × Nat × Nat → Shared → Prop}, 1 ≤ m → m + f ≤ n → Dn key p m → Inv s →
    (∀ m' s', Inv s' → m ≤ m' → m' ≤ m + f → Dn key p m' → Q (p, m', 0) s') → (kas_desc f p m 0).kasWp cmp Q s
  | 0, m, s, Q, h1, h2, hu, hi, hq => hq m s hi (Nat.le_refl _) (Nat.le_refl _) hu
  | f + 1, m, s, Q, h1, h2, hu, hi, hq => by
    show cmp (p.getD m 0) (p.getD (m - 1) 0) (fun c s' => (if c = true then (if 0 > 0 then kas_desc f (kas_rev p (m - (0 + 1)) m) (m + 1) 0 else kas_desc f p (m + 1) 0) else KasT.ask (p.getD (m - 1) 0) (p.getD m 0) fun d => if d = true then KasT.ret (p, m, 0) else kas_desc f p (m + 1) (0 + 1)).kasWp cmp Q s') s
    refine hc _ _ _ _ (h.lt (by omega)) (h.lt (by omega)) hi fun s' hi' => ?_
    show (if decide (Kp key p m < Kp key p (m - 1)) = true then _ else _ : KasT _).kasWp cmp Q s'
    by_cases hlt : Kp key p m < Kp key p (m - 1)
    · rw [if_pos (decide_eq_true hlt), if_neg (by omega)]
      refine desc_ok h f (m + 1) s' (by omega) (by omega) (fun i j hij hj => ?_) hi' fun m' s'' a b c d => hq m' s'' a (by omega) (by omega) d
      by_cases hjm : j < m
      · exact hu i j hij hjm
      · have : j = m := by omega
        subst this
        by_cases hij' : i = j
        · subst hij'; exact Int.le_refl _
        · have := hu i (j - 1) (by omega) (by omega); omega
    · rw [if_neg (by simpa using hlt)]
      refine hc _ _ _ _ (h.lt (by omega)) (h.lt (by omega)) hi' fun s'' hi'' => ?_
      show (if decide (Kp key p (m - 1) < Kp key p m) = true then _ else _ : KasT _).kasWp cmp Q s''
      have := Kp_ne hk h (show m < n by omega) (show m - 1 < n by omega) (by omega)
      rw [if_pos (decide_eq_true (by omega))]
      exact hq m s'' hi'' (Nat.le_refl _) (by omega) hu

theorem tail3_ok {p m s} (h : Pm n p) {Q : Nat × Array Nat → Shared → Prop} (h1 : 1 ≤ m) (h2 : m ≤ n) (hd : Dn key p m) (hi : Inv s)
    (hq : ∀ m' p' s', Inv s' → Pm n p' → 1 ≤ m' → m' ≤ n → Up key p' m' → Q (m', p') s') : (kas_tail3 m n p).kasWp cmp Q s := by
  unfold kas_tail3
  rw [KasT.kasWp_bind]
  refine asc_ok hc hk (h.rev 0 m) (n - m) m s h1 (by omega) (fun i j hij hj => ?_) hi fun m' s' a b c d e => hq m' _ s' a (h.rev 0 m) (by omega) (by omega) d
  rw [Kp_rev h h2, Kp_rev h h2, if_pos (by omega), if_pos hj]
  exact hd _ _ (by omega) (by omega)
theorem descPart_ok {p m s} (h : Pm n p) {Q : Nat × Array Nat → Shared → Prop} (h2 : m + 1 ≤ n) (hd : Dn key p (m + 1)) (hi : Inv s)
    (hq : ∀ m' p' s', Inv s' → Pm n p' → 1 ≤ m' → m' ≤ n → Up key p' m' → Q (m', p') s') : (kas_descPart m n p).kasWp cmp Q s := by
  unfold kas_descPart
  rw [KasT.kasWp_bind]
  refine desc_ok hc hk h (n - (m + 1)) (m + 1) s (by omega) (by omega) hd hi fun m' s' a b c d => ?_
  show (if 0 > 0 then _ else _ : KasT _).kasWp cmp Q s'
  rw [if_neg (by omega)]
  exact tail3_ok hc hk (m := m') h (by omega) (by omega) d a hq
theorem count_ok {p s} (h : Pm n p) {Q : Nat × Array Nat → Shared → Prop} (h2 : 1 ≤ n) (hi : Inv s)
    (hq : ∀ m' p' s', Inv s' → Pm n p' → 1 ≤ m' → m' ≤ n → Up key p' m' → Q (m', p') s') : (kas_count n p).kasWp cmp Q s := by
  unfold kas_count
  rw [KasT.kasWp_bind]
  have h0 : Up key p 1 := fun i j hij hj => by
    have e : i = j := by omega
    subst e
    exact Int.le_refl _
  refine asc_ok hc hk h (n - 1) 1 s (Nat.le_refl _) (by omega) h0 hi fun m s' a b c d e => ?_
  show (if (m == n) = true then _ else _ : KasT _).kasWp cmp Q s'
  by_cases hmn : m = n
  · rw [if_pos (by simpa using hmn)]
    exact hq m p s' a h (by omega) (by omega) d
  · rw [if_neg (by simpa using hmn)]
    have e' : Kp key p m < Kp key p (m - 1) := e.resolve_left (by omega)
    by_cases hm1 : m > 1
    · rw [if_pos hm1]
      refine hc _ _ _ _ (h.lt (by omega)) (h.lt (by omega)) a fun s'' a' => ?_
      show (if decide (Kp key p 0 < Kp key p (m - 1)) = true then _ else _ : KasT _).kasWp cmp Q s''
      have h3 := d 0 (m - 1) (by omega) (by omega)
      have h4 := Kp_ne hk h (show 0 < n by omega) (show m - 1 < n by omega) (by omega)
      rw [if_pos (decide_eq_true (by omega))]
      exact hq m p s'' a' h (by omega) (by omega) d
    · rw [if_neg hm1]
      have : m = 1 := by omega
      subst this
      refine descPart_ok hc hk h (by omega) (fun i j hij hj => ?_) a hq
      by_cases hij' : i = j
      · subst hij'; exact Int.le_refl _
      · have hi0 : i = 0 := by omega
        have hj1 : j = 1 := by omega
        subst hi0; subst hj1
        exact Int.le_of_lt e'

theorem place_ok {p k} (h : Pm n p) (hkn : k < n) (hu : Up key p k) : ∀ (f l r : Nat) (s : Shared) {Q : Nat → Shared → Prop}, l ≤ r → r ≤ k → r - l ≤ f → Inv s → (∀ i, i < l → Kp key p i ≤ Kp key p k) → (∀ i, r ≤ i → i < k → Kp key p k < Kp key p i) →
    (∀ l' s', Inv s' → l' ≤ k → (∀ i, i < l' → Kp key p i ≤ Kp key p k) → (∀ i, l' ≤ i → i < k → Kp key p k < Kp key p i) → Q l' s') → (kas_place p k f l r).kasWp cmp Q s
  | 0, l, r, s, Q, h1, h2, h3, hi, ha, hb, hq => hq l s hi (by omega) ha (fun i a b => hb i (by omega) b)
  | f + 1, l, r, s, Q, h1, h2, h3, hi, ha, hb, hq => by
    show (if l ≥ r then KasT.ret l else .ask (p.getD k 0) (p.getD ((l + r) / 2) 0) fun c => if c = true then kas_place p k f l ((l + r) / 2) else kas_place p k f ((l + r) / 2 + 1) r).kasWp cmp Q s
    by_cases hlr : l ≥ r
    · rw [if_pos hlr]
      exact hq l s hi (by omega) ha (fun i a b => hb i (by omega) b)
    · rw [if_neg hlr]
      refine hc _ _ _ _ (h.lt hkn) (h.lt (by omega)) hi fun s' hi' => ?_
      show (if decide (Kp key p k < Kp key p ((l + r) / 2)) = true then _ else _ : KasT _).kasWp cmp Q s'
      by_cases hlt : Kp key p k < Kp key p ((l + r) / 2)
      · rw [if_pos (decide_eq_true hlt)]
        exact place_ok h hkn hu f l ((l + r) / 2) s' (by omega) (by omega) (by omega) hi' ha (fun i a b => by have := hu ((l + r) / 2) i a b; omega) hq
      · rw [if_neg (by simpa using hlt)]
        exact place_ok h hkn hu f ((l + r) / 2 + 1) r s' (by omega) (by omega) (by omega) hi' (fun i a => by have := hu i ((l + r) / 2) (by omega) (by omega); omega) hb hq
theorem bin_ok : ∀ (f : Nat) (p : Array Nat) (k : Nat) (s : Shared) {Q : Array Nat → Shared → Prop}, Pm n p → k + f = n → Up key p k → Inv s →
    (∀ p' s', Inv s' → Pm n p' → Up key p' n → Q p' s') → (kas_bin f p k).kasWp cmp Q s
  | 0, p, k, s, Q, h, h1, hu, hi, hq => hq p s hi h (by rw [← h1]; exact hu)
  | f + 1, p, k, s, Q, h, h1, hu, hi, hq => by
    show ((kas_place p k k 0 k).bind fun l => kas_bin f (bubble p k (k - l)) (k + 1)).kasWp cmp Q s
    rw [KasT.kasWp_bind]
    refine place_ok hc hk h (by omega) hu k 0 k s (by omega) (by omega) (by omega) hi (fun i a => by omega) (fun i a b => by omega) fun l s' hi' hl ha hb => ?_
    refine bin_ok f _ (k + 1) s' (h.bub _ _) (by omega) (fun i j hij hj => ?_) hi' hq
    rw [Kp_bub h (by omega) hl, Kp_bub h (by omega) hl]
    repeat' split
    all_goals first
      | (exfalso; omega)
      | exact Int.le_refl _
      | exact ha _ (by omega)
      | exact Int.le_of_lt (hb _ (by omega) (by omega))
      | exact hu _ _ (by omega) (by omega)

theorem sort_ok {s} {Q : Array Nat → Shared → Prop} (h1 : 1 ≤ n) (hi : Inv s) (hq : ∀ p' s', Inv s' → Pm n p' → Up key p' n → Q p' s') : (kas_sort n).kasWp cmp Q s := by
  unfold kas_sort
  rw [KasT.kasWp_bind]
  have hp : Pm n (List.range n).toArray := by unfold Pm; simp
  refine count_ok hc hk hp h1 hi fun m p s' hi' hp' h1' h2' hu => ?_
  show (if m < n then kas_bin (n - max m 1) p (max m 1) else .ret p).kasWp cmp Q s'
  by_cases hm : m < n
  · rw [if_pos hm, show max m 1 = m by omega]
    exact bin_ok hc hk _ _ _ s' hp' (by omega) hu hi' hq
  · rw [if_neg hm]
    have : m = n := by omega
    subst this
    exact hq p s' hi' hp' hu
end
end Mine

namespace Mine
open AutoSeq1 (wpAny_loadPart')
open MeetsSeq MeetsSeq2 MeetsSeq3

def ltI : List Int → List Int → Bool
  | [], [] => false
  | [], _ :: _ => true
  | _ :: _, [] => false
  | a :: x, b :: y => if a == b then ltI x y else decide (a < b)

theorem intsAre_get {vs : List Value} {ns : List Int} (h : IntsAre vs ns) : ∀ (i : Nat), (∀ n, ns[i]? = some n → ∃ t, vs[i]? = some (.int n t)) ∧ (ns[i]? = none → vs[i]? = none) := by
  induction h with
  | nil => intro i; simp
  | cons n t h ih =>
    intro i
    cases i with
    | zero => simp
    | succ i => simpa using ih i

theorem lt_loop (l b : Addr) (vs us : List Value) (ns ms : List Int) (n n2 : Nat) (hv : IntsAre vs ns) (hu : IntsAre us ms) (k : Nat) :
    ∀ i : Nat, ns.length - i = k → i ≤ ns.length → i ≤ ms.length → Meets (Builtin.«list.__eq__.loop» ⟨[.ref l, .ref b, rawInt i, rawInt 0], []⟩)
      (fun _ R s => s.heap.get? l = some { cls := .type "list", dict := none, data := .seq vs.toArray n, slots := #[] } ∧ s.heap.get? b = some { cls := .type "list", dict := none, data := .seq us.toArray n2, slots := #[] } ∧
        R (.ok (.ret (.bool (ltI (ns.drop i) (ms.drop i))))) s) := by
  have hl1 := hv.length
  have hl2 := hu.length
  induction k with
  | zero =>
    intro i hk hi1 hi2 prog w A R s h
    obtain ⟨hp, g, d, tk, os⟩ := s; obtain ⟨hl, hb, h⟩ := h
    wp_walk using wpAny_loadPart' hl, wpAny_loadPart' hb
    have e1 : vs.toArray[((i : Nat) : Int).toNat]? = none := by simp; omega
    rw [e1]
    wp_walk using wpAny_loadPart' hl, wpAny_loadPart' hb
    show R (.ok (.ret (.bool (decide (vs.toArray.size < us.toArray.size))))) _
    have : ns.drop i = [] := by simp; omega
    rw [this] at h
    have e2 : decide (vs.toArray.size < us.toArray.size) = ltI [] (ms.drop i) := by
      cases hm : ms.drop i with
      | nil =>
        have : ms.length ≤ i := by simpa using hm
        simp [ltI]; omega
      | cons x r =>
        have : (ms.drop i).length = (x :: r).length := by rw [hm]
        simp at this
        simp [ltI]; omega
    rw [e2]
    exact h
  | succ k ih =>
    intro i hk hi1 hi2 prog w A R s h
    obtain ⟨hp, g, d, tk, os⟩ := s; obtain ⟨hl, hb, h⟩ := h
    wp_walk using wpAny_loadPart' hl, wpAny_loadPart' hb
    have hlt : i < ns.length := by omega
    obtain ⟨t1, f1⟩ := (intsAre_get hv i).1 ns[i] (by simp [hlt])
    have e1 : vs.toArray[((i : Nat) : Int).toNat]? = some (.int ns[i] t1) := by simpa using f1
    have hd : ns.drop i = ns[i] :: ns.drop (i + 1) := List.drop_eq_getElem_cons hlt
    rw [hd] at h
    rw [e1]
    by_cases hm : i < ms.length
    · obtain ⟨t2, f2⟩ := (intsAre_get hu i).1 ms[i] (by simp [hm])
      have e2 : us.toArray[((i : Nat) : Int).toNat]? = some (.int ms[i] t2) := by simpa using f2
      have hd2 : ms.drop i = ms[i] :: ms.drop (i + 1) := List.drop_eq_getElem_cons hm
      rw [hd2] at h
      rw [e2]
      have hc : ((i : Int) + 1) = ((i + 1 : Nat) : Int) := by push_cast; rfl
      refine wpAny_bind (wpAny_eqBool_int ?_)
      by_cases hq : ns[i] = ms[i]
      · have hb' : (ns[i] == ms[i]) = true := by simpa using hq
        rw [hb']
        unfold ltI at h
        rw [hb'] at h
        wp_walk
        rw [hc]
        exact ⟨plainId_quiet plain_eq_loop _, codeAny_builtin entry_eq_loop (by
          rw [Around.under_plainId plain_eq_loop _]
          exact ih (i + 1) (by omega) (by omega) (by omega) prog w A R _ ⟨hl, hb, by simpa using h⟩)⟩
      · have hb' : (ns[i] == ms[i]) = false := by simpa using hq
        rw [hb']
        unfold ltI at h
        rw [hb'] at h
        wp_walk using wpAny_loadPart' hl, wpAny_loadPart' hb
        rw [e1, e2]
        refine wpAny_bind (m := richCompare .Lt (.int ns[i] t1) (.int ms[i] t2)) (PyProof.Rows.lt_int (wpAny_pure ?_))
        simpa using h
    · have e2 : us.toArray[((i : Nat) : Int).toNat]? = none := by simp; omega
      rw [e2]
      wp_walk using wpAny_loadPart' hl, wpAny_loadPart' hb
      show R (.ok (.ret (.bool (decide (vs.toArray.size < us.toArray.size))))) _
      have : ms.drop i = [] := by simp; omega
      rw [this] at h
      have e3 : decide (vs.toArray.size < us.toArray.size) = false := by simp; omega
      rw [e3]
      exact h
theorem list_lt (l b : Addr) (vs us : List Value) (ns ms : List Int) (n n2 : Nat) (hv : IntsAre vs ns) (hu : IntsAre us ms) :
    Meets (Builtin.«list.__lt__» ⟨[.ref l, .ref b], []⟩)
      (fun _ R s => s.heap.get? l = some { cls := .type "list", dict := none, data := .seq vs.toArray n, slots := #[] } ∧ s.heap.get? b = some { cls := .type "list", dict := none, data := .seq us.toArray n2, slots := #[] } ∧
        R (.ok (.ret (.bool (ltI ns ms)))) s) := by
  intro prog w A R s h
  obtain ⟨hp, g, d, tk, os⟩ := s; obtain ⟨hl, hb, h⟩ := h
  have f3 := AutoSeq1.sub_list_list
  wp_walk using wpAny_loadPart' hl, wpAny_loadPart' hb
  exact ⟨plainId_quiet plain_eq_loop _, codeAny_builtin entry_eq_loop (by
    rw [Around.under_plainId plain_eq_loop _]
    exact lt_loop l b vs us ns ms n n2 hv hu _ 0 rfl (Nat.zero_le _) (Nat.zero_le _) prog w A R _ ⟨hl, hb, by simpa using h⟩)⟩

section
variable {w : World} {A : Around} {s : Shared}
theorem lt_rows {u v ns ms E} {Q : Bool → Shared → Prop} (hu : LI s.heap u ns) (hv : LI s.heap v ms) (hr : A.units < cLine) (h : Q (ltI ns ms) s) : wpAny (model prog w) A (oneLt' true u v) Q E s := by
  obtain ⟨us, ⟨a, rfl, n, ha⟩, hI⟩ := hu
  obtain ⟨vs, ⟨b, rfl, m, hb⟩, hJ⟩ := hv
  rw [oneLt'_eq]
  simp only [if_true]
  refine wpAny_bind (wpAny_cRoomFor hr ?_)
  refine wpAny_bind (wpAny_callSpecialIfBound?_slot (T := "list") (name := (cmpInfo .Lt).2.1) ⟨_, ha, rfl⟩ F.slot_list_lt (call_meets F.slot_list_lt ⟨_, ha, rfl⟩ F.entry_list_lt (F.args_list_lt_2 _ _) (list_lt a b us vs ns ms n m hI hJ) ⟨ha, hb, ?_⟩))
  exact wpAny_truthy_bool h
end
end Mine

namespace Mine

/-- a list of rows of ints -/
def LR (h : Heap) (v : Value) (rows : List (List Int)) : Prop := ∃ vs, PL h v vs ∧ Paired (fun u r => LI h u r) vs rows
theorem LR.keeps {h h' v rs} (p : LR h v rs) (hk : ∀ b o, h.get? b = some o → h'.get? b = some o) : LR h' v rs :=
  let ⟨a, e, q⟩ := p; ⟨a, e.keeps hk, q.mono fun _ _ x => x.keeps hk⟩
theorem LR.kp {v rs} {s s' : Shared} (p : LR s.heap v rs) (k : Keeps s s') : LR s'.heap v rs := p.keeps (kp_get k)

theorem Paired.get {α β : Type} {F : α → β → Prop} : ∀ {l : List α} {r : List β}, Paired F l r → ∀ (i : Nat) (a : α) (b : β), l[i]? = some a → r[i]? = some b → F a b
  | _, _, .nil, i, a, b, h, _ => by simp at h
  | _, _, .cons h t, 0, a, b, h1, h2 => by simp at h1 h2; subst h1; subst h2; exact h
  | _, _, .cons h t, i + 1, a, b, h1, h2 => Paired.get t i a b (by simpa using h1) (by simpa using h2)
theorem Paired.of_get {α β : Type} {F : α → β → Prop} : ∀ {l : List α} {r : List β}, l.length = r.length → (∀ (i : Nat) (a : α) (b : β), l[i]? = some a → r[i]? = some b → F a b) → Paired F l r
  | [], [], _, _ => .nil
  | [], _ :: _, h, _ => by simp at h
  | _ :: _, [], h, _ => by simp at h
  | a :: l, b :: r, h, f => .cons (f 0 a b rfl rfl) (Paired.of_get (by simpa using h) fun i a b h1 h2 => f (i + 1) a b (by simpa using h1) (by simpa using h2))

section
variable {w : World} {A : Around} {s : Shared}

theorem do_sorted_ints {v ns} {P : Value → Shared → Prop} (hv : LI s.heap v ns) (h64 : ns.length < 64) (h : ∀ r s' ns', Keeps s s' → LI s'.heap r ns' → ns'.Perm ns → ns'.Pairwise (· ≤ ·) → P r s') :
    Do w A (call (.builtin "sorted") [v]) P s := by
  obtain ⟨vs, ⟨a, rfl, hp⟩, hI⟩ := hv
  intro E
  refine sorted_ints hp.isList hI (by rw [hI.length]; exact h64) fun out ns' h1 h2 h3 => ?_
  obtain ⟨e, he⟩ := sortedAll_at s.heap vs out
  have kk : Keeps s { s with heap := sortedAll s.heap vs out } := kp_heap' fun _ _ => sortedAll_old
  exact ⟨kk, h _ _ ns' kk ⟨out.toList, ⟨_, rfl, e, by simpa using he⟩, h1⟩ h2 h3⟩

theorem sort_rows_tree {s₀ : Shared} {a : Addr} {n : Nat} {vs : List Value} {rows : List (List Int)} {P : PySem.Fin → Shared → Prop} {E} (code : List Int → Int) (hu : A.units < cLine)
    (k0 : Keeps s₀ s) (ha0 : s₀.heap.get? a = none) (ho : s.heap.get? a = some (seqObj "list" vs.toArray n)) (hr : Paired (fun u r => LI s₀.heap u r) vs rows) (h64 : rows.length < 64)
    (hcode : ∀ r ∈ rows, ∀ r' ∈ rows, ltI r r' = decide (code r < code r')) (hnd : (rows.map code).Nodup)
    (h : ∀ s' out e rows', Keeps s₀ s' → s'.heap.get? a = some (seqObj "list" (List.toArray out) e) → Paired (fun u r => LI s₀.heap u r) out rows' → rows'.Perm rows → (rows'.map code).Pairwise (· ≤ ·) → P (.done (.ret .none)) s') :
    wpAny (model prog w) A (Builtin.«list.sort» ⟨[.ref a], []⟩) P E s := by
  have hlen : vs.length = rows.length := hr.length
  have ha : a < s.heap.objs.size := Heap.lt_size ho
  have s1 := Heap.SameBut.update s.heap a (Obj.mapSeq fun _ => (#[] : Array Value))
  obtain ⟨e1, ho1⟩ : ∃ e1, (s.heap.update a (Obj.mapSeq fun _ => (#[] : Array Value))).get? a = some (seqObj "list" #[] e1) := ⟨_, get?_update_seq ho fun _ => #[]⟩
  have ne : ∀ b o, s₀.heap.get? b = some o → b ≠ a := fun b o e q => by rw [q, ha0] at e; cases e
  rw [list_sort_plain]
  refine wpAny_bind (listItems_at ho rfl ?_)
  refine wpAny_bind (listUpdate_at ho rfl ?_ (by rw [List.size_toArray, sizeLine_eq]; omega) (Nat.zero_le _))
  refine wpAny_bind (seqEpoch_at ho1 rfl ?_)
  refine wpAny_bind (wpAny_newTuple ?_ (by show vs.length ≤ _; rw [sizeLine_eq]; omega))
  refine wpAny_bind (wpAny_newList ?_ (Nat.zero_le _))
  refine wpAny_holding ?_
  generalize hs3 : ({ s with heap := ((s.heap.update a (Obj.mapSeq fun _ => (#[] : Array Value))).push (seqObj "tuple" vs.toArray 0)).push (seqObj "list" #[] 0) } : Shared) = s₃
  have ho3 : s₃.heap.get? a = some (seqObj "list" #[] e1) := by rw [← hs3]; exact Heap.get?_push_of_some _ (Heap.get?_push_of_some _ ho1)
  have k3 : Keeps s₀ s₃ := by
    rw [← hs3]
    obtain ⟨h', tk, rfl, q⟩ := k0
    exact ⟨_, tk, rfl, fun b o e => Heap.get?_push_of_some _ (Heap.get?_push_of_some _ (s1.extBut b o (ne b o e) (q b o e)))⟩
  show wpAny (model prog w) A _ P E s₃
  dsimp only
  by_cases h2 : vs.toArray.size < 2
  · rw [if_pos h2, if_pos h2]
    refine wpAny_bind (wpAny_pure ?_)
    rw [StateT.run_pure]
    refine wpAny_bind (wpAny_pure ?_)
    dsimp only
    have hout : (vs.toArray.zip vs.toArray).map (·.2) = vs.toArray := by
      apply Array.toList_inj.mp; simp [List.map_snd_zip]
    refine wpAny_bind (seqEpoch_at ho3 rfl ?_)
    rw [hout]
    obtain ⟨c2, hc2⟩ : ∃ c2, (s₃.heap.update a (Obj.mapSeq fun _ => vs.toArray)).get? a = some (seqObj "list" vs.toArray c2) := ⟨_, get?_update_seq ho3 fun _ => vs.toArray⟩
    have s2 := Heap.SameBut.update s₃.heap a (Obj.mapSeq fun _ => vs.toArray)
    refine wpAny_bind (listUpdate_at ho3 rfl ?_ (Nat.zero_le _) (by rw [sizeLine_eq]; simp; omega))
    simp only [bne_self_eq_false, Bool.false_eq_true, if_false]
    refine wpAny_pure (h _ vs c2 rows ?_ hc2 hr (List.Perm.refl _) ?_)
    · obtain ⟨h', tk, rfl, q⟩ := k3
      exact ⟨_, tk, rfl, fun b o e => s2.extBut b o (ne b o e) (q b o e)⟩
    · rw [List.size_toArray] at h2
      match rows, hlen with
      | [], _ => simp
      | [r], _ => simp
      | _ :: _ :: _, hl => simp at hl; omega
  · rw [if_neg h2, if_neg h2]
    rw [List.size_toArray] at h2
    have hli : ∀ (i : Nat), i < rows.length → LI s₀.heap (vs.getD i Value.none) (rows.getD i []) := fun i hi => by
      refine Paired.get hr i _ _ ?_ ?_
      · simp [show i < vs.length by omega]
      · simp [hi]
    refine wpAny_bind (kas_kind (T := .type "list") (by omega) (fun v hv => ?_) rfl rfl ?_)
    · obtain ⟨i, hi, rfl⟩ := List.getElem_of_mem hv
      obtain ⟨us, ⟨b, e, m, hb⟩, _⟩ := hli i (by omega)
      have e' : vs[i] = .ref b := by rw [← e]; simp [hi]
      rw [e']
      intro A' Q' E' s' k' q'
      exact wpAny_typeOf (T := "list") ⟨_, k' _ _ (kp_get k3 _ _ hb), rfl⟩ q'
    have est : SortSt.mk' oneType' (vs.toArray.zip vs.toArray) #[] 7 none = kas_st oneType' (pairsOf vs) (List.toArray (List.range vs.length)) := by
      have e := kas_range (pairsOf vs)
      rw [pairsOf_size] at e
      show SortSt.mk' oneType' (pairsOf vs) #[] 7 none = SortSt.mk' oneType' ((List.toArray (List.range vs.length)).map (kas_item (pairsOf vs))) #[] 7 none
      rw [e]
    have hmem : ∀ i, i < rows.length → rows.getD i [] ∈ rows := fun i hi => by simp [hi]
    have run := kas_runs (prog := prog) (w := w) (A := A) (κ := oneType') (it := pairsOf vs) (E := E) (s := s₃)
      (Q := fun _ st' s' => ∃ p : Array Nat, p.size = vs.length ∧ arrOf st' = p.map (kas_item (pairsOf vs)) ∧ failedOf st' = none ∧ s' = s₃ ∧ Pm vs.length p ∧ Up (fun i => code (rows.getD i [])) p vs.length)
      (G := fun p s' => s' = s₃ ∧ Pm vs.length p ∧ Up (fun i => code (rows.getD i [])) p vs.length) (n := vs.length)
      (by omega) (by omega) (fun p' st' s' a1 a2 a3 a4 => ⟨p', a1, a2, a3, a4⟩)
      (sort_ok (n := vs.length) (key := fun i => code (rows.getD i [])) (Inv := fun s' => s' = s₃) (fun i j C s' hi hj hs' hC => by
          subst hs'
          show wpAny _ _ (keyLt' oneType' (kas_item (pairsOf vs) i).1 (kas_item (pairsOf vs) j).1) _ _ _
          rw [kas_item_eq, kas_item_eq, keyLt'_oneType]
          refine lt_rows ((hli i (by omega)).kp k3) ((hli j (by omega)).kp k3) hu ?_
          rw [hcode _ (hmem i (by omega)) _ (hmem j (by omega))]
          exact hC _ rfl)
        (fun i j hi hj e => by
          have hi' : i < (rows.map code).length := by simp; omega
          have hj' : j < (rows.map code).length := by simp; omega
          refine (List.getElem_inj (h₀ := hi') (h₁ := hj') hnd).mp ?_
          simpa [show i < rows.length by omega, show j < rows.length by omega] using e)
        (by omega) rfl fun p' s' a b c => ⟨a, b, c⟩)
    rw [← est] at run
    refine wpAny_bind (wpAny_mono run ?_ fun _ _ e => e)
    rintro ⟨⟨⟩, st'⟩ s' ⟨p, hp, har, hf, rfl, hpm, hup⟩
    dsimp only
    have hout : (arrOf st').map (·.2) = List.toArray (p.toList.map fun i => vs.getD i Value.none) := by
      apply Array.toList_inj.mp
      rw [har, Array.map_map, Array.toList_map]
      exact List.map_congr_left fun i _ => by show (kas_item (pairsOf vs) i).2 = _; rw [kas_item_eq]
    rw [hout]
    obtain ⟨c2, hc2⟩ : ∃ c2, (s'.heap.update a (Obj.mapSeq fun _ => List.toArray (p.toList.map fun i => vs.getD i Value.none))).get? a = some (seqObj "list" (List.toArray (p.toList.map fun i => vs.getD i Value.none)) c2) :=
      ⟨_, get?_update_seq ho3 fun _ => List.toArray (p.toList.map fun i => vs.getD i Value.none)⟩
    have s2 := Heap.SameBut.update s'.heap a (Obj.mapSeq fun _ => List.toArray (p.toList.map fun i => vs.getD i Value.none))
    refine wpAny_bind (seqEpoch_at ho3 rfl ?_)
    refine wpAny_bind (listUpdate_at ho3 rfl ?_ (Nat.zero_le _) (by rw [sizeLine_eq]; simp; omega))
    rw [hf]
    simp only [bne_self_eq_false, Bool.false_eq_true, if_false]
    have hplt : ∀ i ∈ p.toList, i < rows.length := fun i hi => by have := hpm.mem_iff.mp hi; simp at this; omega
    refine wpAny_pure (h _ _ c2 (p.toList.map fun i => rows.getD i []) ?_ hc2 ?_ ?_ ?_)
    · obtain ⟨h', tk, rfl, q⟩ := k3
      exact ⟨_, tk, rfl, fun b o e => s2.extBut b o (ne b o e) (q b o e)⟩
    · refine Paired.of_get (by simp) fun i x y hx hy => ?_
      simp only [List.getElem?_map, Option.map_eq_some_iff] at hx hy
      obtain ⟨c, hc, rfl⟩ := hx
      obtain ⟨d, hd, rfl⟩ := hy
      rw [hc] at hd
      cases hd
      exact hli c (hplt c (List.mem_of_getElem? hc))
    · have e := List.Perm.map (fun i => rows.getD i []) hpm
      refine e.trans ?_
      rw [hlen]
      have : (List.range rows.length).map (fun i => rows.getD i []) = rows := by
        apply List.ext_getElem (by simp)
        intro i h1 h2
        simp at h2 ⊢
        simp [h2]
      rw [this]
    · rw [List.map_map, List.pairwise_iff_getElem]
      intro i j hi hj hij
      have hi' : i < p.size := by simpa using hi
      have hj' : j < p.size := by simpa using hj
      have := hup i j (by omega) (by omega)
      unfold Kp at this
      simpa [Array.getD, hi', hj'] using this

theorem do_sorted_rows {v rows} {P : Value → Shared → Prop} (code : List Int → Int) (hu : A.units + 2 < cLine) (hv : LR s.heap v rows) (h64 : rows.length < 64)
    (hcode : ∀ r ∈ rows, ∀ r' ∈ rows, ltI r r' = decide (code r < code r')) (hnd : (rows.map code).Nodup)
    (h : ∀ r s' rows', Keeps s s' → LR s'.heap r rows' → rows'.Perm rows → (rows'.map code).Pairwise (· ≤ ·) → P r s') : Do w A (call (.builtin "sorted") [v]) P s := by
  obtain ⟨vs, ⟨l, rfl, hp⟩, hr⟩ := hv
  have hlen : vs.length = rows.length := hr.length
  intro E
  refine Calls.call_function_entry kind_sorted plain_sorted entry_sorted (args_sorted1 _) ?_
  unfold Builtin.«sorted»
  refine wpAny_bind (m := checkCount "sorted" 1 1 _) (wpAny_pure ?_)
  refine wpAny_bind (collect_list hp.isList ?_ (by rw [sizeLine_eq]; omega))
  refine wpAny_bind (wpAny_newList ?_ (by rw [sizeLine_eq]; omega))
  have hsz : ((s.heap.push (seqObj "list" #[] 0)).update s.heap.objs.size (Obj.mapSeq (· ++ vs.toArray))).objs.size = s.heap.objs.size + 1 := by
    rw [Heap.size_update, size_push']
  have hoL : (((s.heap.push (seqObj "list" #[] 0)).update s.heap.objs.size (Obj.mapSeq (· ++ vs.toArray))).push (seqObj "list" vs.toArray 0)).get? (s.heap.objs.size + 1) = some (seqObj "list" vs.toArray 0) := by
    rw [← hsz]; exact Heap.get?_push_size _ rfl
  have keep : ∀ b o, s.heap.get? b = some o → (((s.heap.push (seqObj "list" #[] 0)).update s.heap.objs.size (Obj.mapSeq (· ++ vs.toArray))).push (seqObj "list" vs.toArray 0)).get? b = some o := fun b o q => by
    have hlt : b < s.heap.objs.size := Heap.lt_size q
    rw [Heap.get?_push_ne _ _ _ (by rw [hsz]; exact Nat.ne_of_lt (Nat.lt_succ_of_lt hlt)), Heap.get?_update_ne _ _ _ _ (Nat.ne_of_lt hlt), Heap.get?_push_ne _ _ _ (Nat.ne_of_lt hlt)]
    exact q
  show wpAny _ _ _ _ _ { s with heap := ((s.heap.push (seqObj "list" #[] 0)).update s.heap.objs.size (Obj.mapSeq (· ++ vs.toArray))).push (seqObj "list" vs.toArray 0) }
  rw [hsz]
  refine wpAny_bind (wpAny_holding (wpAny_call_entry slot_list_sort ⟨_, hoL, rfl⟩ entry_list_sort ?_ (args_list_sort _)))
  refine sort_rows_tree (s₀ := s) code (show A.units + 1 + 1 < cLine by omega) (kp_heap' keep) (Heap.get?_none_of_le (Nat.le_succ _)) hoL hr h64 hcode hnd fun s' out e rows' kk ho' hr' hpm hpw => ⟨_, rfl, ?_⟩
  exact wpAny_pure ⟨_, rfl, kk, h _ s' rows' kk ⟨out, ⟨_, rfl, e, ho'⟩, hr'.mono fun _ _ x => x.kp kk⟩ hpm hpw⟩
end
end Mine

namespace Mine

section
variable {w : World} {A : Around} {s : Shared}

theorem sort_key_tree {s₀ : Shared} {a q : Addr} {n : Nat} {vs : List Value} {ss : List Str} {P : PySem.Fin → Shared → Prop} {E}
    (k0 : Keeps s₀ s) (ha0 : s₀.heap.get? a = none) (ho : s.heap.get? a = some (seqObj "list" vs.toArray n)) (hS : StrsAre vs ss) (h64 : vs.length < 64)
    (turn : ∀ v ∈ vs, ∀ s', Keeps s₀ s' → Do w A (call (.ref q) [v]) (fun r _ => r = v) s')
    (h : ∀ s' out e ss', Keeps s₀ s' → s'.heap.get? a = some (seqObj "list" out e) → StrsAre out.toList ss' → ss'.Perm ss → sortedS ss' = true → P (.done (.ret .none)) s') :
    wpAny (model prog w) A (ksk_tree a (.ref q) false) P E s := by
  have ha : a < s.heap.objs.size := Heap.lt_size ho
  have s1 := Heap.SameBut.update s.heap a (Obj.mapSeq fun _ => (#[] : Array Value))
  obtain ⟨e1, ho1⟩ : ∃ e1, (s.heap.update a (Obj.mapSeq fun _ => (#[] : Array Value))).get? a = some (seqObj "list" #[] e1) := ⟨_, get?_update_seq ho fun _ => #[]⟩
  have ne : ∀ b o, s₀.heap.get? b = some o → b ≠ a := fun b o e q => by rw [q, ha0] at e; cases e
  unfold ksk_tree
  refine wpAny_bind (listItems_at ho rfl ?_)
  refine wpAny_bind (listUpdate_at ho rfl ?_ (by rw [List.size_toArray, sizeLine_eq]; omega) (Nat.zero_le _))
  refine wpAny_bind (seqEpoch_at ho1 rfl ?_)
  refine wpAny_bind (wpAny_newTuple ?_ (by show vs.length ≤ _; rw [sizeLine_eq]; omega))
  refine wpAny_bind (wpAny_newList ?_ (Nat.zero_le _))
  refine wpAny_holding ?_
  have hkS : ((s.heap.update a (Obj.mapSeq fun _ => (#[] : Array Value))).push (seqObj "tuple" vs.toArray 0)).objs.size = s.heap.objs.size + 1 := by rw [size_push', Heap.size_update]
  generalize hs3 : ({ s with heap := ((s.heap.update a (Obj.mapSeq fun _ => (#[] : Array Value))).push (seqObj "tuple" vs.toArray 0)).push (seqObj "list" #[] 0) } : Shared) = s₃
  generalize hkd : ((s.heap.update a (Obj.mapSeq fun _ => (#[] : Array Value))).push (seqObj "tuple" vs.toArray 0)).objs.size = kS at hkS
  have ho3 : s₃.heap.get? a = some (seqObj "list" #[] e1) := by rw [← hs3]; exact Heap.get?_push_of_some _ (Heap.get?_push_of_some _ ho1)
  have hk3 : s₃.heap.get? kS = some (seqObj "list" #[] 0) := by rw [← hs3, ← hkd]; exact Heap.get?_push_size _ rfl
  have k3 : Keeps s₀ s₃ := by
    rw [← hs3]
    obtain ⟨h', tk, rfl, q⟩ := k0
    exact ⟨_, tk, rfl, fun b o e => Heap.get?_push_of_some _ (Heap.get?_push_of_some _ (s1.extBut b o (ne b o e) (q b o e)))⟩
  have hka : kS ≠ a := by rw [hkS]; exact Nat.ne_of_gt (Nat.lt_succ_of_lt ha)
  have hk0 : s₀.heap.get? kS = none := by
    cases e : s₀.heap.get? kS with
    | none => rfl
    | some o => have : @LT.lt Nat _ kS s.heap.objs.size := Heap.lt_size (kp_get k0 _ _ e); omega
  have nk : ∀ b o, s₀.heap.get? b = some o → b ≠ kS := fun b o e q => by rw [q, hk0] at e; cases e
  show wpAny (model prog w) A (ksk_rest a (.ref q) false vs.toArray e1 (.ref kS)) P E s₃
  unfold ksk_rest
  refine wpAny_bind (wpAny_rule ?_)
  first
    | rw [List.forIn_toArray]
    | (rw [← Array.forIn_toList]; simp only [List.toList_toArray])
    | rw [← Array.forIn_toList]
  refine wpAny_bind (ksk_fold (fun i s' => ∃ e, Keeps s₀ s' ∧ s'.heap.get? kS = some (seqObj "list" (vs.take i).toArray e) ∧ s'.heap.get? a = some (seqObj "list" #[] e1)) vs 0 s₃ ⟨0, k3, by simpa using hk3, ho3⟩ ?step ?done)
  case step =>
    rintro j x s' hx ⟨e, k', hk', ha'⟩
    simp only [Nat.zero_add] at hk' ⊢
    have hj : j < vs.length := (List.getElem?_eq_some_iff.mp hx).1
    refine wpAny_bind (wpAny_attempt ((turn x (List.mem_of_getElem? hx) s' k').use fun r s'' k'' hr => ?_))
    subst hr
    dsimp only
    have hk2 := kp_get k'' _ _ hk'
    have ha2 := kp_get k'' _ _ ha'
    have s4 := Heap.SameBut.update s''.heap kS (Obj.mapSeq (·.push r))
    obtain ⟨c2, hc2⟩ : ∃ c2, (s''.heap.update kS (Obj.mapSeq (·.push r))).get? kS = some (seqObj "list" ((vs.take j).toArray.push r) c2) := ⟨_, get?_update_seq hk2 (·.push r)⟩
    refine wpAny_bind (listUpdate_at hk2 rfl ?_ (by rw [sizeLine_eq]; simp; omega) (by rw [sizeLine_eq]; simp; omega))
    refine wpAny_pure ⟨rfl, c2, ?_, ?_, (s4.2 a hka.symm).trans ha2⟩
    · obtain ⟨h', tk, rfl, q⟩ := kp_trans k' k''
      exact ⟨_, tk, rfl, fun b o e => s4.extBut b o (nk b o e) (q b o e)⟩
    · rw [List.take_add_one, hx]
      simpa using hc2
  case done =>
    rintro s₄ ⟨e, k4, hk4, ha4⟩
    rw [Nat.zero_add, List.take_of_length_le (Nat.le_refl _)] at hk4
    refine wpAny_bind (listItems_at hk4 rfl ?_)
    have tail : ∀ st' : SortSt, (arrOf st').Perm (pairsOf vs) → failedOf st' = none → SortedToK strKind (arrOf st') (pairsOf vs).size → wpAny (model prog w) A (ksk_tail a false e1 (.ref kS) st') P E s₄ := by
      intro st' hp hf hs
      obtain ⟨ss', x1, x2, x3⟩ := sorted_out_str hS hp hs
      have hsz2 : ((arrOf st').map (·.2)).size = vs.length := by rw [Array.size_map, hp.size_eq, pairsOf_size]
      unfold ksk_tail
      dsimp only
      generalize hout : (arrOf st').map (·.2) = out at x1 hsz2 ⊢
      have s5 := Heap.SameBut.update s₄.heap kS (Obj.mapSeq fun _ => (#[] : Array Value))
      have ha5 : (s₄.heap.update kS (Obj.mapSeq fun _ => (#[] : Array Value))).get? a = some (seqObj "list" #[] e1) := (s5.2 a hka.symm).trans ha4
      obtain ⟨c2, hc2⟩ : ∃ c2, ((s₄.heap.update kS (Obj.mapSeq fun _ => (#[] : Array Value))).update a (Obj.mapSeq fun _ => out)).get? a = some (seqObj "list" out c2) :=
        ⟨_, get?_update_seq ha5 fun _ => out⟩
      have s6 := Heap.SameBut.update (s₄.heap.update kS (Obj.mapSeq fun _ => (#[] : Array Value))) a (Obj.mapSeq fun _ => out)
      refine wpAny_bind (listUpdate_at hk4 rfl ?_ (by rw [sizeLine_eq]; simp; omega) (Nat.zero_le _))
      refine wpAny_bind (wpAny_letGo ?_)
      refine wpAny_bind (seqEpoch_at ha5 rfl ?_)
      rw [hf]
      simp only [bne_self_eq_false, Bool.false_eq_true, if_false]
      refine wpAny_bind (listUpdate_at ha5 rfl ?_ (Nat.zero_le _) (by show out.size ≤ _; rw [hsz2, sizeLine_eq]; omega))
      refine wpAny_pure (h _ _ c2 ss' ?_ hc2 x1 x2 x3)
      obtain ⟨h', tk, rfl, q⟩ := k4
      exact ⟨_, tk, rfl, fun b o e => s6.extBut b o (ne b o e) (s5.extBut b o (nk b o e) (q b o e))⟩
    show wpAny (model prog w) A (ksk_end a false vs.toArray e1 (.ref kS) vs.toArray) P E s₄
    unfold ksk_end
    dsimp only
    simp only [Bool.false_eq_true, if_false]
    by_cases h2 : vs.toArray.size < 2
    · rw [if_pos h2, if_pos h2]
      refine wpAny_bind (wpAny_pure ?_)
      rw [StateT.run_pure]
      refine wpAny_bind (wpAny_pure ?_)
      dsimp only
      refine tail (SortSt.mk' general' (vs.toArray.zip vs.toArray) #[] 7 none) (Array.Perm.refl _) rfl ?_
      intro i j hij hj
      rw [List.size_toArray] at h2
      have : i = j := by rw [pairsOf_size] at hj; omega
      subst this; exact KeyOrd.kle_refl _
    · rw [if_neg h2, if_neg h2]
      rw [List.size_toArray] at h2
      obtain ⟨v₁, v₂, rest, rfl⟩ : ∃ v₁ v₂ rest, vs = v₁ :: v₂ :: rest := by
        match vs, h2 with
        | [], h2 => simp at h2
        | [_], h2 => simp at h2
        | v₁ :: v₂ :: rest, _ => exact ⟨v₁, v₂, rest, rfl⟩
      rw [keyKind_strs hS]
      refine wpAny_bind (wpAny_pure ?_)
      refine wpAny_bind (wpAny_mono (wpS_sortRunsK (κ := strKind) strKind_oneLt (a₀ := pairsOf (v₁ :: v₂ :: rest)) (st := SortSt.mk' oneType' ((v₁ :: v₂ :: rest).toArray.zip (v₁ :: v₂ :: rest).toArray) #[] 7 none)
        (Q := fun _ st' => (arrOf st').Perm (pairsOf (v₁ :: v₂ :: rest)) ∧ failedOf st' = none ∧ SortedToK strKind (arrOf st') (pairsOf (v₁ :: v₂ :: rest)).size)
        hS.keysOf ⟨Array.Perm.refl _, rfl, rfl, rfl⟩ (by rw [pairsOf_size]; simp) (by rw [pairsOf_size]; exact h64) fun st' a1 a2 a3 => ⟨a1, a2, a3⟩) ?_ fun _ _ e => e)
      rintro ⟨⟨⟩, st'⟩ s' ⟨rfl, hp, hf, hs⟩
      dsimp only
      exact tail st' hp hf hs

theorem do_sorted_key {v ss} {q : Addr} {P : Value → Shared → Prop} (hv : LS s.heap v ss) (h64 : ss.length < 64)
    (turn : ∀ x t, ∀ s', Keeps s s' → Do w A.in1.in1 (call (.ref q) [.str x t]) (fun r _ => r = .str x t) s')
    (h : ∀ r s' ss', Keeps s s' → LS s'.heap r ss' → ss'.Perm ss → sortedS ss' = true → P r s') : Do w A (call (.builtin "sorted") [v] [("key", .ref q)]) P s := by
  obtain ⟨vs, ⟨l, rfl, hp⟩, hS⟩ := hv
  have hlen : vs.length = ss.length := hS.length
  intro E
  refine call_function_entry_kw kind_sorted plain_sorted entry_sorted (ksk_s1 _ _) ?_
  unfold Builtin.«sorted»
  refine wpAny_bind (m := checkCount "sorted" 1 1 _) (wpAny_pure ?_)
  refine wpAny_bind (collect_list hp.isList ?_ (by rw [sizeLine_eq]; omega))
  refine wpAny_bind (wpAny_newList ?_ (by rw [sizeLine_eq]; omega))
  have hsz : ((s.heap.push (seqObj "list" #[] 0)).update s.heap.objs.size (Obj.mapSeq (· ++ vs.toArray))).objs.size = s.heap.objs.size + 1 := by
    rw [Heap.size_update, size_push']
  have hoL : (((s.heap.push (seqObj "list" #[] 0)).update s.heap.objs.size (Obj.mapSeq (· ++ vs.toArray))).push (seqObj "list" vs.toArray 0)).get? (s.heap.objs.size + 1) = some (seqObj "list" vs.toArray 0) := by
    rw [← hsz]; exact Heap.get?_push_size _ rfl
  have keep : ∀ b o, s.heap.get? b = some o → (((s.heap.push (seqObj "list" #[] 0)).update s.heap.objs.size (Obj.mapSeq (· ++ vs.toArray))).push (seqObj "list" vs.toArray 0)).get? b = some o := fun b o q => by
    have hlt : b < s.heap.objs.size := Heap.lt_size q
    rw [Heap.get?_push_ne _ _ _ (by rw [hsz]; exact Nat.ne_of_lt (Nat.lt_succ_of_lt hlt)), Heap.get?_update_ne _ _ _ _ (Nat.ne_of_lt hlt), Heap.get?_push_ne _ _ _ (Nat.ne_of_lt hlt)]
    exact q
  show wpAny _ _ _ _ _ { s with heap := ((s.heap.push (seqObj "list" #[] 0)).update s.heap.objs.size (Obj.mapSeq (· ++ vs.toArray))).push (seqObj "list" vs.toArray 0) }
  rw [hsz]
  refine wpAny_bind (wpAny_holding (wpAny_call_entry_kw slot_list_sort ⟨_, hoL, rfl⟩ entry_list_sort ?_ (ksk_l1 _ _)))
  rw [ksk_t1]
  refine sort_key_tree (s₀ := s) (kp_heap' keep) (Heap.get?_none_of_le (Nat.le_succ _)) hoL hS (by omega) (fun x hx s' k' => ?_) fun s' out e ss' kk ho' hS' hpm hsr => ⟨_, rfl, ?_⟩
  · obtain ⟨y, t, rfl⟩ := hS.all x hx
    exact turn y t s' k'
  · exact wpAny_pure ⟨_, rfl, kk, h _ s' ss' kk ⟨out.toList, ⟨_, rfl, e, by simpa using ho'⟩, hS'⟩ hpm hsr⟩
end
end Mine

namespace Mine

theorem eqvAll_strs : ∀ ss rr : List Str, PyData.eqvAll (ss.map PyData.str) (rr.map PyData.str) = decide (ss = rr)
  | [], [] => by simp [PyData.eqvAll]
  | [], _ :: _ => by simp [PyData.eqvAll]
  | _ :: _, [] => by simp [PyData.eqvAll]
  | a :: x, b :: y => by
    simp only [List.map_cons, PyData.eqvAll, eqvAll_strs x y, PyData.eqv, List.cons.injEq]
    by_cases h : a = b <;> by_cases h' : x = y <;> simp [h, h']

section
variable {w : World} {A : Around} {s : Shared}
theorem reads_LI {h v ns} (p : LI h v ns) : ∃ as, Reads h v (.list (ns.map .int)) as := by
  obtain ⟨vs, ⟨a, rfl, hp⟩, hI⟩ := p
  exact ⟨_, reads_of_ints hp.isList hI⟩
theorem reads_LS {h v ss} (p : LS h v ss) : ∃ as, Reads h v (.list (ss.map .str)) as := by
  obtain ⟨vs, ⟨a, rfl, hp⟩, hS⟩ := p
  obtain ⟨o, ho, hc, n, hd⟩ := hp.isList
  exact ⟨_, .list ho hc hd (by simpa using hS.reads h)⟩
theorem do_ne_ints {u v ns ms} {P : Value → Shared → Prop} (hu : LI s.heap u ns) (hv : LI s.heap v ms) (hr : A.units + 64 < cLine) (h : P (.bool (!decide (ns = ms))) s) : Do w A (compareOp .NotEq u v) P s := by
  obtain ⟨vs, ⟨a, rfl, hp⟩, hI⟩ := hu
  obtain ⟨us, ⟨b, rfl, hq⟩, hJ⟩ := hv
  exact fun E => ne_intsK hp.isList hI hq.isList hJ hr ⟨kp_refl _, h⟩
theorem do_ne_strs {u v ss rr} {P : Value → Shared → Prop} (hu : LS s.heap u ss) (hv : LS s.heap v rr) (hr : A.units + 64 < cLine) (h1 : ∀ x ∈ ss, PyData.strOk x = true) (h2 : ∀ x ∈ rr, PyData.strOk x = true) (h : P (.bool (!decide (ss = rr))) s) : Do w A (compareOp .NotEq u v) P s := by
  obtain ⟨as, ra⟩ := reads_LS hu
  obtain ⟨bs, rb⟩ := reads_LS hv
  have lay : ∀ l : List Str, (∀ x ∈ l, PyData.strOk x = true) → PyData.canLay0 (.list (l.map .str)) = true := fun l hl => by
    show PyData.canLayAll0 (l.map .str) = true
    rw [canLayAll_strs']
    simpa using hl
  refine fun E => SeqAt.compareNe_reads ra rb (lay _ h1) (lay _ h2) ?_ ⟨kp_refl _, ?_⟩
  · have : min (PyData.depth (.list (ss.map .str))) (PyData.depth (.list (rr.map .str))) ≤ 1 := by
      refine Nat.le_trans (Nat.min_le_left ..) ?_
      show PyData.depthAll (ss.map .str) + 1 ≤ 1
      rw [depthAll_strs']; exact Nat.le_refl _
    omega
  · have e : PyData.eqv (.list (ss.map .str)) (.list (rr.map .str)) = decide (ss = rr) := by
      show PyData.eqvAll _ _ = _
      exact eqvAll_strs ss rr
    rw [e]; exact h
theorem do_notin {v ns k t} {P : Value → Shared → Prop} (hv : LI s.heap v ns) (h : P (.bool (!(ns.any (· == k)))) s) : Do w A (compareOp .NotIn (.int k t) v) P s := by
  obtain ⟨vs, ⟨a, rfl, hp⟩, hI⟩ := hv
  exact fun E => notin_list_ints hp.isList hI ⟨kp_refl _, h⟩
theorem do_len_list {v vs} {P : Value → Shared → Prop} (hv : PL s.heap v vs) (hz : vs.length ≤ 16777216) (h : ∀ t tk, P (.int vs.length t) { s with toks := tk }) : Do w A (call (.builtin "len") [v]) P s := by
  obtain ⟨a, rfl, hp⟩ := hv
  exact fun E => len_list hp.isList (by simp; omega) ⟨kp_tok _, by simpa using h _ _⟩
theorem do_type_int {n t} {P : Value → Shared → Prop} (h : P (.type "int") s) : Do w A (call (.type "type") [.int n t]) P s := fun E => call_type_of (typeIs_int s n t) (by decide) ⟨kp_refl _, h⟩
theorem do_isnot_int {P : Value → Shared → Prop} (h : P (.bool false) s) : Do w A (compareOp .IsNot (.type "int") (.type "int")) P s := fun E => wpAny_isNot_self rfl ⟨kp_refl _, h⟩

theorem mul_list_base {l : Addr} {items : Array Value} {k : Nat} {x : Int} {u : Tok} {E} {Q : Value → Shared → Prop} (hl : s.heap.get? l = some { cls := .type "list", dict := none, data := .seq items k, slots := #[] })
    (hlo : -(2 ^ 63 : Int) ≤ x) (hhi : x < 2 ^ 63) (hsz : items.size * x.toNat ≤ 2 ^ 24)
    (h : Q (.ref s.heap.objs.size) { s with heap := s.heap.push { cls := .type "list", data := .seq (List.foldl (fun x1 x2 => x1 ++ x2) #[] (List.replicate (if items.isEmpty = true then 0 else x.toNat) items)) } }) :
    wpAny (model prog w) A (binaryOp .Mult (.ref l) (.int x u)) Q E s :=
  wpAny_binaryOp_repeat_ref (T := "list") (U := "int") (by decide) ⟨_, hl, rfl⟩ (fun s' => typeIs_int s' x u) noFill_list_mul F.fills_int_mul F.slot_int_rmul repeat_list F.slot_int_index.lookup
    (call_meets F.slot_int_rmul (typeIs_int s x u) F.entry_int_rmul (F.args_int_rmul_2 _ _) (int___rmul___int_list x u l items k)
      ⟨hl, rfl, ⟨_, hl, rfl⟩, call_meets F.slot_list_mul ⟨_, hl, rfl⟩ F.entry_list_mul (F.args_list_mul_2 _ _)
        (AutoListH.list___mul___list_int_3 l items k x u (by simp [Builtin.List.listFitsIndex]; omega) (by omega) (by simp [Builtin.List.listTooLong, sizeLine]; omega)) ⟨hl, h⟩⟩)
theorem do_mul_list {v vs u} {k : Nat} {P : Value → Shared → Prop} (hv : PL s.heap v vs) (h0 : vs ≠ []) (hz : vs.length * k ≤ 16777216) (hk : k < 16777216) (h : ∀ r s', Keeps s s' → PL s'.heap r (List.replicate k vs).flatten → P r s') : Do w A (binaryOp .Mult v (.int k u)) P s := by
  obtain ⟨a, rfl, n, ha⟩ := hv
  intro E
  refine mul_list_base ha (by omega) (by omega) (by simpa using hz) ?_
  have e : (List.foldl (fun x1 x2 => x1 ++ x2) #[] (List.replicate (if vs.toArray.isEmpty = true then 0 else (k : Int).toNat) vs.toArray)) = (List.replicate k vs).flatten.toArray := by
    rw [if_neg (by simpa using h0)]
    have : ∀ (m : Nat) (acc : Array Value), List.foldl (fun x1 x2 => x1 ++ x2) acc (List.replicate m vs.toArray) = acc ++ (List.replicate m vs).flatten.toArray := by
      intro m
      induction m with
      | zero => intro acc; simp
      | succ m ih => intro acc; rw [List.replicate_succ, List.foldl_cons, ih, List.replicate_succ, List.flatten_cons]; simp
    rw [this]; simp
  refine ⟨kp_push _, h _ _ (kp_push _) ⟨_, rfl, 0, ?_⟩⟩
  rw [← e]
  exact Heap.get?_push_size _ rfl

theorem do_index {env o e apos pos} {P : Value → Shared → Prop} (hb : attributeBase o "index" env (eval o env) = eval o env) (hs : starEach [e] env = [(false, eval e env)]) (hl : (apos.endLine == pos.line) = true)
    (h : Do w A (eval o env) (fun v s₁ => ∃ ns, LI s₁.heap v ns ∧ ns.length ≤ 100 ∧ (∀ n ∈ ns, n.natAbs < 16 ^ 6) ∧ Do w A (eval e env) (fun x s₂ => ∃ k t, x = .int k t ∧ k ∈ ns ∧ ∀ t tk, P (.int (List.idxOf k ns) t) { s₂ with toks := tk }) s₁) s) :
    Do w A (eval (.Call (.Attribute o "index" apos) [e] [] pos) env) P s := by
  intro E
  refine Call_method1 hb hs hl (h.use fun v s₁ k1 h1 => ?_)
  obtain ⟨ns, ⟨vs, ⟨a, rfl, n, ha⟩, hI⟩, hlen, hbd, h2⟩ := h1
  refine ⟨"list", "list.index", F.plainAttrs_list, F.slot_list_index, F.type_list_index, ⟨_, ha, rfl⟩, fun b eb => ?_, ?_⟩
  · cases eb; exact ⟨_, ha, rfl⟩
  · refine PySem.P.index_list (h2.use fun x s₂ k2 h3 => ?_)
    obtain ⟨k, t, rfl, hk, h4⟩ := h3
    have hlv := hI.length
    have hj : List.idxOf k ns < ns.length := List.idxOf_lt_length_iff.mpr hk
    refine ⟨vs.toArray, n, isInt k, List.idxOf k ns, by simp; omega, kp_get k2 _ _ ha, fun y hy => eq_isInt k t hI y (by simpa using hy), by omega, ?_, ?_, kp_trans k1 (kp_trans k2 (kp_tok _)), h4 _ _⟩
    · obtain ⟨t', e'⟩ := (intsAre_get hI (List.idxOf k ns)).1 k (by simp [hj])
      have : vs[List.idxOf k ns]'(by omega) = .int k t' := by
        have := List.getElem?_eq_some_iff.mp e'
        exact this.2
      simp [this, isInt]
    · intro m hm hmj
      have hm' : m < ns.length := by omega
      obtain ⟨t', e'⟩ := (intsAre_get hI m).1 ns[m] (by simp [hm'])
      have : vs[m]'(by omega) = .int ns[m] t' := (List.getElem?_eq_some_iff.mp e').2
      have hne : ns[m] ≠ k := fun q => by
        have := List.not_of_lt_findIdx (p := (· == k)) (show m < List.findIdx (· == k) ns from hmj)
        simp [q] at this
      simpa [this, isInt] using hne
end
end Mine

namespace Mine

theorem turn_two0 (elt t0 i0 t1 i1 : Expr) (scope : Scope) (pos : Pos) (it acc : Value) (env : Env) :
    compTurn (.ListComp elt [⟨t0, i0, [], 0⟩, ⟨t1, i1, [], 0⟩] scope pos) 0 it acc env = (do
      standAt i0.pos
      match ← pyNext it with
      | none => pure (.done .next)
      | some v =>
        letOwnedTupleGo t0 it v
        assign t0 env v
        (do
          let x ← eval i1 env
          standAt i1.pos
          let x ← foldedSetIterable i1 env x
          let _ ← runOwn (.compStart (.ListComp elt [⟨t0, i0, [], 0⟩, ⟨t1, i1, [], 0⟩] scope pos) 1 (← holding [x] (pyIter x)) acc env) env
          again (.compLoop (.ListComp elt [⟨t0, i0, [], 0⟩, ⟨t1, i1, [], 0⟩] scope pos) 0 it acc env))) := by rfl
theorem turn_two1 (elt t0 i0 t1 i1 : Expr) (scope : Scope) (pos : Pos) (it acc : Value) (env : Env) :
    compTurn (.ListComp elt [⟨t0, i0, [], 0⟩, ⟨t1, i1, [], 0⟩] scope pos) 1 it acc env = (do
      standAt i1.pos
      match ← pyNext it with
      | none => pure (.done .next)
      | some v =>
        letOwnedTupleGo t1 it v
        assign t1 env v
        ((do let _ ← call (.builtin "list.append") [acc, ← eval elt env] : Sem Unit) >>= fun _ =>
          again (.compLoop (.ListComp elt [⟨t0, i0, [], 0⟩, ⟨t1, i1, [], 0⟩] scope pos) 1 it acc env))) := by rfl
section
variable {w : World} {A : Around} {s : Shared} {env : Env}
theorem start_two1 {elt t0 i0 t1 i1 scope pos it acc R}
    (h0 : codeAny (model prog w) A (.compLoop (.ListComp elt [⟨t0, i0, [], 0⟩, ⟨t1, i1, [], 0⟩] scope pos) 1 it acc env) R s)
    (h : wpAny (model prog w) A (pyIter it) (fun it' s' => codeAny (model prog w) A (.compLoop (.ListComp elt [⟨t0, i0, [], 0⟩, ⟨t1, i1, [], 0⟩] scope pos) 1 it' acc env) R s')
      (notedBy (model prog w) A env fun x s' => R (.error x) s') s) :
    codeAny (model prog w) A (.compStart (.ListComp elt [⟨t0, i0, [], 0⟩, ⟨t1, i1, [], 0⟩] scope pos) 1 it acc env) R s := by
  refine codeAny_of_tree ?_
  show wpAny _ _ ((compStart (.ListComp elt [⟨t0, i0, [], 0⟩, ⟨t1, i1, [], 0⟩] scope pos) 1 it acc env).onRaise (fun x => do noteFrame x env; standAt theWindowsPlace)) _ _ s
  refine wpAny_notedAt ?_
  unfold compStart
  show wpAny _ _ (ask >>= _) _ _ s
  refine wpAny_bind (wpAny_askSetting (wpAny_ite ?_))
  split
  · first
      | exact wpAny_bind (wpAny_pure (wpAny_pure (And.intro rfl h0)))
      | exact wpAny_pure (And.intro rfl h0)
  · first
      | exact wpAny_bind (wpAny_rule (wpAny_bind (wpAny_standAt (wpAny_bind (wpAny_mono h (fun it' s' h' => wpAny_pure (And.intro rfl h')) fun _ _ x => x)))))
      | (refine wpAny_bind (wpAny_rule ?_); show wpAny _ _ (standAt i1.pos >>= _) _ _ s; exact wpAny_bind (wpAny_standAt (wpAny_bind (wpAny_mono h (fun it' s' h' => wpAny_pure (And.intro rfl h')) fun _ _ x => x))))

theorem iter_list' {s₁ : Shared} {a : Addr} {vs : List Value} (hh : A.handled = none) (hp : s₁.heap.PlainList a vs.toArray) : Do w A (pyIter (.ref a)) (fun it s₂ => ∃ I St, s₁.heap.get? I = none ∧ (∀ x px (cenv : Env), cenv.locals ∉ [I, a] → cenv.kindOf x = some .local → cenv.scope.kind = .function →
    Turns w A (.Name x px) cenv it [I, a] [I] vs.length (fun i m m' => ∃ v, vs[i]? = some v ∧ m' = fun y => if y = x then some v else m y) St) ∧ St 0 s₂.heap) s₁ := by
  intro E
  have hal : @LT.lt Nat _ a s₁.heap.objs.size := by obtain ⟨n, e⟩ := hp; exact Heap.lt_size e
  refine wpAny_pyIter_list hp.isList ⟨kp_push _, s₁.heap.objs.size, fun i h => h.IsListIter s₁.heap.objs.size a i ∧ h.IsList a vs.toArray, Heap.get?_none_of_le (Nat.le_refl _), fun x px cenv hC hx hk => ?_, ?_⟩
  · have W := Walks.list (prog := prog) (w := w) hh s₁.heap.objs.size a (Nat.ne_of_lt hal) vs.toArray
    rw [List.size_toArray] at W
    have := turns_name (px := px) W hx hk hC
    simpa using this
  · exact ⟨⟨_, Heap.get?_push_size _ rfl, rfl, rfl⟩, (hp.at fun o e => Heap.get?_push_of_some _ e).isList⟩
theorem do_list' {env elts pos} {P : Value → Shared → Prop} (h : Do w A (spliced (backTo pos (starEach elts env))) (fun vs s₁ => vs.length ≤ 16777216 ∧ ∀ a s', Keeps s₁ s' → s.heap.get? a = none → s'.heap.PlainList a vs.toArray → P (.ref a) s') s) : Do w A (eval (.List elts pos) env) P s :=
  fun _ => List_ (h.use fun vs s₁ k1 h1 => wpAny_newList ⟨kp_trans k1 (kp_push _), h1.2 _ _ (kp_push _) (fresh_of k1 (Nat.le_refl _)) ⟨0, Heap.get?_push_size _ rfl⟩⟩ (by rw [sizeLine_eq]; exact h1.1))

def SrcOk2 (w : World) (A : Around) (s : Shared) (env : Env) (scope : Scope) (cl : List (Str × Addr)) (target : Expr) (i1 : Expr) (g : Nat → List Value → Prop) (n : Nat) (it : Value) (s₂ : Shared) : Prop :=
  ∃ fp wr upd St, (∀ C, C ∉ fp → Turns w A target (compEnvC scope cl C env) it fp wr n upd St) ∧ n ≤ 1048576 ∧ St 0 s₂.heap ∧ (∀ b ∈ fp, b < s₂.heap.objs.size) ∧ (∀ b ∈ wr, s.heap.get? b = none) ∧
    (∀ C i m m' s₃, i < n → upd i m m' → s₃.heap.Ns C m' → Keeps s s₃ →
      Do w A (eval i1 (compEnvC scope cl C env)) (fun xv s₄ => ∃ a us, xv = .ref a ∧ s₃.heap.get? a = none ∧ s₄.heap.PlainList a us.toArray ∧ us.length ≤ 3 ∧ g i us) s₃)

theorem comp2_core {t0 i0 y py py' i1 scope pos cl} {s₂ : Shared} {n : Nat} {it : Value} (g : Nat → List Value → Prop) (hh : A.handled = none) (hg : ∀ i us, g i us → us.length ≤ 3)
    (hcell : ∀ y ∈ scope.names, y.2 ≠ .cell) (hkind : scope.kind = .function) (hy : scope.names.lookup y = some .local) (hdy : (y == ("__debug__" : Str)) = false) (hs1 : ∀ cenv x, foldedSetIterable i1 cenv x = pure x)
    (h02 : Keeps s s₂) (S : SrcOk2 w A s env scope cl t0 i1 g n it s₂) {E} {RR : Value → Addr → Result → Shared → Prop}
    (hRR : ∀ D C s' m' (yss : List (List Value)), s.heap.get? D = none → s.heap.get? C = none → D ≠ C → s'.heap.Ns C m' → s'.heap.PlainList D yss.flatten.toArray → Keeps s s' → yss.length = n → (∀ i us, yss[i]? = some us → g i us) → RR (.ref D) C (.ok .next) s') :
    wpAny (model prog w) A (newList []) (fun acc s₃ => wpAny (model prog w) A (newFunctionEnv scope env.globals cl [] env.qual none .none (some env)) (fun cenv s₄ =>
      codeAny (model prog w) A (.compStart (.ListComp (.Name y py') [⟨t0, i0, [], 0⟩, ⟨.Name y py, i1, [], 0⟩] scope pos) 0 it acc { cenv with scope := relabel scope env }) (RR acc cenv.locals) s₄) E s₃) E s₂ := by
  obtain ⟨fp, wr, upd, St, hT, hn, hst, hfp, hwr, turn⟩ := S
  refine wpAny_newObj_type (wpAny_newFunctionEnv hcell (by intro y hy; simp at hy) (fun h₁ hns₁ hsb₁ => ?_) hkind)
  dsimp only at hns₁ hsb₁ ⊢
  generalize hH2 : s₂.heap.push { cls := .type "list", dict := none, data := .seq ([] : List Value).toArray } = H2 at hns₁ hsb₁ ⊢
  have hCs : H2.objs.size = s₂.heap.objs.size + 1 := by rw [← hH2, Heap.size_push]
  generalize hD : s₂.heap.objs.size = D at *
  generalize hC : H2.objs.size = C at *
  have hDC : D ≠ C := by omega
  have hfp' : ∀ b ∈ fp, @LT.lt Nat _ b D := hfp
  have hCf : C ∉ fp := fun q => by have := hfp' _ q; omega
  have hDf : D ∉ fp := fun q => by have := hfp' _ q; omega
  have old : ∀ b o, s₂.heap.get? b = some o → h₁.get? b = some o := fun b o e => by
    have hb : @LT.lt Nat _ b D := hD ▸ Heap.lt_size e
    have hne : @Ne Nat b C := by omega
    exact hsb₁.extBut b o hne (Heap.get?_push_of_some _ (hH2 ▸ Heap.get?_push_of_some _ e))
  have hacc : h₁.PlainList D ([] : List Value).toArray := ⟨_, hsb₁.extBut _ _ hDC (Heap.get?_push_of_some _ (hH2 ▸ hD ▸ Heap.get?_push_size _ rfl))⟩
  have T := hT C hCf
  have hst₁ : St 0 h₁ := T.frame _ _ _ hst fun b _ o e => old b o e
  have dom : ∀ b o, s.heap.get? b = some o → b ∉ C :: D :: wr := fun b o e q => by
    have hb : @LT.lt Nat _ b D := hD ▸ Heap.lt_size (kp_get h02 b o e)
    rcases List.mem_cons.mp q with q | q
    · have q' : @Eq Nat b C := q
      omega
    · rcases List.mem_cons.mp q with q | q
      · have q' : @Eq Nat b D := q
        omega
      · rw [hwr b q] at e; cases e
  have fr : ∀ b : Nat, D ≤ b → s.heap.get? b = none := fun b hb => by
    cases e : s.heap.get? b with
    | none => rfl
    | some o => have : @LT.lt Nat _ b D := hD ▸ Heap.lt_size (kp_get h02 b o e); omega
  have loop : ∀ s₃ : Shared, s₃ = { s₂ with heap := h₁, toks := s₂.toks + ([] : List (Str × Value)).length } →
      codeAny (model prog w) A (.compLoop (.ListComp (.Name y py') [⟨t0, i0, [], 0⟩, ⟨.Name y py, i1, [], 0⟩] scope pos) 0 it (.ref D) (compEnvC scope cl C env)) (RR (.ref D) C) s₃ := by
    intro s₃ e3
    have hk3 : Keeps s s₃ := by rw [e3]; exact kp_trans h02 (kp_heap old)
    have hh3 : s₃.heap = h₁ := by rw [e3]
    have kx : ∀ s', KpX (C :: D :: wr) s₃ s' → Keeps s s' := fun s' k => by
      obtain ⟨hh, tk, rfl, q⟩ := k
      obtain ⟨h', tk', rfl, q'⟩ := hk3
      exact ⟨hh, tk, rfl, fun b o e => q b o (dom b o e) (q' b o e)⟩
    refine comp_loop (cenv := compEnvC scope cl C env) (m := fun x => ([] : List (Str × Value)).reverse.lookup x) (ipos := i0.pos) T hn _
      (fun i new h => g i new) 3 (fun i new h q => hg i new q) (turn_two0 (.Name y py') t0 i0 (.Name y py) i1 scope pos it (.ref D) (compEnvC scope cl C env))
      hCf hDf hDC [] (hh3 ▸ hst₁) (hh3 ▸ hacc) (hh3 ▸ hns₁) (fun _ _ _ _ q _ => q) ?turn ?fin
    case fin =>
      intro s' m' yss hns hpl hlen hgs hk
      exact hRR D C s' m' yss (fr _ (Nat.le_refl _)) (fr _ (by omega)) hDC hns (by simpa using hpl) (kx _ hk) hlen hgs
    case turn =>
      intro i s₄ m m' ys E' hi hu hns hk hpl hbd
      refine wpAny_bind ((turn C i m m' s₄ hi hu hns (kx _ hk)).use fun xv s₅ k5 h5 => ?_)
      obtain ⟨a, us, rfl, ha4, hus, hul, hgu⟩ := h5
      refine wpAny_bind (wpAny_standAt (wpAny_bind (wpAny_of_eq (hs1 _ _) ?_)))
      refine wpAny_bind (wpAny_holding ((iter_list' hh hus).use fun it1 s₆ k6 h6 => ?_))
      refine wpAny_bind (wpAny_runOwn ?_)
      obtain ⟨I, St1, hI5, hT1, hst6⟩ := h6
      have k46 := kp_trans k5 k6
      have hns6 : s₆.heap.Ns C m' := hns.keeps (kp_get k46)
      have hpl6 : s₆.heap.PlainList D ys.toArray := hpl.at fun o e => kp_get k46 _ o e
      have hI4 : s₄.heap.get? I = none := by
        cases e : s₄.heap.get? I with
        | none => rfl
        | some o => rw [kp_get k5 _ _ e] at hI5; cases hI5
      have hCe : ∃ o, s₄.heap.get? C = some o := by obtain ⟨o, _, _, ho, _⟩ := hns; exact ⟨o, ho⟩
      have hDe : ∃ o, s₄.heap.get? D = some o := by obtain ⟨n, ho⟩ := hpl; exact ⟨_, ho⟩
      have nof : ∀ b, (∃ o, s₄.heap.get? b = some o) → b ∉ [I, a] := fun b ⟨o, e⟩ q => by
        simp only [List.mem_cons, List.not_mem_nil, or_false] at q
        rcases q with rfl | rfl
        · rw [hI4] at e; cases e
        · rw [ha4] at e; cases e
      have T1 := hT1 y py (compEnvC scope cl C env) (nof C hCe) (lookup_relabel_local hy) hkind
      have inner : ∀ s₇ : Shared, s₇ = s₆ → codeAny (model prog w) (A.mark none) (.compLoop (.ListComp (.Name y py') [⟨t0, i0, [], 0⟩, ⟨.Name y py, i1, [], 0⟩] scope pos) 1 it1 (.ref D) (compEnvC scope cl C env))
          (fun r s' => match r with
            | .ok f => (fun _ s'' => wpAny (model prog w) A (again (.compLoop (.ListComp (.Name y py') [⟨t0, i0, [], 0⟩, ⟨.Name y py, i1, [], 0⟩] scope pos) 0 it (.ref D) (compEnvC scope cl C env))) (fun fin s₄_1 => fin = .again (.compLoop (.ListComp (.Name y py') [⟨t0, i0, [], 0⟩, ⟨.Name y py, i1, [], 0⟩] scope pos) 0 it (.ref D) (compEnvC scope cl C env)) ∧ ∃ new, s₄_1.heap.PlainList D (ys ++ new).toArray ∧ g i new ∧ (∃ m'', s₄_1.heap.Ns (compEnvC scope cl C env).locals m'') ∧ KpX [(compEnvC scope cl C env).locals, D] s₄ s₄_1) E' s'') f s'
            | .error e => cameBackBy (model prog w) A (compEnvC scope cl C env) E' e s') s₇ := by
        intro s₇ e7
        subst e7
        refine comp_loop (A := A.mark none) (cenv := compEnvC scope cl C env) (m := m') (ipos := i1.pos) (by exact T1) (by omega) _
          (fun j new h => ∃ v, us[j]? = some v ∧ new = [v]) 1 (fun j new h q => by obtain ⟨v, _, rfl⟩ := q; exact Nat.le_refl _) (turn_two1 (.Name y py') t0 i0 (.Name y py) i1 scope pos it1 (.ref D) (compEnvC scope cl C env))
          (nof C hCe) (nof D hDe) hDC ys hst6 hpl6 hns6 (fun _ _ _ _ q _ => q) ?turn1 ?fin1
        case turn1 =>
          rintro j s₈ m₈ m₈' ys₈ E₈ hj ⟨v, hv, rfl⟩ hns8 hk8 hpl8 hbd8
          refine wpAny_bind (wpAny_bind (wp_name (nm_loc (m := fun z => if z = y then some v else m₈ z) (v := v) hkind (lookup_relabel_local hy) hns8 (by simp) hdy) (wpAny_bind (wpAny_list_append_plain hpl8 (fun h' hl' hs' => wpAny_pure (wpAny_pure ?_)) ?_))))
          · exact ⟨rfl, [v], by simpa using hl', ⟨v, hv, rfl⟩, ⟨_, hns8.sameBut hs' (Ne.symm hDC)⟩, kpx_sameBut (tk := s₈.toks) hs' (by simp)⟩
          · rw [sizeLine_eq, List.size_toArray]
            simp only [List.length_nil, Nat.one_mul] at hbd8 hbd
            omega
        case fin1 =>
          intro s' m'' yss hns' hpl' hlen' hgs' hk'
          have eflat : yss.flatten = us := by
            apply List.ext_getElem?
            have hyss : yss = us.map fun v => [v] := by
              apply List.ext_getElem?
              intro j
              by_cases hj : j < yss.length
              · obtain ⟨v, hv, e⟩ := hgs' j yss[j] (by simp [hj])
                rw [List.getElem?_map, hv, List.getElem?_eq_getElem hj, e]; rfl
              · rw [List.getElem?_eq_none (by omega), List.getElem?_eq_none (by simp; omega)]
            intro j
            rw [hyss]
            have : ∀ l : List Value, (l.map fun v => [v]).flatten = l := fun l => by induction l with | nil => rfl | cons a l ih => simp [ih]
            rw [this]
          rw [eflat] at hpl'
          refine wpAny_pure ⟨rfl, us, hpl', hgu, ⟨m'', hns'⟩, ?_⟩
          obtain ⟨h', tk, rfl, q⟩ := hk'
          obtain ⟨h'', tk', e4, q'⟩ := k46
          rw [e4]
          refine ⟨h', tk, rfl, fun b o hb e => ?_⟩
          refine q b o ?_ ?_
          · simp only [List.mem_cons, List.not_mem_nil, or_false, not_or] at hb ⊢
            exact ⟨hb.1, hb.2, fun qb => by rw [qb, hI4] at e; cases e⟩
          · rw [e4]; exact q' b o e
      refine start_two1 (inner _ rfl) (T1.self 0 _ _ _ hst6 (inner _ rfl))
  exact codeAny_compStart_list (loop _ rfl) (T.self 0 _ _ _ hst₁ (loop _ rfl))
end
end Mine

namespace Mine
section
variable {w : World} {A : Around} {s : Shared} {env : Env}
theorem wp_comp2_store {xa xb pa pb kt pt i0 y py py' i1 scope pos cl z pz spos} {Q : Flow → Shared → Prop} {E} {m : Str → Option Value} (g : Nat → List Value → Prop) (hh : A.handled = none) (hg : ∀ i us, g i us → us.length ≤ 3)
    (hns : s.heap.Ns env.locals m)
    (src : Do w A (eval i0 env) (fun xv s₁ => ∃ n R, Do w A (pyIter xv) (SrcP w A s n R) s₁ ∧ n ≤ 1048576 ∧
      (∀ C i u v s₃, i < n → R i u v → Nm (compEnvC scope cl C env) s₃.heap xa u → Nm (compEnvC scope cl C env) s₃.heap xb v → Keeps s s₃ →
        Do w A (eval i1 (compEnvC scope cl C env)) (fun xv s₄ => ∃ a us, xv = .ref a ∧ s₃.heap.get? a = none ∧ s₄.heap.PlainList a us.toArray ∧ us.length ≤ 3 ∧ g i us) s₃) ∧
      (∀ v s' (yss : List (List Value)), KpX [env.locals] s s' → s'.heap.Ns env.locals (fun y => if y = z then some v else m y) → PL s'.heap v yss.flatten → yss.length = n → (∀ i us, yss[i]? = some us → g i us) → Q .next s')) s)
    (hclos : closureFor scope env = pure cl)
    (hsw : swapsWith (.ListComp (.Name y py') [⟨.Tuple [.Name xa pa, .Name xb pb] kt pt, i0, [], 0⟩, ⟨.Name y py, i1, [], 0⟩] scope pos) (some (.Name z pz)) spos.line env = pure true)
    (hz : env.kindOf z = some .local) (hk : env.scope.kind = .function) (hs1 : ∀ cenv x, foldedSetIterable i1 cenv x = pure x := by intro _ _; rfl)
    (hxa : scope.names.lookup xa = some .local := by rfl) (hxb : scope.names.lookup xb = some .local := by rfl) (hy : scope.names.lookup y = some .local := by rfl) (hdy : (y == ("__debug__" : Str)) = false := by decide) (hda : (xa == ("__debug__" : Str)) = false := by decide) (hdb : (xb == ("__debug__" : Str)) = false := by decide) (hab : xa ≠ xb := by decide)
    (hcell : ∀ y ∈ scope.names, y.2 ≠ .cell := by decide) (hkind : scope.kind = .function := by rfl) (hnames : ∀ y ∈ scope.names, y.2 = .local → scope.names.lookup y.1 = some .local := by decide)
    (hs : ∀ x, foldedSetIterable i0 env x = pure x := by intro _; rfl) :
    wpAny (model prog w) A (exec (.Assign [.Name z pz] (.ListComp (.Name y py') [⟨.Tuple [.Name xa pa, .Name xb pb] kt pt, i0, [], 0⟩, ⟨.Name y py, i1, [], 0⟩] scope pos) spos) env) Q E s := by
  rw [exec_Assign_Name_used _ _ _ _ hsw]
  refine wpAny_bind (wpAny_standAt (wpAny_bind ?_))
  show wpAny _ A (do let _ ← comprehension (.ListComp (.Name y py') [⟨.Tuple [.Name xa pa, .Name xb pb] kt pt, i0, [], 0⟩, ⟨.Name y py, i1, [], 0⟩] scope pos) scope env _ (newList []) false (eval i0 env) (some (assign (.Name z pz) env))) _ _ s
  refine wpAny_bind (wpAny_mono (wpAny_comprehension_free (use := some (assign (.Name z pz) env)) (Q := fun _ s' => Q .next s') rfl hs hclos hkind hnames
    (src.use fun xv s₁ k1 h1 => ?_)) (fun _ s' hq => wpAny_pure (wpAny_pure hq)) fun _ _ e => e)
  obtain ⟨n, R, hit, hn, turn, hP⟩ := h1
  refine hit.use fun it s₂ k2 h2 => ?_
  have S : SrcOk2 w A s env scope cl (.Tuple [.Name xa pa, .Name xb pb] kt pt) i1 g n it s₂ := by
    obtain ⟨fp, wr, St, hT, q1, q2, q3⟩ := h2
    refine ⟨fp, wr, _, St, fun C hC => hT xa xb pa pb kt pt (compEnvC scope cl C env) hC (lookup_relabel_local hxa) (lookup_relabel_local hxb) hkind, hn, q1, q2, q3, ?_⟩
    rintro C i m m' s₃ hi ⟨u, v, hR, rfl⟩ hns hk
    exact turn C i u v s₃ hi hR (nm_loc hkind (lookup_relabel_local hxa) hns (by simp [hab]) hda) (nm_loc hkind (lookup_relabel_local hxb) hns (by simp) hdb) hk
  refine comp2_core (RR := fun acc C => compPost (model prog w) A E (some (assign (.Name z pz) env)) (fun _ s' => Q .next s') acc C) g hh hg hcell hkind hy hdy hs1 (kp_trans k1 k2) S ?_
  intro D C s' m' yss hD hC hDC hnC hpl hkk hlen hgs
  obtain ⟨oL, eL, epL, hoL, rL⟩ := id hns
  have hLC : env.locals ≠ C := by rintro rfl; rw [hC] at hoL; cases hoL
  have hLD : env.locals ≠ D := by rintro rfl; rw [hD] at hoL; cases hoL
  show wpAny _ A (assign (.Name z pz) env (.ref D)) _ _ _
  refine wpAny_assign_Name (wpAny_storeName_local hz (hns.keeps (kp_get hkk)) (fun h₂ hn₂ hs₂ => ?_) (by rw [hk]; rfl))
  refine ⟨m', hnC.sameBut hs₂ (Ne.symm hLC), fun h₃ hs₃ => ?_⟩
  have kk : KpX [env.locals] s { s' with heap := h₃, toks := s'.toks + 1 } := by
    obtain ⟨a, b, rfl, q⟩ := hkk
    exact ⟨h₃, _, rfl, fun x o hx e => hs₃.extBut x o (fun q => by rw [q, hC] at e; cases e) (hs₂.extBut x o (by simpa using hx) (q x o e))⟩
  exact hP _ _ yss kk (hn₂.sameBut hs₃ hLC) ⟨D, rfl, (hpl.extBut hs₂.extBut (Ne.symm hLD)).extBut hs₃.extBut hDC⟩ hlen hgs
end
end Mine

namespace Mine

abbrev lawEnv (L a : Addr) (cd : Value) : Env := envOfC (recAt 8).name (recAt 8).scope L a cd
def wX (L : Nat) : List Addr := [L, L + 1, L + 1 + 1, L + 1 + 1 + 1, L + 1 + 1 + 1 + 1]
theorem mem_wX {L : Nat} {b : Nat} : b ∈ wX L ↔ L ≤ b ∧ b < L + 5 := by
  unfold wX
  simp only [List.mem_cons, List.not_mem_nil, or_false]
  constructor
  · intro h
    rcases h with h | h | h | h | h <;> (have h' : @Eq Nat b _ := h; omega)
  · intro ⟨h1, h2⟩
    have : b = L ∨ b = L + 1 ∨ b = L + 1 + 1 ∨ b = L + 1 + 1 + 1 ∨ b = L + 1 + 1 + 1 + 1 := by omega
    exact this

structure Lw (s₁ : Shared) (L : Nat) (m : Str → Option Value) (c0 c1 c2 c3 : Option Value) (s : Shared) : Prop where
  keeps : Keeps s₁ s
  ns : s.heap.Ns L m
  cell0 : s.heap.IsCell (L + 1) c0
  cell1 : s.heap.IsCell (L + 1 + 1) c1
  cell2 : s.heap.IsCell (L + 1 + 1 + 1) c2
  cell3 : s.heap.IsCell (L + 1 + 1 + 1 + 1) c3
  fresh : ∀ b ∈ wX L, s₁.heap.get? b = none

section
variable {w : World} {A : Around} {s s' s₁ : Shared} {L : Nat} {m : Str → Option Value} {c0 c1 c2 c3 : Option Value}
theorem Lw.kp (W : Lw s₁ L m c0 c1 c2 c3 s) (k : Keeps s s') : Lw s₁ L m c0 c1 c2 c3 s' :=
  ⟨kp_trans W.keeps k, W.ns.keeps (kp_get k), W.cell0.keeps (kp_get k), W.cell1.keeps (kp_get k), W.cell2.keeps (kp_get k), W.cell3.keeps (kp_get k), W.fresh⟩
theorem Lw.kk (W : Lw s₁ L m c0 c1 c2 c3 s) (k : KpX (wX L) s s') : Keeps s₁ s' := by
  obtain ⟨h, tk, rfl, q⟩ := k
  obtain ⟨h', tk', rfl, q'⟩ := W.keeps
  exact ⟨h, tk, rfl, fun b o e => q b o (fun hb => by rw [W.fresh b hb] at e; cases e) (q' b o e)⟩
-- what no list may be
theorem Lw.not_list (W : Lw s₁ L m c0 c1 c2 c3 s) {a : Addr} {items} (h : s.heap.PlainList a items) : a ∉ wX L := by
  obtain ⟨n, e⟩ := h
  intro hb
  obtain ⟨o, es, ep, h1, h2, _⟩ := W.ns
  obtain ⟨o0, g0, d0⟩ := W.cell0
  obtain ⟨o1, g1, d1⟩ := W.cell1
  obtain ⟨o2, g2, d2⟩ := W.cell2
  obtain ⟨o3, g3, d3⟩ := W.cell3
  unfold wX at hb
  simp only [List.mem_cons, List.not_mem_nil, or_false] at hb
  rcases hb with rfl | rfl | rfl | rfl | rfl
  · rw [e] at h1; cases h1; cases h2
  · rw [e] at g0; cases g0; cases d0
  · rw [e] at g1; cases g1; cases d1
  · rw [e] at g2; cases g2; cases d2
  · rw [e] at g3; cases g3; cases d3
theorem Lw.pl (W : Lw s₁ L m c0 c1 c2 c3 s) (k : KpX (wX L) s s') {v vs} (h : PL s.heap v vs) : PL s'.heap v vs := by
  obtain ⟨a, rfl, hp⟩ := h
  exact ⟨a, rfl, hp.at fun o e => kpx_get k a o (W.not_list hp) e⟩
theorem Lw.li (W : Lw s₁ L m c0 c1 c2 c3 s) (k : KpX (wX L) s s') {v ns} (h : LI s.heap v ns) : LI s'.heap v ns := let ⟨vs, a, b⟩ := h; ⟨vs, W.pl k a, b⟩
theorem Lw.ls (W : Lw s₁ L m c0 c1 c2 c3 s) (k : KpX (wX L) s s') {v ns} (h : LS s.heap v ns) : LS s'.heap v ns := let ⟨vs, a, b⟩ := h; ⟨vs, W.pl k a, b⟩
theorem Lw.lr (W : Lw s₁ L m c0 c1 c2 c3 s) (k : KpX (wX L) s s') {v ns} (h : LR s.heap v ns) : LR s'.heap v ns := let ⟨vs, a, b⟩ := h; ⟨vs, W.pl k a, b.mono fun _ _ x => W.li k x⟩

theorem Lw.loc (W : Lw s₁ L m c0 c1 c2 c3 s) (k : KpX [L] s s') {m'} (hn : s'.heap.Ns L m') : Lw s₁ L m' c0 c1 c2 c3 s' := by
  have kx : KpX (wX L) s s' := kpx_mono k fun b hb => by simp only [List.mem_cons, List.not_mem_nil, or_false] at hb; subst hb; simp [wX]
  have ne : ∀ i : Nat, L + i + 1 ∉ [L] := fun i q => by
    simp only [List.mem_cons, List.not_mem_nil, or_false] at q; omega
  refine ⟨W.kk kx, hn, ?_, ?_, ?_, ?_, W.fresh⟩
  · obtain ⟨o, h, d⟩ := W.cell0; exact ⟨o, kpx_get k _ o (ne 0) h, d⟩
  · obtain ⟨o, h, d⟩ := W.cell1; exact ⟨o, kpx_get k _ o (ne 1) h, d⟩
  · obtain ⟨o, h, d⟩ := W.cell2; exact ⟨o, kpx_get k _ o (ne 2) h, d⟩
  · obtain ⟨o, h, d⟩ := W.cell3; exact ⟨o, kpx_get k _ o (ne 3) h, d⟩
theorem kpx_L (k : KpX [L] s s') : KpX (wX L) s s' := kpx_mono k fun b hb => by simp only [List.mem_cons, List.not_mem_nil, or_false] at hb; subst hb; simp [wX]

theorem lw_store {env : Env} {x v E} {Q : Unit → Shared → Prop} (W : Lw s₁ L m c0 c1 c2 c3 s) (hL : env.locals = L) (hx : env.kindOf x = some .local) (hk : env.scope.kind = .function)
    (h : ∀ s', Lw s₁ L (fun y => if y = x then some v else m y) c0 c1 c2 c3 s' → KpX (wX L) s s' → Q () s') : wpAny (model prog w) A (storeName env x v) Q E s := by
  refine wpAny_storeName_local hx (hL ▸ W.ns) (fun h' hn hs => ?_) (by rw [hk]; rfl)
  rw [hL] at hn hs
  have k : KpX [L] s { s with heap := h', toks := s.toks + 1 } := kpx_sameBut hs (by simp)
  exact h _ (W.loc k hn) (kpx_L k)

theorem Lw.other (W : Lw s₁ L m c0 c1 c2 c3 s) {c : Nat} {h' : Heap} (hs : Heap.SameBut c s.heap h') (hc : c ∈ wX L) (hL : c ≠ L) : KpX (wX L) s { s with heap := h' } ∧ Keeps s₁ { s with heap := h' } ∧ h'.Ns L m :=
  have k : KpX (wX L) s { s with heap := h' } := kpx_sameBut (tk := s.toks) hs hc
  ⟨k, W.kk k, W.ns.sameBut hs (Ne.symm hL)⟩
theorem nadd {L i j : Nat} (h : i ≠ j) : L + i ≠ L + j := by omega

theorem lw_store0 {env : Env} {x v E} {Q : Unit → Shared → Prop} (W : Lw s₁ L m c0 c1 c2 c3 s) (hx : env.kindOf x = some .cell) (hk : env.scope.kind = .function) (hc : env.cells.lookup x = some (L + 1))
    (h : ∀ s', Lw s₁ L m (some v) c1 c2 c3 s' → KpX (wX L) s s' → Q () s') : wpAny (model prog w) A (storeName env x v) Q E s := by
  refine wpAny_storeName_cell hk hx hc W.cell0 fun h' hv hs => ?_
  obtain ⟨a, b, d⟩ := W.other hs (by simp [wX]) (by omega)
  exact h _ ⟨b, d, hv, W.cell1.sameBut hs (neN (by omega)), W.cell2.sameBut hs (neN (by omega)), W.cell3.sameBut hs (neN (by omega)), W.fresh⟩ a
theorem lw_store1 {env : Env} {x v E} {Q : Unit → Shared → Prop} (W : Lw s₁ L m c0 c1 c2 c3 s) (hx : env.kindOf x = some .cell) (hk : env.scope.kind = .function) (hc : env.cells.lookup x = some (L + 1 + 1))
    (h : ∀ s', Lw s₁ L m c0 (some v) c2 c3 s' → KpX (wX L) s s' → Q () s') : wpAny (model prog w) A (storeName env x v) Q E s := by
  refine wpAny_storeName_cell hk hx hc W.cell1 fun h' hv hs => ?_
  obtain ⟨a, b, d⟩ := W.other hs (by simp [wX]) (by omega)
  exact h _ ⟨b, d, W.cell0.sameBut hs (neN (by omega)), hv, W.cell2.sameBut hs (neN (by omega)), W.cell3.sameBut hs (neN (by omega)), W.fresh⟩ a
theorem lw_store2 {env : Env} {x v E} {Q : Unit → Shared → Prop} (W : Lw s₁ L m c0 c1 c2 c3 s) (hx : env.kindOf x = some .cell) (hk : env.scope.kind = .function) (hc : env.cells.lookup x = some (L + 1 + 1 + 1))
    (h : ∀ s', Lw s₁ L m c0 c1 (some v) c3 s' → KpX (wX L) s s' → Q () s') : wpAny (model prog w) A (storeName env x v) Q E s := by
  refine wpAny_storeName_cell hk hx hc W.cell2 fun h' hv hs => ?_
  obtain ⟨a, b, d⟩ := W.other hs (by simp [wX]) (by omega)
  exact h _ ⟨b, d, W.cell0.sameBut hs (neN (by omega)), W.cell1.sameBut hs (neN (by omega)), hv, W.cell3.sameBut hs (neN (by omega)), W.fresh⟩ a
theorem lw_store3 {env : Env} {x v E} {Q : Unit → Shared → Prop} (W : Lw s₁ L m c0 c1 c2 c3 s) (hx : env.kindOf x = some .cell) (hk : env.scope.kind = .function) (hc : env.cells.lookup x = some (L + 1 + 1 + 1 + 1))
    (h : ∀ s', Lw s₁ L m c0 c1 c2 (some v) s' → KpX (wX L) s s' → Q () s') : wpAny (model prog w) A (storeName env x v) Q E s := by
  refine wpAny_storeName_cell hk hx hc W.cell3 fun h' hv hs => ?_
  obtain ⟨a, b, d⟩ := W.other hs (by simp [wX]) (by omega)
  exact h _ ⟨b, d, W.cell0.sameBut hs (neN (by omega)), W.cell1.sameBut hs (neN (by omega)), W.cell2.sameBut hs (neN (by omega)), hv, W.fresh⟩ a
end

-- lists from what a comprehension pairs
theorem ints_of_paired {g : Nat → Int} : ∀ {l : List Nat} {ys : List Value}, Paired (fun i y => ∃ t, y = .int (g i) t) l ys → IntsAre ys (l.map g)
  | _, _, .nil => .nil
  | _, _, .cons ⟨t, e⟩ h => e ▸ .cons _ _ (ints_of_paired h)
theorem strs_of_paired {g : Nat → Str} : ∀ {l : List Nat} {ys : List Value}, Paired (fun i y => ∃ t, y = .str (g i) t) l ys → StrsAre ys (l.map g)
  | _, _, .nil => .nil
  | _, _, .cons ⟨t, e⟩ h => e ▸ .cons _ _ (strs_of_paired h)
theorem range_getD {α : Type} (l : List α) (d : α) : (List.range l.length).map (fun i => l.getD i d) = l := by
  apply List.ext_getElem?
  intro i
  by_cases h : i < l.length
  · simp [h]
  · simp [h]
theorem range_filter {α β : Type} (l : List α) (d : α) (q : α → Bool) (h : α → β) : ((List.range l.length).filter fun i => q (l.getD i d)).map (fun i => h (l.getD i d)) = (l.filter q).map h := by
  conv => rhs; rw [← range_getD l d, List.filter_map, List.map_map]
  rfl
theorem range_map {α β : Type} (l : List α) (d : α) (h : α → β) : ((List.range l.length).filter fun _ => true).map (fun i => h (l.getD i d)) = l.map h := by
  have := range_filter l d (fun _ => true) h
  exact this.trans (congrArg (List.map h) (List.filter_eq_self.mpr fun _ _ => rfl))
end Mine

namespace Mine

def stm (i : Nat) : Stmt := (recAt 8).body.getD i (.Pass default)
def drawnOf (ns : List Int) : List Int := (ns.take 4).map (fun x => x.fmod (16 ^ 6)) ++ [0, 1, 16, 17, 291, 4096, 255, 2, 1048575]

section
variable {w : World} {A : Around} {s s' s₁ : Shared} {L : Nat} {m : Str → Option Value} {c0 c1 c2 c3 : Option Value} {a : Addr} {cd : Value} {mg mb : Str → Option Value} {E : Value → Shared → Prop} {Q : Flow → Shared → Prop}
theorem do_get_slice' {l sl vs vl vu lo hi} {P : Value → Shared → Prop} (hv : s.heap.IsList l (List.toArray vs)) (hs : s.heap.IsSliceOf sl vl vu .none) (hl : IsPart vl lo) (hu : IsPart vu hi) (hz : vs.length ≤ 16777216)
    (h : ∀ r s', Keeps s s' → PL s'.heap r (slicePick vs.toArray lo hi none).toList → P r s') : Do w A (getItem (.ref l) (.ref sl)) P s := by
  intro E
  refine wpAny_getItem_list_slice hv hs hl hu .none (by intro e; cases e) ⟨kp_push _, h _ _ (kp_push _) ?_⟩ (by rw [sizeLine_eq]; simpa using hz)
  exact ⟨_, rfl, 0, by simpa using Heap.get?_push_size _ rfl⟩

theorem st0 {la vs ns} (hh : A.handled = none) (W : Lw s₁ L m c0 c1 c2 c3 s) (hs : m "script" = some (.ref la)) (hl : s₁.heap.IsList la (List.toArray vs)) (hI : IntsAre vs ns) (hlen : ns.length ≤ 63)
    (h : ∀ s' dv, Lw s₁ L m (some dv) c1 c2 c3 s' → LI s'.heap dv (drawnOf ns) → Q .next s') : wpAny (model prog w) A (exec (stm 0) (lawEnv L a cd)) Q E s := by
  have hvl : vs.length = ns.length := hI.length
  refine wpAny_Assign_Name ((do_binop (P := fun v s' => LI s'.heap v (drawnOf ns)) (do_compN (P := fun v s' => Do w A _ (fun b s₂ => Do w A (binaryOp .Add v b) _ s₂) s') (fun _ i y _ => ∃ t, y = .int (((ns.take 4).getD i 0).fmod (16 ^ 6)) t) (fun _ => true) hh (fun _ _ _ _ _ q _ => q) ?src rfl)).use fun v s₂ k2 h2 => ?fin)
  case fin =>
    refine lw_store0 (W.kp k2) rfl rfl rfl fun s₃ W3 k3 => h _ _ W3 ((W.kp k2).li k3 h2)
  case src =>
    refine do_sub (do_name (nm_loc rfl rfl W.ns hs) (do_slice (do_part_none (do_part (do_int fun t4 tk4 b s₃ k3 hb => ?_)))))
    have hl3 : s₃.heap.IsList la vs.toArray := (hl.at fun o e => kp_get (kp_trans W.keeps (kp_trans (kp_tok tk4) k3)) _ o e)
    refine ⟨"list", _, _, ⟨_, hl3.choose_spec.1, hl3.choose_spec.2.1⟩, slot_list_getitem.lookup, rfl, do_get_slice' hl3 hb .none (.int _ _) (by omega) fun r s₄ k4 hr => ?_⟩
    refine ⟨_, hr, ?_, ?_, ?_⟩
    · have := slicePick_size_le vs.toArray none (some 4) none
      simp only [Array.length_toList, List.size_toArray] at this ⊢
      omega
    · intro C X i v s₅ hv hn k5 hX
      have hI4 := slice_ints_uptoW hI (y := 4) (by decide)
      obtain ⟨t5, rfl⟩ := IntsAre.int_at hI4 i v hv
      refine do_tests_nil ⟨rfl, fun _ => do_binop (do_name hn (do_binop (do_int fun _ _ => do_int fun _ _ => do_pow_int (by decide) (by decide) fun _ _ => do_mod_int (by decide) fun t' _ => ⟨t', rfl⟩)))⟩
    · intro v s₅ ys X k5 hp hpr
      have hI4 := slice_ints_uptoW hI (y := 4) (by decide)
      have hys := ints_of_paired hpr
      have e0 : (slicePick vs.toArray none (some 4) none).toList.length = (ns.take 4).length := hI4.length
      rw [e0, range_map (ns.take 4) 0 (fun x => x.fmod (16 ^ 6))] at hys
      have hyl := hys.length
      refine do_list (do_items_cons (do_int fun t0 _ => do_items_cons (do_int fun t1 _ => do_items_cons (do_int fun t2 _ => do_items_cons (do_int fun t3 _ => do_items_cons (do_int fun t4 _ => do_items_cons (do_int fun t5 _ => do_items_cons (do_int fun t6 _ => do_items_cons (do_int fun t7 _ => do_items_cons (do_int fun t8 _ => do_items_nil ⟨by simp, fun v' s₆ k6 hp6 => ?_⟩))))))))))
      refine do_add_list (hp.keeps fun b o e => kp_get k6 _ _ e) hp6 ?_ fun r s₇ k7 hr7 => ⟨_, hr7, hys.append ?_⟩
      · simp only [List.length_map, List.length_take, List.length_cons, List.length_nil] at hyl ⊢; omega
      · exact .cons _ _ (.cons _ _ (.cons _ _ (.cons _ _ (.cons _ _ (.cons _ _ (.cons _ _ (.cons _ _ (.cons _ _ .nil))))))))

theorem st1 {dv} {dn : List Int} (hh : A.handled = none) (G : Gd mg mb s₁.heap) (W : Lw s₁ L m (some dv) c1 c2 c3 s) (hd : LI s.heap dv dn) (hlen : dn.length ≤ 63)
    (h : ∀ s' nv, Lw s₁ L m (some dv) (some nv) c2 c3 s' → LI s'.heap nv (((List.range dn.length).filter fun i => !((dn.take i).any (· == dn.getD i 0))).map fun i => dn.getD i 0) → Q .next s') : wpAny (model prog w) A (exec (stm 1) (lawEnv L a cd)) Q E s := by
  have GG : ∀ s', Keeps s s' → Gd mg mb s'.heap := fun s' k => G.keeps (kp_get (kp_trans W.keeps k))
  refine wpAny_Assign_Name ((do_compP (P := fun v s' => LI s'.heap v (((List.range dn.length).filter fun i => !((dn.take i).any (· == dn.getD i 0))).map fun i => dn.getD i 0)) (fun _ i y _ => ∃ t, y = .int (dn.getD i 0) t) (fun i => !((dn.take i).any (· == dn.getD i 0))) (fun _ _ _ _ _ q _ => q) ?src rfl).use fun v s₂ k2 h2 => ?fin)
  case fin =>
    exact lw_store1 (W.kp k2) rfl rfl rfl fun s₃ W3 k3 => h _ _ W3 ((W.kp k2).li k3 h2)
  case src =>
    obtain ⟨vs, hp, hI⟩ := id hd
    have hvl : vs.length = dn.length := hI.length
    refine do_call_t (T := "enumerate") (do_name (nm_bi (GG _ (kp_refl _)) rfl rfl rfl rfl (by decide)) ⟨rfl, do_one (do_name (nm_cell rfl rfl rfl W.cell0) ?_)⟩)
    refine (iter_enum hh (kp_refl _) hp).mono fun ev s₂ k2 h2 => ⟨_, _, h2, by omega, ?_, ?_⟩
    · rintro C X i u v s₃ hi ⟨⟨tu, rfl⟩, hv⟩ hnk hnx k3 hX
      obtain ⟨tv, rfl⟩ := IntsAre.int_at hI i v hv
      refine do_tests_one (do_true_cmp (do_name hnx (do_sub (do_name (nm_comp_cell rfl rfl rfl (W.cell0.keeps (kp_get k3))) (do_slice (do_part_none (do_part (do_name hnk fun b s₄ k4 hb => ?_))))))))
      have hp4 := hp.kp (kp_trans k3 k4)
      obtain ⟨ad, rfl, nd, had⟩ := id hp4
      refine ⟨"list", _, _, ⟨_, had, rfl⟩, slot_list_getitem.lookup, rfl, do_get_slice hp4 hb .none (.int _ _) (by omega) fun r s₅ k5 hr => ?_⟩
      have hI5 := slice_ints_uptoW hI (y := (i : Int)) (by omega)
      refine do_notin ⟨_, hr, hI5⟩ (do_truthy_bool ⟨rfl, fun _ => do_name (hnx.kp (kp_trans k4 k5)) ⟨tv, rfl⟩⟩)
    · intro v s₃ ys X k3 hp3 hpr
      have := ints_of_paired hpr
      rw [hvl] at this
      exact ⟨_, hp3, this⟩
end
end Mine

namespace Mine

structure Cx (A : Around) (mg mb : Str → Option Value) (s₁ : Shared) (nums : List Nat) : Prop where
  hh : A.handled = none
  room : A.depth < recursionLimit
  units : A.units + 64 < cLine
  G : Gd mg mb s₁.heap
  nd : nums.Nodup
  ne : nums ≠ []
  len : nums.length ≤ 63
  small : ∀ n ∈ nums, n < 16 ^ 6
def zs (nums : List Nat) : List Int := nums.map fun n => ((n : Nat) : Int)

theorem nat_at {vs : List Value} {nums : List Nat} (h : IntsAre vs (zs nums)) {i : Nat} {v : Value} (hv : vs[i]? = some v) : ∃ n t, nums[i]? = some n ∧ v = .int ((n : Nat) : Int) t := by
  obtain ⟨k, t, rfl, e⟩ := IntsAre.at h i v hv
  unfold zs at e
  rw [List.getElem?_map, Option.map_eq_some_iff] at e
  obtain ⟨n, e1, e2⟩ := e
  exact ⟨n, t, e1, by rw [e2]⟩
theorem str_at {vs : List Value} {nums : List Nat} {g : Nat → Str} (h : StrsAre vs (nums.map g)) {i : Nat} {v : Value} (hv : vs[i]? = some v) : ∃ n t, nums[i]? = some n ∧ v = .str (g n) t := by
  obtain ⟨y, t, rfl, e⟩ := StrsAre.item h i v hv
  rw [List.getElem?_map, Option.map_eq_some_iff] at e
  obtain ⟨n, e1, e2⟩ := e
  exact ⟨n, t, e1, by rw [e2]⟩
theorem nD_of {nums : List Nat} {i n : Nat} (h : nums[i]? = some n) : nums.getD i 0 = n := by simp [h]

theorem word_chars : ∀ (k n : Nat), n < k → ∀ c ∈ word n, 65 ≤ c ∧ c < 81
  | 0, n, h => by omega
  | k + 1, n, h => by
    by_cases h0 : n = 0
    · subst h0; simp [word_zero]
    · rw [word_pos h0]
      intro c hc
      rcases List.mem_append.mp hc with hc | hc
      · exact word_chars k (n / 16) (by omega) c hc
      · simp at hc; omega
theorem word_ascii (n : Nat) : ∀ c ∈ word n, c < 128 := fun c hc => by have := word_chars (n + 1) n (by omega) c hc; omega
def wS (n : Nat) : Str := sOf (word n)
def pad (n : Nat) : List Nat := List.replicate (6 - (word n).length) 32 ++ word n
def pS (n : Nat) : Str := sOf (pad n)
theorem strOk_sOf {l : List Nat} (h : ∀ c ∈ l, c < 128) : PyData.strOk (sOf l) = true := by
  unfold PyData.strOk sOf
  simp only [List.all_toArray, List.all_eq_true, decide_eq_true_eq]
  intro c hc
  have := h c hc
  omega
theorem pad_ascii (n : Nat) : ∀ c ∈ pad n, c < 128 := fun c hc => by
  unfold pad at hc
  rcases List.mem_append.mp hc with hc | hc
  · simp at hc; omega
  · exact word_ascii n c hc
theorem wS_ok (nums : List Nat) : ∀ x ∈ nums.map wS, PyData.strOk x = true := fun x hx => by
  obtain ⟨n, _, rfl⟩ := List.mem_map.mp hx
  exact strOk_sOf (word_ascii n)
theorem blanks : ∀ k : Fin 7, Txt.mul (" " : Str) (((k : Nat) : Int)) = sOf (List.replicate k 32) := by decide +kernel
theorem blanks_ok : ∀ k : Fin 7, MulOk (" " : Str) (((k : Nat) : Int)) := by unfold MulOk; decide +kernel

section
variable {w : World} {A : Around} {s s' s₁ : Shared} {L : Nat} {m : Str → Option Value} {c0 c1 c2 c3 : Option Value} {a : Addr} {cd : Value} {mg mb : Str → Option Value} {E : Value → Shared → Prop} {Q : Flow → Shared → Prop} {nums : List Nat} {nv wv lv : Value}

theorem st2 (X : Cx A mg mb s₁ nums) (W : Lw s₁ L m c0 (some nv) c2 c3 s) (hn : LI s.heap nv (zs nums))
    (h : ∀ s' wv, Lw s₁ L (fun y => if y = "words" then some wv else m y) c0 (some nv) c2 c3 s' → LI s'.heap nv (zs nums) → LS s'.heap wv (nums.map wS) → Q .next s') : wpAny (model prog w) A (exec (stm 2) (lawEnv L a cd)) Q E s := by
  obtain ⟨fa, fc, F⟩ := X.G.fn 1 (by decide)
  have GG : ∀ s', Keeps s s' → Gd mg mb s'.heap := fun s' k => X.G.keeps (kp_get (kp_trans W.keeps k))
  have FF : ∀ s', Keeps s s' → Fn mg s'.heap (recAt 1) fa fc := fun s' k => F.keeps (kp_get (kp_trans W.keeps k))
  obtain ⟨vs, hp, hI⟩ := id hn
  have hvl : vs.length = nums.length := by rw [hI.length]; simp [zs]
  have hlen := X.len
  refine wp_compN_store (fun i y => ∃ t, y = .str (wS (nums.getD i 0)) t) (fun _ => true) X.hh W.ns (do_name (nm_cell rfl rfl rfl W.cell1) ⟨vs, hp, by omega, ?turn, ?fin⟩) rfl rfl rfl rfl
  case turn =>
    intro C i v s₃ hv hnx k3
    obtain ⟨n, t, hi, rfl⟩ := nat_at hI hv
    have hsm := X.small n (List.mem_of_getElem? hi)
    refine do_tests_nil ⟨rfl, fun _ => do_call_t (T := "str") (do_name (nm_comp_bi (GG _ k3) rfl rfl rfl rfl (by decide)) ⟨rfl, do_two (do_call_f (FF _ k3) (do_name (nm_comp_fn (GG _ k3) (FF _ k3) rfl rfl rfl) ⟨rfl, do_one (do_name hnx
      (int2ap X.hh X.room (GG _ k3) (FF _ k3) (by simpa using hsm) fun s₄ t4 k4 => do_str fun t5 tk5 => do_str_ascii (word_ascii _) ?_ fun t6 tk6 => ⟨t6, ?_⟩))⟩))⟩)⟩
    · have := word_len 6 n hsm; simp; omega
    · rw [nD_of hi]; rfl
  case fin =>
    intro v s' ys k' hns hpl hpr
    have := strs_of_paired hpr
    rw [hvl, range_map nums 0 wS] at this
    exact h _ _ (W.loc k' hns) (W.li (kpx_L k') hn) ⟨_, hpl, this⟩

theorem st3 (X : Cx A mg mb s₁ nums) (W : Lw s₁ L m c0 (some nv) c2 c3 s) (hn : LI s.heap nv (zs nums)) (hw : LS s.heap wv (nums.map wS)) (hm : m "words" = some wv)
    (h : ∀ s', Keeps s s' → Q .next s') : wpAny (model prog w) A (exec (stm 3) (lawEnv L a cd)) Q E s := by
  obtain ⟨fa, fc, F⟩ := X.G.fn 1 (by decide)
  obtain ⟨ga, gc, F7⟩ := X.G.fn 7 (by decide)
  have GG : ∀ s', Keeps s s' → Gd mg mb s'.heap := fun s' k => X.G.keeps (kp_get (kp_trans W.keeps k))
  have FF : ∀ s', Keeps s s' → Fn mg s'.heap (recAt 1) fa fc := fun s' k => F.keeps (kp_get (kp_trans W.keeps k))
  have FF7 : ∀ s', Keeps s s' → Fn mg s'.heap (recAt 7) ga gc := fun s' k => F7.keeps (kp_get (kp_trans W.keeps k))
  obtain ⟨vs, hp, hI⟩ := id hn
  have hvl : vs.length = nums.length := by rw [hI.length]; simp [zs]
  have hlen := X.len
  have hw' := wS_ok nums
  refine wpAny_If ((do_true_or2 (P := fun b s' => b = false) (do_true_cmp (do_name (nm_loc rfl rfl W.ns hm) (do_compN (fun _ i y _ => ∃ t, y = .str (wS (nums.getD i 0)) t) (fun _ => true) X.hh (fun _ _ _ _ _ q _ => q)
    (do_name (nm_cell rfl rfl rfl W.cell1) ⟨vs, hp, by omega, ?turn, ?fin⟩) rfl)))).use fun b s₂ k2 h2 => ?out)
  case out =>
    subst h2
    exact wpAny_execs_nil (h _ k2)
  case turn =>
    intro C Y i v s₃ hv hnx k3 hY
    obtain ⟨n, t, hi, rfl⟩ := nat_at hI hv
    have hsm := X.small n (List.mem_of_getElem? hi)
    refine do_tests_nil ⟨rfl, fun _ => do_call_f (FF7 _ k3) (do_name (nm_comp_fn (GG _ k3) (FF7 _ k3) rfl rfl rfl) ⟨rfl, do_one (do_name hnx (law_word X.hh X.room (GG _ k3) (FF7 _ k3) hsm fun s₄ t4 k4 => ⟨t4, ?_⟩))⟩)⟩
    rw [nD_of hi]; rfl
  case fin =>
    intro v s₃ ys Y k3 hpl hpr
    have h3 := strs_of_paired hpr
    rw [hvl, range_map nums 0 wS] at h3
    refine do_ne_strs (hw.kp k3) ⟨_, hpl, h3⟩ X.units hw' hw' (do_truthy_bool ?_)
    simp only [decide_true, Bool.not_true, Bool.false_eq_true, if_false]
    have W3 := W.kp k3
    refine do_true_cmp (do_compN (fun _ i y _ => ∃ t, y = .str (wS (nums.getD i 0)) t) (fun _ => true) X.hh (fun _ _ _ _ _ q _ => q)
      (do_name (nm_cell rfl rfl rfl W3.cell1) ⟨vs, hp.kp k3, by omega, ?turn2, ?fin2⟩) rfl)
    case turn2 =>
      intro C Y i v s₄ hv hnx k4 hY
      obtain ⟨n, t, hi, rfl⟩ := nat_at hI hv
      have hsm := X.small n (List.mem_of_getElem? hi)
      have k4' := kp_trans k3 k4
      refine do_tests_nil ⟨rfl, fun _ => do_call_t (T := "str") (do_name (nm_comp_bi (GG _ k4') rfl rfl rfl rfl (by decide)) ⟨rfl, do_two (do_call_f (FF _ k4') (do_name (nm_comp_fn (GG _ k4') (FF _ k4') rfl rfl rfl) ⟨rfl, do_one (do_binop (do_int fun t5 tk5 => do_name (hnx.kp (kp_tok _)) (do_sub_int fun t6 tk6 =>
        (int2ap X.hh X.room (GG _ (kp_trans k4' (kp_tok _))) (FF _ (kp_trans k4' (kp_tok _))) ?_ fun s₄ t4 k4 => do_str fun t5 tk5 => do_str_ascii (word_ascii _) ?_ fun t6 tk6 => ⟨t6, ?_⟩))))⟩))⟩)⟩
      · simpa using hsm
      · have := word_len 6 n hsm; simp; omega
      · rw [nD_of hi]; simp [wS]
    case fin2 =>
      intro v s₄ ys Y k4 hpl hpr
      have h4 := strs_of_paired hpr
      rw [hvl, range_map nums 0 wS] at h4
      refine do_name (nm_loc rfl rfl (W3.kp k4).ns hm) (do_ne_strs ⟨_, hpl, h4⟩ (hw.kp (kp_trans k3 k4)) X.units hw' hw' (do_truthy_bool ?_))
      simp

theorem st4 (X : Cx A mg mb s₁ nums) (W : Lw s₁ L m c0 (some nv) c2 c3 s) (hn : LI s.heap nv (zs nums)) (hw : LS s.heap wv (nums.map wS)) (hm : m "words" = some wv)
    (h : ∀ s' lv, Lw s₁ L (fun y => if y = "lines" then some lv else m y) c0 (some nv) c2 c3 s' → LI s'.heap nv (zs nums) → LS s'.heap wv (nums.map wS) → LS s'.heap lv (nums.map pS) → Q .next s') : wpAny (model prog w) A (exec (stm 4) (lawEnv L a cd)) Q E s := by
  have GG : ∀ s', Keeps s s' → Gd mg mb s'.heap := fun s' k => X.G.keeps (kp_get (kp_trans W.keeps k))
  obtain ⟨vs, hp, hI⟩ := id hw
  have hvl : vs.length = nums.length := by rw [hI.length]; simp
  have hlen := X.len
  refine wp_compN_store (fun i y => ∃ t, y = .str (pS (nums.getD i 0)) t) (fun _ => true) X.hh W.ns (do_name (nm_loc rfl rfl W.ns hm) ⟨vs, hp, by omega, ?turn, ?fin⟩) rfl rfl rfl rfl
  case turn =>
    intro C i v s₃ hv hnx k3
    obtain ⟨n, t, hi, rfl⟩ := str_at hI hv
    have hsm := X.small n (List.mem_of_getElem? hi)
    have hwl := word_len 6 n hsm
    refine do_tests_nil ⟨rfl, fun _ => do_binop (do_binop (do_str fun t1 tk1 => do_binop (do_int fun t2 tk2 => do_call_b (id := "len") (do_name (nm_comp_bi (GG _ (kp_trans k3 (kp_tok _))) rfl rfl rfl rfl (by decide)) ⟨rfl, do_one (do_name (hnx.kp (kp_tok _)) (do_len_str ?_ fun t3 tk3 => do_sub_int fun t4 tk4 => ?_))⟩))))⟩
    · unfold wS; rw [sOf_len]; omega
    · have e : (6 : Int) - ((wS n).length : Nat) = ((6 - (word n).length : Nat) : Int) := by unfold wS; rw [sOf_len]; omega
      rw [e]
      refine do_mul_str (blanks_ok ⟨6 - (word n).length, by omega⟩) fun t5 tk5 => do_name (hnx.kp (kp_tok _)) (do_add_str ?_ fun t6 tk6 => ⟨t6, ?_⟩)
      · rw [blanks ⟨6 - (word n).length, by omega⟩]; unfold wS; rw [sOf_len, sOf_len, List.length_replicate]; omega
      · rw [blanks ⟨6 - (word n).length, by omega⟩, nD_of hi]; unfold wS; rw [sOf_append]; rfl
  case fin =>
    intro v s' ys k' hns hpl hpr
    have := strs_of_paired hpr
    rw [hvl, range_map nums 0 pS] at this
    exact h _ _ (W.loc k' hns) (W.li (kpx_L k') hn) (W.ls (kpx_L k') hw) ⟨_, hpl, this⟩
end
end Mine

namespace Mine

def fL (k n : Nat) : List Nat := (pad n).drop (min k (6 - (word n).length))
def fS (k n : Nat) : Str := sOf (fL k n)
def rowOf (n : Nat) : List Int := [(n : Int) * 16 ^ (6 - (word n).length), ((word n).length : Nat), (n : Nat)]
def code (r : List Int) : Int := (r.getD 0 0 * 7 + r.getD 1 0) * 16777216 + r.getD 2 0
def isShort (k n : Nat) : Bool := decide ((word n).length < 6 - k)

theorem word_bound : ∀ (j n : Nat), n < j → n < 16 ^ (word n).length
  | 0, n, h => by omega
  | j + 1, n, h => by
    by_cases h0 : n = 0
    · subst h0; simp [word_zero]
    · rw [word_pos h0, List.length_append, List.length_singleton, Nat.pow_succ]
      have := word_bound j (n / 16) (by omega)
      omega
theorem pad_padded {n : Nat} (h : n < 16 ^ 6) : Padded (pad n) (6 - (word n).length) := by
  have hl := word_len 6 n h
  refine ⟨by unfold pad; simp; omega, by omega, fun i hi => ?_⟩
  unfold pad
  by_cases hb : i < 6 - (word n).length
  · rw [List.getElem?_append_left (by simpa using hb)]
    simp [hb]
  · rw [List.getElem?_append_right (by simpa using hb)]
    constructor
    · intro e
      have := List.mem_of_getElem? e
      have := word_chars (n + 1) n (by omega) 32 this
      omega
    · intro e; omega

theorem lt_snoc : ∀ (l l' : List Nat), l.length = l'.length → ∀ a b, (l < l' ∨ l = l' ∧ a < b) → l ++ [a] < l' ++ [b]
  | [], [], _, a, b, h => by
    rcases h with h | ⟨_, h⟩
    · exact absurd h (List.not_lt_nil _)
    · exact List.cons_lt_cons_iff.mpr (.inl h)
  | [], _ :: _, hl, _, _, _ => by simp at hl
  | _ :: _, [], hl, _, _, _ => by simp at hl
  | c :: l, c' :: l', hl, a, b, h => by
    rw [List.cons_append, List.cons_append, List.cons_lt_cons_iff]
    rcases h with h | ⟨h, hab⟩
    · rcases List.cons_lt_cons_iff.mp h with h2 | ⟨e2, h2⟩
      · exact .inl h2
      · exact .inr ⟨e2, lt_snoc l l' (by simpa using hl) a b (.inl h2)⟩
    · obtain ⟨rfl, rfl⟩ := List.cons.inj h
      exact .inr ⟨rfl, lt_snoc l l rfl a b (.inr ⟨rfl, hab⟩)⟩

def pd : Nat → Nat → List Nat
  | 0, _ => []
  | k + 1, n => pd k (n / 16) ++ [if n = 0 then 32 else 65 + n % 16]
theorem pd_len : ∀ k n, (pd k n).length = k
  | 0, _ => rfl
  | k + 1, n => by simp [pd, pd_len k]
theorem pd_lt : ∀ k n n', n < n' → n' < 16 ^ k → pd k n < pd k n'
  | 0, n, n', h, h' => by simp at h'; omega
  | k + 1, n, n', h, h' => by
    rw [Nat.pow_succ] at h'
    unfold pd
    refine lt_snoc _ _ (by rw [pd_len, pd_len]) _ _ ?_
    by_cases e : n / 16 = n' / 16
    · refine .inr ⟨by rw [e], ?_⟩
      rw [if_neg (show ¬ n' = 0 by omega)]
      split <;> omega
    · exact .inl (pd_lt k _ _ (by omega) (by omega))
theorem pd_eq : ∀ k n, (word n).length ≤ k → List.replicate (k - (word n).length) 32 ++ word n = pd k n
  | 0, n, h => by
    have : word n = [] := List.eq_nil_of_length_eq_zero (by omega)
    simp [this, pd]
  | k + 1, n, h => by
    unfold pd
    by_cases h0 : n = 0
    · subst h0
      have := pd_eq k 0 (by simp [word_zero])
      simp only [word_zero, List.length_nil, Nat.sub_zero, List.append_nil, if_true] at this ⊢
      rw [List.replicate_succ', this]
    · have e := word_pos h0
      have hl : (word n).length = (word (n / 16)).length + 1 := by rw [e]; simp
      rw [if_neg h0, ← pd_eq k (n / 16) (by omega), hl, Nat.add_sub_add_right, e, List.append_assoc]
theorem fL_short {k n : Nat} (h : (word n).length < 6 - k) : fL k n = pd (6 - k) n ∧ fL k n = List.replicate (6 - (word n).length - k) 32 ++ word n := by
  have e : fL k n = List.replicate (6 - (word n).length - k) 32 ++ word n := by
    unfold fL pad
    rw [show min k (6 - (word n).length) = k by omega, List.drop_append_of_le_length (by simp; omega), List.drop_replicate]
  refine ⟨?_, e⟩
  rw [e, show 6 - (word n).length - k = 6 - k - (word n).length by omega]
  exact pd_eq _ _ (by omega)
theorem fL_other {k n : Nat} (h : ¬ (word n).length < 6 - k) : fL k n = word n := by
  unfold fL pad
  exact List.drop_left' (by rw [List.length_replicate]; omega)

def Vl : Nat → List Nat → Nat
  | 0, _ => 0
  | _ + 1, [] => 0
  | k + 1, c :: t => (c - 65) * 16 ^ k + Vl k t
theorem Vl_lt : ∀ k l, (∀ c ∈ l, 65 ≤ c ∧ c < 81) → Vl k l < 16 ^ k
  | 0, _, _ => by simp [Vl]
  | k + 1, [], _ => by simp only [Vl]; exact Nat.pos_of_ne_zero (by simp)
  | k + 1, c :: t, h => by
    have h1 := Vl_lt k t fun c hc => h c (List.mem_cons_of_mem _ hc)
    have h2 := h c List.mem_cons_self
    have h3 : (c - 65) * 16 ^ k ≤ 15 * 16 ^ k := Nat.mul_le_mul_right _ (by omega)
    simp only [Vl]
    rw [Nat.pow_succ]
    omega
theorem Vl_lex : ∀ k l l', l.length ≤ k → l'.length ≤ k → (∀ c ∈ l, 65 ≤ c ∧ c < 81) → (∀ c ∈ l', 65 ≤ c ∧ c < 81) → (Vl k l < Vl k l' ∨ (Vl k l = Vl k l' ∧ l.length < l'.length)) → l < l'
  | _, [], [], _, _, _, _, h => by simp at h
  | _, [], c :: t, _, _, _, _, _ => List.nil_lt_cons _ _
  | 0, c :: t, _, hl, _, _, _, _ => by simp at hl
  | k + 1, c :: t, [], _, _, _, _, h => by simp [Vl] at h
  | k + 1, c :: t, c' :: t', hl, hl', hc, hc', h => by
    rw [List.cons_lt_cons_iff]
    have b := Vl_lt k t fun c q => hc c (List.mem_cons_of_mem _ q)
    have b' := Vl_lt k t' fun c q => hc' c (List.mem_cons_of_mem _ q)
    have hcc := hc c List.mem_cons_self
    have hcc' := hc' c' List.mem_cons_self
    simp only [Vl, List.length_cons] at h
    by_cases e : c = c'
    · subst e
      refine .inr ⟨rfl, Vl_lex k t t' (by simpa using hl) (by simpa using hl') (fun c q => hc c (List.mem_cons_of_mem _ q)) (fun c q => hc' c (List.mem_cons_of_mem _ q)) ?_⟩
      omega
    · by_cases e2 : c < c'
      · exact .inl e2
      · exfalso
        have h3 : (c' - 65 + 1) * 16 ^ k ≤ (c - 65) * 16 ^ k := Nat.mul_le_mul_right _ (by omega)
        rw [Nat.add_mul, Nat.one_mul] at h3
        omega
theorem Vl_snoc : ∀ k l c, l.length + 1 ≤ k → Vl k (l ++ [c]) = Vl k l + (c - 65) * 16 ^ (k - 1 - l.length)
  | 0, l, c, h => by omega
  | k + 1, [], c, h => by
    have : Vl k [] = 0 := by cases k <;> rfl
    simp [Vl, this]
  | k + 1, a :: l, c, h => by
    simp only [List.cons_append, Vl, List.length_cons] at h ⊢
    rw [Vl_snoc k l c (by omega), show k + 1 - 1 - (l.length + 1) = k - 1 - l.length by omega, Nat.add_assoc]
theorem Vl_word : ∀ (j k n : Nat), n < j → (word n).length ≤ k → Vl k (word n) = n * 16 ^ (k - (word n).length)
  | 0, _, n, h, _ => by omega
  | j + 1, k, n, h, hl => by
    by_cases h0 : n = 0
    · subst h0; rw [word_zero]; cases k <;> simp [Vl]
    · have e := word_pos h0
      have hln : (word n).length = (word (n / 16)).length + 1 := by rw [e]; simp
      have ih := Vl_word j k (n / 16) (by omega) (by omega)
      rw [hln]
      conv => lhs; rw [e]
      rw [Vl_snoc k _ _ (by omega), ih, show k - (word (n / 16)).length = (k - ((word (n / 16)).length + 1)) + 1 by omega, Nat.pow_succ, show k - 1 - (word (n / 16)).length = k - ((word (n / 16)).length + 1) by omega,
        show 65 + n % 16 - 65 = n % 16 by omega]
      generalize 16 ^ (k - ((word (n / 16)).length + 1)) = p
      conv => rhs; rw [← Nat.div_add_mod n 16, Nat.add_mul]
      rw [show n / 16 * (p * 16) = 16 * (n / 16) * p by rw [Nat.mul_comm p 16, ← Nat.mul_assoc, Nat.mul_comm (n / 16) 16]]

-- rows
theorem row0 (n : Nat) (h : n < 16 ^ 6) : (rowOf n).getD 0 0 = ((Vl 6 (word n) : Nat) : Int) := by
  rw [Vl_word (n + 1) 6 n (by omega) (word_len 6 n h)]
  simp [rowOf]
theorem code_of (n : Nat) (h : n < 16 ^ 6) : code (rowOf n) = (((Vl 6 (word n) * 7 + (word n).length) * 16777216 + n : Nat) : Int) := by
  unfold code
  rw [row0 n h]
  simp [rowOf]
theorem row_lt (n n' : Nat) (h : n < 16 ^ 6) (h' : n' < 16 ^ 6) : ltI (rowOf n) (rowOf n') = decide (code (rowOf n) < code (rowOf n')) := by
  have e0 := row0 n h
  have e0' := row0 n' h'
  have hl := word_len 6 n h
  have hl' := word_len 6 n' h'
  rw [code_of n h, code_of n' h']
  have r : rowOf n = [((Vl 6 (word n) : Nat) : Int), ((word n).length : Nat), (n : Nat)] := by rw [← e0]; rfl
  have r' : rowOf n' = [((Vl 6 (word n') : Nat) : Int), ((word n').length : Nat), (n' : Nat)] := by rw [← e0']; rfl
  rw [r, r']
  generalize Vl 6 (word n) = x at *
  generalize Vl 6 (word n') = x' at *
  generalize (word n).length = y at *
  generalize (word n').length = y' at *
  simp only [ltI, beq_iff_eq]
  by_cases ex : (x : Int) = x'
  · rw [if_pos ex]
    by_cases ey : (y : Int) = y'
    · rw [if_pos ey]
      by_cases en : (n : Int) = n'
      · rw [if_pos en]
        exact (decide_eq_false (by omega)).symm
      · rw [if_neg en]
        apply decide_eq_decide.mpr
        omega
    · rw [if_neg ey]
      apply decide_eq_decide.mpr
      omega
  · rw [if_neg ex]
    apply decide_eq_decide.mpr
    omega
theorem other_lt {n n' : Nat} (h : n < 16 ^ 6) (h' : n' < 16 ^ 6) (hne : n ≠ n') (hc : code (rowOf n) ≤ code (rowOf n')) : word n < word n' := by
  rw [code_of n h, code_of n' h'] at hc
  have hl := word_len 6 n h
  have hl' := word_len 6 n' h'
  refine Vl_lex 6 _ _ hl hl' (word_chars (n + 1) n (by omega)) (word_chars (n' + 1) n' (by omega)) ?_
  have hc' : (Vl 6 (word n) * 7 + (word n).length) * 16777216 + n ≤ (Vl 6 (word n') * 7 + (word n').length) * 16777216 + n' := by exact_mod_cast hc
  by_cases e : Vl 6 (word n) = Vl 6 (word n')
  · refine .inr ⟨e, ?_⟩
    by_cases e2 : (word n).length = (word n').length
    · exfalso
      rw [Vl_word (n + 1) 6 n (by omega) hl, Vl_word (n' + 1) 6 n' (by omega) hl', e2] at e
      exact hne (Nat.eq_of_mul_eq_mul_right (Nat.pos_of_ne_zero (by simp)) e)
    · rw [e] at hc'; omega
  · left; omega
theorem code_inj {n n' : Nat} (h : n < 16 ^ 6) (h' : n' < 16 ^ 6) (e : code (rowOf n) = code (rowOf n')) : n = n' := by
  rw [code_of n h, code_of n' h'] at e
  omega

theorem perm_inv {α β : Type} {f : α → β} {g : β → α} {l : List α} {l₁ : List β} (h : ∀ x ∈ l, g (f x) = x) (p : l₁.Perm (l.map f)) : (l₁.map g).Perm l ∧ (l₁.map g).map f = l₁ := by
  constructor
  · have := p.map g
    rw [List.map_map] at this
    have e : l.map (g ∘ f) = l := by
      conv => rhs; rw [← List.map_id l]
      exact List.map_congr_left fun x hx => h x hx
    rwa [e] at this
  · rw [List.map_map]
    conv => rhs; rw [← List.map_id l₁]
    refine List.map_congr_left fun y hy => ?_
    obtain ⟨x, hx, rfl⟩ := List.mem_map.mp (p.mem_iff.mp hy)
    show f (g (f x)) = f x
    rw [h x hx]

theorem rising_pw : ∀ (l : List Str) (p : Str), risingS p l = true → (p :: l).Pairwise (fun a b => ¬ b.cps.toList < a.cps.toList)
  | [], p, _ => by simp
  | x :: l, p, h => by
    simp only [risingS, Bool.and_eq_true, Bool.not_eq_true', ltCps_eq, decide_eq_false_iff_not] at h
    have ih := rising_pw l x h.2
    refine List.pairwise_cons.mpr ⟨fun y hy => ?_, ih⟩
    rcases List.mem_cons.mp hy with rfl | hy
    · exact h.1
    · have := (List.pairwise_cons.mp ih).1 y hy
      rw [List.not_lt] at this ⊢
      have h1 := h.1
      rw [List.not_lt] at h1
      exact List.le_trans h1 this
theorem sorted_pw : ∀ (l : List Str), sortedS l = true → l.Pairwise (fun a b => ¬ b.cps.toList < a.cps.toList)
  | [], _ => .nil
  | x :: l, h => rising_pw l x h

theorem told_eq {k : Nat} {nums : List Nat} {short : List Int} {rows : List (List Int)} {told : List Str} (hnd : nums.Nodup) (small : ∀ n ∈ nums, n < 16 ^ 6)
    (hs : short.Perm (zs (nums.filter (isShort k)))) (hs2 : short.Pairwise (· ≤ ·)) (ho : rows.Perm ((nums.filter fun n => !isShort k n).map rowOf)) (ho2 : (rows.map code).Pairwise (· ≤ ·))
    (ht : told.Perm (nums.map (fS k))) (ht2 : sortedS told = true) :
    ∃ xs : List Nat, short ++ rows.map (fun r => r.getD 2 0) = zs xs ∧ (∀ x ∈ xs, x ∈ nums) ∧ told = xs.map (fS k) ∧ xs.Pairwise (fun x y => fL k x < fL k y) := by
  obtain ⟨ps, es⟩ := perm_inv (g := Int.toNat) (by intro x _; simp) hs
  obtain ⟨po, eo⟩ := perm_inv (g := fun r : List Int => (r.getD 2 0).toNat) (by intro x _; simp [rowOf]) ho
  generalize short.map Int.toNat = sn at *
  generalize rows.map (fun r : List Int => (r.getD 2 0).toNat) = on at *
  have hms : ∀ x ∈ sn, x ∈ nums ∧ (word x).length < 6 - k := fun x hx => by
    have := List.mem_filter.mp (ps.mem_iff.mp hx)
    exact ⟨this.1, by simpa [isShort] using this.2⟩
  have hmo : ∀ x ∈ on, x ∈ nums ∧ ¬ (word x).length < 6 - k := fun x hx => by
    have := List.mem_filter.mp (po.mem_iff.mp hx)
    exact ⟨this.1, by simpa [isShort] using this.2⟩
  have hsn : sn.Nodup := ps.symm.nodup (hnd.filter _)
  have hon : on.Nodup := po.symm.nodup (hnd.filter _)
  have pall : (sn ++ on).Perm nums := (ps.append po).trans (List.filter_append_perm (isShort k) nums)
  have pw : (sn ++ on).Pairwise (fun x y => fL k x < fL k y) := by
    refine List.pairwise_append.mpr ⟨?_, ?_, ?_⟩
    · rw [← es] at hs2
      have h1 := (List.pairwise_map.mp hs2).and hsn
      refine h1.imp_of_mem fun {x y} hx hy ⟨h1, h2⟩ => ?_
      obtain ⟨hx1, hx2⟩ := hms x hx
      obtain ⟨hy1, hy2⟩ := hms y hy
      rw [(fL_short hx2).1, (fL_short hy2).1]
      refine pd_lt _ _ _ ?_ ?_
      · have : x ≤ y := by exact_mod_cast h1
        omega
      · exact Nat.lt_of_lt_of_le (word_bound (y + 1) y (by omega)) (Nat.pow_le_pow_right (by omega) (by omega))
    · rw [← eo, List.map_map] at ho2
      have h1 := (List.pairwise_map.mp ho2).and hon
      refine h1.imp_of_mem fun {x y} hx hy ⟨h1, h2⟩ => ?_
      obtain ⟨hx1, hx2⟩ := hmo x hx
      obtain ⟨hy1, hy2⟩ := hmo y hy
      rw [fL_other hx2, fL_other hy2]
      exact other_lt (small x hx1) (small y hy1) h2 h1
    · intro x hx y hy
      obtain ⟨hx1, hx2⟩ := hms x hx
      obtain ⟨hy1, hy2⟩ := hmo y hy
      rw [(fL_short hx2).2, fL_other hy2]
      cases ew : word y with
      | nil => rw [ew] at hy2; simp at hy2; omega
      | cons c t =>
        have hc := word_chars (y + 1) y (by omega) c (by rw [ew]; simp)
        rw [show 6 - (word x).length - k = (6 - (word x).length - k - 1) + 1 by omega, List.replicate_succ, List.cons_append, List.cons_lt_cons_iff]
        left; omega
  refine ⟨sn ++ on, ?_, fun x hx => pall.mem_iff.mp hx, ?_, pw⟩
  · rw [← es, ← eo]
    simp only [zs, List.map_append, List.map_map]
    congr 1
  · refine List.Perm.eq_of_pairwise (le := fun a b : Str => ¬ b.cps.toList < a.cps.toList) ?_ (sorted_pw _ ht2) ?_ (ht.trans (pall.symm.map (fS k)))
    · intro a b _ _ h1 h2
      rw [List.not_lt] at h1 h2
      have e : a.cps.toList = b.cps.toList := List.le_antisymm h1 h2
      cases a; cases b
      simp only [Array.toList_inj] at e
      rw [e]
    · refine List.pairwise_map.mpr (pw.imp fun {x y} h => ?_)
      unfold fS
      rw [sOf_cps, sOf_cps]
      exact List.lt_asymm h
theorem fL_ascii (k n : Nat) : ∀ c ∈ fL k n, c < 128 := fun c hc => pad_ascii n c (List.mem_of_mem_drop hc)
theorem fS_ok (k : Nat) (nums : List Nat) : ∀ x ∈ nums.map (fS k), PyData.strOk x = true := fun x hx => by
  obtain ⟨n, _, rfl⟩ := List.mem_map.mp hx
  exact strOk_sOf (fL_ascii k n)
end Mine

namespace Mine

def forBody : List Stmt := match stm 5 with | .For _ _ b _ _ => b | _ => []
def bst (i : Nat) : Stmt := forBody.getD i (.Pass default)

structure Bs (s₁ : Shared) (nums : List Nat) (L : Nat) (m : Str → Option Value) (c0 c2 c3 : Option Value) (nv wv lv : Value) (s : Shared) : Prop where
  W : Lw s₁ L m c0 (some nv) c2 c3 s
  hn : LI s.heap nv (zs nums)
  hw : LS s.heap wv (nums.map wS)
  hl : LS s.heap lv (nums.map pS)
  mw : m "words" = some wv
  ml : m "lines" = some lv

section
variable {w : World} {A : Around} {s s' s₁ : Shared} {L : Nat} {m : Str → Option Value} {c0 c1 c2 c3 : Option Value} {a : Addr} {cd : Value} {mg mb : Str → Option Value} {E : Value → Shared → Prop} {Q : Flow → Shared → Prop} {nums : List Nat} {nv wv lv : Value} {k : Nat} {tk : Tok}
theorem Bs.kp (B : Bs s₁ nums L m c0 c2 c3 nv wv lv s) (k : Keeps s s') : Bs s₁ nums L m c0 c2 c3 nv wv lv s' := ⟨B.W.kp k, B.hn.kp k, B.hw.kp k, B.hl.kp k, B.mw, B.ml⟩
theorem Bs.to (B : Bs s₁ nums L m c0 c2 c3 nv wv lv s) {m' c0' c2' c3'} (W' : Lw s₁ L m' c0' (some nv) c2' c3' s') (k : KpX (wX L) s s') (h1 : m' "words" = m "words") (h2 : m' "lines" = m "lines") : Bs s₁ nums L m' c0' c2' c3' nv wv lv s' :=
  ⟨W', B.W.li k B.hn, B.W.ls k B.hw, B.W.ls k B.hl, h1.trans B.mw, h2.trans B.ml⟩

theorem bt0 (X : Cx A mg mb s₁ nums) (hk : k ≤ 6) (B : Bs s₁ nums L m c0 (some (.int k tk)) c3 nv wv lv s)
    (h : ∀ s' fv, Bs s₁ nums L m c0 (some (.int k tk)) (some fv) nv wv lv s' → KpX (wX L) s s' → LS s'.heap fv (nums.map (fS k)) → Q .next s') : wpAny (model prog w) A (exec (bst 0) (lawEnv L a cd)) Q E s := by
  obtain ⟨fa, fc, F⟩ := X.G.fn 5 (by decide)
  have W := B.W
  have GG : ∀ s', Keeps s s' → Gd mg mb s'.heap := fun s' k => X.G.keeps (kp_get (kp_trans W.keeps k))
  have FF : ∀ s', Keeps s s' → Fn mg s'.heap (recAt 5) fa fc := fun s' k => F.keeps (kp_get (kp_trans W.keeps k))
  obtain ⟨vs, hp, hI⟩ := id B.hl
  have hvl : vs.length = nums.length := by rw [hI.length]; simp
  have hlen := X.len
  refine wpAny_Assign_Name ((do_compN (P := fun v s' => LS s'.heap v (nums.map (fS k))) (fun _ i y _ => ∃ t, y = .str (fS k (nums.getD i 0)) t) (fun _ => true) X.hh (fun _ _ _ _ _ q _ => q) (do_name (nm_loc rfl rfl W.ns B.ml) ⟨vs, hp, by omega, ?turn, ?fin⟩) rfl).use fun v s₂ k2 h2 => ?out)
  case out =>
    exact lw_store3 (W.kp k2) rfl rfl rfl fun s₃ W3 k3 => h _ _ ((B.kp k2).to W3 k3 rfl rfl) (kpx_trans (kpx_of k2) k3) ((W.kp k2).ls k3 h2)
  case turn =>
    intro C Y i v s₃ hv hnx k3 hY
    obtain ⟨n, t, hi, rfl⟩ := str_at hI hv
    have hsm := X.small n (List.mem_of_getElem? hi)
    refine do_tests_nil ⟨rfl, fun _ => do_call_f (FF _ k3) (do_name (nm_comp_fn (GG _ k3) (FF _ k3) rfl rfl rfl) ⟨rfl, do_two (do_name hnx (do_name (nm_comp_cell rfl rfl rfl (W.cell2.keeps (kp_get k3)))
      (strip_padding X.hh X.room (GG _ k3) (FF _ k3) (pad_padded hsm) hk fun s₄ t4 k4 => ⟨t4, ?_⟩)))⟩)⟩
    rw [nD_of hi]; rfl
  case fin =>
    intro v s' ys Y k' hpl hpr
    have := strs_of_paired hpr
    rw [hvl, range_map nums 0 (fS k)] at this
    exact ⟨_, hpl, this⟩

theorem bt1 {fv} (X : Cx A mg mb s₁ nums) (hk : k ≤ 6) (B : Bs s₁ nums L m c0 (some (.int k tk)) (some fv) nv wv lv s) (hf : LS s.heap fv (nums.map (fS k)))
    (h : ∀ s', Keeps s s' → Q .next s') : wpAny (model prog w) A (exec (bst 1) (lawEnv L a cd)) Q E s := by
  have W := B.W
  have GG : ∀ s', Keeps s s' → Gd mg mb s'.heap := fun s' k => X.G.keeps (kp_get (kp_trans W.keeps k))
  obtain ⟨vs, hp, hI⟩ := id B.hl
  obtain ⟨us, hq, hJ⟩ := id B.hw
  have hvl : vs.length = nums.length := by rw [hI.length]; simp
  have hul : us.length = nums.length := by rw [hJ.length]; simp
  have hlen := X.len
  refine wpAny_If ((do_true_cmp (P := fun b s' => b = false) (do_name (nm_cell rfl rfl rfl W.cell3) (do_compP (fun _ i y _ => ∃ t, y = .str (fS k (nums.getD i 0)) t) (fun _ => true) (fun _ _ _ _ _ q _ => q)
    (do_call_t (T := "zip") (do_name (nm_bi (GG _ (kp_refl _)) rfl rfl rfl rfl (by decide)) ⟨rfl, do_two (do_name (nm_loc rfl rfl W.ns B.ml) (do_name (nm_loc rfl rfl W.ns B.mw) ((iter_zip X.hh (kp_refl _) hp hq).mono fun ev s₂ k2 h2 => ⟨_, _, h2, by omega, ?turn, ?fin⟩)))⟩)) rfl))).use fun b s₂ k2 h2 => ?out)
  case out =>
    subst h2
    exact wpAny_execs_nil (h _ k2)
  case turn =>
    rintro C Y i u v s₃ hi ⟨hu, hv⟩ hnl hnw k3 hY
    obtain ⟨n, t, hi, rfl⟩ := str_at hI hu
    obtain ⟨n', t', hi', rfl⟩ := str_at hJ hv
    obtain rfl : n = n' := by rw [hi] at hi'; exact Option.some.inj hi'
    have hsm := X.small n (List.mem_of_getElem? hi)
    have hwl := word_len 6 n hsm
    refine do_tests_nil ⟨rfl, fun _ => do_sub (do_name hnl (do_slice (do_part (do_call_b (id := "min") (do_name (nm_comp_bi (GG _ k3) rfl rfl rfl rfl (by decide)) ⟨rfl, do_two (do_name (nm_comp_cell rfl rfl rfl (W.cell2.keeps (kp_get k3))) (do_binop (do_int fun t2 tk2 =>
      do_call_b (id := "len") (do_name (nm_comp_bi (GG _ (kp_trans k3 (kp_tok _))) rfl rfl rfl rfl (by decide)) ⟨rfl, do_one (do_name (hnw.kp (kp_tok _)) (do_len_str ?_ fun t3 tk3 => do_sub_int fun t4 tk4 => do_min X.hh fun t5 s₅ k5 => ?_))⟩))))⟩)))))⟩
    · unfold wS; rw [sOf_len]; omega
    · refine do_part_none fun b s₆ k6 hb => ?_
      have e : min (k : Int) ((6 : Int) - ((wS n).length : Nat)) = ((min k (6 - (word n).length) : Nat) : Int) := by unfold wS; rw [sOf_len]; omega
      rw [e] at hb
      refine ⟨"str", _, _, typeIs_str _ _ _, slot_str_getitem.lookup, rfl, do_get_sslice (hi := none) hb rfl ?_ ?_ (.inl rfl) fun t'' _ => ⟨t'', ?_⟩⟩
      · rw [(pad_padded hsm).1]; omega
      · rw [(pad_padded hsm).1]; omega
      · rw [nD_of hi]; rfl
  case fin =>
    intro v s₃ ys Y k3 hpl hpr
    have h3 := strs_of_paired hpr
    rw [hvl, hul, Nat.min_self, range_map nums 0 (fS k)] at h3
    refine do_ne_strs (hf.kp k3) ⟨_, hpl, h3⟩ X.units (fS_ok k nums) (fS_ok k nums) (do_truthy_bool ?_)
    simp

theorem bt2 {fv} (X : Cx A mg mb s₁ nums) (hk : k ≤ 6) (B : Bs s₁ nums L m c0 (some (.int k tk)) (some fv) nv wv lv s)
    (h : ∀ s' sv short, Bs s₁ nums L (fun y => if y = "short" then some sv else m y) c0 (some (.int k tk)) (some fv) nv wv lv s' → KpX (wX L) s s' → LI s'.heap sv short → short.Perm (zs (nums.filter (isShort k))) → short.Pairwise (· ≤ ·) → Q .next s') :
    wpAny (model prog w) A (exec (bst 2) (lawEnv L a cd)) Q E s := by
  have W := B.W
  have GG : ∀ s', Keeps s s' → Gd mg mb s'.heap := fun s' k => X.G.keeps (kp_get (kp_trans W.keeps k))
  obtain ⟨vs, hp, hI⟩ := id B.hn
  obtain ⟨us, hq, hJ⟩ := id B.hw
  have hvl : vs.length = nums.length := by rw [hI.length]; simp [zs]
  have hul : us.length = nums.length := by rw [hJ.length]; simp
  have hlen := X.len
  refine wpAny_Assign_Name ((do_call_b (id := "sorted") (P := fun v s' => ∃ short, LI s'.heap v short ∧ short.Perm (zs (nums.filter (isShort k))) ∧ short.Pairwise (· ≤ ·)) (do_name (nm_bi (GG _ (kp_refl _)) rfl rfl rfl rfl (by decide)) ⟨rfl, do_one
    (do_compP (fun _ i y _ => ∃ t, y = .int ((nums.getD i 0 : Nat) : Int) t) (fun i => isShort k (nums.getD i 0)) (fun _ _ _ _ _ q _ => q)
    (do_call_t (T := "zip") (do_name (nm_bi (GG _ (kp_refl _)) rfl rfl rfl rfl (by decide)) ⟨rfl, do_two (do_name (nm_cell rfl rfl rfl W.cell1) (do_name (nm_loc rfl rfl W.ns B.mw) ((iter_zip X.hh (kp_refl _) hp hq).mono fun ev s₂ k2 h2 => ⟨_, _, h2, by omega, ?turn, ?fin⟩)))⟩)) rfl)⟩)).use fun v s₂ k2 h2 => ?out)
  case out =>
    obtain ⟨short, h2, h3, h4⟩ := h2
    exact lw_store (W.kp k2) rfl rfl rfl fun s₃ W3 k3 => h _ _ short ((B.kp k2).to W3 k3 rfl rfl) (kpx_trans (kpx_of k2) k3) ((W.kp k2).li k3 h2) h3 h4
  case turn =>
    rintro C Y i u v s₃ hi ⟨hu, hv⟩ hnl hnw k3 hY
    obtain ⟨n, t, hi, rfl⟩ := nat_at hI hu
    obtain ⟨n', t', hi', rfl⟩ := str_at hJ hv
    obtain rfl : n = n' := by rw [hi] at hi'; exact Option.some.inj hi'
    have hsm := X.small n (List.mem_of_getElem? hi)
    have hwl := word_len 6 n hsm
    refine do_tests_one (do_true_cmp (do_call_b (id := "len") (do_name (nm_comp_bi (GG _ k3) rfl rfl rfl rfl (by decide)) ⟨rfl, do_one (do_name hnw (do_len_str ?_ fun t3 tk3 => do_binop (do_int fun t4 tk4 => do_name (nm_comp_cell rfl rfl rfl (W.cell2.keeps (kp_get (kp_trans k3 (kp_tok _))))) (do_sub_int fun t5 tk5 => do_lt_int (do_truthy_bool ⟨?_, fun _ =>
      do_name (hnl.kp (kp_tok _)) ⟨t, ?_⟩⟩)))))⟩)))
    · unfold wS; rw [sOf_len]; omega
    · rw [nD_of hi]
      unfold isShort wS
      rw [sOf_len]
      apply decide_eq_decide.mpr
      omega
    · rw [nD_of hi]
  case fin =>
    intro v s₃ ys Y k3 hpl hpr
    have h3 := ints_of_paired hpr
    rw [hvl, hul, Nat.min_self, range_filter nums 0 (isShort k) (fun n => ((n : Nat) : Int))] at h3
    refine do_sorted_ints ⟨_, hpl, h3⟩ ?_ fun r s₄ ns' k4 q1 q2 q3 => ⟨ns', q1, q2, q3⟩
    have := List.length_filter_le (isShort k) nums
    simp; omega
end
end Mine

namespace Mine
def LIx (X : List Addr) (h : Heap) (v : Value) (ns : List Int) : Prop := ∃ a vs, v = .ref a ∧ a ∉ X ∧ h.PlainList a (List.toArray vs) ∧ IntsAre vs ns
theorem rows_of_paired {X h} {g : Nat → List Int} : ∀ {l : List Nat} {ys : List Value}, Paired (fun i y => LIx X h y (g i)) l ys → Paired (fun u r => LI h u r) ys (l.map g)
  | _, _, .nil => .nil
  | _, _, .cons ⟨a, vs, e, _, hp, hI⟩ h => .cons ⟨vs, ⟨a, e, hp⟩, hI⟩ (rows_of_paired h)
theorem pow16_ok : ∀ j : Fin 7, (Builtin.Int.intBits 16 : Int) * ((j : Nat) : Int) ≤ 2 ^ 27 := by decide +kernel
theorem mul16_ok : ∀ j : Fin 7, Builtin.Int.intBits ((16 : Int) ^ (j : Nat)) ≤ 64 := by decide +kernel
theorem not_short (k n : Nat) (h : k ≤ 6) : (!isShort k n) = decide ((6 : Int) - k ≤ ((word n).length : Nat)) := by
  unfold isShort
  rw [← decide_not]
  apply decide_eq_decide.mpr
  omega

section
variable {w : World} {A : Around} {s s' s₁ : Shared} {L : Nat} {m : Str → Option Value} {c0 c1 c2 c3 : Option Value} {a : Addr} {cd : Value} {mg mb : Str → Option Value} {E : Value → Shared → Prop} {Q : Flow → Shared → Prop} {nums : List Nat} {nv wv lv : Value} {k : Nat} {tk : Tok}
theorem do_list3 {env elts pos} {P : Value → Shared → Prop} (h : Do w A (spliced (backTo pos (starEach elts env))) (fun vs s₁ => vs.length ≤ 16777216 ∧ ∀ s', Keeps s₁ s' → s'.heap.PlainList s₁.heap.objs.size vs.toArray → P (.ref s₁.heap.objs.size) s') s) : Do w A (eval (.List elts pos) env) P s :=
  fun _ => List_ (h.use fun vs s₁ k1 h1 => wpAny_newList ⟨kp_trans k1 (kp_push _), h1.2 _ (kp_push _) ⟨0, Heap.get?_push_size _ rfl⟩⟩ (by rw [sizeLine_eq]; exact h1.1))

theorem do_lenword {env : Env} {n : Nat} {t' : Tok} {pn pf pc} {P : Value → Shared → Prop} (hb : Nm env s.heap "len" (.builtin "len")) (hw : Nm env s.heap "word" (.str (wS n) t')) (hl : (word n).length ≤ 6)
    (h : ∀ t tk, P (.int ((word n).length : Nat) t) { s with toks := tk }) (hc : eval (.Call (.Name "len" pf) [.Name "word" pn] [] pc) env = (do callWith pc (← eval (.Name "len" pf) env) [] (backTo pc (starEach [.Name "word" pn] env)) (backToKw pc (keywordEach [] env))) := by rfl) :
    Do w A (eval (.Call (.Name "len" pf) [.Name "word" pn] [] pc) env) P s := by
  have hws : (wS n).length = (word n).length := by unfold wS; rw [sOf_len]
  refine do_call_b (id := "len") (do_name hb ⟨rfl, do_one (do_name hw (do_len_str (by omega) fun t3 tk3 => ?_))⟩)
  rw [hws]; exact h _ _

theorem bt3 {fv} (X : Cx A mg mb s₁ nums) (hk : k ≤ 6) (B : Bs s₁ nums L m c0 (some (.int k tk)) (some fv) nv wv lv s)
    (h : ∀ s' ov rows, Bs s₁ nums L (fun y => if y = "others" then some ov else m y) c0 (some (.int k tk)) (some fv) nv wv lv s' → KpX (wX L) s s' → LR s'.heap ov rows → rows.Perm ((nums.filter fun n => !isShort k n).map rowOf) → (rows.map code).Pairwise (· ≤ ·) → Q .next s') :
    wpAny (model prog w) A (exec (bst 3) (lawEnv L a cd)) Q E s := by
  have W := B.W
  have GG : ∀ s', Keeps s s' → Gd mg mb s'.heap := fun s' k => X.G.keeps (kp_get (kp_trans W.keeps k))
  obtain ⟨vs, hp, hI⟩ := id B.hn
  obtain ⟨us, hq, hJ⟩ := id B.hw
  have hvl : vs.length = nums.length := by rw [hI.length]; simp [zs]
  have hul : us.length = nums.length := by rw [hJ.length]; simp
  have hlen := X.len
  have hun := X.units
  refine wpAny_Assign_Name ((do_call_b (id := "sorted") (P := fun v s' => ∃ rows, LR s'.heap v rows ∧ rows.Perm ((nums.filter fun n => !isShort k n).map rowOf) ∧ (rows.map code).Pairwise (· ≤ ·)) (do_name (nm_bi (GG _ (kp_refl _)) rfl rfl rfl rfl (by decide)) ⟨rfl, do_one
    (do_compP (fun X i y h => LIx X h y (rowOf (nums.getD i 0))) (fun i => !isShort k (nums.getD i 0)) ?hF
    (do_call_t (T := "zip") (do_name (nm_bi (GG _ (kp_refl _)) rfl rfl rfl rfl (by decide)) ⟨rfl, do_two (do_name (nm_cell rfl rfl rfl W.cell1) (do_name (nm_loc rfl rfl W.ns B.mw) ((iter_zip X.hh (kp_refl _) hp hq).mono fun ev s₂ k2 h2 => ⟨_, _, h2, by omega, ?turn, ?fin⟩)))⟩)) rfl)⟩)).use fun v s₂ k2 h2 => ?out)
  case hF =>
    rintro Y i y h h' ⟨a, vs, e, ha, hp, hI⟩ hk
    exact ⟨a, vs, e, ha, hp.at fun o e => hk a o ha e, hI⟩
  case out =>
    obtain ⟨rows, h2, h3, h4⟩ := h2
    exact lw_store (W.kp k2) rfl rfl rfl fun s₃ W3 k3 => h _ _ rows ((B.kp k2).to W3 k3 rfl rfl) (kpx_trans (kpx_of k2) k3) ((W.kp k2).lr k3 h2) h3 h4
  case turn =>
    rintro C Y i u v s₃ hi ⟨hu, hv⟩ hnl hnw k3 hY
    obtain ⟨n, t, hi, rfl⟩ := nat_at hI hu
    obtain ⟨n', t', hi', rfl⟩ := str_at hJ hv
    obtain rfl : n = n' := by rw [hi] at hi'; exact Option.some.inj hi'
    have hsm := X.small n (List.mem_of_getElem? hi)
    have hwl := word_len 6 n hsm
    have hws : (wS n).length = (word n).length := by unfold wS; rw [sOf_len]
    refine do_tests_one (do_true_cmp (do_lenword (nm_comp_bi (GG _ k3) rfl rfl rfl rfl (by decide)) hnw hwl fun t3 tk3 => do_binop (do_int fun t4 tk4 => do_name (nm_comp_cell rfl rfl rfl (W.cell2.keeps (kp_get (kp_trans k3 (kp_tok _))))) (do_sub_int fun t5 tk5 => do_ge_int (do_truthy_bool ⟨?_, fun _ => ?_⟩)))))
    · rw [nD_of hi, not_short k n hk]
    · refine do_list3 (do_items_cons (do_binop (do_name (hnl.kp (kp_tok _)) (do_binop (do_int fun t6 tk6 => do_binop (do_int fun t7 tk7 => do_lenword (nm_comp_bi (GG _ (kp_trans k3 (kp_tok _))) rfl rfl rfl rfl (by decide)) (hnw.kp (kp_tok _)) hwl fun t8 tk8 => do_sub_int fun t9 tk9 => ?_))))))
      have e6 : (6 : Int) - ((word n).length : Nat) = ((6 - (word n).length : Nat) : Int) := by omega
      rw [e6]
      refine do_pow_int (by omega) (pow16_ok ⟨6 - (word n).length, by omega⟩) fun t10 tk10 => do_mul_int (IntMulOk.of_right ?_) fun t11 tk11 => do_items_cons (do_lenword (nm_comp_bi (GG _ (kp_trans k3 (kp_tok _))) rfl rfl rfl rfl (by decide)) (hnw.kp (kp_tok _)) hwl fun t12 tk12 => do_items_cons (do_name (hnl.kp (kp_tok _)) (do_items_nil ⟨by simp, fun s₅ k5 hp5 => ?_⟩)))
      · rw [Int.toNat_natCast]; exact mul16_ok ⟨6 - (word n).length, by omega⟩
      · refine ⟨_, _, rfl, ?_, hp5, ?_⟩
        · intro hb
          have := hY _ (kp_tok tk12) _ hb
          exact Nat.lt_irrefl _ this
        · rw [nD_of hi, Int.toNat_natCast]
          exact .cons _ _ (.cons _ _ (.cons _ _ .nil))
  case fin =>
    intro v s₃ ys Y k3 hpl hpr
    have h3 := rows_of_paired hpr
    rw [hvl, hul, Nat.min_self, range_filter nums 0 (fun n => !isShort k n) rowOf] at h3
    have mem : ∀ r ∈ (nums.filter fun n => !isShort k n).map rowOf, ∃ n, n < 16 ^ 6 ∧ r = rowOf n := fun r hr => by
      obtain ⟨n, hn, rfl⟩ := List.mem_map.mp hr
      exact ⟨n, X.small n (List.mem_filter.mp hn).1, rfl⟩
    refine do_sorted_rows code (by omega) ⟨_, hpl, h3⟩ ?_ ?_ ?_ fun r s₄ ns' k4 q1 q2 q3 => ⟨ns', q1, q2, q3⟩
    · have := List.length_filter_le (fun n => !isShort k n) nums
      simp only [List.length_map]; omega
    · intro r hr r' hr'
      obtain ⟨n, hn, rfl⟩ := mem r hr
      obtain ⟨n', hn', rfl⟩ := mem r' hr'
      exact row_lt n n' hn hn'
    · rw [List.map_map]
      refine List.pairwise_map.mpr ?_
      refine (X.nd.filter (fun n => !isShort k n)).imp_of_mem fun {x y} hx hy hne e => hne ?_
      exact code_inj (X.small x (List.mem_filter.mp hx).1) (X.small y (List.mem_filter.mp hy).1) e

theorem bt4 {fv} (X : Cx A mg mb s₁ nums) (hk : k ≤ 6) (hroom : A.in1.in1.depth < recursionLimit) (B : Bs s₁ nums L m c0 (some (.int k tk)) (some fv) nv wv lv s) (hf : LS s.heap fv (nums.map (fS k)))
    (h : ∀ s' tv told, Bs s₁ nums L (fun y => if y = "told" then some tv else m y) c0 (some (.int k tk)) (some fv) nv wv lv s' → KpX (wX L) s s' → LS s'.heap tv told → told.Perm (nums.map (fS k)) → sortedS told = true → Q .next s') :
    wpAny (model prog w) A (exec (bst 4) (lawEnv L a cd)) Q E s := by
  obtain ⟨fa, fc, F⟩ := X.G.fn 4 (by decide)
  have W := B.W
  have GG : ∀ s', Keeps s s' → Gd mg mb s'.heap := fun s' k => X.G.keeps (kp_get (kp_trans W.keeps k))
  have FF : ∀ s', Keeps s s' → Fn mg s'.heap (recAt 4) fa fc := fun s' k => F.keeps (kp_get (kp_trans W.keeps k))
  have hlen := X.len
  refine wpAny_Assign_Name ?_
  show wpAny _ A (eval (.Call (.Name _ _) [_] [⟨some _, .Name _ _, _⟩] _) _) _ E s
  refine wpAny_bind (wp_name (nm_bi (v := .builtin "sorted") (GG _ (kp_refl _)) rfl rfl rfl rfl (by decide)) (callWith_kw (wpAny_items_cons (wp_name (nm_cell rfl rfl rfl W.cell3) (wpAny_items_nil (kws_cons (wp_name (nm_fn (GG _ (kp_refl _)) (FF _ (kp_refl _)) rfl rfl rfl) (kws_nil ?_)))))))) 
  refine (do_sorted_key (P := fun v s' => ∃ told, LS s'.heap v told ∧ told.Perm (nums.map (fS k)) ∧ sortedS told = true) hf (by simp; omega) (fun x t s₂ k2 => strxfrm hroom (GG _ k2) (FF _ k2) fun s₃ k3 => rfl) fun r s₂ ss k2 q1 q2 q3 => ⟨ss, q1, q2, q3⟩).use fun v s₂ k2 h2 => ?_
  obtain ⟨told, h2, h3, h4⟩ := h2
  exact lw_store (W.kp k2) rfl rfl rfl fun s₃ W3 k3 => h _ _ told ((B.kp k2).to W3 k3 rfl rfl) (kpx_trans (kpx_of k2) k3) ((W.kp k2).ls k3 h2) h3 h4
end
end Mine

namespace Mine
theorem idx_at {nums : List Nat} {x : Nat} (h : x ∈ nums) : (((x : Nat) : Int) ∈ zs nums) ∧ nums[List.idxOf ((x : Nat) : Int) (zs nums)]? = some x := by
  have hm : ((x : Nat) : Int) ∈ zs nums := List.mem_map.mpr ⟨x, h, rfl⟩
  refine ⟨hm, ?_⟩
  have hj : List.idxOf ((x : Nat) : Int) (zs nums) < (zs nums).length := List.idxOf_lt_length_iff.mpr hm
  have e := List.getElem_idxOf hj
  generalize List.idxOf ((x : Nat) : Int) (zs nums) = j at *
  have hj' : j < nums.length := by simpa [zs] using hj
  rw [List.getElem?_eq_getElem hj']
  simp only [zs, List.getElem_map] at e
  exact congrArg some (by exact_mod_cast e)

section
variable {w : World} {A : Around} {s s' s₁ : Shared} {L : Nat} {m : Str → Option Value} {c0 c1 c2 c3 : Option Value} {a : Addr} {cd : Value} {mg mb : Str → Option Value} {E : Value → Shared → Prop} {Q : Flow → Shared → Prop} {nums : List Nat} {nv wv lv : Value} {k : Nat} {tk : Tok}

theorem bt5 {fv sv ov tv} {short : List Int} {rows : List (List Int)} {xs : List Nat} (X : Cx A mg mb s₁ nums) (B : Bs s₁ nums L m c0 (some (.int k tk)) (some fv) nv wv lv s) (hf : LS s.heap fv (nums.map (fS k)))
    (hs : LI s.heap sv short) (ho : LR s.heap ov rows) (ht : LS s.heap tv (xs.map (fS k))) (ms : m "short" = some sv) (mo : m "others" = some ov) (mt : m "told" = some tv)
    (hx : short ++ rows.map (fun r => r.getD 2 0) = zs xs) (hxn : ∀ x ∈ xs, x ∈ nums) (hxl : xs.length ≤ 63) (h3 : ∀ r ∈ rows, r.length = 3)
    (h : ∀ s', Keeps s s' → Q .next s') : wpAny (model prog w) A (exec (bst 5) (lawEnv L a cd)) Q E s := by
  have W := B.W
  have GG : ∀ s', Keeps s s' → Gd mg mb s'.heap := fun s' k => X.G.keeps (kp_get (kp_trans W.keeps k))
  obtain ⟨vs, hp, hI⟩ := id hs
  obtain ⟨us, hq, hJ⟩ := id ho
  have hvl : vs.length = short.length := hI.length
  have hul : us.length = rows.length := hJ.length
  have hlen := X.len
  have hxl' : short.length + rows.length = xs.length := by
    have := congrArg List.length hx
    simpa [zs] using this
  refine wpAny_If ((do_true_cmp (P := fun b s' => b = false) (do_name (nm_loc rfl rfl W.ns mt) (do_compN (fun _ i y _ => ∃ t, y = .str (fS k (xs.getD i 0)) t) (fun _ => true) X.hh (fun _ _ _ _ _ q _ => q)
    (do_binop (do_name (nm_loc rfl rfl W.ns ms) (do_compN (fun _ i y _ => ∃ t, y = .int ((rows.getD i []).getD 2 0) t) (fun _ => true) X.hh (fun _ _ _ _ _ q _ => q) (do_name (nm_loc rfl rfl W.ns mo) ⟨us, hq, by omega, ?turn1, ?fin1⟩) rfl))) rfl))).use fun b s₂ k2 h2 => ?out)
  case out =>
    subst h2
    exact wpAny_execs_nil (h _ k2)
  case turn1 =>
    intro C Y i v s₃ hv hnx k3 hY
    have hi : i < us.length := (List.getElem?_eq_some_iff.mp hv).1
    have hr : rows[i]? = some (rows.getD i []) := by simp [show i < rows.length by omega]
    have hli : LI s₃.heap v (rows.getD i []) := (Paired.get hJ i v _ hv hr).kp k3
    have hr3 := h3 _ (List.mem_of_getElem? hr)
    generalize rows.getD i [] = r at *
    obtain ⟨ws, hpw, hIw⟩ := hli
    obtain ⟨t2, e2⟩ := (intsAre_get hIw 2).1 (r.getD 2 0) (by simp [show 2 < r.length by omega])
    obtain ⟨ad, rfl, nd, had⟩ := id hpw
    exact do_tests_nil ⟨rfl, fun _ => do_sub (do_name hnx (do_int fun t5 tk5 => ⟨"list", _, _, ⟨_, had, rfl⟩, slot_list_getitem.lookup, rfl, do_get_item (k := 2) (hpw.keeps fun _ _ e => e) (by decide) (by decide) e2 ⟨t2, rfl⟩⟩))⟩
  case fin1 =>
    intro v s₃ ys Y k3 hpl hpr
    have hys := ints_of_paired hpr
    rw [hul, range_map rows [] (fun r => r.getD 2 0)] at hys
    have hyl := hys.length
    rw [List.length_map] at hyl
    refine do_add_list (hp.kp k3) hpl (by omega) fun r s₄ k4 hr4 => ?_
    have hall := hI.append hys
    rw [hx] at hall
    refine ⟨_, hr4, by rw [List.length_append]; omega, ?turn, ?fin⟩
    case turn =>
      intro C Y i v s₅ hv hnx k5 hY
      obtain ⟨n, t, hi, rfl⟩ := nat_at hall hv
      have hn := hxn n (List.mem_of_getElem? hi)
      obtain ⟨i1, i2⟩ := idx_at hn
      obtain ⟨fs, hpf, hIf⟩ := id hf
      refine do_tests_nil ⟨rfl, fun _ => do_sub (do_name (nm_comp_cell rfl rfl rfl (W.cell3.keeps (kp_get k5))) (do_index rfl rfl rfl (do_name (nm_comp_cell rfl rfl rfl (W.cell1.keeps (kp_get k5))) ⟨zs nums, B.hn.kp k5, by simp [zs]; omega, ?_, do_name hnx ⟨_, t, rfl, i1, fun t6 tk6 => ?_⟩⟩)))⟩
      · intro z hz
        obtain ⟨q, hq, rfl⟩ := List.mem_map.mp hz
        simpa using X.small q hq
      · have hpf5 := hpf.kp k5
        obtain ⟨ad, rfl, nd, had⟩ := id hpf5
        have hlt := (List.getElem?_eq_some_iff.mp i2).1
        obtain ⟨t7, e7⟩ := StrsAre.at hIf (j := List.idxOf ((n : Nat) : Int) (zs nums)) (y := fS k n) (by rw [List.getElem?_map, i2]; rfl)
        exact ⟨"list", _, _, ⟨_, had, rfl⟩, slot_list_getitem.lookup, rfl, do_get_item (hpf5.keeps fun _ _ e => e) (by omega) (by omega) (by simpa using e7) ⟨t7, by rw [nD_of hi]⟩⟩
    case fin =>
      intro v s₅ zz Y k5 hpl5 hpr5
      have h5 := strs_of_paired hpr5
      have el : (vs ++ ys).length = xs.length := by rw [List.length_append]; omega
      rw [el, range_map xs 0 (fS k)] at h5
      refine do_ne_strs (ht.kp k5) ⟨_, hpl5, h5⟩ X.units (fS_ok k xs) (fS_ok k xs) (do_truthy_bool ?_)
      simp

theorem flat_ints : ∀ (yss : List (List Value)), (∀ (i : Nat) (us : List Value), yss[i]? = some us → ∃ t1 t2 t3 : Tok, us = ([.int (-1) t1, .int 1 t2, .int 0 t3] : List Value)) → IntsAre yss.flatten (List.replicate yss.length ([-1, 1, 0] : List Int)).flatten
  | [], _ => .nil
  | us :: yss, h => by
    obtain ⟨t1, t2, t3, rfl⟩ := h 0 us rfl
    rw [List.flatten_cons, List.length_cons, List.replicate_succ, List.flatten_cons]
    exact IntsAre.append (.cons _ _ (.cons _ _ (.cons _ _ .nil))) (flat_ints yss fun i us hi => h (i + 1) us (by simpa using hi))

theorem bt6 {fv tv} {xs : List Nat} (X : Cx A mg mb s₁ nums) (B : Bs s₁ nums L m c0 (some (.int k tk)) (some fv) nv wv lv s)
    (ht : LS s.heap tv (xs.map (fS k))) (mt : m "told" = some tv) (hxl : xs.length ≤ 63) (hx0 : 0 < xs.length) (hpw : xs.Pairwise fun x y => fL k x < fL k y)
    (h : ∀ s' cv, Bs s₁ nums L (fun y => if y = "compared" then some cv else m y) c0 (some (.int k tk)) (some fv) nv wv lv s' → KpX (wX L) s s' → LI s'.heap cv (List.replicate (xs.length - 1) ([-1, 1, 0] : List Int)).flatten → Q .next s') :
    wpAny (model prog w) A (exec (bst 6) (lawEnv L a cd)) Q E s := by
  obtain ⟨fa, fc, F⟩ := X.G.fn 3 (by decide)
  have W := B.W
  have GG : ∀ s', Keeps s s' → Gd mg mb s'.heap := fun s' k => X.G.keeps (kp_get (kp_trans W.keeps k))
  have FF : ∀ s', Keeps s s' → Fn mg s'.heap (recAt 3) fa fc := fun s' k => F.keeps (kp_get (kp_trans W.keeps k))
  obtain ⟨vs, hp, hI⟩ := id ht
  have hvl : vs.length = xs.length := by rw [hI.length]; simp
  refine wp_comp2_store (fun i us => ∃ t1 t2 t3 : Tok, us = [.int (-1) t1, .int 1 t2, .int 0 t3]) X.hh (by rintro i us ⟨t1, t2, t3, rfl⟩; simp) W.ns
    (do_call_t (T := "zip") (do_name (nm_bi (GG _ (kp_refl _)) rfl rfl rfl rfl (by decide)) ⟨rfl, do_two (do_name (nm_loc rfl rfl W.ns mt) (do_sub (do_name (nm_loc rfl rfl W.ns mt) (do_slice (do_part (do_int fun t1 tk1 => do_part_none fun b s₂ k2 hb => ?_))))))⟩)) rfl rfl rfl rfl
  have k2' := kp_trans (kp_tok tk1) k2
  have hp2 := hp.kp k2'
  obtain ⟨ad, rfl, nd, had⟩ := id hp2
  refine ⟨"list", _, _, ⟨_, had, rfl⟩, slot_list_getitem.lookup, rfl, do_get_slice hp2 hb (.int _ _) .none (by omega) fun r s₃ k3 hr => ?_⟩
  have e1 : (slicePick vs.toArray (some 1) none none).toList = vs.drop 1 := by
    have := slicePick_from vs.toArray 1 (by simp; omega)
    rw [show ((1 : Nat) : Int) = 1 from rfl] at this
    rw [this]
  rw [e1] at hr
  have k3' := kp_trans k2' k3
  refine (iter_zip X.hh k3' (hp.kp k3') hr).mono fun ev s₄ k4 h4 => ⟨_, _, h4, by omega, ?turn, ?fin⟩
  case turn =>
    rintro C i u v s₅ hi ⟨hu, hv⟩ hn1 hn2 k5
    rw [List.getElem?_drop] at hv
    obtain ⟨x, tx, hx, rfl⟩ := str_at hI hu
    obtain ⟨y, ty, hy, rfl⟩ := str_at hI hv
    have hlt : fL k x < fL k y := by
      obtain ⟨ha, ea⟩ := List.getElem?_eq_some_iff.mp hx
      obtain ⟨hb, eb⟩ := List.getElem?_eq_some_iff.mp hy
      have := (List.pairwise_iff_getElem.mp hpw) i (1 + i) ha hb (by omega)
      rw [ea, eb] at this
      exact this
    have hge := List.lt_asymm hlt
    have hir := List.lt_irrefl (fL k x)
    have call : ∀ {s₆ : Shared} {x y : List Nat} {t u : Tok} {P : Value → Shared → Prop}, Keeps s₅ s₆ → (∀ s' t, Keeps s₆ s' → P (.int (b2i (decide (y < x)) - b2i (decide (x < y))) t) s') → Do w A (call (.ref fa) [.str (sOf x) t, .str (sOf y) u]) P s₆ := fun k6 hP =>
      strcoll X.room (GG _ (kp_trans k5 k6)) (FF _ (kp_trans k5 k6)) hP
    refine do_list' (do_items_cons (do_call_f (FF _ k5) (do_name (nm_comp_fn (GG _ k5) (FF _ k5) rfl rfl rfl) ⟨rfl, do_two (do_name hn1 (do_name hn2 (call (kp_refl _) fun s₆ t6 k6 => ?_)))⟩)))
    refine do_items_cons (do_call_f (FF _ (kp_trans k5 k6)) (do_name (nm_comp_fn (GG _ (kp_trans k5 k6)) (FF _ (kp_trans k5 k6)) rfl rfl rfl) ⟨rfl, do_two (do_name (hn2.kp k6) (do_name (hn1.kp k6) (call k6 fun s₇ t7 k7 => ?_)))⟩))
    have k67 := kp_trans k6 k7
    refine do_items_cons (do_call_f (FF _ (kp_trans k5 k67)) (do_name (nm_comp_fn (GG _ (kp_trans k5 k67)) (FF _ (kp_trans k5 k67)) rfl rfl rfl) ⟨rfl, do_two (do_name (hn1.kp k67) (do_name (hn1.kp k67) (call k67 fun s₈ t8 k8 => do_items_nil ⟨by simp, fun ad s₉ k9 hnone hpl => ?_⟩)))⟩))
    refine ⟨ad, _, rfl, hnone, hpl, by simp, t6, t7, t8, ?_⟩
    simp [hlt, hge, hir, b2i]
  case fin =>
    intro v s' yss k' hns hpl hlen hg
    have := flat_ints yss hg
    have el : yss.length = xs.length - 1 := by rw [hlen, hvl, List.length_drop, hvl]; omega
    rw [el] at this
    exact h _ _ (B.to (W.loc k' hns) (kpx_L k') rfl rfl) (kpx_L k') ⟨_, hpl, this⟩

theorem bt7 {fv tv cv} {xs : List Nat} (X : Cx A mg mb s₁ nums) (B : Bs s₁ nums L m c0 (some (.int k tk)) (some fv) nv wv lv s)
    (ht : LS s.heap tv (xs.map (fS k))) (mt : m "told" = some tv) (hc : LI s.heap cv (List.replicate (xs.length - 1) ([-1, 1, 0] : List Int)).flatten) (mc : m "compared" = some cv) (hxl : xs.length ≤ 63) (hx0 : 0 < xs.length)
    (h : ∀ s', Keeps s s' → Q .next s') :
    wpAny (model prog w) A (exec (bst 7) (lawEnv L a cd)) Q E s := by
  have W := B.W
  have GG : ∀ s', Keeps s s' → Gd mg mb s'.heap := fun s' k => X.G.keeps (kp_get (kp_trans W.keeps k))
  obtain ⟨vs, hp, hI⟩ := id ht
  have hvl : vs.length = xs.length := by rw [hI.length]; simp
  refine wpAny_If ((do_true_or2 (P := fun b s' => b = false) (do_true_cmp (do_name (nm_loc rfl rfl W.ns mc) (do_binop (do_list (do_items_cons (do_unary (do_int fun t1 tk1 => do_neg_int fun t2 tk2 => do_items_cons (do_int fun t3 tk3 => do_items_cons (do_int fun t4 tk4 => do_items_nil ⟨by simp, fun v s₂ k2 hl => ?a⟩)))))))))).use fun b s₂ k2 h2 => ?out)
  case out =>
    subst h2
    exact wpAny_execs_nil (h _ k2)
  case a =>
    have k2' : Keeps s s₂ := kp_trans (kp_tok _) k2
    refine do_binop (do_call_b (id := "len") (do_name (nm_bi (GG _ k2') rfl rfl rfl rfl (by decide)) ⟨rfl, do_one (do_name (nm_loc rfl rfl (W.kp k2').ns mt) (do_len_list (hp.kp k2') (by omega) fun t5 tk5 => do_int fun t6 tk6 => do_sub_int fun t7 tk7 => ?_))⟩))
    rw [show ((vs.length : Nat) : Int) - 1 = ((xs.length - 1 : Nat) : Int) by omega]
    refine do_mul_list (hl.keeps fun _ _ e => e) (by simp) (by simp; omega) (by omega) fun r s₃ k3 hr => ?_
    have k3' : Keeps s s₃ := kp_trans k2' (kp_trans (kp_tok _) k3)
    have hri : LI s₃.heap r (List.replicate (xs.length - 1) ([-1, 1, 0] : List Int)).flatten := by
      refine ⟨_, hr, ?_⟩
      have := flat_ints (List.replicate (xs.length - 1) [.int (-1) t2, .int 1 t3, .int 0 t4]) (fun i us hi => ⟨t2, t3, t4, List.eq_of_mem_replicate (List.mem_of_getElem? hi)⟩)
      rwa [List.length_replicate] at this
    refine do_ne_ints (hc.kp k3') hri X.units (do_truthy_bool ?_)
    simp only [decide_true, Bool.not_true, Bool.false_eq_true, if_false]
    obtain ⟨us, hq, hJ⟩ := id (hc.kp k3')
    have hul : us.length = (xs.length - 1) * 3 := by rw [hJ.length]; simp
    refine do_true_cmp (do_compN (fun _ i y _ => True) (fun _ => false) X.hh (fun _ _ _ _ _ q _ => q) (do_name (nm_loc rfl rfl (W.kp k3').ns mc) ⟨us, hq, by omega, ?turn, ?fin⟩) rfl)
    case turn =>
      intro C Y i v s₄ hv hnx k4 hY
      obtain ⟨z, t, rfl, _⟩ := IntsAre.at hJ i v hv
      have k4' := kp_trans k3' k4
      exact do_tests_one (do_true_cmp (do_call_t (T := "type") (do_name (nm_comp_bi (GG _ k4') rfl rfl rfl rfl (by decide)) ⟨rfl, do_one (do_name hnx (do_type_int (do_name (nm_comp_bi (v := .type "int") (GG _ k4') rfl rfl rfl rfl (by decide)) (do_isnot_int (do_truthy_bool ⟨rfl, fun q => by cases q⟩)))))⟩)))
    case fin =>
      intro v s₄ ys Y k4 hpl hpr
      have e : ys = [] := by
        have e0 : (List.range us.length).filter (fun _ => false) = [] := List.filter_eq_nil_iff.mpr (by intro _ _ q; cases q)
        rw [e0] at hpr
        cases hpr; rfl
      subst e
      refine do_list (do_items_nil ⟨by simp, fun v' s₅ k5 hl5 => ?_⟩)
      refine do_ne_ints (ns := []) (ms := []) ⟨[], hpl.kp k5, .nil⟩ ⟨[], hl5, .nil⟩ X.units (do_truthy_bool ?_)
      simp
end
end Mine

namespace Mine
theorem nums_of (ns : List Int) : ∃ nums : List Nat, (((List.range (drawnOf ns).length).filter fun i => !(((drawnOf ns).take i).any (· == (drawnOf ns).getD i 0))).map fun i => (drawnOf ns).getD i 0) = zs nums ∧ nums.Nodup ∧ nums ≠ [] ∧ nums.length ≤ 63 ∧ (∀ n ∈ nums, n < 16 ^ 6) := by
  have hall : ∀ x ∈ drawnOf ns, 0 ≤ x ∧ x < 16 ^ 6 := fun x hx => by
    unfold drawnOf at hx
    rcases List.mem_append.mp hx with hx | hx
    · obtain ⟨y, _, rfl⟩ := List.mem_map.mp hx
      rw [Int.fmod_eq_emod_of_nonneg _ (by decide)]
      exact ⟨Int.emod_nonneg _ (by decide), Int.emod_lt_of_pos _ (by decide)⟩
    · simp only [List.mem_cons, List.not_mem_nil, or_false] at hx
      rcases hx with rfl | rfl | rfl | rfl | rfl | rfl | rfl | rfl | rfl <;> decide
  have hl1 : (drawnOf ns).length ≤ 13 := by unfold drawnOf; simp; omega
  have hl0 : 0 < (drawnOf ns).length := by unfold drawnOf; simp
  generalize drawnOf ns = dn at *
  have hget : ∀ i, i < dn.length → dn.getD i 0 ∈ dn := fun i hi => by
    have : dn[i]? = some (dn.getD i 0) := by simp [hi]
    exact List.mem_of_getElem? this
  generalize hl : (List.range dn.length).filter (fun i => !((dn.take i).any (· == dn.getD i 0))) = l
  have hmem : ∀ i ∈ l, i < dn.length ∧ dn.getD i 0 ∉ dn.take i := fun i hi => by
    rw [← hl] at hi
    obtain ⟨h1, h2⟩ := List.mem_filter.mp hi
    refine ⟨List.mem_range.mp h1, fun q => ?_⟩
    simp only [Bool.not_eq_true', List.any_eq_false, beq_iff_eq] at h2
    exact h2 _ q rfl
  have hpw : l.Pairwise (· < ·) := by
    rw [← hl]
    exact List.pairwise_lt_range.filter _
  refine ⟨l.map fun i => (dn.getD i 0).toNat, ?_, ?_, ?_, ?_, ?_⟩
  · unfold zs
    rw [List.map_map]
    refine List.map_congr_left fun i hi => ?_
    have := (hall _ (hget i (hmem i hi).1)).1
    show _ = (((dn.getD i 0).toNat : Nat) : Int)
    omega
  · refine List.pairwise_map.mpr (hpw.imp_of_mem fun {i j} hi hj hij e => ?_)
    have hi1 := (hmem i hi).1
    have hj1 := hmem j hj
    have h1 := hall _ (hget i hi1)
    have h2 := hall _ (hget j hj1.1)
    have e' : dn.getD i 0 = dn.getD j 0 := by omega
    apply hj1.2
    rw [← e']
    have : (dn.take j)[i]? = some (dn.getD i 0) := by rw [List.getElem?_take_of_lt hij]; simp [hi1]
    exact List.mem_of_getElem? this
  · have : 0 ∈ l := by
      rw [← hl]
      exact List.mem_filter.mpr ⟨List.mem_range.mpr hl0, by simp⟩
    intro q
    rw [List.map_eq_nil_iff] at q
    rw [q] at this
    cases this
  · have := List.length_filter_le (fun i => !((dn.take i).any (· == dn.getD i 0))) (List.range dn.length)
    rw [hl, List.length_range] at this
    rw [List.length_map]; omega
  · intro n hn
    obtain ⟨i, hi, rfl⟩ := List.mem_map.mp hn
    have := hall _ (hget i (hmem i hi).1)
    omega

section
variable {w : World} {A : Around} {s s' s₁ : Shared} {L : Nat} {m : Str → Option Value} {c0 c1 c2 c3 : Option Value} {a : Addr} {cd : Value} {mg mb : Str → Option Value} {E : Value → Shared → Prop} {Q : Flow → Shared → Prop} {nums : List Nat} {nv wv lv : Value} {k : Nat} {tk : Tok}

theorem Lw.not_fields (W : Lw s₁ L m c0 c1 c2 c3 s) {a : Addr} {o vs} (e : s.heap.get? a = some o) (hd : o.data = .fields vs) : a ∉ wX L := by
  intro hb
  obtain ⟨o', es, ep, h1, h2, _⟩ := W.ns
  obtain ⟨o0, g0, d0⟩ := W.cell0
  obtain ⟨o1, g1, d1⟩ := W.cell1
  obtain ⟨o2, g2, d2⟩ := W.cell2
  obtain ⟨o3, g3, d3⟩ := W.cell3
  unfold wX at hb
  simp only [List.mem_cons, List.not_mem_nil, or_false] at hb
  rcases hb with rfl | rfl | rfl | rfl | rfl
  · rw [e] at h1; cases h1; rw [hd] at h2; cases h2
  · rw [e] at g0; cases g0; rw [hd] at d0; cases d0
  · rw [e] at g1; cases g1; rw [hd] at d1; cases d1
  · rw [e] at g2; cases g2; rw [hd] at d2; cases d2
  · rw [e] at g3; cases g3; rw [hd] at d3; cases d3

theorem Bs.it (B : Bs s₁ nums L m c0 c2 c3 nv wv lv s) {I : Addr} {o vs} {h' : Heap} {n : Nat} (e : s.heap.get? I = some o) (hd : o.data = .fields vs) (hfr : s₁.heap.get? I = none) (he : Heap.ExtBut I s.heap h') :
    Bs s₁ nums L m c0 c2 c3 nv wv lv { s with heap := h', toks := n } := by
  have W := B.W
  have hn := W.not_fields e hd
  have ne : ∀ b ∈ wX L, b ≠ I := fun b hb q => hn (q ▸ hb)
  have cell : ∀ {c v}, c ∈ wX L → s.heap.IsCell c v → h'.IsCell c v := fun hb ⟨o, ho, hd⟩ => ⟨o, he _ o (ne _ hb) ho, hd⟩
  have pl : ∀ {v vs}, PL s.heap v vs → PL h' v vs := fun ⟨a, ea, n, hp⟩ => ⟨a, ea, n, he a _ (fun q => by subst q; rw [e] at hp; cases hp; cases hd) hp⟩
  refine ⟨⟨?_, W.ns.extBut he (ne _ (by simp [wX])), cell (by simp [wX]) W.cell0, cell (by simp [wX]) W.cell1, cell (by simp [wX]) W.cell2, cell (by simp [wX]) W.cell3, W.fresh⟩, ?_, ?_, ?_, B.mw, B.ml⟩
  · obtain ⟨x, y, rfl, q⟩ := W.keeps
    exact ⟨h', n, rfl, fun b o e9 => he b o (fun z => by rw [z, hfr] at e9; cases e9) (q b o e9)⟩
  · obtain ⟨vs, p, q⟩ := B.hn; exact ⟨vs, pl p, q⟩
  · obtain ⟨vs, p, q⟩ := B.hw; exact ⟨vs, pl p, q⟩
  · obtain ⟨vs, p, q⟩ := B.hl; exact ⟨vs, pl p, q⟩

theorem body_ok (X : Cx A mg mb s₁ nums) (hk : k ≤ 6) (hroom : A.in1.in1.depth < recursionLimit) (B : Bs s₁ nums L m c0 (some (.int k tk)) c3 nv wv lv s)
    (h : ∀ s' m' c3', Bs s₁ nums L m' c0 (some (.int k tk)) c3' nv wv lv s' → KpX (wX L) s s' → Q .next s') : wpAny (model prog w) A (execs forBody (lawEnv L a cd)) Q E s := by
  have hlen := X.len
  show wpAny (model prog w) A (execs [bst 0, bst 1, bst 2, bst 3, bst 4, bst 5, bst 6, bst 7] (lawEnv L a cd)) Q E s
  refine wpAny_execs_cons (bt0 X hk B fun s₂ fv B2 k2 hf2 => ?_)
  refine wpAny_execs_cons (bt1 X hk B2 hf2 fun s₃ k3 => ?_)
  have hf3 := hf2.kp k3
  refine wpAny_execs_cons (bt2 X hk (B2.kp k3) fun s₄ sv short B4 k4 hs4 hs hs' => ?_)
  have hf4 := (B2.kp k3).W.ls k4 hf3
  refine wpAny_execs_cons (bt3 X hk B4 fun s₅ ov rows B5 k5 ho5 ho ho' => ?_)
  have hf5 := B4.W.ls k5 hf4
  have hs5 := B4.W.li k5 hs4
  refine wpAny_execs_cons (bt4 X hk hroom B5 hf5 fun s₆ tv told B6 k6 ht6 ht ht' => ?_)
  have hf6 := B5.W.ls k6 hf5
  have hs6 := B5.W.li k6 hs5
  have ho6 := B5.W.lr k6 ho5
  obtain ⟨xs, ex, hxn, rfl, hpw⟩ := told_eq X.nd X.small hs hs' ho ho' ht ht'
  have hxl : xs.length = nums.length := by have := ht.length_eq; simpa using this
  have hx0 : 0 < xs.length := by rw [hxl]; exact List.length_pos_iff.mpr X.ne
  refine wpAny_execs_cons (bt5 X B6 hf6 hs6 ho6 ht6 rfl rfl rfl ex hxn (by omega) ?_ fun s₇ k7 => ?_)
  · intro r hr
    obtain ⟨n, _, rfl⟩ := List.mem_map.mp (ho.mem_iff.mp hr)
    rfl
  have ht7 := ht6.kp k7
  refine wpAny_execs_cons (bt6 X (B6.kp k7) ht7 rfl (by omega) hx0 hpw fun s₈ cv B8 k8 hc8 => ?_)
  have ht8 := (B6.kp k7).W.ls k8 ht7
  refine wpAny_execs_cons (bt7 X B8 ht8 rfl hc8 rfl (by omega) hx0 fun s₉ k9 => ?_)
  exact wpAny_execs_nil (h _ _ _ (B8.kp k9) (kpx_trans k2 (kpx_trans (kpx_of k3) (kpx_trans k4 (kpx_trans k5 (kpx_trans k6 (kpx_trans (kpx_of k7) (kpx_trans k8 (kpx_of k9)))))))))

theorem do_range7 {t} : Do w A (call (.type "range") [.int 7 t]) (fun v s' => ∃ r t u v', v = .ref r ∧ IsRange s'.heap r 0 7 1 t u v') s := fun E =>
  call_range_1 ⟨kp_heap fun _ _ e => Heap.get?_push_of_some _ e, _, _, _, _, rfl, Heap.get?_push_size _ rfl⟩

theorem loop_ok (X : Cx A mg mb s₁ nums) (hroom : A.in1.in1.depth < recursionLimit) (B : Bs s₁ nums L m c0 c2 c3 nv wv lv s)
    (h : ∀ s', Keeps s₁ s' → Q .next s') : wpAny (model prog w) A (exec (stm 5) (lawEnv L a cd)) Q E s := by
  have GG : ∀ s', Keeps s s' → Gd mg mb s'.heap := fun s' k => X.G.keeps (kp_get (kp_trans B.W.keeps k))
  refine wpAny_For ((do_call_t (T := "range") (do_name (nm_bi (GG _ (kp_refl _)) rfl rfl rfl rfl (by decide)) ⟨rfl, do_one (do_int fun t tk => do_range7)⟩)).use fun v s₂ k2 h2 => ?_)
  obtain ⟨r, t1, t2, t3, rfl, hr⟩ := h2
  refine wpAny_pyIter_range hr (by decide) ?_
  have B2 := B.kp k2
  generalize hI : s₂.heap.objs.size = I
  have hfr : s₁.heap.get? I = none := hI ▸ fresh_of B2.W.keeps (Nat.le_refl _)
  have hit : IsRangeIter (s₂.heap.push { cls := .type "range_iterator", data := .fields #[rawInt 0, rawInt (Builtin.Range.rangeSize 0 7 1), rawInt 1] }) I (((0 : Nat) : Int)) (7 - ((0 : Nat) : Int)) 1 := by
    rw [← hI]
    exact Heap.get?_push_size _ rfl
  refine codeAny_forLoop (fun n s' => ∃ i m c2 c3, i + n = 7 ∧ IsRangeIter s'.heap I ((i : Nat) : Int) (7 - ((i : Nat) : Int)) 1 ∧ Bs s₁ nums L m c0 c2 c3 nv wv lv s') ?turn 7 ⟨0, _, _, _, rfl, hit, B2.kp (kp_push _)⟩
  rintro n s₃ ⟨i, m₃, c2₃, c3₃, hin, hit3, B3⟩
  by_cases hi : i < 7
  · refine wpAny_pyNext_range_item hit3 (by omega) fun h' hit' hs' => ?_
    have B4 := B3.it (n := s₃.toks + 1) hit3 rfl hfr hs'.extBut
    refine wpAny_assign_Name (lw_store2 B4.W rfl rfl rfl fun s₅ W5 k5 => ?_)
    have B5 := B4.to W5 k5 rfl rfl
    have hit5 : IsRangeIter s₅.heap I _ _ _ := kpx_get k5 _ _ (B4.W.not_fields hit' rfl) hit'
    refine body_ok X (by omega) hroom B5 fun s₆ m₆ c3₆ B6 k6 => ?_
    have hit6 : IsRangeIter s₆.heap I _ _ _ := kpx_get k6 _ _ (B5.W.not_fields hit5 rfl) hit5
    refine ⟨n - 1, by omega, i + 1, m₆, _, _, by omega, ?_, B6⟩
    rw [show (((i + 1 : Nat)) : Int) = (i : Int) + 1 by omega, show (7 : Int) - ((i : Int) + 1) = 7 - (i : Int) - 1 by omega]
    exact hit6
  · refine wpAny_pyNext_range_end X.hh hit3 (by omega) fun h' he' => ?_
    have B4 := B3.it (n := s₃.toks) hit3 rfl hfr he'
    exact wpAny_execs_nil (h _ B4.W.keeps)

theorem law_body {la vs ns} (hh : A.handled = none) (room : A.depth < recursionLimit) (units : A.units + 64 < cLine) (hroom : A.in1.in1.depth < recursionLimit) (G : Gd mg mb s₁.heap)
    (W : Lw s₁ L m none none none none s) (hs : m "script" = some (.ref la)) (hl : s₁.heap.IsList la (List.toArray vs)) (hI : IntsAre vs ns) (hlen : ns.length ≤ 63)
    (h : ∀ s', Keeps s₁ s' → Q (.ret (.bool true)) s') : wpAny (model prog w) A (execs (recAt 8).body (lawEnv L a cd)) Q E s := by
  show wpAny (model prog w) A (execs [stm 0, stm 1, stm 2, stm 3, stm 4, stm 5, stm 6] (lawEnv L a cd)) Q E s
  refine wpAny_execs_cons (st0 hh W hs hl hI hlen fun s₂ dv W2 hd2 => ?_)
  have hdl : (drawnOf ns).length ≤ 63 := by unfold drawnOf; simp; omega
  refine wpAny_execs_cons (st1 hh G W2 hd2 hdl fun s₃ nv W3 hn3 => ?_)
  obtain ⟨nums, e, n1, n2, n3, n4⟩ := nums_of ns
  rw [e] at hn3
  have X : Cx A mg mb s₁ nums := ⟨hh, room, units, G, n1, n2, n3, n4⟩
  refine wpAny_execs_cons (st2 X W3 hn3 fun s₄ wv W4 hn4 hw4 => ?_)
  refine wpAny_execs_cons (st3 X W4 hn4 hw4 rfl fun s₅ k5 => ?_)
  refine wpAny_execs_cons (st4 X (W4.kp k5) (hn4.kp k5) (hw4.kp k5) rfl fun s₆ lv W6 hn6 hw6 hl6 => ?_)
  refine wpAny_execs_cons (loop_ok X hroom ⟨W6, hn6, hw6, hl6, rfl, rfl⟩ fun s₇ k7 => ?_)
  exact wpAny_execs_cons (wpAny_Return_some (wpAny_Constant_bool (h _ k7)))
end
end Mine

namespace Mine
theorem good_end {cl : Str → Option Addr} {mean : ExcName → Option Value} {args : List WData} {s₁ s' : Shared} (hg : s₁.gens = #[]) (k : Keeps s₁ s') : GoodW PySem.Challenge.rw_pe0024_01.row.claim cl mean args s₁ (.ok (.ret (.bool true))) s' := by
  have k2 := kp_get k
  obtain ⟨h, tk, rfl, q⟩ := k
  have hp : PySem.Challenge.rw_pe0024_01.row.claim.post args (.bool true) args = true := by
    refine postW_of (r := PySem.Challenge.rw_pe0024_01.row.toRowW) (X := true) (by kernel_rfl) (by kernel_rfl) rfl
  exact ⟨.inl ⟨.bool true, .bool true, [], rfl, fun _ => rfl, .bool true, hp, fun _ => ⟨List.nodup_nil, fun _ hq => nomatch hq⟩⟩, k2, rfl, hg⟩
theorem room1 (env : Env) : (callerA.deeper env).depth < recursionLimit := by
  have e : (callerA.deeper env).depth = (callerA.deeper default).depth := rfl
  rw [e]; decide +kernel
theorem room2 (env : Env) : (callerA.deeper env).in1.in1.depth < recursionLimit := by
  have e : (callerA.deeper env).in1.in1.depth = (callerA.deeper default).in1.in1.depth := rfl
  rw [e]; decide +kernel
theorem room3 (env : Env) : (callerA.deeper env).units + 64 < cLine := by
  have e : (callerA.deeper env).units = (callerA.deeper default).units := rfl
  rw [e]; decide +kernel
theorem recs_in : ∀ i ∈ [1, 3, 4, 5, 7], recAt i ∈ recsOf Mine.hd.view_39 := by
  intro i hi
  simp only [List.mem_cons, List.not_mem_nil, or_false] at hi
  rcases hi with rfl | rfl | rfl | rfl | rfl
  · exact List.mem_of_getElem? (i := 0) (by kernel_rfl)
  · exact List.mem_of_getElem? (i := 1) (by kernel_rfl)
  · exact List.mem_of_getElem? (i := 2) (by kernel_rfl)
  · exact List.mem_of_getElem? (i := 3) (by kernel_rfl)
  · exact List.mem_of_getElem? (i := 4) (by kernel_rfl)
end Mine
theorem PySem.Challenge.cw_pe0024_01_holds : PySem.Challenge.rw_pe0024_01.Holds := by
  refine Mine.hd ?_
  k_go0
  rename_i h₁ tk₁ F o3 o2 o1 o0 d3 d2 d1 d0 N0 X0
  rename Top _ _ _ _ _ _ => T
  rename IntsAre _ _ => hI
  rename Heap.IsList _ _ _ => hL
  rename _ = #[] => hg
  rename ¬ (_ : Int) < _ => hc
  have GD := Mine.gd_of_top T Mine.recs_in (by decide +kernel)
  refine Mine.law_body (m := bindL _ _ _) rfl (Mine.room1 _) (Mine.room3 _) (Mine.room2 _) GD ⟨⟨_, _, rfl, F.keep⟩, F.ns, ?_, ?_, ?_, ?_, ?_⟩ rfl hL hI (by omega) (fun s' k => Mine.good_end hg k)
  · exact ⟨o0, N0.get (by simp), d0⟩
  · exact ⟨o1, N0.get (by simp), d1⟩
  · exact ⟨o2, N0.get (by simp), d2⟩
  · exact ⟨o3, N0.get (by simp), d3⟩
  · intro b hb
    exact Heap.get?_none_of_le (Mine.mem_wX.mp hb).1
