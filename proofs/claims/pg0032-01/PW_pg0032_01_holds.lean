import PyProof.Rows.All
import Wide.All
import OpenK.AllK
import Wide.FinOn
import PySem.Challenge.RW_pg0032_01
open PySem PySem.W PyProof.Rows
set_option Elab.async false
set_option maxRecDepth 100000

namespace Mine

/-! ## the defs of the text, by their place -/
def stmtAt (i : Nat) : Stmt := PySem.Challenge.pw_pg0032_01.main.body.getD i (.Pass ⟨0, 0, 0, 0⟩)
def nmOf : Stmt → Str
  | .FunctionDef n .. => n
  | _ => Str.empty
def arOf : Stmt → Arguments
  | .FunctionDef _ a .. => a
  | _ => ⟨[], [], none, [], [], none, []⟩
def bdOf : Stmt → List Stmt
  | .FunctionDef _ _ b .. => b
  | _ => []
def scOf : Stmt → Scope
  | .FunctionDef _ _ _ _ _ _ sc .. => sc
  | _ => default

/-- a def of the text stands in the heap, under its name -/
def FnIn (mg : Str → Option Value) (h : Heap) (st : Stmt) : Prop :=
  ∃ f o pm code doc, mg (nmOf st) = some (.ref f) ∧ h.get? f = some o ∧
    o.data = .func (Calls.docDef (nmOf st) (arOf st) (bdOf st) (scOf st) pm code doc) ∧ h.CodeRec code (nmOf st)

def ownDefs : List Nat := [1, 3, 4, 5, 6, 7, 8, 9, 11, 12, 13]
def ownBuiltins : List Str := ["int", "abs", "divmod", "isinstance", "str", "ord", "chr", "bytes", "len", "sum", "enumerate", "sorted"]

structure Ok (mg mb : Str → Option Value) (h : Heap) : Prop where
  g : h.Ns mainGlobals mg
  b : h.Ns builtinsNs mb
  lim : h.NoLimit
  fn : ∀ i ∈ ownDefs, FnIn mg h (stmtAt i)
  bi : ∀ x ∈ ownBuiltins, mg x = none ∧ mb x = bootBuiltins x

theorem Ok.keeps {mg mb : Str → Option Value} {h h' : Heap} (k : Ok mg mb h) (hk : ∀ b o, h.get? b = some o → h'.get? b = some o) : Ok mg mb h' where
  g := k.g.keeps hk
  b := k.b.keeps hk
  lim := k.lim.keeps hk
  fn := fun i hi => let ⟨f, o, pm, code, doc, h1, h2, h3, h4⟩ := k.fn i hi; ⟨f, o, pm, code, doc, h1, hk _ _ h2, h3, h4.keeps hk⟩
  bi := k.bi

/-- room: nothing handled, depth and C units to spare -/
structure Rm (A : Around) (k : Nat) : Prop where
  hh : A.handled = none
  hd : A.depth + k < recursionLimit
  hu : A.units + 20 * k < cLine

theorem Rm.deeper {A : Around} {k : Nat} (r : Rm A (k + 1)) (env : Env) : Rm (A.deeper env) k where
  hh := r.hh
  hd := by have := r.hd; show A.depth + 1 + k < _; omega
  hu := by have := r.hu; show A.units + 3 + 20 * k < _; omega
theorem Rm.in1 {A : Around} {k : Nat} (r : Rm A (k + 1)) : Rm A.in1 k where
  hh := r.hh
  hd := by have := r.hd; show A.depth + k < _; omega
  hu := by have := r.hu; show A.units + 1 + 20 * k < _; omega
theorem Rm.less {A : Around} {k k' : Nat} (r : Rm A k) (h : k' ≤ k) : Rm A k' where
  hh := r.hh
  hd := by have := r.hd; omega
  hu := by have := r.hu; omega

/-- a tree that gives a value, raises nothing, and lets all stand that stood -/
def Ev (prog : Program) (w : World) (A : Around) (t : Sem Value) (P : Value → Heap → Prop) (s : Shared) : Prop :=
  wpAny (model prog w) A t (fun v s' => P v s'.heap ∧ Keeps s s') (fun _ _ => False) s

theorem Keeps.rfl' {s : Shared} : Keeps s s := ⟨s.heap, s.toks, rfl, fun _ _ e => e⟩
theorem Keeps.tr {s s' s'' : Shared} (a : Keeps s s') (b : Keeps s' s'') : Keeps s s'' := by
  obtain ⟨h, tk, rfl, k⟩ := a
  obtain ⟨h2, tk2, rfl, k2⟩ := b
  exact ⟨h2, tk2, rfl, fun b o e => k2 b o (k b o e)⟩

theorem Ev.use {prog : Program} {w : World} {A : Around} {t : Sem Value} {P : Value → Heap → Prop} {s : Shared} {Q : Value → Shared → Prop} {E : Value → Shared → Prop}
    (h : Ev prog w A t P s) (k : ∀ v h' tk, P v h' → (∀ b o, s.heap.get? b = some o → h'.get? b = some o) → Q v { s with heap := h', toks := tk }) :
    wpAny (model prog w) A t Q E s :=
  wpAny_mono h (fun v s' ⟨p, h', tk, e, hk⟩ => by subst e; exact k v h' tk p hk) fun _ _ f => f.elim

/-- the end of a walk: no line of the walk takes it -/
structure Done (p : Prop) : Prop where
  out : p

/-- what a call's arguments leave: the heap kept, and the call -/
structure AndK (i : Nat) (p q : Prop) : Prop where
  l : p
  r : q

/-- a call of one of the text's defs -/
theorem call_fn {prog : Program} {w : World} {A : Around} {s : Shared} {mg mb : Str → Option Value} {st : Stmt} {i : Nat} {n : Nat} {args : List Value} {P : Value → Heap → Prop} {f : Addr}
    {binds : List (Str × Value)}
    (ok : Ok mg mb s.heap) (hi : i ∈ ownDefs) (e : stmtAt i = st) (hf : mg (nmOf st) = some (.ref f)) (rm : Rm A (n + 1))
    (hbind : ∀ pm cd doc, bindArgs (Calls.docDef (nmOf st) (arOf st) (bdOf st) (scOf st) pm cd doc) ⟨args, []⟩ = pure binds)
    (hloc : ∀ x ∈ binds, (scOf st).names.lookup x.1 = some .local)
    (h : ∀ L h₁ cd A', Rm A' n → Ok mg mb s.heap → Fr s.heap L h₁ (fun x => binds.reverse.lookup x) →
      wpAny (model prog w) A' (execs (bdOf st) (envOf (nmOf st) (scOf st) L f cd))
        (fun fl s' => Done (P (match fl with | .ret v => v | _ => .none) s'.heap ∧ Keeps s s')) (fun _ _ => False)
        { s with heap := h₁, toks := s.toks + binds.length })
    (hco : (scOf st).isCoroutine = false := by rfl) (hgen : (scOf st).isGenerator = false := by rfl) (hk : (scOf st).kind = .function := by rfl)
    (hcell : ∀ x ∈ (scOf st).names, x.2 ≠ .cell := by decide) :
    Ev prog w A (call (.ref f) args) P s := by
  subst e
  obtain ⟨f', o, pm, cd, doc, h1, h2, h3, h4⟩ := ok.fn i hi
  rw [hf] at h1
  cases h1
  refine wpAny_call (call_plain_ret (by have := rm.hd; omega) h2 h3 ok.lim h4 (hbind pm cd doc) hloc (fun h₁ F => ?_) hco hgen hk hcell)
  exact wpAny_mono (h _ h₁ cd _ (rm.deeper _) ok F) (fun _ _ d => d.out) fun _ _ e => e

end Mine

namespace Mine
section
variable {prog : Program} {w : World} {A : Around} {E : Value → Shared → Prop} {s : Shared} {mg mb : Str → Option Value} {env : Env} {h₀ : Heap} {L : Addr} {m : Str → Option Value}

theorem nm_loc {x : Str} {pos : Pos} {v : Value} {Q : Value → Shared → Prop} (ns : s.heap.Ns env.locals m) (hv : m x = some v) (h : Q v s)
    (hk : env.scope.kind = .function := by rfl) (hl : env.kindOf x = some .local := by rfl) (hd : (x == ("__debug__" : Str)) = false := by decide) :
    wpAny (model prog w) A (eval (.Name x pos) env) Q E s := wpAny_Name (wpAny_loadName_local hk hl ns hv h) hd

theorem nm_bi {x : Str} {pos : Pos} {v : Value} {Q : Value → Shared → Prop} (ok : Ok mg mb s.heap) (hv : bootBuiltins x = some v) (h : Q v s)
    (hx : x ∈ ownBuiltins := by decide) (hg : env.globals = mainGlobals := by rfl) (hb : env.builtins = builtinsNs := by rfl)
    (hk : env.scope.kind = .function := by rfl) (hl : env.kindOf x = some .globalImplicit := by rfl) (hd : (x == ("__debug__" : Str)) = false := by decide) :
    wpAny (model prog w) A (eval (.Name x pos) env) Q E s :=
  Calls.Name_function_global hk hl (Calls.loadGlobal_builtin (env := env) (by rw [hg]; exact ok.g) (ok.bi x hx).1 (by rw [hb]; exact ok.b) ((ok.bi x hx).2.trans hv) h) hd

theorem nm_gl {x : Str} {pos : Pos} {v : Value} {Q : Value → Shared → Prop} (ok : Ok mg mb s.heap) (hv : mg x = some v) (h : Q v s)
    (hg : env.globals = mainGlobals := by rfl)
    (hk : env.scope.kind = .function := by rfl) (hl : env.kindOf x = some .globalImplicit := by rfl) (hd : (x == ("__debug__" : Str)) = false := by decide) :
    wpAny (model prog w) A (eval (.Name x pos) env) Q E s :=
  Calls.Name_function_global hk hl (Calls.loadGlobal_global (env := env) (by rw [hg]; exact ok.g) hv h) hd

theorem Call_def {x : Str} {np pos : Pos} {e : Expr} {rest : List Expr} {Q : Value → Shared → Prop} (i : Nat) (ok : Ok mg mb s.heap)
    (h : ∀ f, mg x = some (.ref f) → wpAny (model prog w) A (spliced (backTo pos (starEach (e :: rest) env))) (fun vs s₁ => AndK i (∀ b o, s.heap.get? b = some o → s₁.heap.get? b = some o) (wpAny (model prog w) A (call (.ref f) vs) Q E s₁)) E s)
    (hi : i ∈ ownDefs := by decide) (hx : nmOf (stmtAt i) = x := by rfl)
    (hg : env.globals = mainGlobals := by rfl)
    (hk : env.scope.kind = .function := by rfl) (hl : env.kindOf x = some .globalImplicit := by rfl) (hd : (x == ("__debug__" : Str)) = false := by decide)
    (he : starEach (e :: rest) env = (false, eval e env) :: starEach rest env := by rfl)
    (hc : eval (.Call (.Name x np) (e :: rest) [] pos) env = (do callWith pos (← eval (.Name x np) env) [] (backTo pos (starEach (e :: rest) env)) (backToKw pos (keywordEach [] env))) := by rfl) :
    wpAny (model prog w) A (eval (.Call (.Name x np) (e :: rest) [] pos) env) Q E s := by
  obtain ⟨f, o, pm, cd, doc, h1, h2, h3, h4⟩ := ok.fn i hi
  rw [hx] at h1
  refine Call_ (nm_gl ok h1 ?_ hg hk hl hd) hc
  exact callWith_def h3 (wpAny_mono (h f h1) (fun vs s₁ hq => ⟨hq.1 _ _ h2, hq.2⟩) fun _ _ x => x) he

theorem Call_bi {x : Str} {id : String} {np pos : Pos} {e : Expr} {rest : List Expr} {Q : Value → Shared → Prop} (ok : Ok mg mb s.heap) (hv : bootBuiltins x = some (.builtin id))
    (h : wpAny (model prog w) A (spliced (backTo pos (starEach (e :: rest) env))) (fun vs s₁ => wpAny (model prog w) A (call (.builtin id) vs) Q E s₁) E s)
    (hx : x ∈ ownBuiltins := by decide) (hg : env.globals = mainGlobals := by rfl) (hb : env.builtins = builtinsNs := by rfl)
    (hk : env.scope.kind = .function := by rfl) (hl : env.kindOf x = some .globalImplicit := by rfl) (hd : (x == ("__debug__" : Str)) = false := by decide)
    (he : starEach (e :: rest) env = (false, eval e env) :: starEach rest env := by rfl)
    (hplain : (backTo pos (starEach rest env)).any (·.1) = false := by rfl)
    (hc : eval (.Call (.Name x np) (e :: rest) [] pos) env = (do callWith pos (← eval (.Name x np) env) [] (backTo pos (starEach (e :: rest) env)) (backToKw pos (keywordEach [] env))) := by rfl) :
    wpAny (model prog w) A (eval (.Call (.Name x np) (e :: rest) [] pos) env) Q E s := by
  refine Call_ (nm_bi ok hv ?_ hx hg hb hk hl hd) hc
  exact callWith_builtin1 h he hplain
end
end Mine

namespace Mine

theorem Fr_on {h₀ h h' : Heap} {L : Addr} {m : Str → Option Value} (F : Fr h₀ L h m) (hk : ∀ b o, h.get? b = some o → h'.get? b = some o) : Fr h₀ L h' m :=
  ⟨F.ns.keeps hk, fun b o e => hk _ _ (F.keep b o e), F.above⟩

theorem Ev.on {prog : Program} {w : World} {A : Around} {t : Sem Value} {P : Value → Heap → Prop} {s : Shared} {Q : Value → Shared → Prop} {E : Value → Shared → Prop} {h₀ : Heap} {L : Addr} {m : Str → Option Value}
    (h : Ev prog w A t P s) (F : Fr h₀ L s.heap m)
    (k : ∀ v h' tk, P v h' → (∀ b o, s.heap.get? b = some o → h'.get? b = some o) → Fr h₀ L h' m → News h₀ L h' [] → Q v { s with heap := h', toks := tk }) :
    wpAny (model prog w) A t Q E s := h.use fun v h' tk p hk => k v h' tk p hk (Fr_on F hk) News.nil

theorem eq_of_places {items : Array Value} {vs : List Value} (hl : vs.length = items.size) (h : ∀ (j : Nat) (v : Value), vs[j]? = some v → items[j]? = some v) : vs = items.toList := by
  refine List.ext_getElem? fun j => ?_
  by_cases hj : j < vs.length
  · have := h j _ (List.getElem?_eq_getElem hj)
    rw [List.getElem?_eq_getElem hj, Array.getElem?_toList, this]
  · rw [List.getElem?_eq_none (by omega), Array.getElem?_toList, Array.getElem?_eq_none (by omega)]

theorem fresh_at {h : Heap} {a : Addr} (ha : h.objs.size ≤ a) : h.get? a = none := Heap.get?_none_of_le ha

theorem mem_of_at {items : Array Value} {i : Nat} {v : Value} (h : items[i]? = some v) : v ∈ items.toList := by
  rw [← Array.getElem?_toList] at h
  exact List.mem_of_getElem? h

section
variable {prog : Program} {w : World} {A : Around} {E : Value → Shared → Prop} {s : Shared} {env : Env}

/-- a comprehension over a list, each element a plain value -/
theorem comp_list {elt iter : Expr} {x : Str} {px : Pos} {ifs : List Expr} {scope : Scope} {cl : List (Str × Addr)} {pos : Pos} {Q : Value → Shared → Prop} (p : Value → Bool) (G : Value → Value → Prop)
    (hh : A.handled = none)
    (h : wpAny (model prog w) A (eval iter env) (fun xv s₁ => ∃ l items, xv = .ref l ∧ s₁.heap.IsList l items ∧ items.size ≤ sizeLine ∧
      (∀ C m₃ s₃ v, v ∈ items.toList → Fr s₁.heap C s₃.heap m₃ → m₃ x = some v →
        wpAny (model prog w) A (forIn ifs true fun c r => if r = true then do let ok ← isTrue c (compEnvC scope cl C env) (eval c (compEnvC scope cl C env)); pure (ForInStep.yield ok) else pure (ForInStep.yield r))
          (fun ok s₄ => ok = p v ∧ Keeps s₃ s₄) (fun _ _ => False) s₃) ∧
      (∀ C m₃ s₃ v, v ∈ items.toList → p v = true → Fr s₁.heap C s₃.heap m₃ → m₃ x = some v → Ev prog w A (eval elt (compEnvC scope cl C env)) (fun y _ => G v y) s₃) ∧
      (∀ D h' tk ys, h'.PlainList D ys → s₁.heap.get? D = none → Paired G (items.toList.filter p) ys.toList → (∀ b o, s₁.heap.get? b = some o → h'.get? b = some o) →
        Q (.ref D) { s₁ with heap := h', toks := tk })) E s)
    (hclos : closureFor scope env = pure cl)
    (hcell : ∀ y ∈ scope.names, y.2 ≠ .cell := by decide) (hkind : scope.kind = .function := by rfl)
    (hnames : ∀ y ∈ scope.names, y.2 = .local → scope.names.lookup y.1 = some .local := by decide) (hx : scope.names.lookup x = some .local := by rfl)
    (hs : ∀ x, foldedSetIterable iter env x = pure x := by intro _; rfl) :
    wpAny (model prog w) A (eval (.ListComp elt [⟨.Name x px, iter, ifs, 0⟩] scope pos) env) Q E s := by
  refine wpAny_ListComp_free p G hclos hcell hkind hnames hx (wpAny_mono h (fun xv s₁ hq => ?_) fun _ _ e => e) hs
  obtain ⟨l, items, rfl, hl, hsz, htest, helt, hQ⟩ := hq
  refine wpAny_pyIter_list hl ?_
  have hne : l ≠ s₁.heap.objs.size := Nat.ne_of_lt (by obtain ⟨o, ho, _⟩ := hl; exact Heap.lt_size ho)
  have hpush : ∀ b o, s₁.heap.get? b = some o → (s₁.heap.push { cls := .type "list_iterator", data := .fields #[.ref l, .int 0 0] }).get? b = some o := fun b o e => Heap.get?_push_of_some _ e
  have frame : ∀ C (h₃ : Heap) m₃, (s₁.heap.push { cls := .type "list_iterator", data := .fields #[.ref l, .int 0 0] }).objs.size ≤ C → h₃.Ns C m₃ →
      (∀ b o, b ∉ [s₁.heap.objs.size] → (s₁.heap.push { cls := .type "list_iterator", data := .fields #[.ref l, .int 0 0] }).get? b = some o → h₃.get? b = some o) → Fr s₁.heap C h₃ m₃ := by
    intro C h₃ m₃ hC ns hk
    refine ⟨ns, fun b o e => hk b o (by rw [List.mem_singleton]; exact Nat.ne_of_lt (Heap.lt_size e)) (hpush b o e), ?_⟩
    rw [Heap.size_push] at hC
    omega
  refine ⟨s₁.heap.objs.size, [s₁.heap.objs.size, l], [s₁.heap.objs.size], items.size, _, _, rfl, Walks.list hh s₁.heap.objs.size l hne items, hsz, ⟨⟨_, Heap.get?_push_size _ rfl, rfl, rfl⟩, ?_⟩, ?_, ⟨?_, ?_⟩, ?_⟩
  · obtain ⟨o, ho, r⟩ := hl
    exact ⟨o, hpush _ _ ho, r⟩
  · intro b hb
    dsimp only
    rw [Heap.size_push]
    rcases List.mem_cons.mp hb with rfl | hb
    · exact Nat.lt_succ_self _
    · rw [List.mem_singleton.mp hb]
      obtain ⟨o, ho, _⟩ := hl
      exact Nat.lt_succ_of_lt (Heap.lt_size ho)
  · intro C i v s₃ m₃ E' hC hv hns hm hk _
    exact wpAny_mono (htest C m₃ s₃ v (mem_of_at hv) (frame C s₃.heap m₃ hC hns hk) hm) (fun _ _ q => q) fun _ _ f => f.elim
  · intro C i v s₃ m₃ E' hC hv hpv hns hm hk _
    exact wpAny_mono (helt C m₃ s₃ v (mem_of_at hv) hpv (frame C s₃.heap m₃ hC hns hk) hm) (fun _ _ q => q) fun _ _ f => f.elim
  · intro D h' tk ys vs hD hl' hpl hlen hP hF hk
    have e := eq_of_places hlen hP
    subst e
    refine hQ D h' tk ys hpl ?_ hF fun b o e => hk b o (by rw [List.mem_singleton]; exact Nat.ne_of_lt (Heap.lt_size e)) (hpush b o e)
    cases q : s₁.heap.get? D with
    | none => rfl
    | some o => rw [hpush _ _ q] at hD; cases hD

/-- a comprehension over bytes, each element a plain value -/
theorem comp_bytes {elt iter : Expr} {x : Str} {px : Pos} {scope : Scope} {cl : List (Str × Addr)} {pos : Pos} {Q : Value → Shared → Prop} (G : Nat → Value → Prop)
    (hh : A.handled = none)
    (h : wpAny (model prog w) A (eval iter env) (fun xv s₁ => ∃ b t, xv = .bytes b t ∧ b.size ≤ sizeLine ∧
      (∀ C m₃ s₃ (c : UInt8) u, c ∈ b.toList → Fr s₁.heap C s₃.heap m₃ → m₃ x = some (.int (c.toNat : Int) u) → Ev prog w A (eval elt (compEnvC scope cl C env)) (fun y _ => G c.toNat y) s₃) ∧
      (∀ D h' tk ys, h'.PlainList D ys → s₁.heap.get? D = none → Paired (fun (c : UInt8) y => G c.toNat y) b.toList ys.toList → (∀ b o, s₁.heap.get? b = some o → h'.get? b = some o) →
        Q (.ref D) { s₁ with heap := h', toks := tk })) E s)
    (hclos : closureFor scope env = pure cl)
    (hcell : ∀ y ∈ scope.names, y.2 ≠ .cell := by decide) (hkind : scope.kind = .function := by rfl)
    (hnames : ∀ y ∈ scope.names, y.2 = .local → scope.names.lookup y.1 = some .local := by decide) (hx : scope.names.lookup x = some .local := by rfl)
    (hs : ∀ x, foldedSetIterable iter env x = pure x := by intro _; rfl) :
    wpAny (model prog w) A (eval (.ListComp elt [⟨.Name x px, iter, [], 0⟩] scope pos) env) Q E s := by
  refine wpAny_ListComp_free (fun _ => true) (fun v y => ∃ (c : UInt8) (u : Tok), v = .int (c.toNat : Int) u ∧ G c.toNat y) hclos hcell hkind hnames hx (wpAny_mono h (fun xv s₁ hq => ?_) fun _ _ e => e) hs
  obtain ⟨b, t, rfl, hsz, helt, hQ⟩ := hq
  refine KBw.pyIter_bytes ?_
  have hpush : ∀ a o, s₁.heap.get? a = some o → (s₁.heap.push { cls := .type "bytes_iterator", data := .fields #[.bytes b t, .int 0 0] }).get? a = some o := fun b o e => Heap.get?_push_of_some _ e
  refine ⟨s₁.heap.objs.size, [s₁.heap.objs.size], [s₁.heap.objs.size], b.size, _, _, rfl, KBw.walks hh s₁.heap.objs.size b t, hsz, ⟨_, Heap.get?_push_size _ rfl, rfl, rfl⟩, ?_, ⟨?_, ?_⟩, ?_⟩
  · intro a ha
    dsimp only
    rw [Heap.size_push, List.mem_singleton.mp ha]
    exact Nat.lt_succ_self _
  · intro C i v s₃ m₃ E' hC hv hns hm hk _
    exact wpAny_tests_nil ⟨rfl, Keeps.rfl'⟩
  · rintro C i v s₃ m₃ E' hC ⟨c, u, hc, rfl⟩ hpv hns hm hk _
    have hmem : c ∈ b.toList := by
      rw [← Array.getElem?_toList] at hc
      exact List.mem_of_getElem? hc
    refine wpAny_mono (helt C m₃ s₃ c u hmem ⟨hns, fun a o e => hk a o (by rw [List.mem_singleton]; exact Nat.ne_of_lt (Heap.lt_size e)) (hpush a o e), ?_⟩ hm) (fun y s₄ q => ⟨⟨c, u, rfl, q.1⟩, q.2⟩) fun _ _ f => f.elim
    dsimp only at hC
    rw [Heap.size_push] at hC
    omega
  · intro D h' tk ys vs hD hl' hpl hlen hP hF hk
    refine hQ D h' tk ys hpl ?_ ?_ fun a o e => hk a o (by rw [List.mem_singleton]; exact Nat.ne_of_lt (Heap.lt_size e)) (hpush a o e)
    · cases q : s₁.heap.get? D with
      | none => rfl
      | some o => rw [hpush _ _ q] at hD; cases hD
    · rw [List.filter_eq_self.mpr (fun _ _ => rfl)] at hF
      have gen : ∀ (vs : List Value) (bs : List UInt8) (ys : List Value), vs.length = bs.length → (∀ (j : Nat) (v : Value), vs[j]? = some v → ∃ (c : UInt8) (u : Tok), bs[j]? = some c ∧ v = .int (c.toNat : Int) u) →
          Paired (fun (v y : Value) => ∃ (c : UInt8) (u : Tok), v = .int (c.toNat : Int) u ∧ G c.toNat y) vs ys → Paired (fun (c : UInt8) y => G c.toNat y) bs ys := by
        intro vs
        induction vs with
        | nil =>
          intro bs ys hl _ hF
          cases bs with
          | nil => cases hF; exact .nil
          | cons _ _ => simp at hl
        | cons v vs ih =>
          intro bs ys hl hp hF
          cases bs with
          | nil => simp at hl
          | cons c bs =>
            cases hF with
            | cons h1 h2 =>
              obtain ⟨c', u', e', hG⟩ := h1
              obtain ⟨c2, u2, e2, e3⟩ := hp 0 v rfl
              simp at e2
              subst e2
              rw [e3] at e'
              injection e' with e4 _
              have : c.toNat = c'.toNat := by exact_mod_cast e4
              exact .cons (by rw [this]; exact hG) (ih bs _ (by simpa using hl) (fun j v' hj => by have := hp (j + 1) v' (by simpa using hj); simpa using this) h2)
      refine gen vs b.toList ys.toList (by simpa using hlen) (fun j v hj => ?_) hF
      obtain ⟨c, u, hc, e⟩ := hP j v hj
      exact ⟨c, u, by rw [Array.getElem?_toList]; exact hc, e⟩
end
end Mine

namespace Mine
section
variable {prog : Program} {w : World} {A : Around} {E : Value → Shared → Prop} {s : Shared} {env : Env}

theorem while_ {test : Expr} {body orelse : List Stmt} {pos : Pos} {Q : Flow → Shared → Prop} (I : Nat → Shared → Prop) (n : Nat) (h : I n s)
    (turn : ∀ n s, I n s → wpAny (model prog w) A (isTrue test env (eval test env)) (fun b s₂ =>
      if b then wpAny (model prog w) A (execs body env) (fun f s₃ => match f with
          | .next | .cont => ∃ m, m < n ∧ I m s₃
          | .brk => Q .next s₃
          | .ret v => Q (.ret v) s₃) (fun _ _ => False) s₂
      else wpAny (model prog w) A (execs orelse env) Q (fun _ _ => False) s₂) (fun _ _ => False) s) :
    wpAny (model prog w) A (exec (.While test body orelse pos) env) Q E s := by
  refine wpAny_While (codeAny_whileLoop I (fun n s hI => ?_) n h)
  refine wpAny_mono (turn n s hI) (fun b s₂ hb => ?_) fun _ _ f => f.elim
  cases b with
  | true => exact wpAny_mono hb (fun f s₃ q => by cases f <;> exact q) fun _ _ f => f.elim
  | false => exact wpAny_mono hb (fun f s₃ q => q) fun _ _ f => f.elim
end

section
variable {prog : Program} {w : World} {A : Around} {E : Value → Shared → Prop} {s : Shared} {env : Env} {h₀ : Heap} {L : Addr} {m : Str → Option Value}
theorem assign_pair {a b : Str} {pa pb tp : Pos} {kk : Nat} {T : Addr} {x y : Value} {Q : Unit → Shared → Prop} (hh : A.handled = none) (F : Fr h₀ env.locals s.heap m) (ht : s.heap.IsTuple T #[x, y])
    (h : ∀ (h' : Heap) (tk : Nat), Fr h₀ env.locals h' (fun z => if z = b then some y else if z = a then some x else m z) → (∀ c o, c ≠ env.locals → s.heap.get? c = some o → h'.get? c = some o) → Q () { s with heap := h', toks := tk })
    (ha : env.kindOf a = some .local := by rfl) (hb : env.kindOf b = some .local := by rfl) (hp : (env.scope.kind == .class || (env.scope.kind == .module && env.locals != env.globals)) = false := by rfl) :
    wpAny (model prog w) A (assign (.Tuple [.Name a pa, .Name b pb] kk tp) env (.ref T)) Q E s :=
  kcp_assign hh ht ha hb hp F.ns fun h' tk hn hk =>
    h h' tk ⟨hn, fun c o e => hk c o (Nat.ne_of_lt (Nat.lt_of_lt_of_le (Heap.lt_size e) F.above)) (F.keep c o e), F.above⟩ hk
end

/-- hex digits, the highest first -/
def hexd (n : Nat) : List Nat := if _h : n = 0 then [] else hexd (n / 16) ++ [n % 16]
termination_by n
decreasing_by omega

theorem hexd_zero : hexd 0 = [] := by rw [hexd]; rfl
theorem hexd_pos {n : Nat} (h : n ≠ 0) : hexd n = hexd (n / 16) ++ [n % 16] := by rw [hexd, dif_neg h]
theorem hexd_lt {n : Nat} : ∀ d ∈ hexd n, d < 16 := by
  induction n using Nat.strongRecOn with
  | ind n ih =>
    intro d hd
    by_cases h : n = 0
    · subst h; rw [hexd_zero] at hd; cases hd
    · rw [hexd_pos h] at hd
      rcases List.mem_append.mp hd with q | q
      · exact ih (n / 16) (by omega) d q
      · rw [List.mem_singleton.mp q]; omega

theorem hexd_len {k : Nat} : ∀ {n : Nat}, n < 16 ^ k → (hexd n).length ≤ k := by
  induction k with
  | zero => intro n h; have : n = 0 := by omega
            subst this; rw [hexd_zero]; exact Nat.le_refl _
  | succ k ih =>
    intro n h
    by_cases h0 : n = 0
    · subst h0; rw [hexd_zero]; exact Nat.zero_le _
    · rw [hexd_pos h0, List.length_append, List.length_singleton]
      have : n / 16 < 16 ^ k := by rw [Nat.pow_succ] at h; omega
      have := ih this
      omega

def lettersA (ds : List Nat) : Array UInt8 := (ds.map fun d => (65 + d).toUInt8).toArray
theorem lettersA_cons (d : Nat) (ds : List Nat) : lettersA [d] ++ lettersA ds = lettersA (d :: ds) := by simp [lettersA]
theorem lettersA_size (ds : List Nat) : (lettersA ds).size = ds.length := by simp [lettersA]
theorem pick_AP : ∀ r : _root_.Fin 16, KBy.picked #[65, 66, 67, 68, 69, 70, 71, 72, 73, 74, 75, 76, 77, 78, 79, 80] (some ((r.val : Nat) : Int)) (some (((r.val : Nat) : Int) + 1)) = lettersA [r.val] := by decide +kernel
theorem fdiv16 (k : Nat) : ((k : Nat) : Int).fdiv 16 = ((k / 16 : Nat) : Int) := by
  rw [Int.fdiv_eq_ediv_of_nonneg _ (by decide)]; omega
theorem fmod16 (k : Nat) : ((k : Nat) : Int).fmod 16 = ((k % 16 : Nat) : Int) := by
  rw [Int.fmod_eq_emod_of_nonneg _ (by decide)]; omega
end Mine

namespace Mine
section
variable {prog : Program} {w : World} {A : Around} {E : Value → Shared → Prop} {s : Shared} {env : Env}

/-- a for by an invariant over an iterator -/
theorem for_walks {x : Str} {px : Pos} {body : List Stmt} {I : Addr} {fp : List Addr} {n : Nat} {P : Nat → Value → Prop} {St : Nat → Heap → Prop} {Q : Flow → Shared → Prop}
    (W : Walks prog w A I fp [I] n P St) (J : Nat → Shared → Prop) (hst : St 0 s.heap) (h0 : J 0 s)
    (step : ∀ i v s₁ h' tk, i < n → J i s₁ → P i v → St (i + 1) h' → (∀ b o, b ≠ I → s₁.heap.get? b = some o → h'.get? b = some o) →
      wpAny (model prog w) A (storeName env x v) (fun _ s₂ => wpAny (model prog w) A (execs body env)
        (fun f s₃ => f = .next ∧ J (i + 1) s₃ ∧ (∀ a ∈ fp, ∀ o, h'.get? a = some o → s₃.heap.get? a = some o)) (fun _ _ => False) s₂) (fun _ _ => False) { s₁ with heap := h', toks := tk })
    (done : ∀ s₁ h' tk, J n s₁ → (∀ b o, b ≠ I → s₁.heap.get? b = some o → h'.get? b = some o) → Q .next { s₁ with heap := h', toks := tk }) :
    codeAny (model prog w) A (.forLoop (.Name x px) (.ref I) body [] env) (fun r s' => match r with | .ok f => Q f s' | .error e => cameBackBy (model prog w) A env E e s') s := by
  refine codeAny_forLoop (fun k s' => ∃ i, St i s'.heap ∧ J i s' ∧ i ≤ n ∧ k = n + 1 - i) ?_ (n + 1) ⟨0, hst, h0, Nat.zero_le _, rfl⟩
  rintro k s' ⟨i, hst', hJ, hi, rfl⟩
  by_cases hlt : i < n
  · refine W.item i s' _ _ hlt hst' fun v h' tk hP hst1 hk => ?_
    refine wpAny_assign_Name (wpAny_mono (step i v s' h' tk hlt hJ hP hst1 fun b o hb e => hk b o (by rw [List.mem_singleton]; exact hb) e) (fun _ s₂ h₂ => ?_) fun _ _ f => f.elim)
    refine wpAny_mono h₂ (fun f s₃ h₃ => ?_) fun _ _ f => f.elim
    obtain ⟨rfl, hJ', hfp⟩ := h₃
    exact ⟨n + 1 - (i + 1), by omega, i + 1, W.frame _ _ _ hst1 hfp, hJ', hlt, rfl⟩
  · have e : i = n := by omega
    subst e
    refine W.done s' _ _ hst' fun h' tk hk => ?_
    exact wpAny_execs_nil (done s' h' tk hJ fun b o hb e => hk b o (by rw [List.mem_singleton]; exact hb) e)
end

theorem News_on {h₀ h h' : Heap} {L : Addr} {news : List (Addr × Obj)} (N : News h₀ L h news) (hk : ∀ b o, h.get? b = some o → h'.get? b = some o) : News h₀ L h' news :=
  fun p hp => ⟨hk _ _ (N p hp).1, (N p hp).2⟩
theorem News_head {h₀ h : Heap} {L : Addr} {p : Addr × Obj} {news : List (Addr × Obj)} (N : News h₀ L h (p :: news)) : News h₀ L h [p] :=
  fun q hq => N q (by rw [List.mem_singleton.mp hq]; exact .head _)
end Mine

namespace Mine
section
variable {prog : Program} {w : World} {A : Around} {s : Shared} {mg mb : Str → Option Value}

local macro_rules | `(tactic| walk_at "mine") => `(tactic| first
  | with_reducible refine wpAny_execs_cons ?_
  | with_reducible refine wpAny_execs_nil ?_
  | with_reducible refine wpAny_If ?_
  | with_reducible refine wpAny_Return_some ?_
  | with_reducible refine wpAny_IfExp ?_
  | with_reducible refine wpAny_BinOp ?_
  | with_reducible refine wpAny_Constant_int ?_
  | with_reducible refine args_nil ?_
  | (with_reducible show wpAny _ _ (eval (Expr.Name _ _) _) _ _ _); (first | refine nm_loc (Fr.ns (by assumption)) rfl ?_ | refine nm_bi (Ok.keeps (by assumption) (Fr.keep (by assumption))) (by reg3_boot) ?_)
  | (with_reducible show wpAny _ _ (eval (Expr.Call (Expr.Name _ _) _ _ _) _) _ _ _); refine Call_bi (Ok.keeps (by assumption) (Fr.keep (by assumption))) (by reg3_boot) ?_
  | (with_reducible show wpAny _ _ (spliced _) _ _ _); refine args_cons ?_
  | (with_reducible show wpAny _ _ (truthy (Value.bool _)) _ _ _); refine wpAny_truthy_bool ?_; (try dsimp only)
  | walk1)

theorem ctoi_spec {f : Addr} {c : Int} {t : Tok} (ok : Ok mg mb s.heap) (rm : Rm A 1) (hf : mg "_ctoi" = some (.ref f)) :
    Ev prog w A (call (.ref f) [.int c t]) (fun v _ => v = .int c t) s := by
  refine call_fn (i := 3) (n := 0) (st := stmtAt 3) (binds := [(Str.ofString "c", .int c t)]) ok (by decide) rfl hf rm (fun pm cd doc => rfl) (locs rfl) ?_
  intro L h₁ cd A' rm' ok F
  conv in (execs _ _) => arg 1; whnf
  repeat' walk_at "mine"
  exact ⟨rfl, _, _, rfl, F.keep⟩

local macro_rules | `(tactic| walk_at "mine") => `(tactic| first
  | ((with_reducible show wpAny _ _ (eval (Expr.Call (Expr.Name "_ctoi" _) _ _ _) _) _ _ _); refine Call_def 3 (Ok.keeps (by assumption) (Fr.keep (by assumption))) ?_; intro f' hf')
  | ((with_reducible show AndK 3 _ _); refine ⟨fun _ _ e => e, Ev.on (ctoi_spec (Ok.keeps (by assumption) (Fr.keep (by assumption))) (Rm.less (by assumption) (by decide)) (by assumption)) (by assumption) ?_⟩; intro v h' tk hv hk F' N'; subst hv; (try dsimp only))
  | fail)

theorem ismeta_spec {f : Addr} {c : Int} {t : Tok} (ok : Ok mg mb s.heap) (rm : Rm A 2) (hf : mg "ismeta" = some (.ref f)) :
    Ev prog w A (call (.ref f) [.int c t]) (fun v _ => v = .bool (decide (127 < c))) s := by
  refine call_fn (i := 6) (n := 1) (st := stmtAt 6) (binds := [(Str.ofString "c", .int c t)]) ok (by decide) rfl hf rm (fun pm cd doc => rfl) (locs rfl) ?_
  intro L h₁ cd A' rm' ok F
  conv in (execs _ _) => arg 1; whnf
  repeat' walk_at "mine"
  exact ⟨rfl, _, _, rfl, Fr.keep (by assumption)⟩

theorem isctrl_spec {f : Addr} {c : Int} {t : Tok} (ok : Ok mg mb s.heap) (rm : Rm A 2) (hf : mg "isctrl" = some (.ref f)) :
    Ev prog w A (call (.ref f) [.int c t]) (fun v _ => v = .bool (decide (0 ≤ c ∧ c < 32))) s := by
  refine call_fn (i := 5) (n := 1) (st := stmtAt 5) (binds := [(Str.ofString "c", .int c t)]) ok (by decide) rfl hf rm (fun pm cd doc => rfl) (locs rfl) ?_
  intro L h₁ cd A' rm' ok F
  conv in (execs _ _) => arg 1; whnf
  repeat' walk_at "mine"
  all_goals (try dsimp only)
  all_goals refine ⟨?_, _, _, rfl, Fr.keep (by assumption)⟩
  all_goals (simp_all; try omega)

theorem isprint_spec {f : Addr} {c : Int} {t : Tok} (ok : Ok mg mb s.heap) (rm : Rm A 2) (hf : mg "isprint" = some (.ref f)) :
    Ev prog w A (call (.ref f) [.int c t]) (fun v _ => v = .bool (decide (32 ≤ c ∧ c ≤ 126))) s := by
  refine call_fn (i := 4) (n := 1) (st := stmtAt 4) (binds := [(Str.ofString "c", .int c t)]) ok (by decide) rfl hf rm (fun pm cd doc => rfl) (locs rfl) ?_
  intro L h₁ cd A' rm' ok F
  conv in (execs _ _) => arg 1; whnf
  repeat' walk_at "mine"
  all_goals (try dsimp only)
  all_goals refine ⟨?_, _, _, rfl, Fr.keep (by assumption)⟩
  all_goals (simp_all; try omega)

theorem ctrl_spec {f : Addr} {c : Int} {t : Tok} (ok : Ok mg mb s.heap) (rm : Rm A 2) (hf : mg "ctrl" = some (.ref f)) :
    Ev prog w A (call (.ref f) [.int c t]) (fun v _ => ∃ t', v = .int (Builtin.bitAnd c 31) t') s := by
  refine call_fn (i := 7) (n := 1) (st := stmtAt 7) (binds := [(Str.ofString "c", .int c t)]) ok (by decide) rfl hf rm (fun pm cd doc => rfl) (locs rfl) ?_
  intro L h₁ cd A' rm' ok F
  conv in (execs _ _) => arg 1; whnf
  repeat' walk_at "mine"
  all_goals (try dsimp only)
  exact ⟨⟨_, rfl⟩, _, _, rfl, Fr.keep (by assumption)⟩

theorem alt_spec {f : Addr} {c : Int} {t : Tok} (ok : Ok mg mb s.heap) (rm : Rm A 2) (hf : mg "alt" = some (.ref f)) :
    Ev prog w A (call (.ref f) [.int c t]) (fun v _ => ∃ t', v = .int (Builtin.bitOr c 128) t') s := by
  refine call_fn (i := 8) (n := 1) (st := stmtAt 8) (binds := [(Str.ofString "c", .int c t)]) ok (by decide) rfl hf rm (fun pm cd doc => rfl) (locs rfl) ?_
  intro L h₁ cd A' rm' ok F
  conv in (execs _ _) => arg 1; whnf
  repeat' walk_at "mine"
  all_goals (try dsimp only)
  exact ⟨⟨_, rfl⟩, _, _, rfl, Fr.keep (by assumption)⟩

local macro_rules | `(tactic| walk_at "mine") => `(tactic| first
  | ((with_reducible show wpAny _ _ (eval (Expr.Call (Expr.Name "isprint" _) _ _ _) _) _ _ _); refine Call_def 4 (Ok.keeps (by assumption) (Fr.keep (by assumption))) ?_; intro f' hf')
  | ((with_reducible show AndK 4 _ _); refine ⟨fun _ _ e => e, Ev.on (isprint_spec (Ok.keeps (by assumption) (Fr.keep (by assumption))) (Rm.less (by assumption) (by decide)) (by assumption)) (by assumption) ?_⟩; intro v h' tk hv hk F' N'; subst hv; (try dsimp only))
  | fail)

def unS (c : Int) : Str :=
  let r : Str := if c = 127 then Str.ofString "^?" else if 32 ≤ Builtin.bitAnd c 127 ∧ Builtin.bitAnd c 127 ≤ 126 then ⟨#[(Builtin.bitAnd c 127).toNat]⟩ else Str.ofString "^" ++ ⟨#[(Builtin.bitOr (Builtin.bitAnd c 127) 32 + 32).toNat]⟩
  if Builtin.bitAnd c 128 ≠ 0 then Str.ofString "!" ++ r else r

theorem bits_256 : ∀ n : _root_.Fin 256, 0 ≤ Builtin.bitAnd (n.val : Int) 127 ∧ Builtin.bitAnd (n.val : Int) 127 ≤ 127 ∧ 0 ≤ Builtin.bitOr (Builtin.bitAnd (n.val : Int) 127) 32 ∧ Builtin.bitOr (Builtin.bitAnd (n.val : Int) 127) 32 ≤ 127 := by
  decide +kernel

theorem unctrl_spec {f : Addr} {c : Nat} {t : Tok} (ok : Ok mg mb s.heap) (rm : Rm A 3) (hf : mg "unctrl" = some (.ref f)) (hc : c < 256) :
    Ev prog w A (call (.ref f) [.int (c : Int) t]) (fun v _ => ∃ t', v = .str (unS c) t') s := by
  obtain ⟨b1, b2, b3, b4⟩ := bits_256 ⟨c, hc⟩
  dsimp only at b1 b2 b3 b4
  refine call_fn (i := 9) (n := 2) (st := stmtAt 9) (binds := [(Str.ofString "c", .int c t)]) ok (by decide) rfl hf rm (fun pm cd doc => rfl) (locs rfl) ?_
  intro L h₁ cd A' rm' ok F
  conv in (execs _ _) => arg 1; whnf
  repeat' walk_at "mine"
  all_goals (try dsimp only)
  all_goals refine ⟨⟨_, congrArg (fun x => Value.str x _) ?_⟩, _, _, rfl, Fr.keep (by assumption)⟩
  all_goals (unfold unS; dsimp only; (repeat' split) <;> first | rfl | contradiction | omega)
end
end Mine

namespace Mine
section
variable {prog : Program} {w : World} {A : Around} {s : Shared} {mg mb : Str → Option Value}

local macro_rules | `(tactic| walk_at "mine") => `(tactic| first
  | with_reducible refine wpAny_execs_cons ?_
  | with_reducible refine wpAny_execs_nil ?_
  | with_reducible refine wpAny_If ?_
  | with_reducible refine wpAny_Return_some ?_
  | with_reducible refine wpAny_IfExp ?_
  | with_reducible refine wpAny_BinOp ?_
  | with_reducible refine wpAny_Constant_int ?_
  | with_reducible refine args_nil ?_
  | (with_reducible show wpAny _ _ (eval (Expr.Name _ _) _) _ _ _); (first | refine nm_loc (Fr.ns (by assumption)) (by first | rfl | assumption) ?_ | refine nm_bi (Ok.keeps (by assumption) (Fr.keep (by assumption))) (by reg3_boot) ?_)
  | (with_reducible show wpAny _ _ (eval (Expr.Call (Expr.Name _ _) _ _ _) _) _ _ _); refine Call_bi (Ok.keeps (by assumption) (Fr.keep (by assumption))) (by reg3_boot) ?_
  | (with_reducible show wpAny _ _ (spliced _) _ _ _); refine args_cons ?_
  | (with_reducible show wpAny _ _ (truthy (Value.bool _)) _ _ _); refine wpAny_truthy_bool ?_; (try dsimp only)
  | ((fail_if_success (with_reducible show wpAny _ _ (exec (Stmt.While _ _ _ _) _) _ _ _)); (fail_if_success (with_reducible show wpAny _ _ (exec (Stmt.For _ _ _ _ _) _) _ _ _)); (fail_if_success (with_reducible show wpAny _ _ (eval (Expr.ListComp _ _ _ _) _) _ _ _)); (first | (with_reducible show wpAny _ _ _ _ _ _) | (with_reducible show ite _ _ _)); walk1))

theorem Int2AP_spec {f : Addr} {n : Int} {t : Tok} (ok : Ok mg mb s.heap) (rm : Rm A 2) (hf : mg "Int2AP" = some (.ref f)) (hn : n.natAbs < 16 ^ 6 + 1) :
    Ev prog w A (call (.ref f) [.int n t]) (fun v _ => ∃ t', v = .bytes (lettersA (hexd n.natAbs)) t') s := by
  refine call_fn (i := 1) (n := 1) (st := stmtAt 1) (binds := [(Str.ofString "num", .int n t)]) ok (by decide) rfl hf rm (fun pm cd doc => rfl) (locs rfl) ?_
  intro L h₁ cd A' rm' ok F
  have N : News s.heap L h₁ [] := News.nil
  have hlen : (hexd n.natAbs).length ≤ 7 := hexd_len (k := 7) (by omega)
  conv in (execs _ _) => arg 1; whnf
  repeat' walk_at "mine"
  all_goals (try dsimp only)
  rename_i h1 F1 N1
  refine while_ (fun k s' => ∃ (h : Heap) (tk : Nat) (m : Str → Option Value) (c : Nat) (ds : List Nat) (t1 t2 t3 : Tok), s' = { s with heap := h, toks := tk } ∧ Fr s.heap L h m ∧
    m (Str.ofString "num") = some (.int (c : Int) t1) ∧ m (Str.ofString "val") = some (.bytes (lettersA ds) t2) ∧ m (Str.ofString "AP") = some (.bytes #[65, 66, 67, 68, 69, 70, 71, 72, 73, 74, 75, 76, 77, 78, 79, 80] t3) ∧
    hexd n.natAbs = hexd c ++ ds ∧ k = c) n.natAbs ?_ ?_
  · have e0 : (if n < 0 then -n else n) = (n.natAbs : Int) := by split <;> omega
    rw [e0] at F1
    exact ⟨_, _, _, n.natAbs, [], _, _, _, rfl, F1, rfl, rfl, rfl, (List.append_nil _).symm, rfl⟩
  · rintro k s' ⟨h, tk, m, c, ds, t1, t2, t3, rfl, F2, m1, m2, m3, e, rfl⟩
    clear N1 N
    have N : News s.heap L h [] := News.nil
    have hh := rm'.hh
    repeat' walk_at "mine"
    all_goals (try dsimp only)
    · rename_i hk0 h2 F3 N3
      refine assign_pair hh F3 ⟨_, (N3 _ (.head _)).1, rfl, _, rfl⟩ ?_
      intro h3 tk3 F4 _
      rw [fdiv16, fmod16] at F4
      have N : News s.heap L h3 [] := News.nil
      dsimp only
      repeat' walk_at "mine"
      all_goals (try dsimp only)
      refine KBc.slice_K (s := ⟨_, _, _, _, _⟩) F4 N rfl (by constructor) (by constructor) (by decide) ?_
      intro h4 t4 k4 F5 N5 _
      rw [pick_AP ⟨k % 16, Nat.mod_lt _ (by decide)⟩]
      dsimp only
      have hsz : (lettersA [k % 16]).size + (lettersA ds).size ≤ 16777216 := by
        have := congrArg List.length e
        rw [List.length_append] at this
        rw [lettersA_size, lettersA_size, List.length_singleton]
        omega
      repeat' walk_at "mine"
      refine KBy.add_bytes hsz ?_
      intro t5 k5
      rw [lettersA_cons]
      dsimp only
      repeat' walk_at "mine"
      rename_i h6 F6 N6
      have hk' : k ≠ 0 := by omega
      exact ⟨k / 16, by omega, h6, _, _, k / 16, (k % 16) :: ds, _, _, t3, rfl, F6, rfl, rfl, m3, by rw [e, hexd_pos hk', List.append_assoc]; rfl, rfl⟩
    · rename_i h0
      have : k = 0 := by omega
      subst this
      rw [hexd_zero, List.nil_append] at e
      rw [e]
      exact ⟨⟨_, rfl⟩, _, _, rfl, F2.keep⟩
end
end Mine

namespace Mine

def codeL (n : Int) : List Nat :=
  if 0 ≤ n then (193 + (hexd n.toNat).length) :: (hexd n.toNat).map (65 + ·)
  else (16 - (hexd (-n - 1).toNat).length) :: (hexd (-n - 1).toNat).map (80 - ·)
def bytesA (l : List Nat) : Array UInt8 := (l.map (·.toUInt8)).toArray

theorem or_128 : ∀ k : _root_.Fin 8, Builtin.bitOr (65 + ((k.val : Nat) : Int)) 128 = 193 + ((k.val : Nat) : Int) := by decide +kernel
theorem and_31 : ∀ k : _root_.Fin 8, Builtin.bitAnd (80 - ((k.val : Nat) : Int)) 31 = 16 - ((k.val : Nat) : Int) := by decide +kernel

theorem ints_of_paired {α : Type} {g : α → Int} : ∀ {l : List α} {ys : List Value}, Paired (fun a y => ∃ t, y = .int (g a) t) l ys → IntsAre ys (l.map g)
  | _, _, .nil => .nil
  | _, _, .cons ⟨t, e⟩ h => by subst e; exact .cons _ t (ints_of_paired h)

theorem codeL_pos {n : Int} (h : 0 ≤ n) : byteArr [193 + ((hexd n.natAbs).length : Int)] ++ lettersA (hexd n.natAbs) = bytesA (codeL n) := by
  have e : n.natAbs = n.toNat := by omega
  unfold codeL
  rw [if_pos h, e]
  have e2 : (193 + ((hexd n.toNat).length : Int)).toNat = 193 + (hexd n.toNat).length := by omega
  simp [byteArr, lettersA, bytesA, e2]

theorem codeL_neg {n : Int} (h : ¬ 0 ≤ n) (hl : (hexd (n + 1).natAbs).length ≤ 7) :
    byteArr ([16 - ((hexd (n + 1).natAbs).length : Int)] ++ (lettersA (hexd (n + 1).natAbs)).toList.map fun c => 145 - (c.toNat : Int)) = bytesA (codeL n) := by
  have e : (n + 1).natAbs = (-n - 1).toNat := by omega
  unfold codeL
  rw [if_neg h, e]
  rw [e] at hl
  have e2 : (16 - ((hexd (-n - 1).toNat).length : Int)).toNat = 16 - (hexd (-n - 1).toNat).length := by omega
  have e3 : ∀ d ∈ hexd (-n - 1).toNat, ((145 : Int) - (((65 + d).toUInt8).toNat : Int)).toNat.toUInt8 = (80 - d).toUInt8 := by
    intro d hd
    have hd := hexd_lt d hd
    have e4 : ((65 + d).toUInt8).toNat = 65 + d := by
      show (65 + d) % 256 = _
      omega
    rw [e4]
    congr 1
    omega
  simp only [byteArr, lettersA, bytesA, List.map_append, List.map_cons, List.map_nil, List.map_map, e2, List.cons_append, List.nil_append]
  congr 2
  refine List.map_congr_left fun d hd => ?_
  exact e3 d hd

section
variable {prog : Program} {w : World} {A : Around} {s : Shared} {mg mb : Str → Option Value}

local macro_rules | `(tactic| walk_at "mine") => `(tactic| first
  | with_reducible refine wpAny_execs_cons ?_
  | with_reducible refine wpAny_execs_nil ?_
  | with_reducible refine wpAny_If ?_
  | with_reducible refine wpAny_Return_some ?_
  | with_reducible refine wpAny_IfExp ?_
  | with_reducible refine wpAny_BinOp ?_
  | with_reducible refine wpAny_Constant_int ?_
  | with_reducible refine args_nil ?_
  | (with_reducible show wpAny _ _ (eval (Expr.Name _ _) _) _ _ _); (first | refine nm_loc (Fr.ns (by assumption)) (by first | rfl | assumption) ?_ | refine nm_bi (Ok.keeps (by assumption) (Fr.keep (by assumption))) (by first | reg3_boot | with_reducible exact PySem.boot_len) ?_)
  | (with_reducible show wpAny _ _ (eval (Expr.Call (Expr.Name _ _) _ _ _) _) _ _ _); refine Call_bi (Ok.keeps (by assumption) (Fr.keep (by assumption))) (by first | reg3_boot | with_reducible exact PySem.boot_len) ?_
  | (with_reducible show wpAny _ _ (spliced _) _ _ _); refine args_cons ?_
  | (with_reducible show wpAny _ _ (truthy (Value.bool _)) _ _ _); refine wpAny_truthy_bool ?_; (try dsimp only)
  | ((fail_if_success (with_reducible show wpAny _ _ (exec (Stmt.While _ _ _ _) _) _ _ _)); (fail_if_success (with_reducible show wpAny _ _ (exec (Stmt.For _ _ _ _ _) _) _ _ _)); (fail_if_success (with_reducible show wpAny _ _ (eval (Expr.ListComp _ _ _ _) _) _ _ _)); (first | (with_reducible show wpAny _ _ _ _ _ _) | (with_reducible show ite _ _ _)); walk1))

local macro_rules | `(tactic| walk_at "mine") => `(tactic| first
  | ((with_reducible show wpAny _ _ (eval (Expr.Call (Expr.Name "Int2AP" _) _ _ _) _) _ _ _); refine Call_def 1 (Ok.keeps (by assumption) (Fr.keep (by assumption))) ?_; intro f' hf')
  | ((with_reducible show wpAny _ _ (eval (Expr.Call (Expr.Name "alt" _) _ _ _) _) _ _ _); refine Call_def 8 (Ok.keeps (by assumption) (Fr.keep (by assumption))) ?_; intro f' hf')
  | ((with_reducible show wpAny _ _ (eval (Expr.Call (Expr.Name "ctrl" _) _ _ _) _) _ _ _); refine Call_def 7 (Ok.keeps (by assumption) (Fr.keep (by assumption))) ?_; intro f' hf')
  | ((with_reducible show AndK 1 _ _); refine ⟨fun _ _ e => e, Ev.on (Int2AP_spec (Ok.keeps (by assumption) (Fr.keep (by assumption))) (Rm.less (by assumption) (by decide)) (by assumption) (by omega)) (by assumption) ?_⟩; intro v h' tk hv hk F' N'; obtain ⟨t', hv⟩ := hv; subst hv; (try dsimp only))
  | ((with_reducible show AndK 8 _ _); refine ⟨fun _ _ e => e, Ev.on (alt_spec (Ok.keeps (by assumption) (Fr.keep (by assumption))) (Rm.less (by assumption) (by decide)) (by assumption)) (by assumption) ?_⟩; intro v h' tk hv hk F' N'; obtain ⟨t', hv⟩ := hv; subst hv; (try dsimp only))
  | ((with_reducible show AndK 7 _ _); refine ⟨fun _ _ e => e, Ev.on (ctrl_spec (Ok.keeps (by assumption) (Fr.keep (by assumption))) (Rm.less (by assumption) (by decide)) (by assumption)) (by assumption) ?_⟩; intro v h' tk hv hk F' N'; obtain ⟨t', hv⟩ := hv; subst hv; (try dsimp only))
  | ((with_reducible show wpAny _ _ (call (Value.builtin "len") [Value.bytes _ _]) _ _ _); refine len_bytes (by rw [lettersA_size]; omega) ?_; (try rw [lettersA_size]); (try dsimp only))
  | fail)

set_option maxHeartbeats 4000000 in
theorem law_code_spec {f : Addr} {n : Int} {t : Tok} (ok : Ok mg mb s.heap) (rm : Rm A 4) (hf : mg "_law_code" = some (.ref f)) (hn : -(16 : Int) ^ 6 ≤ n ∧ n < 16 ^ 6) :
    Ev prog w A (call (.ref f) [.int n t]) (fun v _ => ∃ t', v = .bytes (bytesA (codeL n)) t') s := by
  have hn1 : (hexd n.natAbs).length ≤ 7 := hexd_len (k := 7) (by omega)
  have hn2 : (hexd (n + 1).natAbs).length ≤ 7 := hexd_len (k := 7) (by omega)
  refine call_fn (i := 11) (n := 3) (st := stmtAt 11) (binds := [(Str.ofString "n", .int n t)]) ok (by decide) rfl hf rm (fun pm cd doc => rfl) (locs rfl) ?_
  intro L h₁ cd A' rm' ok F
  have N : News s.heap L h₁ [] := News.nil
  have hh := rm'.hh
  conv in (execs _ _) => arg 1; whnf
  repeat' walk_at "mine"
  all_goals (try dsimp only)
  · have h0 : 0 ≤ n := by assumption
    rename_i h2 F2 N2
    have e1 := or_128 ⟨(hexd n.natAbs).length, by omega⟩
    dsimp only at e1
    rw [e1] at N2
    refine call_bytes_ints (vs := [.int _ _]) ⟨_, (N2 _ (.head _)).1, rfl, _, rfl⟩ (.cons _ _ .nil) (by intro x hx; rw [List.mem_singleton.mp hx]; omega) (by rw [sizeLine_eq]; simp) hh ?_
    intro h3 t3 k3 hk3
    have F3 := Fr_on F2 hk3
    dsimp only
    repeat' walk_at "mine"
    refine KBy.add_bytes (by rw [lettersA_size, byteArr_size]; simp; omega) ?_
    intro t5 k5
    exact ⟨⟨_, congrArg (Value.bytes · _) (codeL_pos h0)⟩, _, _, rfl, F3.keep⟩
  · have h0 : ¬ 0 ≤ n := by assumption
    rename_i h2 F2 N2
    have e1 := and_31 ⟨(hexd (n + 1).natAbs).length, by omega⟩
    dsimp only at e1
    rw [e1] at N2
    refine comp_bytes (cl := []) (fun c y => ∃ t, y = .int (145 - (c : Int)) t) hh ?_ (closureFor_none (by decide))
    repeat' walk_at "mine"
    refine ⟨_, _, rfl, by rw [lettersA_size, sizeLine_eq]; omega, ?_, ?_⟩
    · intro C m₃ s₃ c u hc Fc hm
      unfold Ev
      repeat' walk_at "mine"
      exact ⟨⟨_, rfl⟩, _, _, rfl, fun _ _ e => e⟩
    · intro D h3 tk3 ys hpl hD hp hk3
      have F3 := Fr_on F2 hk3
      have hi := ints_of_paired hp
      have hlen : ys.toList.length = (hexd (n + 1).natAbs).length := by rw [hi.length, List.length_map, Array.length_toList, lettersA_size]
      refine add_lists (vs := [.int _ _]) (ws := ys.toList) F3 News.nil ⟨_, hk3 _ _ (N2 _ (.head _)).1, rfl, _, rfl⟩ hpl.isList ?_ (by rw [hlen, sizeLine_eq, List.length_singleton]; omega)
      intro h4 F4 N4
      dsimp only
      repeat' walk_at "mine"
      refine call_bytes_ints (vs := [.int _ _] ++ ys.toList) ⟨_, (N4 _ (.head _)).1, rfl, _, rfl⟩ (.cons _ _ hi) ?_ (by rw [List.length_append, hlen, sizeLine_eq, List.length_singleton]; omega) hh ?_
      · intro x hx
        rcases List.mem_cons.mp hx with rfl | hx
        · omega
        · obtain ⟨c, hc, rfl⟩ := List.mem_map.mp hx
          have hc' : c ∈ (hexd (n + 1).natAbs).map fun d => (65 + d).toUInt8 := hc
          obtain ⟨d, hd, rfl⟩ := List.mem_map.mp hc'
          have := hexd_lt d hd
          have e4 : ((65 + d).toUInt8).toNat = 65 + d := by
            show (65 + d) % 256 = _
            omega
          rw [e4]
          omega
      · intro h5 t5 k5 hk5
        exact ⟨⟨_, congrArg (Value.bytes · _) (codeL_neg h0 hn2)⟩, _, _, rfl, (Fr_on F4 hk5).keep⟩
end
end Mine

namespace Mine

def toldL (n : Int) (shown : Bool) : List Nat :=
  if 0 ≤ n then (if shown then [33, 65 + (hexd n.toNat).length] else [193 + (hexd n.toNat).length]) ++ (hexd n.toNat).map (65 + ·)
  else (if shown then [94, 80 - (hexd (-n - 1).toNat).length] else [16 - (hexd (-n - 1).toNat).length]) ++ (hexd (-n - 1).toNat).map (80 - ·)
def kOf (n : Int) : Nat := if 0 ≤ n then n.toNat else (-n - 1).toNat
def strL (l : List Nat) : Str := ⟨l.toArray⟩
theorem strL_append (a b : List Nat) : strL a ++ strL b = strL (a ++ b) := by
  show Str.append _ _ = _
  simp [strL, Str.append]
theorem foldl_signs : ∀ (l : List (List Nat)) (acc : List Nat), (l.map strL).foldl (fun acc p => acc ++ (Str.ofString "").cps ++ p.cps) acc.toArray = (acc ++ l.flatten).toArray
  | [], acc => by simp
  | x :: xs, acc => by
    have e0 : (Str.ofString "").cps = #[] := by decide +kernel
    rw [List.map_cons, List.foldl_cons]
    have e1 : acc.toArray ++ (Str.ofString "").cps ++ (strL x).cps = (acc ++ x).toArray := by rw [e0]; simp [strL]
    rw [e1, foldl_signs xs, List.flatten_cons, List.append_assoc]
theorem join_flat (l : List (List Nat)) : Txt.join (Str.ofString "") (l.map strL) = strL l.flatten := by
  show Str.mk _ = Str.mk _
  congr 1
  cases l with
  | nil => rfl
  | cons x xs => exact foldl_signs xs x
theorem ints_mem : ∀ {vs : List Value} {ns : List Int}, IntsAre vs ns → ∀ v ∈ vs, ∃ n t, v = .int n t ∧ n ∈ ns
  | _, _, .nil, _, h => nomatch h
  | _, _, .cons n t h, v, hv => by
    rcases List.mem_cons.mp hv with rfl | hv
    · exact ⟨n, t, rfl, .head _⟩
    · obtain ⟨n', t', e, hm⟩ := ints_mem h v hv
      exact ⟨n', t', e, .tail _ hm⟩
theorem strs_of_paired {g : Int → Str} : ∀ {vs : List Value} {ns : List Int} {ys : List Value}, IntsAre vs ns → Paired (fun v y => ∃ t, y = .str (g (numOf v)) t) vs ys → StrsAre ys (ns.map g)
  | _, _, _, .nil, .nil => .nil
  | _, _, _, .cons n t h, .cons ⟨t', e⟩ h' => by subst e; exact .cons _ t' (strs_of_paired h h')

theorem strL_len (l : List Nat) : (strL l).length = l.length := by show l.toArray.size = _; simp
theorem e_bang : Str.ofString "!" = strL [33] := by decide +kernel
theorem e_hat : Str.ofString "^" = strL [94] := by decide +kernel
theorem kOf_lt {n : Int} (hn : -(16 : Int) ^ 6 ≤ n ∧ n < 16 ^ 6) : kOf n < 16 ^ 6 := by unfold kOf; split <;> omega
theorem toldL_pos {n : Int} (h : 0 ≤ n) (b : Bool) : toldL n b = (if b then [33, 65 + (hexd (kOf n)).length] else [193 + (hexd (kOf n)).length]) ++ (hexd (kOf n)).map (65 + ·) := by
  unfold toldL kOf; rw [if_pos h, if_pos h]
theorem toldL_neg {n : Int} (h : ¬ 0 ≤ n) (b : Bool) : toldL n b = (if b then [94, 80 - (hexd (kOf n)).length] else [16 - (hexd (kOf n)).length]) ++ (hexd (kOf n)).map (80 - ·) := by
  unfold toldL kOf; rw [if_neg h, if_neg h]
theorem strs_letters {ys : List Value} {ds : List Nat} {g : Int → Str} {k : Nat → Nat} (h : StrsAre ys ((ds.map Int.ofNat).map g)) (e : ∀ d ∈ ds, g (Int.ofNat d) = strL [k d]) :
    StrsAre ys ((ds.map fun d => [k d]).map strL) := by
  have : (ds.map Int.ofNat).map g = (ds.map fun d => [k d]).map strL := by
    rw [List.map_map, List.map_map]
    exact List.map_congr_left e
  rw [← this]; exact h
theorem flat_one {ds : List Nat} {k : Nat → Nat} : (ds.map fun d => [k d]).flatten = ds.map k := by
  induction ds with
  | nil => rfl
  | cons d ds ih => rw [List.map_cons, List.flatten_cons, ih]; rfl
theorem weight_one {ds : List Nat} {k : Nat → Nat} : ((((ds.map fun d => [k d]).map strL).map (·.length)).sum) = ds.length := by
  induction ds with
  | nil => rfl
  | cons d ds ih =>
    rw [List.map_cons, List.map_cons, List.map_cons, List.sum_cons, ih, List.length_cons]
    show 1 + ds.length = _
    omega

section
variable {prog : Program} {w : World} {A : Around} {s : Shared} {mg mb : Str → Option Value}

local macro_rules | `(tactic| walk_at "mine") => `(tactic| first
  | with_reducible refine wpAny_execs_cons ?_
  | with_reducible refine wpAny_execs_nil ?_
  | with_reducible refine wpAny_If ?_
  | with_reducible refine wpAny_Return_some ?_
  | with_reducible refine wpAny_IfExp ?_
  | with_reducible refine wpAny_BinOp ?_
  | with_reducible refine wpAny_Constant_int ?_
  | with_reducible refine args_nil ?_
  | (with_reducible show wpAny _ _ (eval (Expr.Name _ _) _) _ _ _); (first | refine nm_loc (Fr.ns (by assumption)) (by first | rfl | assumption) ?_ | refine nm_bi (Ok.keeps (by assumption) (Fr.keep (by assumption))) (by first | reg3_boot | with_reducible exact PySem.boot_len) ?_)
  | (with_reducible show wpAny _ _ (eval (Expr.Call (Expr.Name _ _) _ _ _) _) _ _ _); refine Call_bi (Ok.keeps (by assumption) (Fr.keep (by assumption))) (by first | reg3_boot | with_reducible exact PySem.boot_len) ?_
  | (with_reducible show wpAny _ _ (loadName _ _) _ _ _); refine wpAny_loadName_local rfl rfl (Fr.ns (by assumption)) (by first | rfl | assumption) ?_
  | (with_reducible show wpAny _ _ (spliced _) _ _ _); refine args_cons ?_
  | (with_reducible show wpAny _ _ (truthy (Value.bool _)) _ _ _); refine wpAny_truthy_bool ?_; (try dsimp only)
  | ((fail_if_success (with_reducible show wpAny _ _ (exec (Stmt.While _ _ _ _) _) _ _ _)); (fail_if_success (with_reducible show wpAny _ _ (exec (Stmt.For _ _ _ _ _) _) _ _ _)); (fail_if_success (with_reducible show wpAny _ _ (eval (Expr.ListComp _ _ _ _) _) _ _ _)); (first | (with_reducible show wpAny _ _ _ _ _ _) | (with_reducible show ite _ _ _)); walk1))

set_option maxHeartbeats 4000000 in
theorem law_told_spec {f : Addr} {n : Int} {b : Bool} {t : Tok} (ok : Ok mg mb s.heap) (rm : Rm A 4) (hf : mg "_law_told" = some (.ref f)) (hn : -(16 : Int) ^ 6 ≤ n ∧ n < 16 ^ 6) :
    Ev prog w A (call (.ref f) [.int n t, .bool b]) (fun v _ => ∃ t', v = .str (strL (toldL n b)) t') s := by
  refine call_fn (i := 12) (n := 3) (st := stmtAt 12) (binds := [(Str.ofString "n", .int n t), (Str.ofString "shown", .bool b)]) ok (by decide) rfl hf rm (fun pm cd doc => rfl) (locs rfl) ?_
  intro L h₁ cd A' rm' ok F
  have N : News s.heap L h₁ [] := News.nil
  have hh := rm'.hh
  conv in (execs _ _) => arg 1; whnf
  iterate 6 walk_at "mine"
  dsimp only
  rename_i h2 F2 N2
  refine wpAny_execs_cons ?_
  refine wpAny_Assign_Name ?_
  refine Ev.on (P := fun v _ => ∃ t', v = .int (kOf n : Int) t') ?_ F2 ?_
  · unfold Ev
    repeat' walk_at "mine"
    · exact ⟨⟨_, congrArg (Value.int · _) (by unfold kOf; split <;> omega)⟩, _, _, rfl, fun _ _ e => e⟩
    · exact ⟨⟨_, congrArg (Value.int · _) (by unfold kOf; split <;> omega)⟩, _, _, rfl, fun _ _ e => e⟩
  rintro _ h3 tk3 ⟨t3, rfl⟩ hk3 F3 N3
  have hlen : (hexd (kOf n)).length ≤ 7 := hexd_len (k := 7) (by unfold kOf; split <;> omega)
  replace N3 := News_on N2 hk3
  clear N2
  walk_at "mine"
  rename_i h4 F4 N4
  refine wpAny_execs_cons ?_
  refine while_ (fun k s' => ∃ (h : Heap) (tk : Nat) (m : Str → Option Value) (c : Nat) (ds : List Nat) (t1 : Tok) (l : Addr) (vs : List Value) (e : Nat), s' = { s with heap := h, toks := tk } ∧ Fr s.heap L h m ∧
    News s.heap L h [(l, { cls := .type "list", data := .seq vs.toArray e })] ∧ IntsAre vs (ds.map Int.ofNat) ∧
    m (Str.ofString "rest") = some (.int (c : Int) t1) ∧ m (Str.ofString "figures") = some (.ref l) ∧ m (Str.ofString "n") = some (.int n t) ∧ m (Str.ofString "shown") = some (.bool b) ∧
    hexd (kOf n) = hexd c ++ ds ∧ k = c) (kOf n) ?_ ?_
  · exact ⟨_, _, _, kOf n, [], _, _, [], _, rfl, F4, N4, .nil, rfl, rfl, rfl, rfl, (List.append_nil _).symm, rfl⟩
  clear F4 N4 F3 N3 N F
  rintro k s' ⟨h, tk, m, c, ds, t1, l, vs, e, rfl, F5, N5, hi, m1, m2, m3, m4, hx, rfl⟩
  have hlen2 : ds.length ≤ 7 := by
    have := congrArg List.length hx
    rw [List.length_append] at this
    omega
  have hlen3 : vs.length = ds.length := by rw [hi.length, List.length_map]
  repeat' (walk_at "mine"; try dsimp only)
  · rename_i hpos _ _ _ _ _ _ _ _ _ h9 F9 N9
    rw [fdiv16] at F9
    rw [fmod16] at N9
    have hk' : k ≠ 0 := by omega
    exact ⟨k / 16, by omega, h9, _, _, k / 16, (k % 16) :: ds, _, _, _, _, rfl, F9, News_head N9, .cons _ _ hi, rfl, rfl, m3, m4, by rw [hx, hexd_pos hk', List.append_assoc]; rfl, rfl⟩
  · rename_i hpos
    have : k = 0 := by omega
    subst this
    rw [hexd_zero, List.nil_append] at hx
    refine len_list ⟨_, (N5 _ (.head _)).1, rfl, _, rfl⟩ (by rw [List.size_toArray]; omega) ?_
    rw [List.size_toArray, hlen3, ← hx]
    dsimp only
    have hds : ∀ d ∈ ds, d < 16 := fun d hd => hexd_lt d (hx ▸ hd)
    repeat' (walk_at "mine"; try dsimp only)
    · have h0 : 0 ≤ n := by assumption
      have hb : b = true := by assumption
      rename_i h9 F9 N9
      have ok9 : Ok mg mb h9 := ok.keeps F9.keep
      refine comp_list (cl := []) (fun _ => true) (fun v y => ∃ t', y = .str (strL [(65 + numOf v).toNat]) t') hh ?_ (closureFor_none (by decide))
      repeat' (walk_at "mine"; try dsimp only)
      refine ⟨_, vs.toArray, rfl, ⟨_, (N9 _ (.head _)).1, rfl, _, rfl⟩, by rw [List.size_toArray, sizeLine_eq]; omega, ?_, ?_, ?_⟩
      · intro C m₃ s₃ v hv Fc hm
        exact wpAny_tests_nil ⟨rfl, Keeps.rfl'⟩
      · intro C m₃ s₃ v hv _ Fc hm
        obtain ⟨d, td, rfl, hd⟩ := ints_mem hi v hv
        obtain ⟨d', hd', rfl⟩ := List.mem_map.mp hd
        have := hds d' hd'
        have hdd : Int.ofNat d' = (d' : Int) := rfl
        unfold Ev
        repeat' (walk_at "mine"; try dsimp only)
        exact ⟨⟨_, rfl⟩, _, _, rfl, fun _ _ e => e⟩
      · intro D h10 tk10 ys hpl hD hp hk
        have F10 := Fr_on F9 hk
        rw [List.filter_eq_self.mpr (fun _ _ => rfl)] at hp
        have hs := strs_letters (k := fun d => 65 + d) (strs_of_paired (g := fun d => strL [(65 + d).toNat]) hi hp) (fun d hd => by
          have := hds d hd
          have hdd : Int.ofNat d = (d : Int) := rfl
          congr 2)
        try dsimp only
        repeat' (walk_at "mine"; try dsimp only)
        refine join_listW hpl.isList hs (by decide) (by rw [weight_one, List.length_map, List.length_map]; omega) ?_
        intro t11 k11
        rw [join_flat, flat_one]
        dsimp only
        repeat' (walk_at "mine"; try dsimp only)
        have e5 : Str.ofString "!" ++ { cps := #[(65 + ((hexd (kOf n)).length : Int)).toNat] } = strL [33, 65 + (hexd (kOf n)).length] := by rw [e_bang, show (65 + ((hexd (kOf n)).length : Int)).toNat = 65 + (hexd (kOf n)).length by omega]; exact strL_append _ _
        rw [e5]
        refine PyProof.Rows.add_str ?_ (by rw [strL_len, strL_len, List.length_map, sizeLine_eq]; simp only [List.length_cons, List.length_nil]; omega)
        intro t12 k12
        subst hb
        exact ⟨⟨_, congrArg (Value.str · _) (by rw [strL_append, toldL_pos h0, hx]; rfl)⟩, _, _, rfl, F10.keep⟩
    · have h0 : 0 ≤ n := by assumption
      have hb : b = false := by assumption
      rename_i h9 F9 N9
      have ok9 : Ok mg mb h9 := ok.keeps F9.keep
      refine comp_list (cl := []) (fun _ => true) (fun v y => ∃ t', y = .str (strL [(65 + numOf v).toNat]) t') hh ?_ (closureFor_none (by decide))
      repeat' (walk_at "mine"; try dsimp only)
      refine ⟨_, vs.toArray, rfl, ⟨_, (N9 _ (.head _)).1, rfl, _, rfl⟩, by rw [List.size_toArray, sizeLine_eq]; omega, ?_, ?_, ?_⟩
      · intro C m₃ s₃ v hv Fc hm
        exact wpAny_tests_nil ⟨rfl, Keeps.rfl'⟩
      · intro C m₃ s₃ v hv _ Fc hm
        obtain ⟨d, td, rfl, hd⟩ := ints_mem hi v hv
        obtain ⟨d', hd', rfl⟩ := List.mem_map.mp hd
        have := hds d' hd'
        have hdd : Int.ofNat d' = (d' : Int) := rfl
        unfold Ev
        repeat' (walk_at "mine"; try dsimp only)
        exact ⟨⟨_, rfl⟩, _, _, rfl, fun _ _ e => e⟩
      · intro D h10 tk10 ys hpl hD hp hk
        have F10 := Fr_on F9 hk
        rw [List.filter_eq_self.mpr (fun _ _ => rfl)] at hp
        have hs := strs_letters (k := fun d => 65 + d) (strs_of_paired (g := fun d => strL [(65 + d).toNat]) hi hp) (fun d hd => by
          have := hds d hd
          have hdd : Int.ofNat d = (d : Int) := rfl
          congr 2)
        try dsimp only
        repeat' (walk_at "mine"; try dsimp only)
        refine join_listW hpl.isList hs (by decide) (by rw [weight_one, List.length_map, List.length_map]; omega) ?_
        intro t11 k11
        rw [join_flat, flat_one]
        dsimp only
        repeat' (walk_at "mine"; try dsimp only)
        have e5 : Str.mk #[(193 + ((hexd (kOf n)).length : Int)).toNat] = strL [193 + (hexd (kOf n)).length] := by rw [show (193 + ((hexd (kOf n)).length : Int)).toNat = 193 + (hexd (kOf n)).length by omega]; rfl
        rw [e5]
        refine PyProof.Rows.add_str ?_ (by rw [strL_len, strL_len, List.length_map, sizeLine_eq]; simp only [List.length_cons, List.length_nil]; omega)
        intro t12 k12
        subst hb
        exact ⟨⟨_, congrArg (Value.str · _) (by rw [strL_append, toldL_pos h0, hx]; rfl)⟩, _, _, rfl, F10.keep⟩
    · have h0 : ¬ 0 ≤ n := by assumption
      have hb : b = true := by assumption
      rename_i h9 F9 N9
      have ok9 : Ok mg mb h9 := ok.keeps F9.keep
      refine comp_list (cl := []) (fun _ => true) (fun v y => ∃ t', y = .str (strL [(80 - numOf v).toNat]) t') hh ?_ (closureFor_none (by decide))
      repeat' (walk_at "mine"; try dsimp only)
      refine ⟨_, vs.toArray, rfl, ⟨_, (N9 _ (.head _)).1, rfl, _, rfl⟩, by rw [List.size_toArray, sizeLine_eq]; omega, ?_, ?_, ?_⟩
      · intro C m₃ s₃ v hv Fc hm
        exact wpAny_tests_nil ⟨rfl, Keeps.rfl'⟩
      · intro C m₃ s₃ v hv _ Fc hm
        obtain ⟨d, td, rfl, hd⟩ := ints_mem hi v hv
        obtain ⟨d', hd', rfl⟩ := List.mem_map.mp hd
        have := hds d' hd'
        have hdd : Int.ofNat d' = (d' : Int) := rfl
        unfold Ev
        repeat' (walk_at "mine"; try dsimp only)
        exact ⟨⟨_, rfl⟩, _, _, rfl, fun _ _ e => e⟩
      · intro D h10 tk10 ys hpl hD hp hk
        have F10 := Fr_on F9 hk
        rw [List.filter_eq_self.mpr (fun _ _ => rfl)] at hp
        have hs := strs_letters (k := fun d => 80 - d) (strs_of_paired (g := fun d => strL [(80 - d).toNat]) hi hp) (fun d hd => by
          have := hds d hd
          have hdd : Int.ofNat d = (d : Int) := rfl
          congr 2; omega)
        try dsimp only
        repeat' (walk_at "mine"; try dsimp only)
        refine join_listW hpl.isList hs (by decide) (by rw [weight_one, List.length_map, List.length_map]; omega) ?_
        intro t11 k11
        rw [join_flat, flat_one]
        dsimp only
        repeat' (walk_at "mine"; try dsimp only)
        have e5 : Str.ofString "^" ++ { cps := #[(80 - ((hexd (kOf n)).length : Int)).toNat] } = strL [94, 80 - (hexd (kOf n)).length] := by rw [e_hat, show (80 - ((hexd (kOf n)).length : Int)).toNat = 80 - (hexd (kOf n)).length by omega]; exact strL_append _ _
        rw [e5]
        refine PyProof.Rows.add_str ?_ (by rw [strL_len, strL_len, List.length_map, sizeLine_eq]; simp only [List.length_cons, List.length_nil]; omega)
        intro t12 k12
        subst hb
        exact ⟨⟨_, congrArg (Value.str · _) (by rw [strL_append, toldL_neg h0, hx]; rfl)⟩, _, _, rfl, F10.keep⟩
    · have h0 : ¬ 0 ≤ n := by assumption
      have hb : b = false := by assumption
      rename_i h9 F9 N9
      have ok9 : Ok mg mb h9 := ok.keeps F9.keep
      refine comp_list (cl := []) (fun _ => true) (fun v y => ∃ t', y = .str (strL [(80 - numOf v).toNat]) t') hh ?_ (closureFor_none (by decide))
      repeat' (walk_at "mine"; try dsimp only)
      refine ⟨_, vs.toArray, rfl, ⟨_, (N9 _ (.head _)).1, rfl, _, rfl⟩, by rw [List.size_toArray, sizeLine_eq]; omega, ?_, ?_, ?_⟩
      · intro C m₃ s₃ v hv Fc hm
        exact wpAny_tests_nil ⟨rfl, Keeps.rfl'⟩
      · intro C m₃ s₃ v hv _ Fc hm
        obtain ⟨d, td, rfl, hd⟩ := ints_mem hi v hv
        obtain ⟨d', hd', rfl⟩ := List.mem_map.mp hd
        have := hds d' hd'
        have hdd : Int.ofNat d' = (d' : Int) := rfl
        unfold Ev
        repeat' (walk_at "mine"; try dsimp only)
        exact ⟨⟨_, rfl⟩, _, _, rfl, fun _ _ e => e⟩
      · intro D h10 tk10 ys hpl hD hp hk
        have F10 := Fr_on F9 hk
        rw [List.filter_eq_self.mpr (fun _ _ => rfl)] at hp
        have hs := strs_letters (k := fun d => 80 - d) (strs_of_paired (g := fun d => strL [(80 - d).toNat]) hi hp) (fun d hd => by
          have := hds d hd
          have hdd : Int.ofNat d = (d : Int) := rfl
          congr 2; omega)
        try dsimp only
        repeat' (walk_at "mine"; try dsimp only)
        refine join_listW hpl.isList hs (by decide) (by rw [weight_one, List.length_map, List.length_map]; omega) ?_
        intro t11 k11
        rw [join_flat, flat_one]
        dsimp only
        repeat' (walk_at "mine"; try dsimp only)
        have e5 : Str.mk #[(16 - ((hexd (kOf n)).length : Int)).toNat] = strL [16 - (hexd (kOf n)).length] := by rw [show (16 - ((hexd (kOf n)).length : Int)).toNat = 16 - (hexd (kOf n)).length by omega]; rfl
        rw [e5]
        refine PyProof.Rows.add_str ?_ (by rw [strL_len, strL_len, List.length_map, sizeLine_eq]; simp only [List.length_cons, List.length_nil]; omega)
        intro t12 k12
        subst hb
        exact ⟨⟨_, congrArg (Value.str · _) (by rw [strL_append, toldL_neg h0, hx]; rfl)⟩, _, _, rfl, F10.keep⟩
end
end Mine

namespace Mine

def readStep (acc : List Int) (o : Nat) : List Int :=
  if 127 < o then acc ++ [0] else if o < 32 then acc ++ [-1] else acc.set (acc.length - 1) (16 * acc.getD (acc.length - 1) 0 + Builtin.bitAnd o 31 - 1)

theorem readStep_meta {acc : List Int} {o : Nat} (h : 127 < o) : readStep acc o = acc ++ [0] := if_pos h
theorem readStep_ctrl {acc : List Int} {o : Nat} (h : ¬ 127 < o) (h' : o < 32) : readStep acc o = acc ++ [-1] := by unfold readStep; rw [if_neg h, if_pos h']
theorem readStep_letter {acc : List Int} {o : Nat} (h : ¬ 127 < o) (h' : ¬ o < 32) : readStep acc o = acc.set (acc.length - 1) (16 * acc.getD (acc.length - 1) 0 + Builtin.bitAnd o 31 - 1) := by
  unfold readStep; rw [if_neg h, if_neg h']
theorem ints_at : ∀ {vs : List Value} {ns : List Int}, IntsAre vs ns → ∀ j : Nat, j < ns.length → ∃ t, vs[j]? = some (.int (ns.getD j 0) t)
  | _, _, .nil, _, h => absurd h (Nat.not_lt_zero _)
  | _, _, .cons n t _, 0, _ => ⟨t, rfl⟩
  | _, _, .cons n t h, j + 1, hj => by
    obtain ⟨t', e⟩ := ints_at h j (Nat.lt_of_succ_lt_succ hj)
    exact ⟨t', by simpa using e⟩
theorem setL_of : ∀ (l : List Value) (k : Nat) (v : Value), k < l.length → ki_setL l k v = some (l.set k v) := by
  intro l
  induction l with
  | nil => intro k v h; exact absurd h (Nat.not_lt_zero _)
  | cons x xs ih =>
    intro k v h
    cases k with
    | zero => rfl
    | succ k =>
      have := ih k v (Nat.lt_of_succ_lt_succ h)
      unfold ki_setL
      rw [this]
      rfl
theorem fold_at {b : Array UInt8} {i : Nat} {c : UInt8} (hc : b[i]? = some c) :
    ((b.toList.map (·.toNat)).take (i + 1)).foldl readStep [] = readStep (((b.toList.map (·.toNat)).take i).foldl readStep []) c.toNat := by
  rw [List.take_succ, List.foldl_append, List.getElem?_map, Array.getElem?_toList, hc]
  rfl

section
variable {prog : Program} {w : World} {A : Around} {s : Shared} {mg mb : Str → Option Value}

local macro_rules | `(tactic| walk_at "mine") => `(tactic| first
  | with_reducible refine wpAny_execs_cons ?_
  | with_reducible refine wpAny_execs_nil ?_
  | with_reducible refine wpAny_If ?_
  | with_reducible refine wpAny_Return_some ?_
  | with_reducible refine wpAny_IfExp ?_
  | with_reducible refine wpAny_BinOp ?_
  | with_reducible refine wpAny_Constant_int ?_
  | with_reducible refine args_nil ?_
  | (with_reducible show wpAny _ _ (eval (Expr.Name _ _) _) _ _ _); (first | refine nm_loc (Fr.ns (by assumption)) (by first | rfl | assumption) ?_ | refine nm_bi (Ok.keeps (by assumption) (Fr.keep (by assumption))) (by first | reg3_boot | with_reducible exact PySem.boot_len) ?_)
  | (with_reducible show wpAny _ _ (eval (Expr.Call (Expr.Name _ _) _ _ _) _) _ _ _); refine Call_bi (Ok.keeps (by assumption) (Fr.keep (by assumption))) (by first | reg3_boot | with_reducible exact PySem.boot_len) ?_
  | (with_reducible show wpAny _ _ (loadName _ _) _ _ _); refine wpAny_loadName_local rfl rfl (Fr.ns (by assumption)) (by first | rfl | assumption) ?_
  | (with_reducible show wpAny _ _ (spliced _) _ _ _); refine args_cons ?_
  | (with_reducible show wpAny _ _ (truthy (Value.bool _)) _ _ _); refine wpAny_truthy_bool ?_; (try dsimp only)
  | ((fail_if_success (with_reducible show wpAny _ _ (exec (Stmt.While _ _ _ _) _) _ _ _)); (fail_if_success (with_reducible show wpAny _ _ (exec (Stmt.For _ _ _ _ _) _) _ _ _)); (fail_if_success (with_reducible show wpAny _ _ (eval (Expr.ListComp _ _ _ _) _) _ _ _)); (fail_if_success (with_reducible show wpAny _ _ (call (Value.builtin "list.append") _) _ _ _)); (fail_if_success (with_reducible show wpAny _ _ (subscriptTail _ _ (Value.ref _) _) _ _ _)); (fail_if_success (with_reducible show wpAny _ _ (setItem _ _ _) _ _ _)); (first | (with_reducible show wpAny _ _ _ _ _ _) | (with_reducible show ite _ _ _)); walk1))

local macro_rules | `(tactic| walk_at "mine") => `(tactic| first
  | ((with_reducible show wpAny _ _ (eval (Expr.Call (Expr.Name "ismeta" _) _ _ _) _) _ _ _); refine Call_def 6 (Ok.keeps (by assumption) (Fr.keep (by assumption))) ?_; intro f' hf')
  | ((with_reducible show wpAny _ _ (eval (Expr.Call (Expr.Name "isctrl" _) _ _ _) _) _ _ _); refine Call_def 5 (Ok.keeps (by assumption) (Fr.keep (by assumption))) ?_; intro f' hf')
  | ((with_reducible show wpAny _ _ (eval (Expr.Call (Expr.Name "ctrl" _) _ _ _) _) _ _ _); refine Call_def 7 (Ok.keeps (by assumption) (Fr.keep (by assumption))) ?_; intro f' hf')
  | ((with_reducible show AndK 6 _ _); refine ⟨fun _ _ e => e, Ev.on (ismeta_spec (Ok.keeps (by assumption) (Fr.keep (by assumption))) (Rm.less (by assumption) (by decide)) (by assumption)) (by assumption) ?_⟩; intro v h' tk hv hk F' N'; subst hv; replace N' := News_on (by assumption) hk; (try dsimp only))
  | ((with_reducible show AndK 5 _ _); refine ⟨fun _ _ e => e, Ev.on (isctrl_spec (Ok.keeps (by assumption) (Fr.keep (by assumption))) (Rm.less (by assumption) (by decide)) (by assumption)) (by assumption) ?_⟩; intro v h' tk hv hk F' N'; subst hv; replace N' := News_on (by assumption) hk; (try dsimp only))
  | ((with_reducible show AndK 7 _ _); refine ⟨fun _ _ e => e, Ev.on (ctrl_spec (Ok.keeps (by assumption) (Fr.keep (by assumption))) (Rm.less (by assumption) (by decide)) (by assumption)) (by assumption) ?_⟩; intro v h' tk hv hk F' N'; obtain ⟨t', hv⟩ := hv; subst hv; replace N' := News_on (by assumption) hk; (try dsimp only))
  | fail)

set_option maxHeartbeats 4000000 in
theorem law_read_spec {f : Addr} {b : Array UInt8} {t : Tok} (ok : Ok mg mb s.heap) (rm : Rm A 4) (hf : mg "_law_read" = some (.ref f)) (hb : b.size ≤ 1000)
    (hhead : ∃ c r, b.toList = c :: r ∧ (127 < c.toNat ∨ c.toNat < 32)) :
    Ev prog w A (call (.ref f) [.bytes b t]) (fun v h => ∃ D vs, v = .ref D ∧ h.IsList D vs.toArray ∧ IntsAre vs ((b.toList.map (·.toNat)).foldl readStep [])) s := by
  refine call_fn (i := 13) (n := 3) (st := stmtAt 13) (binds := [(Str.ofString "octets", .bytes b t)]) ok (by decide) rfl hf rm (fun pm cd doc => rfl) (locs rfl) ?_
  intro L h₁ cd A' rm' ok F
  have N : News s.heap L h₁ [] := News.nil
  have hh := rm'.hh
  conv in (execs _ _) => arg 1; whnf
  iterate 6 walk_at "mine"
  try dsimp only
  rename_i h2 F2 N2
  refine wpAny_execs_cons ?_
  refine wpAny_For ?_
  repeat' (walk_at "mine"; try dsimp only)
  refine KBw.pyIter_bytes ?_
  dsimp only at F2 N2 ⊢
  obtain ⟨l, hl⟩ : ∃ l, l = h₁.objs.size := ⟨_, rfl⟩
  rw [← hl] at F2 N2
  have hLI : L ≠ h2.objs.size := Nat.ne_of_lt F2.ns.lt
  have hlI : l ≠ h2.objs.size := Nat.ne_of_lt (Heap.lt_size (N2 _ (.head _)).1)
  have hIs : s.heap.objs.size ≤ h2.objs.size := Nat.le_trans F2.above (Nat.le_of_lt F2.ns.lt)
  have hI0 : s.heap.get? h2.objs.size = none := Heap.get?_none_of_le hIs
  obtain ⟨I, hI⟩ : ∃ I, I = h2.objs.size := ⟨_, rfl⟩
  rw [← hI] at hLI hlI hI0 ⊢
  refine for_walks (KBw.walks hh I b t) (fun i s' => ∃ h tk m vs e, s' = { s with heap := h, toks := tk } ∧ Fr s.heap L h m ∧ m (Str.ofString "read") = some (.ref l) ∧
    News s.heap L h [(l, listOf vs.toArray e)] ∧ IntsAre vs (((b.toList.map (·.toNat)).take i).foldl readStep []) ∧ (i ≠ 0 → vs ≠ []) ∧ vs.length ≤ i)
    ⟨_, hI ▸ Heap.get?_push_size _ rfl, rfl, rfl⟩ ⟨_, _, _, [], _, rfl, F2.push _, rfl, News_on N2 fun _ _ e => Heap.get?_push_of_some _ e, .nil, fun h => absurd rfl h, Nat.le_refl _⟩ ?_ ?_
  · clear N N2 F2 F
    rintro i v s₁ h3 tk3 hi ⟨h, tk1, m, vs, e, rfl, F3, m1, N3, hints, hne, hvl⟩ ⟨c, u, hc, rfl⟩ hst hk
    have F4 : Fr s.heap L h3 m := ⟨F3.ns.at' (fun o e => hk L o hLI e), fun b o e => hk b o (fun q => by rw [q, hI0] at e; cases e) (F3.keep b o e), F3.above⟩
    obtain ⟨oI, hoI, _⟩ := id hst
    have N4 : News s.heap L h3 [(l, listOf vs.toArray e), (I, oI)] := by
      intro p hp
      rcases List.mem_cons.mp hp with rfl | hp
      · exact ⟨hk _ _ hlI (N3 _ (.head _)).1, (N3 _ (.head _)).2⟩
      · rw [List.mem_singleton.mp hp]
        exact ⟨hoI, hLI.symm, hI0⟩
    clear N3 F3
    dsimp only
    repeat' (walk_at "mine"; try dsimp only)
    · rename_i h5 tk5 hk5 F5 N5 hcond
      have hbig : 127 < c.toNat := by simp at hcond; omega
      refine append_K (its := vs.toArray) F5 N5 (.head (by intro p hp; rw [List.mem_singleton.mp hp]; exact hlI.symm)) ?_ (by rw [List.size_toArray, sizeLine_eq]; omega)
      intro h6 F6 N6
      dsimp only
      repeat' (walk_at "mine"; try dsimp only)
      rw [List.push_toArray] at N6
      refine ⟨rfl, ⟨h6, _, _, _, _, rfl, F6, m1, News_head N6, ?_, fun _ => by simp, by simp; omega⟩, ?_⟩
      · rw [fold_at hc]
        rw [readStep_meta hbig]
        exact hints.append (.cons _ _ .nil)
      · intro a ha o e
        rw [List.mem_singleton.mp ha] at e ⊢
        rw [hoI] at e
        rw [← e]
        exact (N6 _ (.tail _ (.head _))).1
    · rename_i hcond1 _ _ h5 tk5 hk5 F5 N5 hcond2
      have hbig : ¬ 127 < c.toNat := by simp at hcond1; omega
      have hsm : c.toNat < 32 := by simp at hcond2; omega
      refine append_K (its := vs.toArray) F5 N5 (.head (by intro p hp; rw [List.mem_singleton.mp hp]; exact hlI.symm)) ?_ (by rw [List.size_toArray, sizeLine_eq]; omega)
      intro h6 F6 N6
      dsimp only
      repeat' (walk_at "mine"; try dsimp only)
      rw [List.push_toArray] at N6
      refine ⟨rfl, ⟨h6, _, _, _, _, rfl, F6, m1, News_head N6, ?_, fun _ => by simp, by simp; omega⟩, ?_⟩
      · rw [fold_at hc]
        rw [readStep_ctrl hbig hsm]
        exact hints.append (.cons _ _ .nil)
      · intro a ha o e
        rw [List.mem_singleton.mp ha] at e ⊢
        rw [hoI] at e
        rw [← e]
        exact (N6 _ (.tail _ (.head _))).1
    · rename_i hcond1 _ _ h5 tk5 hk5 F5 N5 hcond2
      have hbig : ¬ 127 < c.toNat := by simp at hcond1; omega
      have hsm : ¬ c.toNat < 32 := by simp at hcond2; omega
      have hi0 : i ≠ 0 := by
        intro h0
        subst h0
        obtain ⟨c', r, e1, e2⟩ := hhead
        rw [← Array.getElem?_toList, e1] at hc
        simp at hc
        subst hc
        omega
      have hvne := hne hi0
      have hpos : 0 < vs.length := List.length_pos_iff.mpr hvne
      have hlen := hints.length
      obtain ⟨tl, htl⟩ := ints_at hints (vs.length - 1) (by omega)
      refine kim_back N5 (.head _) rfl rfl (by decide) (by omega) (by decide) (by rw [show ((-1 : Int) + (vs.length : Int)).toNat = vs.length - 1 by omega]; exact htl) ?_
      refine PyProof.Rows.mul_int ?_ (IntMulOk.of_left (by decide +kernel))
      dsimp only
      repeat' (walk_at "mine"; try dsimp only)
      rename_i h6 tk6 hk6 F6 t6 N6
      refine ki_setNeg (its := vs.toArray) (j := vs.length - 1) F6 N6 (by decide) (by decide) (by rw [List.size_toArray, PySem.seqIndex_neg (by decide) (by omega)]; congr 1; omega) (setL_of _ _ _ (by simpa using by omega)) (.head (by intro p hp; rw [List.mem_singleton.mp hp]; exact hlI.symm)) ?_
      intro h7 F7 N7
      dsimp only
      repeat' (walk_at "mine"; try dsimp only)
      refine ⟨rfl, ⟨h7, _, _, _, _, rfl, F7, m1, News_head N7, ?_, fun _ => by simpa using hvne, by simp; omega⟩, ?_⟩
      · rw [fold_at hc]
        rw [readStep_letter hbig hsm, ← hlen]
        exact ints_set hints _
      · intro a ha o e
        rw [List.mem_singleton.mp ha] at e ⊢
        rw [hoI] at e
        rw [← e]
        exact (N7 _ (.tail _ (.head _))).1
  · rintro s₁ h3 tk3 ⟨h, tk1, m, vs, e, rfl, F3, m1, N3, hints, hne, hvl⟩ hk
    have F4 : Fr s.heap L h3 m := ⟨F3.ns.at' (fun o e => hk L o hLI e), fun b o e => hk b o (fun q => by rw [q, hI0] at e; cases e) (F3.keep b o e), F3.above⟩
    dsimp only
    repeat' (walk_at "mine"; try dsimp only)
    refine ⟨⟨l, vs, rfl, ⟨_, hk _ _ hlI (N3 _ (.head _)).1, rfl, _, rfl⟩, ?_⟩, _, _, rfl, F4.keep⟩
    rw [List.take_of_length_le (by simp)] at hints
    exact hints
end
end Mine

namespace Mine

def octs (b : Array UInt8) : List Nat := b.toList.map (·.toNat)

theorem slot_bytes_lt : Slot "bytes" (cmpInfo .Lt).2.1 "bytes.__lt__" :=
  .of (owner := "bytes") (n := "__lt__") (by rw [typeLookup_type, builtinLookup_eq_fast]; kernel_rfl) (by decide +kernel) (by decide +kernel) (by decide +kernel)
    (by first | exact .inl (by decide +kernel) | exact .inr (by decide +kernel)) (by rw [isSubtype_type]; kernel_rfl)
theorem entry_bytes_lt : entryFor table "bytes.__lt__" = some Builtin.«bytes.__lt__» := entryFor_of_tree (by kernel_rfl)
theorem args_bytes_lt_2 (a b : Value) : argsOk "bytes.__lt__" ⟨[a, b], []⟩ := by
  unfold argsOk; rw [signature?_of (id := "bytes.__lt__") (n := ['_', '_', 't', 'l', '_', '_']) (o := ['s', 'e', 't', 'y', 'b']) (by kernel_rfl) FB.owner_bytes]; kernel_rfl

theorem order_lt : ∀ a b : List UInt8, (Builtin.Bytes.order a b == .lt) = decide (a.map (·.toNat) < b.map (·.toNat))
  | [], [] => rfl
  | [], _ :: _ => rfl
  | _ :: _, [] => rfl
  | x :: a, y :: b => by
    simp only [Builtin.Bytes.order, List.map_cons]
    by_cases h1 : x < y
    · have h1' : x.toNat < y.toNat := UInt8.lt_iff_toNat_lt.mp h1
      simp [h1, List.cons_lt_cons_iff, h1']
    · have h1' : ¬ x.toNat < y.toNat := fun q => h1 (UInt8.lt_iff_toNat_lt.mpr q)
      by_cases h2 : x > y
      · have h2' : y.toNat < x.toNat := UInt8.lt_iff_toNat_lt.mp h2
        have h3 : x.toNat ≠ y.toNat := by omega
        have h4 : ¬ (x.toNat :: a.map (·.toNat) < y.toNat :: b.map (·.toNat)) := by
          rw [List.cons_lt_cons_iff]
          rintro (q | q)
          · omega
          · exact h3 q.1
        rw [if_neg h1, if_pos h2, decide_eq_false h4]
        rfl
      · have h2' : ¬ y.toNat < x.toNat := fun q => h2 (UInt8.lt_iff_toNat_lt.mpr q)
        have h3 : x.toNat = y.toNat := by omega
        rw [if_neg h1, if_neg h2, order_lt a b]
        simp [List.cons_lt_cons_iff, h3]

def bytesKind : KeyKind where
  α := List Nat
  blt a b := decide (a < b)
  irrefl a := by simpa using List.lt_irrefl a
  trans a b c h1 h2 := by simp only [decide_eq_true_eq] at *; exact List.lt_trans h1 h2
  negTrans a b c h := by
    simp only [decide_eq_true_eq] at *
    by_cases hab : a < b
    · exact .inl hab
    · exact .inr (List.lt_of_le_of_lt (List.not_lt.mp hab) h)
  total a b h1 h2 := by simp only [decide_eq_false_iff_not] at *; exact List.le_antisymm (List.not_lt.mp h2) (List.not_lt.mp h1)
  keyOf v := match v with | .bytes x _ => some (octs x) | _ => none
  dflt := []

section
variable {prog : Program} {w : World} {A : Around} {E : Value → Shared → Prop} {s : Shared}

theorem gives_bytes_lt (b c : Array UInt8) (t u : Tok) : Gives (Builtin.«bytes.__lt__» ⟨[.bytes b t, .bytes c u], []⟩) (.val (.bool (decide (octs b < octs c)))) := by
  refine .of_wp fun M A E s Q hq => ?_
  show wpAny M A (isInstance (.bytes c u) (.type "bytes") >>= fun r => _) _ E s
  refine wpAny_bind (wpAny_isInstance (typeIs_bytes s c u) F.sub_bytes_bytes ?_)
  exact wpAny_pure ⟨_, rfl, by unfold octs at hq; rw [← order_lt] at hq; exact hq⟩

theorem oneLt_bytes {a b : Array UInt8} {t u : Tok} {Q : Bool → Shared → Prop} (h : Q (decide (octs a < octs b)) s) : wpAny (model prog w) A (oneLt' true (.bytes a t) (.bytes b u)) Q E s := by
  rw [oneLt'_eq]
  simp only [if_true]
  refine wpAny_bind (wpAny_cRoomFor_byValue rfl ?_)
  refine wpAny_bind (wpAny_callSpecialIfBound?_slot (typeIs_bytes s a t) slot_bytes_lt ?_)
  refine call_gives slot_bytes_lt (typeIs_bytes s a t) entry_bytes_lt (args_bytes_lt_2 _ _) (gives_bytes_lt a b t u) ?_
  exact wpAny_truthy_bool h
end

theorem bytesKind_oneLt : bytesKind.OneLt := by
  intro prog w A E s x y a b Q ha hb h
  cases x <;> simp only [bytesKind, reduceCtorEq, Option.some.injEq] at ha
  cases y <;> simp only [bytesKind, reduceCtorEq, Option.some.injEq] at hb
  cases ha; cases hb
  exact oneLt_bytes h

/-- what sorted gives: the same values, none smaller behind a greater -/
theorem sorted_gen {prog : Program} {w : World} {A : Around} {E : Value → Shared → Prop} {s : Shared} {κ : KeyKind} (hO : κ.OneLt) (key : Value → κ.α) {l : Addr} {vs : List Value} {Q : Value → Shared → Prop}
    (hl : s.heap.IsList l vs.toArray) (hkey : ∀ v ∈ vs, κ.keyOf v = some (key v))
    (hkk : ∀ v₁ v₂ rest, vs = v₁ :: v₂ :: rest → keyKind' (v₁ :: v₂ :: rest).toArray = pure oneType') (h64 : vs.length < 64)
    (h : ∀ (h' : Heap) (D : Addr) (out : List Value), h'.IsList D out.toArray → s.heap.get? D = none → (∀ b o, s.heap.get? b = some o → h'.get? b = some o) → out.Perm vs → out.Pairwise (fun u v => κ.blt (key v) (key u) = false) → Q (.ref D) { s with heap := h' }) :
    wpAny (model prog w) A (call (.builtin "sorted") [.ref l]) Q E s := by
  have h0 : KeysOf κ (pairsOf vs) := by
    intro p hp
    rw [pairsOf_toList] at hp
    exact ⟨_, hkey _ (mem_zip_self hp).2⟩
  refine sortedK hO hl h0 hkk h64 fun st' hp hs => ?_
  have hl' : (arrOf st').toList.Perm (vs.zip vs) := by rw [← pairsOf_toList]; exact Array.perm_iff_toList_perm.mp hp
  have hmem : ∀ p, p ∈ (arrOf st').toList → p.1 = p.2 ∧ p.1 ∈ vs := fun p hp' => mem_zip_self (hl'.mem_iff.mp hp')
  obtain ⟨e, he⟩ := sortedAll_at s.heap vs ((arrOf st').map (·.2))
  have hout : ((arrOf st').map (·.2)).toList = (arrOf st').toList.map (·.2) := Array.toList_map ..
  refine h _ _ (((arrOf st').map (·.2)).toList) ⟨_, he, rfl, e, rfl⟩ (Heap.get?_none_of_le (Nat.le_succ _)) (fun _ _ => sortedAll_old) ?_ ?_
  · rw [hout]
    have := hl'.map Prod.snd
    rwa [List.map_snd_zip (Nat.le_refl _)] at this
  · rw [hout, List.pairwise_iff_getElem]
    intro i j hi hj hij
    have hi' : i < (arrOf st').size := by simpa using hi
    have hj' : j < (arrOf st').size := by simpa using hj
    have h1 := hs i j (Nat.le_of_lt hij) (by rw [← hp.size_eq]; exact hj')
    have mi := hmem (arrOf st')[i] (by simp)
    have mj := hmem (arrOf st')[j] (by simp)
    have ki : KK κ (arrOf st') i = key (arrOf st')[i].2 := by
      unfold KK; rw [getElem?_pos _ i hi']; dsimp only; rw [← mi.1, hkey _ mi.2]; rfl
    have kj : KK κ (arrOf st') j = key (arrOf st')[j].2 := by
      unfold KK; rw [getElem?_pos _ j hj']; dsimp only; rw [← mj.1, hkey _ mj.2]; rfl
    rw [ki, kj] at h1
    rw [List.getElem_map, List.getElem_map, Array.getElem_toList, Array.getElem_toList]
    exact h1

/-- values that are bytes -/
def BytesAre (vs : List Value) (bs : List (Array UInt8)) : Prop := Paired (fun b v => ∃ t, v = Value.bytes b t) bs vs
def bytesOf : Value → Array UInt8
  | .bytes b _ => b
  | _ => #[]
theorem BytesAre.map : ∀ {vs : List Value} {bs : List (Array UInt8)}, BytesAre vs bs → vs.map bytesOf = bs
  | _, _, .nil => rfl
  | _, _, .cons ⟨t, e⟩ h => by subst e; rw [List.map_cons, BytesAre.map h]; rfl
theorem BytesAre.all : ∀ {vs : List Value} {bs : List (Array UInt8)}, BytesAre vs bs → ∀ v ∈ vs, ∃ t, v = .bytes (bytesOf v) t
  | _, _, .nil, v, hv => nomatch hv
  | _, _, .cons ⟨t, e⟩ h, v, hv => by
    subst e
    rcases List.mem_cons.mp hv with rfl | hv
    · exact ⟨t, rfl⟩
    · exact BytesAre.all h v hv
theorem bytesAre_of : ∀ {vs : List Value}, (∀ v ∈ vs, ∃ t, v = .bytes (bytesOf v) t) → BytesAre vs (vs.map bytesOf)
  | [], _ => .nil
  | v :: vs, h => .cons (h v (.head _)) (bytesAre_of fun u hu => h u (.tail _ hu))

theorem keyKind_bytes {v₁ v₂ : Value} {vs : List Value} (hS : ∀ v ∈ v₁ :: v₂ :: vs, ∃ t, v = .bytes (bytesOf v) t) : keyKind' (v₁ :: v₂ :: vs).toArray = pure oneType' := by
  have m1 : ∀ (l : List Value), (∀ v ∈ l, ∃ t, v = .bytes (bytesOf v) t) → l.mapM firstOfTuple' = pure (l.map fun _ => none) := by
    intro l
    induction l with
    | nil => intro _; simp
    | cons v l ih =>
      intro h
      obtain ⟨t, e⟩ := h v (.head _)
      rw [List.mapM_cons, e, ih fun u hu => h u (.tail _ hu)]
      show (pure none >>= fun b => pure _ >>= fun bs => pure (b :: bs)) = _
      simp
  have m2 : ∀ (l : List Value), (∀ v ∈ l, ∃ t, v = .bytes (bytesOf v) t) → l.mapM typeOf = pure (l.map fun _ => Value.type "bytes") := by
    intro l
    induction l with
    | nil => intro _; simp
    | cons v l ih =>
      intro h
      obtain ⟨t, e⟩ := h v (.head _)
      rw [List.mapM_cons, e, ih fun u hu => h u (.tail _ hu)]
      show (pure (Value.type "bytes") >>= fun b => pure _ >>= fun bs => pure (b :: bs)) = _
      simp
  rw [keyKind'_eq, List.mapM_toArray, m1 _ hS]
  simp only [map_pure, pure_bind]
  rw [if_neg (by simp), if_neg (by simp)]
  rw [oneTypeOnly'_eq, List.mapM_toArray, m2 _ hS]
  simp only [map_pure, pure_bind]
  have hall : ((List.map (fun _ => Value.type "bytes") (v₁ :: v₂ :: vs)).toArray.all fun x => x == Value.type "bytes") = true := by
    simp only [List.all_toArray, List.all_map, List.all_eq_true]
    intro _ _
    rfl
  have h0 : (List.map (fun _ => Value.type "bytes") (v₁ :: v₂ :: vs)).toArray[0]? = some (Value.type "bytes") := by simp
  rw [h0]
  simp only [hall, if_true, pure_bind, Option.isSome_some]

theorem sorted_bytes {prog : Program} {w : World} {A : Around} {E : Value → Shared → Prop} {s : Shared} {l : Addr} {vs : List Value} {bs : List (Array UInt8)} {Q : Value → Shared → Prop}
    (hl : s.heap.IsList l vs.toArray) (hb : BytesAre vs bs) (h64 : vs.length < 64)
    (h : ∀ (h' : Heap) (D : Addr) (out : List Value) (bs' : List (Array UInt8)), h'.IsList D out.toArray → s.heap.get? D = none → (∀ b o, s.heap.get? b = some o → h'.get? b = some o) → BytesAre out bs' → bs'.Perm bs →
      bs'.Pairwise (fun a b => ¬ octs b < octs a) → Q (.ref D) { s with heap := h' }) :
    wpAny (model prog w) A (call (.builtin "sorted") [.ref l]) Q E s := by
  refine sorted_gen bytesKind_oneLt (fun v => octs (bytesOf v)) hl (fun v hv => by obtain ⟨t, e⟩ := hb.all v hv; rw [e]; rfl) (fun v₁ v₂ rest e => keyKind_bytes (e ▸ hb.all)) h64 ?_
  intro h' D out hD hD0 hk hp hs
  have hall : ∀ v ∈ out, ∃ t, v = .bytes (bytesOf v) t := fun v hv => hb.all v (hp.mem_iff.mp hv)
  refine h h' D out (out.map bytesOf) hD hD0 hk (bytesAre_of hall) (by rw [← hb.map]; exact hp.map _) ?_
  rw [List.pairwise_map]
  refine hs.imp fun {u v} q => ?_
  exact of_decide_eq_false q

theorem sorted_strsP {prog : Program} {w : World} {A : Around} {E : Value → Shared → Prop} {s : Shared} {l : Addr} {vs : List Value} {ss : List Str} {Q : Value → Shared → Prop}
    (hl : s.heap.IsList l vs.toArray) (hS : StrsAre vs ss) (h64 : vs.length < 64)
    (h : ∀ (h' : Heap) (D : Addr) (out : List Value) (ss' : List Str), h'.IsList D out.toArray → s.heap.get? D = none → (∀ b o, s.heap.get? b = some o → h'.get? b = some o) → StrsAre out ss' → ss'.Perm ss →
      ss'.Pairwise (fun a b => ¬ b.cps.toList < a.cps.toList) → Q (.ref D) { s with heap := h' }) :
    wpAny (model prog w) A (call (.builtin "sorted") [.ref l]) Q E s := by
  refine sorted_gen strKind_oneLt (fun v => (strOf v).cps.toList) hl (fun v hv => by obtain ⟨x, t, e⟩ := hS.all v hv; rw [e]; rfl) (fun v₁ v₂ rest e => keyKind_strs (by rw [← e]; exact hS)) h64 ?_
  intro h' D out hD hD0 hk hp hs
  have hall : ∀ v ∈ out, ∃ x t, v = .str x t := fun v hv => hS.all v (hp.mem_iff.mp hv)
  refine h h' D out (out.map strOf) hD hD0 hk (strsAre_map out hall) (by rw [← hS.strs]; exact hp.map _) ?_
  rw [List.pairwise_map]
  refine hs.imp fun {u v} q => ?_
  exact of_decide_eq_false q
end Mine

namespace Mine

/-! ## hex digits and their order -/
def hval (ds : List Nat) : Nat := ds.foldl (fun a d => 16 * a + d) 0
theorem hval_append (ds : List Nat) (d : Nat) : hval (ds ++ [d]) = 16 * hval ds + d := by
  unfold hval; rw [List.foldl_append]; rfl
theorem hval_hexd (n : Nat) : hval (hexd n) = n := by
  induction n using Nat.strongRecOn with
  | ind n ih =>
    by_cases h : n = 0
    · subst h; rw [hexd_zero]; rfl
    · rw [hexd_pos h, hval_append, ih (n / 16) (by omega)]; omega

theorem hfold_add (ds : List Nat) : ∀ a : Nat, ds.foldl (fun a d => 16 * a + d) a = a * 16 ^ ds.length + hval ds := by
  induction ds with
  | nil => intro a; simp [hval]
  | cons d ds ih =>
    intro a
    show ds.foldl _ (16 * a + d) = _
    have e : hval (d :: ds) = ds.foldl (fun a d => 16 * a + d) (16 * 0 + d) := rfl
    rw [ih, e, ih, List.length_cons, Nat.pow_succ, Nat.add_mul, Nat.add_mul]
    have : 16 * a * 16 ^ ds.length = a * (16 ^ ds.length * 16) := by
      rw [Nat.mul_comm 16 a, Nat.mul_assoc, Nat.mul_comm 16]
    omega
theorem hval_lt : ∀ ds : List Nat, (∀ d ∈ ds, d < 16) → hval ds < 16 ^ ds.length := by
  intro ds
  induction ds with
  | nil => intro _; show 0 < 1; omega
  | cons d ds ih =>
    intro h
    have e : hval (d :: ds) = d * 16 ^ ds.length + hval ds := by
      have : hval (d :: ds) = ds.foldl (fun a d => 16 * a + d) (16 * 0 + d) := rfl
      rw [this, hfold_add]; simp
    have h1 := ih fun x hx => h x (.tail _ hx)
    have h2 := h d (.head _)
    rw [e, List.length_cons, Nat.pow_succ]
    have : d * 16 ^ ds.length ≤ 15 * 16 ^ ds.length := Nat.mul_le_mul_right _ (by omega)
    omega
theorem hval_cons (d : Nat) (ds : List Nat) : hval (d :: ds) = d * 16 ^ ds.length + hval ds := by
  have : hval (d :: ds) = ds.foldl (fun a d => 16 * a + d) (16 * 0 + d) := rfl
  rw [this, hfold_add]; simp

theorem lex_hval : ∀ (a b : List Nat), (∀ d ∈ a, d < 16) → (∀ d ∈ b, d < 16) → a.length = b.length → a < b → hval a < hval b
  | [], [], _, _, _, h => absurd h (List.lt_irrefl _)
  | [], _ :: _, _, _, hl, _ => by simp at hl
  | _ :: _, [], _, _, hl, _ => by simp at hl
  | x :: a, y :: b, ha, hb, hl, h => by
    have hl' : a.length = b.length := by simpa using hl
    rw [hval_cons, hval_cons, hl']
    rcases List.cons_lt_cons_iff.mp h with q | ⟨rfl, q⟩
    · have h1 := hval_lt a fun d hd => ha d (.tail _ hd)
      rw [hl'] at h1
      have : (x + 1) * 16 ^ b.length ≤ y * 16 ^ b.length := Nat.mul_le_mul_right _ q
      rw [Nat.add_mul] at this
      omega
    · have := lex_hval a b (fun d hd => ha d (.tail _ hd)) (fun d hd => hb d (.tail _ hd)) hl' q
      omega

theorem lex_map_up (c : Nat) : ∀ (a b : List Nat), a.map (c + ·) < b.map (c + ·) → a < b
  | [], [], h => absurd h (List.lt_irrefl _)
  | [], _ :: _, _ => List.nil_lt_cons _ _
  | _ :: _, [], h => absurd h (List.not_lt_nil _)
  | x :: a, y :: b, h => by
    rw [List.map_cons, List.map_cons] at h
    rcases List.cons_lt_cons_iff.mp h with q | ⟨q, q'⟩
    · exact List.cons_lt_cons_iff.mpr (.inl (by omega))
    · exact List.cons_lt_cons_iff.mpr (.inr ⟨by omega, lex_map_up c a b q'⟩)
theorem lex_map_down (c : Nat) (hc : 16 ≤ c) : ∀ (a b : List Nat), (∀ d ∈ a, d < 16) → (∀ d ∈ b, d < 16) → a.length = b.length → a.map (c - ·) < b.map (c - ·) → b < a
  | [], [], _, _, _, h => absurd h (List.lt_irrefl _)
  | [], _ :: _, _, _, hl, _ => by simp at hl
  | _ :: _, [], _, _, hl, _ => by simp at hl
  | x :: a, y :: b, ha, hb, hl, h => by
    have hx := ha x (.head _)
    have hy := hb y (.head _)
    rw [List.map_cons, List.map_cons] at h
    rcases List.cons_lt_cons_iff.mp h with q | ⟨q, q'⟩
    · exact List.cons_lt_cons_iff.mpr (.inl (by omega))
    · exact List.cons_lt_cons_iff.mpr (.inr ⟨by omega, lex_map_down c hc a b (fun d hd => ha d (.tail _ hd)) (fun d hd => hb d (.tail _ hd)) (by simpa using hl) q'⟩)

theorem hexd_len_mono : ∀ (a b : Nat), a ≤ b → (hexd a).length ≤ (hexd b).length := by
  intro a
  induction a using Nat.strongRecOn with
  | ind a ih =>
    intro b h
    by_cases ha : a = 0
    · subst ha; rw [hexd_zero]; exact Nat.zero_le _
    · rw [hexd_pos ha, hexd_pos (show b ≠ 0 by omega), List.length_append, List.length_append, List.length_singleton, List.length_singleton]
      have := ih (a / 16) (by omega) (b / 16) (by omega)
      omega

def posL (c : Nat) (k : Nat) : List Nat := (c + (hexd k).length) :: (hexd k).map (65 + ·)
def negL (c : Nat) (k : Nat) : List Nat := (c - (hexd k).length) :: (hexd k).map (80 - ·)

theorem posL_le {c a b : Nat} (h : a ≤ b) : ¬ posL c b < posL c a := by
  intro q
  have hl := hexd_len_mono a b h
  rcases List.cons_lt_cons_iff.mp q with q | ⟨q, q'⟩
  · omega
  · have := lex_hval _ _ hexd_lt hexd_lt (by omega) (lex_map_up 65 _ _ q')
    rw [hval_hexd, hval_hexd] at this
    omega
theorem negL_le {c a b : Nat} (hb : (hexd b).length ≤ c) (h : a ≤ b) : ¬ negL c a < negL c b := by
  intro q
  have hl := hexd_len_mono a b h
  rcases List.cons_lt_cons_iff.mp q with q | ⟨q, q'⟩
  · omega
  · have := lex_hval _ _ hexd_lt hexd_lt (by omega) (lex_map_down 80 (by decide) _ _ hexd_lt hexd_lt (by omega) q')
    rw [hval_hexd, hval_hexd] at this
    omega

/-- the range of the numbers -/
def InR (n : Int) : Prop := -(16 : Int) ^ 6 ≤ n ∧ n < 16 ^ 6
theorem InR.len {n : Int} (h : InR n) : (hexd (kOf n)).length ≤ 6 := hexd_len (kOf_lt h)

theorem codeL_p {n : Int} (h : 0 ≤ n) : codeL n = posL 193 (kOf n) := by unfold codeL posL kOf; rw [if_pos h, if_pos h]
theorem codeL_n {n : Int} (h : ¬ 0 ≤ n) : codeL n = negL 16 (kOf n) := by unfold codeL negL kOf; rw [if_neg h, if_neg h]
theorem toldS_p {n : Int} (h : 0 ≤ n) : toldL n true = 33 :: posL 65 (kOf n) := by rw [toldL_pos h]; rfl
theorem toldS_n {n : Int} (h : ¬ 0 ≤ n) : toldL n true = 94 :: negL 80 (kOf n) := by rw [toldL_neg h]; rfl
theorem told_code (n : Int) : toldL n false = codeL n := by
  by_cases h : 0 ≤ n
  · rw [toldL_pos h, codeL_p h]; rfl
  · rw [toldL_neg h, codeL_n h]; rfl

theorem codeL_le {m n : Int} (hm : InR m) (h : m ≤ n) : ¬ codeL n < codeL m := by
  by_cases h1 : 0 ≤ m
  · have h2 : 0 ≤ n := by omega
    rw [codeL_p h1, codeL_p h2]
    exact posL_le (by unfold kOf; rw [if_pos h1, if_pos h2]; omega)
  · by_cases h2 : 0 ≤ n
    · rw [codeL_n h1, codeL_p h2]
      intro q
      rcases List.cons_lt_cons_iff.mp q with q | ⟨q, _⟩ <;> omega
    · rw [codeL_n h1, codeL_n h2]
      exact negL_le (by have := hm.len; omega) (by unfold kOf; rw [if_neg h1, if_neg h2]; omega)

def keyZ (n : Int) : Int := n.fmod (16 ^ 16)
theorem toldS_le {m n : Int} (hm : InR m) (hn : InR n) (h : keyZ m ≤ keyZ n) : ¬ toldL n true < toldL m true := by
  have key : ∀ k : Int, InR k → keyZ k = if 0 ≤ k then k else k + 16 ^ 16 := by
    intro k hk
    unfold keyZ
    rw [Int.fmod_eq_emod_of_nonneg _ (by decide)]
    have := hk.1
    have := hk.2
    split <;> omega
  rw [key m hm, key n hn] at h
  have hm1 := hm.1
  have hm2 := hm.2
  have hn1 := hn.1
  have hn2 := hn.2
  by_cases h1 : 0 ≤ m
  · by_cases h2 : 0 ≤ n
    · rw [if_pos h1, if_pos h2] at h
      rw [toldS_p h1, toldS_p h2]
      intro q
      rcases List.cons_lt_cons_iff.mp q with q | ⟨_, q⟩
      · omega
      · exact posL_le (by unfold kOf; rw [if_pos h1, if_pos h2]; omega) q
    · rw [toldS_p h1, toldS_n h2]
      intro q
      rcases List.cons_lt_cons_iff.mp q with q | ⟨q, _⟩ <;> omega
  · by_cases h2 : 0 ≤ n
    · rw [if_neg h1, if_pos h2] at h
      omega
    · rw [if_neg h1, if_neg h2] at h
      rw [toldS_n h1, toldS_n h2]
      intro q
      rcases List.cons_lt_cons_iff.mp q with q | ⟨_, q⟩
      · omega
      · exact negL_le (by have := hm.len; omega) (by unfold kOf; rw [if_neg h1, if_neg h2]; omega) q
end Mine

namespace Mine

/-! ## what unctrl shows of a code -/
def shownL (o : Nat) : List Nat := (unS o).cps.toList
theorem unS_strL (o : Nat) : unS o = strL (shownL o) := by show _ = Str.mk _; unfold shownL; rw [Array.toArray_toList]
theorem shown_193 : ∀ k : _root_.Fin 7, shownL (193 + k.val) = [33, 65 + k.val] := by decide +kernel
theorem shown_16 : ∀ k : _root_.Fin 7, shownL (16 - k.val) = [94, 80 - k.val] := by decide +kernel
theorem shown_65 : ∀ d : _root_.Fin 16, shownL (65 + d.val) = [65 + d.val] := by decide +kernel
theorem shown_80 : ∀ d : _root_.Fin 16, shownL (80 - d.val) = [80 - d.val] := by decide +kernel

theorem flatMap_one {f : Nat → List Nat} {g : Nat → Nat} : ∀ (ds : List Nat), (∀ d ∈ ds, f (g d) = [g d]) → ((ds.map g).map f).flatten = ds.map g
  | [], _ => rfl
  | d :: ds, h => by
    rw [List.map_cons, List.map_cons, List.flatten_cons, h d (.head _), flatMap_one ds fun x hx => h x (.tail _ hx)]
    rfl

theorem shown_code {n : Int} (hn : InR n) : ((codeL n).map shownL).flatten = toldL n true := by
  have hl := hn.len
  by_cases h : 0 ≤ n
  · rw [codeL_p h, toldS_p h]
    unfold posL
    rw [List.map_cons, List.flatten_cons, shown_193 ⟨(hexd (kOf n)).length, by omega⟩,
      flatMap_one _ (fun d hd => shown_65 ⟨d, hexd_lt d hd⟩)]
    rfl
  · rw [codeL_n h, toldS_n h]
    unfold negL
    rw [List.map_cons, List.flatten_cons, shown_16 ⟨(hexd (kOf n)).length, by omega⟩,
      flatMap_one _ (fun d hd => shown_80 ⟨d, hexd_lt d hd⟩)]
    rfl

/-! ## the octets of a code -/
theorem codeL_lt {n : Int} (hn : InR n) : ∀ o ∈ codeL n, o < 256 := by
  have hl := hn.len
  intro o ho
  by_cases h : 0 ≤ n
  · rw [codeL_p h] at ho
    rcases List.mem_cons.mp ho with rfl | ho
    · omega
    · obtain ⟨d, hd, rfl⟩ := List.mem_map.mp ho
      have := hexd_lt d hd
      omega
  · rw [codeL_n h] at ho
    rcases List.mem_cons.mp ho with rfl | ho
    · omega
    · obtain ⟨d, hd, rfl⟩ := List.mem_map.mp ho
      omega
theorem octs_bytesA : ∀ {l : List Nat}, (∀ o ∈ l, o < 256) → octs (bytesA l) = l := by
  intro l h
  show (l.map (·.toUInt8)).map (·.toNat) = l
  rw [List.map_map]
  have : l.map ((fun x : UInt8 => x.toNat) ∘ fun x => x.toUInt8) = l.map id := List.map_congr_left fun o ho => by
    show o % 256 = o
    have := h o ho
    omega
  rw [this, List.map_id]
theorem octs_code {n : Int} (hn : InR n) : octs (bytesA (codeL n)) = codeL n := octs_bytesA (codeL_lt hn)
theorem octs_inj {a b : Array UInt8} (h : octs a = octs b) : a = b := by
  have inj : ∀ (x y : List UInt8), x.map (·.toNat) = y.map (·.toNat) → x = y := by
    intro x
    induction x with
    | nil => intro y h; cases y with
      | nil => rfl
      | cons _ _ => simp at h
    | cons c x ih => intro y h; cases y with
      | nil => simp at h
      | cons d y =>
        rw [List.map_cons, List.map_cons] at h
        injection h with h1 h2
        rw [UInt8.toNat_inj.mp h1, ih y h2]
  exact Array.toList_inj.mp (inj _ _ h)
theorem codeL_size {n : Int} (hn : InR n) : (codeL n).length ≤ 7 := by
  have hl := hn.len
  by_cases h : 0 ≤ n
  · rw [codeL_p h]; show ((hexd (kOf n)).map _).length + 1 ≤ 7; rw [List.length_map]; omega
  · rw [codeL_n h]; show ((hexd (kOf n)).map _).length + 1 ≤ 7; rw [List.length_map]; omega
theorem toldL_size {n : Int} (hn : InR n) (b : Bool) : (toldL n b).length ≤ 8 := by
  have hl := hn.len
  by_cases h : 0 ≤ n
  · rw [toldL_pos h]; cases b <;> simp <;> omega
  · rw [toldL_neg h]; cases b <;> simp <;> omega

/-! ## a reader -/
theorem and_letter : ∀ d : _root_.Fin 16, Builtin.bitAnd ((65 + d.val : Nat) : Int) 31 = 1 + (d.val : Int) := by decide +kernel
theorem and_turned : ∀ d : _root_.Fin 16, Builtin.bitAnd ((80 - d.val : Nat) : Int) 31 = 16 - (d.val : Int) := by decide +kernel

theorem set_last (acc : List Int) (x y : Int) : (acc ++ [x]).set ((acc ++ [x]).length - 1) y = acc ++ [y] := by
  rw [List.length_append, List.length_singleton, Nat.add_sub_cancel, List.set_append_right _ _ (Nat.le_refl _), Nat.sub_self]
  rfl
theorem get_last (acc : List Int) (x : Int) : (acc ++ [x]).getD ((acc ++ [x]).length - 1) 0 = x := by
  rw [List.length_append, List.length_singleton, Nat.add_sub_cancel]
  simp [List.getD]

theorem read_letters (acc : List Int) : ∀ (ds : List Nat) (x : Nat), (∀ d ∈ ds, d < 16) →
    (ds.map (65 + ·)).foldl readStep (acc ++ [(x : Int)]) = acc ++ [((ds.foldl (fun a d => 16 * a + d) x : Nat) : Int)]
  | [], _, _ => rfl
  | d :: ds, x, h => by
    have hd := h d (.head _)
    rw [List.map_cons, List.foldl_cons, readStep_letter (by omega) (by omega), set_last, get_last, and_letter ⟨d, hd⟩, List.foldl_cons]
    have e : 16 * (x : Int) + (1 + ((⟨d, hd⟩ : _root_.Fin 16).val : Int)) - 1 = ((16 * x + d : Nat) : Int) := by
      show 16 * (x : Int) + (1 + (d : Int)) - 1 = _
      omega
    rw [e]
    exact read_letters acc ds (16 * x + d) fun y hy => h y (.tail _ hy)
theorem read_turned (acc : List Int) : ∀ (ds : List Nat) (x : Nat), (∀ d ∈ ds, d < 16) →
    (ds.map (80 - ·)).foldl readStep (acc ++ [-1 - (x : Int)]) = acc ++ [-1 - ((ds.foldl (fun a d => 16 * a + d) x : Nat) : Int)]
  | [], _, _ => rfl
  | d :: ds, x, h => by
    have hd := h d (.head _)
    rw [List.map_cons, List.foldl_cons, readStep_letter (by omega) (by omega), set_last, get_last, and_turned ⟨d, hd⟩, List.foldl_cons]
    have e : 16 * (-1 - (x : Int)) + (16 - ((⟨d, hd⟩ : _root_.Fin 16).val : Int)) - 1 = -1 - ((16 * x + d : Nat) : Int) := by
      show 16 * (-1 - (x : Int)) + (16 - (d : Int)) - 1 = _
      omega
    rw [e]
    exact read_turned acc ds (16 * x + d) fun y hy => h y (.tail _ hy)

theorem read_code (acc : List Int) {n : Int} (hn : InR n) : (codeL n).foldl readStep acc = acc ++ [n] := by
  have hl := hn.len
  by_cases h : 0 ≤ n
  · rw [codeL_p h]
    unfold posL
    rw [List.foldl_cons, readStep_meta (by omega)]
    have := read_letters acc (hexd (kOf n)) 0 hexd_lt
    rw [show ((0 : Nat) : Int) = 0 from rfl] at this
    rw [this]
    congr 2
    show ((hval (hexd (kOf n)) : Nat) : Int) = n
    rw [hval_hexd]; unfold kOf; rw [if_pos h]; omega
  · rw [codeL_n h]
    unfold negL
    rw [List.foldl_cons, readStep_ctrl (by omega) (by omega)]
    have := read_turned acc (hexd (kOf n)) 0 hexd_lt
    rw [show (-1 - ((0 : Nat) : Int)) = -1 from rfl] at this
    rw [this]
    congr 2
    show -1 - ((hval (hexd (kOf n)) : Nat) : Int) = n
    rw [hval_hexd]; unfold kOf; rw [if_neg h]; omega
theorem read_all : ∀ (R : List Int) (acc : List Int), (∀ n ∈ R, InR n) → ((R.map codeL).flatten).foldl readStep acc = acc ++ R
  | [], acc, _ => by simp
  | n :: R, acc, h => by
    rw [List.map_cons, List.flatten_cons, List.foldl_append, read_code acc (h n (.head _)), read_all R _ fun m hm => h m (.tail _ hm)]
    simp

/-! ## the sorted ones are these -/
theorem sorted_codes {V R : List Int} {bs : List (Array UInt8)} (hV : ∀ n ∈ V, InR n) (hR : R.Perm V) (hs : R.Pairwise (· ≤ ·))
    (hp : bs.Perm (V.map fun n => bytesA (codeL n))) (hb : bs.Pairwise fun a b => ¬ octs b < octs a) : bs = R.map fun n => bytesA (codeL n) := by
  have hRin : ∀ n ∈ R, InR n := fun n hn => hV n (hR.mem_iff.mp hn)
  refine List.Perm.eq_of_pairwise (le := fun a b => ¬ octs b < octs a) (fun a b _ _ h1 h2 => octs_inj (List.le_antisymm (List.not_lt.mp h1) (List.not_lt.mp h2))) hb ?_ (hp.trans (hR.map _).symm)
  rw [List.pairwise_map]
  refine List.Pairwise.imp_of_mem (fun {m n} hm hn h => ?_) hs
  rw [octs_code (hRin m hm), octs_code (hRin n hn)]
  exact codeL_le (hRin m hm) h
theorem sorted_shown {V A : List Int} {ss : List Str} (hV : ∀ n ∈ V, InR n) (hA : A.Perm V) (hs : A.Pairwise (fun m n => keyZ m ≤ keyZ n))
    (hp : ss.Perm (V.map fun n => strL (toldL n true))) (hb : ss.Pairwise fun a b => ¬ b.cps.toList < a.cps.toList) : ss = A.map fun n => strL (toldL n true) := by
  have hAin : ∀ n ∈ A, InR n := fun n hn => hV n (hA.mem_iff.mp hn)
  refine List.Perm.eq_of_pairwise (le := fun a b : Str => ¬ b.cps.toList < a.cps.toList) (fun a b _ _ h1 h2 => ?_) hb ?_ (hp.trans (hA.map _).symm)
  · have := List.le_antisymm (List.not_lt.mp h1) (List.not_lt.mp h2)
    obtain ⟨x⟩ := a
    obtain ⟨y⟩ := b
    exact congrArg Str.mk (Array.toList_inj.mp this)
  · rw [List.pairwise_map]
    refine List.Pairwise.imp_of_mem (fun {m n} hm hn h => ?_) hs
    exact toldS_le (hAin m hm) (hAin n hn) h
end Mine

namespace Mine
open PySem.Builtin in
theorem take_eq {id : String} {b : Array UInt8} {t : Tok} : Bytes.takeBufferQuiet? id (.bytes b t) 0 = pure (some (b, none)) := by
  unfold Bytes.takeBufferQuiet? Bytes.takeBuffer?
  rw [KBy.special_eq KBy.look_buffer]
  simp only [pure_bind]
  rw [KBy.own_buffer, show Bytes.buffer? id (.bytes b t) (0 == Bytes.fullReadOnly) = pure (some b) from by
    have : ((0 : Int) == Bytes.fullReadOnly) = false := by decide +kernel
    rw [this]; exact KBy.buffer_eq]
  rfl

theorem slot_bytes_join : Slot "bytes" "join" "bytes.join" :=
  .of (owner := "bytes") (n := "join") (by rw [typeLookup_type, builtinLookup_eq_fast]; kernel_rfl) (by decide +kernel) (by decide +kernel) (by decide +kernel)
    (by first | exact .inl (by decide +kernel) | exact .inr (by decide +kernel)) (by rw [isSubtype_type]; kernel_rfl)
theorem type_bytes_join : typeOf (.builtin "bytes.join") = pure (.type "method_descriptor") := by show builtinType _ = _; rw [builtinType_eq_fast]; kernel_rfl
theorem entry_bytes_join : entryFor table "bytes.join" = some Builtin.«bytes.join» := entryFor_of_tree (by kernel_rfl)
theorem args_bytes_join_2 (a b : Value) : argsOk "bytes.join" ⟨[a, b], []⟩ := by
  unfold argsOk; rw [signature?_of (id := "bytes.join") (n := ['n', 'i', 'o', 'j']) (o := ['s', 'e', 't', 'y', 'b']) (by kernel_rfl) FB.owner_bytes]; kernel_rfl

theorem joined_nil : ∀ (l : List (Array UInt8)) (k : Nat) (acc : Array UInt8), (l.zipIdx k).foldl (fun out (p, i) => (if i > 0 then out ++ (#[] : Array UInt8) else out) ++ p) acc = l.foldl (· ++ ·) acc
  | [], _, _ => rfl
  | x :: l, k, acc => by
    rw [List.zipIdx_cons, List.foldl_cons, List.foldl_cons]
    have e : (if k > 0 then acc ++ (#[] : Array UInt8) else acc) = acc := by split <;> simp
    show List.foldl _ ((if k > 0 then acc ++ (#[] : Array UInt8) else acc) ++ x) _ = _
    rw [e]
    exact joined_nil l (k + 1) (acc ++ x)
theorem sum_sizes : ∀ (l : List (Array UInt8)) (k : Nat), l.foldl (fun x1 x2 => x1 + x2.size) k = k + (l.map (·.size)).sum
  | [], _ => rfl
  | x :: l, k => by rw [List.foldl_cons, sum_sizes l, List.map_cons, List.sum_cons]; omega
theorem size_cat : ∀ (l : List (Array UInt8)) (acc : Array UInt8), (l.foldl (· ++ ·) acc).size = acc.size + (l.map (·.size)).sum
  | [], _ => rfl
  | x :: l, acc => by rw [List.foldl_cons, size_cat l, Array.size_append, List.map_cons, List.sum_cons]; omega
theorem letGo_all {M : Model} {A : Around} {E : Value → Shared → Prop} {s : Shared} {Q : Unit → Shared → Prop} (h : Q () s) : ∀ (l : List (Value × Option Value)) (keep : List Value), (∀ p ∈ l, p.2 = none) → wpAny M A (Builtin.Bytes.joinLetGo l keep) Q E s
  | [], _, _ => wpAny_pure h
  | (x, w) :: l, keep, hn => by
    have e : w = none := hn (x, w) (.head _)
    subst e
    unfold Builtin.Bytes.joinLetGo
    dsimp only
    exact wpAny_bind (wpAny_letGo (letGo_all h l keep fun p hp => hn p (.tail _ hp)))
theorem BytesAre.len : ∀ {vs : List Value} {bs : List (Array UInt8)}, BytesAre vs bs → vs.length = bs.length
  | _, _, .nil => rfl
  | _, _, .cons _ h => by rw [List.length_cons, List.length_cons, BytesAre.len h]
theorem BytesAre.at : ∀ {vs : List Value} {bs : List (Array UInt8)}, BytesAre vs bs → ∀ i, i < bs.length → ∃ b t, bs[i]? = some b ∧ vs[i]? = some (.bytes b t)
  | _, _, .nil, _, h => absurd h (Nat.not_lt_zero _)
  | _, _, .cons ⟨t, e⟩ _, 0, _ => by subst e; exact ⟨_, t, rfl, rfl⟩
  | _, _, .cons _ h, i + 1, hi => by
    obtain ⟨b, t, h1, h2⟩ := BytesAre.at h i (Nat.lt_of_succ_lt_succ hi)
    exact ⟨b, t, by simpa using h1, by simpa using h2⟩

section
variable {prog : Program} {w : World} {A : Around} {E : Value → Shared → Prop} {s : Shared}
open PySem.Builtin in
theorem join_bytes {l : Addr} {v₁ v₂ : Value} {vs : List Value} {bs : List (Array UInt8)} {t : Tok} {Q : Value → Shared → Prop} (hl : s.heap.IsList l (v₁ :: v₂ :: vs).toArray) (hb : BytesAre (v₁ :: v₂ :: vs) bs)
    (hz : (bs.map (·.size)).sum ≤ 1000) (h : ∀ t' k, Q (.bytes (bs.foldl (· ++ ·) #[]) t') { s with toks := k }) :
    wpAny (model prog w) A (call (.builtin "bytes.join") [.bytes #[] t, .ref l]) Q E s := by
  obtain ⟨o, ho, hc, n, hd⟩ := id hl
  refine wpAny_call_entry slot_bytes_join (typeIs_bytes s _ t) entry_bytes_join ?_ (args_bytes_join_2 _ _)
  unfold Builtin.«bytes.join» Bytes.joinM
  refine wpAny_bind (wpAny_of_eq (a := (Value.bytes #[] t, Value.ref l)) rfl ?_)
  dsimp only
  rw [if_pos (by rfl)]
  refine wpAny_bind ?_
  unfold Bytes.joinItems
  refine wpAny_bind (wpAny_typeOf (T := "list") ⟨o, ho, hc⟩ ?_)
  rw [if_pos (by rfl)]
  refine wpAny_pure ?_
  refine wpAny_bind (wpAny_seqItems ho hd ?_)
  dsimp only
  rw [if_pos (by rfl)]
  have hlen : (v₁ :: v₂ :: vs).length = bs.length := hb.len
  have hat : ∀ i, i < bs.length → ∃ b t, bs[i]? = some b ∧ (v₁ :: v₂ :: vs)[i]? = some (.bytes b t) := hb.at
  show wpAny _ _ (forIn _ _ _ >>= _) _ _ s
  generalize hV : v₁ :: v₂ :: vs = V at *
  · refine wpAny_bind ?_
    rw [Std.Legacy.Range.forIn_eq_forIn_range']
    simp only [Std.Legacy.Range.size, Nat.sub_zero, Nat.add_sub_cancel, Nat.div_one, List.size_toArray]
    refine wpAny_forIn_list _
      (fun rest st s' => s' = s ∧ ∃ i, rest = List.range' i (V.length - i) ∧ i ≤ V.length ∧ st.1 = (bs.take i).toArray ∧ (∀ p ∈ st.2, p.1.onHeap = false ∧ p.2 = none))
      _ ?_ ?_ _ _ ⟨rfl, 0, by simp, Nat.zero_le _, rfl, fun _ hp => nomatch hp⟩
    · rintro x rest st s' ⟨rfl, i, hr, hi, h1, h2⟩
      have hlt : i < V.length := by
        rcases Nat.lt_or_ge i V.length with h | h
        · exact h
        · rw [Nat.sub_eq_zero_of_le h] at hr; simp at hr
      obtain ⟨rfl, hrest⟩ : x = i ∧ rest = List.range' (i + 1) (V.length - (i + 1)) := by
        have e : V.length - i = (V.length - (i + 1)) + 1 := by omega
        rw [e, List.range'_succ] at hr
        injection hr with h1 h2
        exact ⟨h1, h2⟩
      obtain ⟨b, tb, hb1, hb2⟩ := hat x (by omega)
      have hget : V.toArray.getD x Value.none = .bytes b tb := by
        rw [Array.getD_eq_getD_getElem?, List.getElem?_toArray, hb2]; rfl
      refine wpAny_bind (wpAny_seqItems ho hd ?_)
      have hany : (Bytes.Kind.bytes == Bytes.Kind.bytearray || st.2.any fun x => x.fst.onHeap) = false := by
        have : (st.2.any fun x => x.fst.onHeap) = false := by
          rw [List.any_eq_false]
          intro p hp
          rw [(h2 p hp).1]
          exact Bool.false_ne_true
        rw [this]
        rfl
      dsimp only
      rw [hany, if_neg Bool.false_ne_true, hget]
      refine wpAny_bind (wpAny_holding ?_)
      rw [take_eq]
      refine wpAny_pure ?_
      refine wpAny_bind (wpAny_seqItems ho hd ?_)
      dsimp only
      rw [List.size_toArray, if_neg (by simp)]
      refine wpAny_pure ⟨rfl, x + 1, hrest, hlt, ?_, ?_⟩
      · dsimp only
        rw [h1, List.take_add_one, hb1]
        simp
      · intro p hp
        rcases List.mem_append.mp hp with hp | hp
        · exact h2 p hp
        · rw [List.mem_singleton.mp hp]
          exact ⟨rfl, rfl⟩
    · rintro st s' ⟨rfl, i, hr, hi, h1, h2⟩
      have hiV : i = V.length := by
        have := congrArg List.length hr
        rw [List.length_range', List.length_nil] at this
        omega
      subst hiV
      rw [hlen, List.take_length] at h1
      refine wpAny_bind (wpAny_of_eq (a := (#[] : Array UInt8)) rfl ?_)
      have hsum : Array.foldl (fun x1 x2 => x1 + x2.size) ((#[] : Array UInt8).size * (st.1.size - 1)) st.1 = (bs.map (·.size)).sum := by
        rw [h1, List.foldl_toArray, sum_sizes]
        simp
      rw [hsum, if_neg (by rw [KBy.tooLong_not (by omega)]; exact Bool.false_ne_true)]
      have hj : Bytes.joined #[] st.1.toList = bs.foldl (· ++ ·) #[] := by
        rw [h1]
        exact joined_nil bs 0 #[]
      rw [hj]
      refine wpAny_bind (wpAny_mkBytes ?_ (by rw [size_cat, sizeLine_eq]; simp; omega))
      refine wpAny_bind (wpAny_holding (wpAny_point ?_))
      refine wpAny_bind (letGo_all ?_ _ _ fun p hp => (h2 p hp).2)
      exact wpAny_pure ⟨_, rfl, h _ _⟩
end
theorem method_bytes_join {M : Model} {A : Around} {E : Value → Shared → Prop} {s : Shared} {b : Array UInt8} {t : Tok} {pl : Sem Bool} {Q : Value × List Value → Shared → Prop} (h : Q (.builtin "bytes.join", [.bytes b t]) s) :
    wpAny M A (getMethod (.bytes b t) "join" pl) Q E s := by
  exact getMethod_builtin (typeIs_bytes _ _ _) FB.plainAttrs_bytes slot_bytes_join type_bytes_join (fun _ e => nomatch e) h

def AllOk (ns : List Str) : Prop := ∀ x ∈ ns, PyData.strOk x = true
theorem ks_canLayAll0 : ∀ ns : List Str, AllOk ns → PyData.canLayAll0 (ns.map PyData.str) = true
  | [], _ => rfl
  | x :: r, h => by simp [PyData.canLayAll0, PyData.canLay0, ks_canLayAll0 r fun y hy => h y (.tail _ hy), h x (.head _)]
theorem ks_depthAll : ∀ ns : List Str, PyData.depthAll (ns.map PyData.str) = 0
  | [] => rfl
  | _ :: r => by simp [PyData.depthAll, PyData.depth, ks_depthAll r]
theorem ks_shaped (ns : List Str) (h : AllOk ns) : SeqAt.shaped (.list (ns.map PyData.str)) = true := by
  simp [SeqAt.shaped, PyData.canLay0, PyData.depth, ks_canLayAll0 ns h, ks_depthAll]
theorem ks_sameAll : ∀ ns ms : List Str, PySem.Spec.sameAll (ns.map PyData.str) (ms.map PyData.str) = decide (ns = ms)
  | [], [] => by simp [PySem.Spec.sameAll]
  | [], _ :: _ => by simp [PySem.Spec.sameAll]
  | _ :: _, [] => by simp [PySem.Spec.sameAll]
  | a :: r, b :: t => by
    simp only [List.map_cons, PySem.Spec.sameAll, PySem.Spec.same, ks_sameAll r t]
    by_cases h : a = b <;> by_cases h' : r = t <;> simp [h, h']
theorem ks_same (ns ms : List Str) : PySem.Spec.same (.list (ns.map PyData.str)) (.list (ms.map PyData.str)) = decide (ns = ms) := by
  simp only [PySem.Spec.same]; exact ks_sameAll ns ms
theorem ks_carried : ∀ {vs : List Value} {ns : List Str}, StrsAre vs ns → CarriedAll vs (ns.map PyData.str)
  | _, _, .nil => .nil
  | _, _, .cons _ t r => .cons (.str _ t) (ks_carried r)
section
variable {prog : Program} {w : World} {A : Around} {E : Value → Shared → Prop} {s : Shared} {a b : Addr} {xs ys : List Value} {ns ms : List Str} {Q : Value → Shared → Prop}
theorem eq_strsL (ha : s.heap.IsList a xs.toArray) (hb : s.heap.IsList b ys.toArray) (hi : StrsAre xs ns) (hj : StrsAre ys ms) (oi : AllOk ns) (oj : AllOk ms) (hu : A.units + 64 < cLine) (h : Q (.bool (decide (ns = ms))) s) :
    wpAny (model prog w) A (compareOp .Eq (.ref a) (.ref b)) Q E s :=
  eq_dataH_same (reads_newData ha (ks_carried hi)) (reads_newData hb (ks_carried hj)) (ks_shaped _ oi) (ks_shaped _ oj) hu (SeqAt.noMix_of_shape (.list .str) rfl _ _ (list_map_has fun _ => rfl) (list_map_has fun _ => rfl)) (by rw [ks_same]; exact h)
theorem ne_strsL (ha : s.heap.IsList a xs.toArray) (hb : s.heap.IsList b ys.toArray) (hi : StrsAre xs ns) (hj : StrsAre ys ms) (oi : AllOk ns) (oj : AllOk ms) (hu : A.units + 64 < cLine) (h : Q (.bool (!decide (ns = ms))) s) :
    wpAny (model prog w) A (compareOp .NotEq (.ref a) (.ref b)) Q E s :=
  ne_dataH_same (reads_newData ha (ks_carried hi)) (reads_newData hb (ks_carried hj)) (ks_shaped _ oi) (ks_shaped _ oj) hu (SeqAt.noMix_of_shape (.list .str) rfl _ _ (list_map_has fun _ => rfl) (list_map_has fun _ => rfl)) (by rw [ks_same]; exact h)
end
end Mine

namespace Mine
abbrev lawEnv (L fa c C : Addr) : Env := envX (Str.ofString "law") (scOf (stmtAt 14)) L fa (.ref c) [(Str.ofString "script", C)]
theorem Ok_of {mg mb : Str → Option Value} {h₀ h : Heap} {L : Addr} {m : Str → Option Value} (F : Fr h₀ L h m) (ok : Ok mg mb h₀) : Ok mg mb h := ok.keeps F.keep
/-- the law is through: True, all that stood stands, its code's table stands -/
def LawEnd (h₀ : Heap) (L P : Addr) (s : Shared) (f : Flow) (s' : Shared) : Prop :=
  f = .ret (.bool true) ∧ ∃ h' tk m', s' = { s with heap := h', toks := tk } ∧ Fr h₀ L h' m' ∧ ∃ ps, h'.get? P = some (tabObj ps)

theorem strs_of_pairedL {α : Type} {g : α → Str} : ∀ {l : List α} {ys : List Value}, Paired (fun a y => ∃ t, y = .str (g a) t) l ys → StrsAre ys (l.map g)
  | _, _, .nil => .nil
  | _, _, .cons ⟨t, e⟩ h => by subst e; exact .cons _ t (strs_of_pairedL h)
theorem bytes_of_paired {α : Type} {g : α → Array UInt8} : ∀ {l : List α} {ys : List Value}, Paired (fun a y => ∃ t, y = .bytes (g a) t) l ys → BytesAre ys (l.map g)
  | _, _, .nil => .nil
  | _, _, .cons e h => .cons e (bytes_of_paired h)
theorem map_octs (f : Nat → Str) (b : Array UInt8) : b.toList.map (fun c => f c.toNat) = (octs b).map f := by
  unfold octs; rw [List.map_map]; rfl
theorem ints_map {β : Type} {vs : List Value} {ns : List Int} (g : Int → β) (h : IntsAre vs ns) : vs.map (fun v => g (numOf v)) = ns.map g := by
  induction h with
  | nil => rfl
  | cons n t _ ih => rw [List.map_cons, List.map_cons, ih]; rfl
theorem filter_true {α : Type} (l : List α) : l.filter (fun _ => true) = l := List.filter_eq_self.mpr fun _ _ => rfl
theorem join_octs (b : Array UInt8) (k : Nat → List Nat) : Txt.join (Str.ofString "") (b.toList.map fun c => strL (k c.toNat)) = strL ((octs b).map k).flatten := by
  have e : (b.toList.map fun c => strL (k c.toNat)) = ((octs b).map k).map strL := by unfold octs; rw [List.map_map, List.map_map]; rfl
  rw [e, join_flat]
theorem flat_single (l : List Nat) : (l.map fun o => [o]).flatten = l := by
  induction l with
  | nil => rfl
  | cons x l ih => rw [List.map_cons, List.flatten_cons, ih]; rfl
theorem weight_le {α : Type} (f : α → Str) (k : Nat) : ∀ (l : List α), (∀ a ∈ l, (f a).length ≤ k) → ((l.map f).map (·.length)).sum ≤ k * l.length
  | [], _ => Nat.zero_le _
  | a :: l, h => by
    rw [List.map_cons, List.map_cons, List.sum_cons, List.length_cons, Nat.mul_succ]
    have h1 := h a (.head _)
    have h2 := weight_le f k l fun x hx => h x (.tail _ hx)
    omega
theorem mem_bytes {vs : List Value} {bs : List (Array UInt8)} (h : BytesAre vs bs) {v : Value} (hv : v ∈ vs) : bytesOf v ∈ bs := by
  rw [← h.map]; exact List.mem_map_of_mem hv
theorem bytesA_size (l : List Nat) : (bytesA l).size = l.length := by simp [bytesA]
theorem toldL_lt {n : Int} (hn : InR n) (b : Bool) : ∀ o ∈ toldL n b, o < 256 := by
  have hl := hn.len
  intro o ho
  cases b with
  | false => rw [told_code] at ho; exact codeL_lt hn o ho
  | true =>
    by_cases h : 0 ≤ n
    · rw [toldS_p h] at ho
      rcases List.mem_cons.mp ho with rfl | ho
      · omega
      · rcases List.mem_cons.mp ho with rfl | ho
        · omega
        · obtain ⟨d, hd, rfl⟩ := List.mem_map.mp ho
          have := hexd_lt d hd
          omega
    · rw [toldS_n h] at ho
      rcases List.mem_cons.mp ho with rfl | ho
      · omega
      · rcases List.mem_cons.mp ho with rfl | ho
        · omega
        · obtain ⟨d, hd, rfl⟩ := List.mem_map.mp ho
          omega
theorem ok_strL {l : List Nat} (h : ∀ o ∈ l, o < 256) : PyData.strOk (strL l) = true := by
  show l.toArray.all (· < 0x110000) = true
  rw [List.all_toArray, List.all_eq_true]
  intro o ho
  have := h o ho
  exact decide_eq_true (by omega)
theorem allOk_told {R : List Int} (hR : ∀ n ∈ R, InR n) (b : Bool) : AllOk (R.map fun n => strL (toldL n b)) := by
  intro x hx
  obtain ⟨n, hn, rfl⟩ := List.mem_map.mp hx
  exact ok_strL (toldL_lt (hR n hn) b)
theorem strs_codes {cv : List Value} {R : List Int} (b1 : BytesAre cv (R.map fun n => bytesA (codeL n))) (hR : ∀ n ∈ R, InR n) :
    cv.map (fun v => strL (octs (bytesOf v))) = R.map fun n => strL (toldL n false) := by
  have e : cv.map (fun v => strL (octs (bytesOf v))) = (cv.map bytesOf).map fun b => strL (octs b) := by rw [List.map_map]; rfl
  rw [e, b1.map, List.map_map]
  refine List.map_congr_left fun n hn => ?_
  show strL (octs (bytesA (codeL n))) = _
  rw [octs_code (hR n hn), told_code]
theorem shown_len : ∀ o : _root_.Fin 256, (shownL o.val).length ≤ 3 := by decide +kernel
theorem unS_len (o : UInt8) : (unS (o.toNat : Int)).length ≤ 3 := by
  rw [unS_strL, strL_len]; exact shown_len ⟨o.toNat, o.toNat_lt⟩
theorem join_shown (b : Array UInt8) : Txt.join (Str.ofString "") (b.toList.map fun c => unS (c.toNat : Int)) = strL ((octs b).map shownL).flatten := by
  rw [← join_octs b shownL]
  exact congrArg _ (List.map_congr_left fun c _ => unS_strL c.toNat)
theorem strs_shown {cv : List Value} {R : List Int} (b1 : BytesAre cv (R.map fun n => bytesA (codeL n))) (hR : ∀ n ∈ R, InR n) :
    cv.map (fun v => strL ((octs (bytesOf v)).map shownL).flatten) = R.map fun n => strL (toldL n true) := by
  have e : cv.map (fun v => strL ((octs (bytesOf v)).map shownL).flatten) = (cv.map bytesOf).map fun b => strL ((octs b).map shownL).flatten := by rw [List.map_map]; rfl
  rw [e, b1.map, List.map_map]
  refine List.map_congr_left fun n hn => ?_
  show strL ((octs (bytesA (codeL n))).map shownL).flatten = _
  rw [octs_code (hR n hn), shown_code (hR n hn)]
theorem octs_append (a b : Array UInt8) : octs (a ++ b) = octs a ++ octs b := by unfold octs; rw [Array.toList_append, List.map_append]
theorem octs_cat : ∀ (l : List (Array UInt8)) (acc : Array UInt8), octs (l.foldl (· ++ ·) acc) = octs acc ++ (l.map octs).flatten
  | [], acc => by simp
  | x :: l, acc => by rw [List.foldl_cons, octs_cat l, octs_append, List.map_cons, List.flatten_cons, List.append_assoc]
theorem octs_codes {R : List Int} (hR : ∀ n ∈ R, InR n) : octs ((R.map fun n => bytesA (codeL n)).foldl (· ++ ·) #[]) = (R.map codeL).flatten := by
  rw [octs_cat, List.map_map]
  show [] ++ _ = _
  rw [List.nil_append]
  congr 1
  exact List.map_congr_left fun n hn => octs_code (hR n hn)
theorem head_of {b : Array UInt8} {o : Nat} {r : List Nat} (h : octs b = o :: r) (ho : 127 < o ∨ o < 32) : ∃ c r, b.toList = c :: r ∧ (127 < c.toNat ∨ c.toNat < 32) := by
  unfold octs at h
  cases e : b.toList with
  | nil => rw [e] at h; cases h
  | cons c r' =>
    rw [e, List.map_cons] at h
    injection h with h1 h2
    exact ⟨c, r', rfl, by rw [h1]; exact ho⟩
theorem head_code {n : Int} (hn : InR n) : ∃ o r, codeL n = o :: r ∧ (127 < o ∨ o < 32) := by
  have := hn.len
  by_cases h : 0 ≤ n
  · exact ⟨_, _, codeL_p h, .inl (by omega)⟩
  · exact ⟨_, _, codeL_n h, .inr (by omega)⟩
theorem head_codes {n : Int} {R : List Int} (hR : ∀ m ∈ n :: R, InR m) : ∃ c r, (((n :: R).map fun n => bytesA (codeL n)).foldl (· ++ ·) #[]).toList = c :: r ∧ (127 < c.toNat ∨ c.toNat < 32) := by
  obtain ⟨o, r, e, ho⟩ := head_code (hR n (.head _))
  refine head_of (o := o) (r := r ++ (R.map codeL).flatten) ?_ ho
  rw [octs_codes hR, List.map_cons, List.flatten_cons, e]
  rfl
theorem sizes_codes {R : List Int} (hR : ∀ n ∈ R, InR n) : ((R.map fun n => bytesA (codeL n)).map (·.size)).sum ≤ 7 * R.length := by
  induction R with
  | nil => exact Nat.zero_le _
  | cons n R ih =>
    rw [List.map_cons, List.map_cons, List.sum_cons, List.length_cons, bytesA_size]
    have h1 := codeL_size (hR n (.head _))
    have h2 := ih fun m hm => hR m (.tail _ hm)
    omega

theorem list_ne {h : Heap} {D L : Addr} {xs : Array Value} {m : Str → Option Value} (hl : h.IsList D xs) (hn : h.Ns L m) : D ≠ L := by
  rintro rfl
  obtain ⟨o, ho, _, n, hd⟩ := hl
  obtain ⟨o', es, ep, ho', hd', _⟩ := hn
  rw [ho] at ho'
  cases ho'
  rw [hd] at hd'
  cases hd'
theorem tab_ne {h : Heap} {P L : Addr} {ps : Array Value} {m : Str → Option Value} (hl : h.get? P = some (tabObj ps)) (hn : h.Ns L m) : P ≠ L := by
  rintro rfl
  obtain ⟨o', es, ep, ho', hd', _⟩ := hn
  rw [hl] at ho'
  cases ho'
  cases hd'
section
variable {prog : Program} {w : World} {A : Around} {E : Value → Shared → Prop} {s : Shared} {env : Env} {h₀ : Heap} {m : Str → Option Value}
theorem st_any {x : Str} {v : Value} {Q : Unit → Shared → Prop} (F : Fr h₀ env.locals s.heap m)
    (h : ∀ h', Fr h₀ env.locals h' (fun y => if y = x then some v else m y) → (∀ b o, b ≠ env.locals → s.heap.get? b = some o → h'.get? b = some o) → Q () { s with heap := h', toks := s.toks + 1 })
    (hl : env.kindOf x = some .local := by rfl) (hp : (env.scope.kind == .class || (env.scope.kind == .module && env.locals != env.globals)) = false := by rfl) :
    wpAny (model prog w) A (storeName env x v) Q E s :=
  wpAny_storeName_local hl F.ns (fun h' hn hs => h h' (F.set hn hs) fun b o hb e => hs.extBut b o hb e) hp
end
end Mine

namespace Mine
section
variable {prog : Program} {w : World} {A : Around} {s : Shared} {mg mb : Str → Option Value} {h₀ : Heap} {L fa c C P : Addr} {m : Str → Option Value}

local macro_rules | `(tactic| walk_at "mine") => `(tactic| first
  | with_reducible refine wpAny_execs_cons ?_
  | with_reducible refine wpAny_execs_nil ?_
  | with_reducible refine wpAny_If ?_
  | with_reducible refine wpAny_Return_some ?_
  | with_reducible refine wpAny_IfExp ?_
  | with_reducible refine wpAny_BinOp ?_
  | with_reducible refine wpAny_Constant_int ?_
  | with_reducible refine args_nil ?_
  | (with_reducible show wpAny _ _ (eval (Expr.Name _ _) _) _ _ _); (first | refine nm_loc (Fr.ns (by assumption)) (by first | rfl | assumption) ?_ | refine nm_bi (Ok_of (by assumption) (by assumption)) (by first | reg3_boot | with_reducible exact PySem.boot_len) ?_)
  | (with_reducible show wpAny _ _ (eval (Expr.Call (Expr.Name _ _) _ _ _) _) _ _ _); refine Call_bi (Ok_of (by assumption) (by assumption)) (by first | reg3_boot | with_reducible exact PySem.boot_len) ?_
  | (with_reducible show wpAny _ _ (loadName _ _) _ _ _); refine wpAny_loadName_local rfl rfl (Fr.ns (by assumption)) (by first | rfl | assumption) ?_
  | (with_reducible show wpAny _ _ (spliced _) _ _ _); refine args_cons ?_
  | (with_reducible show wpAny _ _ (truthy (Value.bool _)) _ _ _); refine wpAny_truthy_bool ?_; (try dsimp only)
  | ((fail_if_success (with_reducible show wpAny _ _ (exec (Stmt.While _ _ _ _) _) _ _ _)); (fail_if_success (with_reducible show wpAny _ _ (exec (Stmt.For _ _ _ _ _) _) _ _ _)); (fail_if_success (with_reducible show wpAny _ _ (eval (Expr.ListComp _ _ _ _) _) _ _ _)); (fail_if_success (with_reducible show wpAny _ _ (call (Value.builtin "list.append") _) _ _ _)); (fail_if_success (with_reducible show wpAny _ _ (subscriptTail _ _ (Value.ref _) _) _ _ _)); (fail_if_success (with_reducible show wpAny _ _ (setItem _ _ _) _ _ _)); (first | (with_reducible show wpAny _ _ _ _ _ _) | (with_reducible show ite _ _ _)); walk1))

local macro_rules | `(tactic| walk_at "mine") => `(tactic| first
  | ((with_reducible show wpAny _ _ (eval (Expr.Call (Expr.Name "Int2AP" _) _ _ _) _) _ _ _); refine Call_def 1 (Ok_of (by assumption) (by assumption)) ?_; intro f' hf')
  | ((with_reducible show wpAny _ _ (eval (Expr.Call (Expr.Name "unctrl" _) _ _ _) _) _ _ _); refine Call_def 9 (Ok_of (by assumption) (by assumption)) ?_; intro f' hf')
  | ((with_reducible show wpAny _ _ (eval (Expr.Call (Expr.Name "_law_code" _) _ _ _) _) _ _ _); refine Call_def 11 (Ok_of (by assumption) (by assumption)) ?_; intro f' hf')
  | ((with_reducible show wpAny _ _ (eval (Expr.Call (Expr.Name "_law_told" _) _ _ _) _) _ _ _); refine Call_def 12 (Ok_of (by assumption) (by assumption)) ?_; intro f' hf')
  | ((with_reducible show wpAny _ _ (eval (Expr.Call (Expr.Name "_law_read" _) _ _ _) _) _ _ _); refine Call_def 13 (Ok_of (by assumption) (by assumption)) ?_; intro f' hf')
  | ((with_reducible show AndK 1 _ _); refine ⟨fun _ _ e => e, Ev.on (Int2AP_spec (Ok_of (by assumption) (by assumption)) (Rm.less (by assumption) (by decide)) (by assumption) (by omega)) (by assumption) ?_⟩; intro v h' tk hv hk F' N'; obtain ⟨t', hv⟩ := hv; subst hv; (try dsimp only))
  | ((with_reducible show AndK 9 _ _); refine ⟨fun _ _ e => e, Ev.on (unctrl_spec (Ok_of (by assumption) (by assumption)) (Rm.less (by assumption) (by decide)) (by assumption) (by assumption)) (by assumption) ?_⟩; intro v h' tk hv hk F' N'; obtain ⟨t', hv⟩ := hv; subst hv; (try dsimp only))
  | ((with_reducible show AndK 11 _ _); refine ⟨fun _ _ e => e, Ev.on (law_code_spec (Ok_of (by assumption) (by assumption)) (Rm.less (by assumption) (by decide)) (by assumption) (by assumption)) (by assumption) ?_⟩; intro v h' tk hv hk F' N'; obtain ⟨t', hv⟩ := hv; subst hv; (try dsimp only))
  | ((with_reducible show AndK 12 _ _); refine ⟨fun _ _ e => e, Ev.on (law_told_spec (Ok_of (by assumption) (by assumption)) (Rm.less (by assumption) (by decide)) (by assumption) (by assumption)) (by assumption) ?_⟩; intro v h' tk hv hk F' N'; obtain ⟨t', hv⟩ := hv; subst hv; (try dsimp only))
  | ((with_reducible show wpAny _ _ (eval (Expr.Constant (Const.bool _) _ _) _) _ _ _); walk1)
  | fail)

set_option maxHeartbeats 4000000 in
theorem law8 {Dc Dr Da Ds : Addr} {cv rv av sv : List Value} {R Z : List Int} {ps : Array Value} (ok : Ok mg mb h₀) (rm : Rm A 10) (F : Fr h₀ L s.heap m)
    (hP : s.heap.get? P = some (tabObj ps))
    (m1 : m (Str.ofString "codes") = some (.ref Dc)) (m2 : m (Str.ofString "rising") = some (.ref Dr)) (m3 : m (Str.ofString "around") = some (.ref Da)) (m4 : m (Str.ofString "shown") = some (.ref Ds))
    (l1 : s.heap.IsList Dc cv.toArray) (l2 : s.heap.IsList Dr rv.toArray) (l3 : s.heap.IsList Da av.toArray) (l4 : s.heap.IsList Ds sv.toArray)
    (b1 : BytesAre cv (R.map fun n => bytesA (codeL n))) (b2 : IntsAre rv R) (b3 : IntsAre av Z) (b4 : StrsAre sv (Z.map fun n => strL (toldL n true)))
    (hR : ∀ n ∈ R, InR n) (hZ : ∀ n ∈ Z, InR n) (hl2 : 2 ≤ R.length) (hl8 : R.length ≤ 8) (hz8 : Z.length ≤ 8) :
    wpAny (model prog w) A (execs ((bdOf (stmtAt 14)).drop 8) (lawEnv L fa c C)) (fun f s' => Done (LawEnd h₀ L P s f s')) (fun _ _ => False) s := by
  have hh := rm.hh
  have N : News h₀ L s.heap [] := News.nil
  have ok' : Ok mg mb s.heap := ok.keeps F.keep
  conv in (execs _ _) => arg 1; whnf
  refine wpAny_execs_cons ?_
  refine wpAny_If ?_
  refine wpAny_isTrue_Compare1 ?_
  refine comp_list (cl := []) (fun _ => true) (fun v y => ∃ t', y = .str (strL (octs (bytesOf v))) t') hh ?_ (closureFor_none (by decide))
  repeat' (walk_at "mine"; try dsimp only)
  refine ⟨_, cv.toArray, rfl, l1, by rw [List.size_toArray, b1.len, List.length_map, sizeLine_eq]; omega, ?_, ?_, ?_⟩
  · intro C' m₃ s₃ v hv Fc hm
    exact wpAny_tests_nil ⟨rfl, Keeps.rfl'⟩
  · intro C' m₃ s₃ v hv _ Fc hm
    obtain ⟨tv, ev⟩ := b1.all v hv
    have hsz : (bytesOf v).size ≤ 7 := by
      obtain ⟨n, hn, e⟩ := List.mem_map.mp (mem_bytes b1 hv)
      rw [← e, bytesA_size]
      exact codeL_size (hR n hn)
    rw [ev] at hm
    have ok3 := ok'.keeps Fc.keep
    have N3 : News s.heap C' s₃.heap [] := News.nil
    unfold Ev
    repeat' (walk_at "mine"; try dsimp only)
    refine comp_bytes (cl := []) (fun o y => ∃ t', y = .str (strL [o]) t') hh ?_ (closureFor_none (by decide))
    repeat' (walk_at "mine"; try dsimp only)
    refine ⟨_, _, rfl, by rw [sizeLine_eq]; omega, ?_, ?_⟩
    · intro C2 m4 s4 o u ho Fc2 hm2
      unfold Ev
      have : o.toNat < 256 := o.toNat_lt
      repeat' (walk_at "mine"; try dsimp only)
      exact ⟨⟨_, rfl⟩, _, _, rfl, fun _ _ e => e⟩
    · intro D h' tk ys hpl hD hp hk
      have F10 := Fr_on Fc hk
      try dsimp only
      repeat' (walk_at "mine"; try dsimp only)
      refine join_listW hpl.isList (strs_of_pairedL (g := fun o : UInt8 => strL [o.toNat]) hp) (by decide) ?_ ?_
      · have := weight_le (fun o : UInt8 => strL [o.toNat]) 1 (bytesOf v).toList (fun _ _ => by rw [strL_len]; exact Nat.le_refl _)
        rw [Array.length_toList] at this
        rw [List.length_map, Array.length_toList]
        omega
      · intro t' k'
        refine ⟨⟨t', congrArg (Value.str · t') ?_⟩, _, _, rfl, hk⟩
        rw [join_octs _ (fun o => [o]), flat_single]
  · intro D1 h1 tk1 ys1 hpl1 hD1 hp1 hk1
    rw [filter_true] at hp1
    have F1 := Fr_on F hk1
    have N1 : News h₀ L h1 [] := News.nil
    have ok1 : Ok mg mb h1 := ok.keeps F1.keep
    have e1 := strs_of_pairedL (g := fun v => strL (octs (bytesOf v))) hp1
    rw [show cv.toArray.toList = cv from rfl, strs_codes b1 hR] at e1
    refine comp_list (cl := []) (fun _ => true) (fun v y => ∃ t', y = .str (strL (toldL (numOf v) false)) t') hh ?_ (closureFor_none (by decide))
    repeat' (walk_at "mine"; try dsimp only)
    refine ⟨_, rv.toArray, rfl, l2.at fun o e => hk1 _ o e, by rw [List.size_toArray, b2.length, sizeLine_eq]; omega, ?_, ?_, ?_⟩
    · intro C' m₃ s₃ v hv Fc hm
      exact wpAny_tests_nil ⟨rfl, Keeps.rfl'⟩
    · intro C' m₃ s₃ v hv _ Fc hm
      obtain ⟨n, tn, rfl, hn⟩ := ints_mem b2 v hv
      have hn' : -(16 : Int) ^ 6 ≤ n ∧ n < 16 ^ 6 := hR n hn
      have N3 : News h1 C' s₃.heap [] := News.nil
      unfold Ev
      repeat' (walk_at "mine"; try dsimp only)
      exact ⟨⟨_, rfl⟩, _, _, rfl, by assumption⟩
    · intro D2 h2 tk2 ys2 hpl2 hD2 hp2 hk2
      rw [filter_true] at hp2
      have F2 := Fr_on F1 hk2
      have N2 : News h₀ L h2 [] := News.nil
      have ok2 : Ok mg mb h2 := ok.keeps F2.keep
      have e2 := strs_of_pairedL (g := fun v => strL (toldL (numOf v) false)) hp2
      rw [show rv.toArray.toList = rv from rfl, ints_map (fun n => strL (toldL n false)) b2] at e2
      have hu : A.units + 64 < cLine := by have := rm.hu; omega
      try dsimp only
      refine ne_strsL (hpl1.isList.at fun o e => hk2 _ o e) hpl2.isList e1 e2 (allOk_told hR false) (allOk_told hR false) hu ?_
      rw [decide_eq_true rfl]
      show wpAny _ _ (truthy (Value.bool false)) _ _ _
      repeat' (walk_at "mine"; try dsimp only)
      refine comp_list (cl := []) (fun _ => true) (fun v y => ∃ t', y = .str (strL (toldL (numOf v) true)) t') hh ?_ (closureFor_none (by decide))
      repeat' (walk_at "mine"; try dsimp only)
      refine ⟨_, av.toArray, rfl, l3.at fun o e => hk2 _ o (hk1 _ o e), by rw [List.size_toArray, b3.length, sizeLine_eq]; omega, ?_, ?_, ?_⟩
      · intro C' m₃ s₃ v hv Fc hm
        exact wpAny_tests_nil ⟨rfl, Keeps.rfl'⟩
      · intro C' m₃ s₃ v hv _ Fc hm
        obtain ⟨n, tn, rfl, hn⟩ := ints_mem b3 v hv
        have hn' : -(16 : Int) ^ 6 ≤ n ∧ n < 16 ^ 6 := hZ n hn
        have N3 : News h2 C' s₃.heap [] := News.nil
        unfold Ev
        repeat' (walk_at "mine"; try dsimp only)
        exact ⟨⟨_, rfl⟩, _, _, rfl, by assumption⟩
      · intro D3 h3 tk3 ys3 hpl3 hD3 hp3 hk3
        rw [filter_true] at hp3
        have F3 := Fr_on F2 hk3
        have N3 : News h₀ L h3 [] := News.nil
        have ok3 : Ok mg mb h3 := ok.keeps F3.keep
        have e3 := strs_of_pairedL (g := fun v => strL (toldL (numOf v) true)) hp3
        rw [show av.toArray.toList = av from rfl, ints_map (fun n => strL (toldL n true)) b3] at e3
        have hk03 : ∀ b o, s.heap.get? b = some o → h3.get? b = some o := fun b o e => hk3 _ _ (hk2 _ _ (hk1 _ _ e))
        try dsimp only
        refine eq_strsL (l4.at fun o e => hk03 _ o e) hpl3.isList b4 e3 (allOk_told hZ true) (allOk_told hZ true) hu ?_
        rw [decide_eq_true rfl]
        obtain ⟨v₁, v₂, vs, rfl⟩ : ∃ v₁ v₂ vs, cv = v₁ :: v₂ :: vs := by
          have := b1.len
          rw [List.length_map] at this
          match cv, this with
          | [], h => simp at h; omega
          | [_], h => simp at h; omega
          | v₁ :: v₂ :: vs, _ => exact ⟨v₁, v₂, vs, rfl⟩
        obtain ⟨n, R', rfl⟩ : ∃ n R', R = n :: R' := by
          match R, hl2 with
          | n :: R', _ => exact ⟨n, R', rfl⟩
        repeat' (walk_at "mine"; try dsimp only)
        refine method_bytes_join ?_
        repeat' (walk_at "mine"; try dsimp only)
        have hsum := sizes_codes hR
        refine join_bytes (l1.at fun o e => hk03 _ o e) b1 (by omega) ?_
        intro t4 k4
        repeat' (walk_at "mine"; try dsimp only)
        rename_i f' hf'
        refine ⟨fun _ _ e => e, Ev.on (law_read_spec (Ok_of F3 ok) (rm.less (by decide)) hf' ?_ (head_codes hR)) F3 ?_⟩
        · rw [size_cat]
          show 0 + _ ≤ _
          omega
        rintro _ h5 tk5 ⟨D5, v5, rfl, hl5, hi5⟩ hk5 F5 N5
        have e5 : (((n :: R').map fun n => bytesA (codeL n)).foldl (· ++ ·) #[]).toList.map (·.toNat) = ((n :: R').map codeL).flatten := octs_codes hR
        rw [e5, read_all _ _ hR, List.nil_append] at hi5
        dsimp only
        repeat' (walk_at "mine"; try dsimp only)
        refine ke_eq_ints hl5 (l2.at fun o e => hk5 _ _ (hk03 _ o e)) hi5 b2 hu ?_
        rw [decide_eq_true rfl]
        repeat' (walk_at "mine"; try dsimp only)
        exact ⟨rfl, h5, tk5, m, rfl, F5, ps, hk5 _ _ (hk03 _ _ hP)⟩
end
end Mine

namespace Mine
section
variable {prog : Program} {w : World} {A : Around} {s : Shared} {mg mb : Str → Option Value} {h₀ : Heap} {L fa c C P : Addr} {m : Str → Option Value}

local macro_rules | `(tactic| walk_at "mine") => `(tactic| first
  | with_reducible refine wpAny_execs_cons ?_
  | with_reducible refine wpAny_execs_nil ?_
  | with_reducible refine wpAny_If ?_
  | with_reducible refine wpAny_Return_some ?_
  | with_reducible refine wpAny_IfExp ?_
  | with_reducible refine wpAny_BinOp ?_
  | with_reducible refine wpAny_Constant_int ?_
  | with_reducible refine args_nil ?_
  | (with_reducible show wpAny _ _ (eval (Expr.Name _ _) _) _ _ _); (first | refine nm_loc (Fr.ns (by assumption)) (by first | rfl | assumption) ?_ | refine nm_bi (Ok_of (by assumption) (by assumption)) (by first | reg3_boot | with_reducible exact PySem.boot_len) ?_)
  | (with_reducible show wpAny _ _ (eval (Expr.Call (Expr.Name _ _) _ _ _) _) _ _ _); refine Call_bi (Ok_of (by assumption) (by assumption)) (by first | reg3_boot | with_reducible exact PySem.boot_len) ?_
  | (with_reducible show wpAny _ _ (loadName _ _) _ _ _); refine wpAny_loadName_local rfl rfl (Fr.ns (by assumption)) (by first | rfl | assumption) ?_
  | (with_reducible show wpAny _ _ (spliced _) _ _ _); refine args_cons ?_
  | (with_reducible show wpAny _ _ (truthy (Value.bool _)) _ _ _); refine wpAny_truthy_bool ?_; (try dsimp only)
  | ((fail_if_success (with_reducible show wpAny _ _ (exec (Stmt.While _ _ _ _) _) _ _ _)); (fail_if_success (with_reducible show wpAny _ _ (exec (Stmt.For _ _ _ _ _) _) _ _ _)); (fail_if_success (with_reducible show wpAny _ _ (eval (Expr.ListComp _ _ _ _) _) _ _ _)); (fail_if_success (with_reducible show wpAny _ _ (call (Value.builtin "list.append") _) _ _ _)); (fail_if_success (with_reducible show wpAny _ _ (subscriptTail _ _ (Value.ref _) _) _ _ _)); (fail_if_success (with_reducible show wpAny _ _ (setItem _ _ _) _ _ _)); (first | (with_reducible show wpAny _ _ _ _ _ _) | (with_reducible show ite _ _ _)); walk1))

local macro_rules | `(tactic| walk_at "mine") => `(tactic| first
  | ((with_reducible show wpAny _ _ (eval (Expr.Call (Expr.Name "Int2AP" _) _ _ _) _) _ _ _); refine Call_def 1 (Ok_of (by assumption) (by assumption)) ?_; intro f' hf')
  | ((with_reducible show wpAny _ _ (eval (Expr.Call (Expr.Name "unctrl" _) _ _ _) _) _ _ _); refine Call_def 9 (Ok_of (by assumption) (by assumption)) ?_; intro f' hf')
  | ((with_reducible show wpAny _ _ (eval (Expr.Call (Expr.Name "_law_code" _) _ _ _) _) _ _ _); refine Call_def 11 (Ok_of (by assumption) (by assumption)) ?_; intro f' hf')
  | ((with_reducible show wpAny _ _ (eval (Expr.Call (Expr.Name "_law_told" _) _ _ _) _) _ _ _); refine Call_def 12 (Ok_of (by assumption) (by assumption)) ?_; intro f' hf')
  | ((with_reducible show wpAny _ _ (eval (Expr.Call (Expr.Name "_law_read" _) _ _ _) _) _ _ _); refine Call_def 13 (Ok_of (by assumption) (by assumption)) ?_; intro f' hf')
  | ((with_reducible show AndK 1 _ _); refine ⟨fun _ _ e => e, Ev.on (Int2AP_spec (Ok_of (by assumption) (by assumption)) (Rm.less (by assumption) (by decide)) (by assumption) (by omega)) (by assumption) ?_⟩; intro v h' tk hv hk F' N'; obtain ⟨t', hv⟩ := hv; subst hv; (try dsimp only))
  | ((with_reducible show AndK 9 _ _); refine ⟨fun _ _ e => e, Ev.on (unctrl_spec (Ok_of (by assumption) (by assumption)) (Rm.less (by assumption) (by decide)) (by assumption) (by assumption)) (by assumption) ?_⟩; intro v h' tk hv hk F' N'; obtain ⟨t', hv⟩ := hv; subst hv; (try dsimp only))
  | ((with_reducible show AndK 11 _ _); refine ⟨fun _ _ e => e, Ev.on (law_code_spec (Ok_of (by assumption) (by assumption)) (Rm.less (by assumption) (by decide)) (by assumption) (by assumption)) (by assumption) ?_⟩; intro v h' tk hv hk F' N'; obtain ⟨t', hv⟩ := hv; subst hv; (try dsimp only))
  | ((with_reducible show AndK 12 _ _); refine ⟨fun _ _ e => e, Ev.on (law_told_spec (Ok_of (by assumption) (by assumption)) (Rm.less (by assumption) (by decide)) (by assumption) (by assumption)) (by assumption) ?_⟩; intro v h' tk hv hk F' N'; obtain ⟨t', hv⟩ := hv; subst hv; (try dsimp only))
  | ((with_reducible show wpAny _ _ (eval (Expr.Constant (Const.bool _) _ _) _) _ _ _); walk1)
  | fail)

set_option maxHeartbeats 4000000 in
theorem law6 {Dn Dr Da : Addr} {nv rv av : List Value} {V R Z : List Int} {ps : Array Value} (ok : Ok mg mb h₀) (rm : Rm A 10) (F : Fr h₀ L s.heap m)
    (hP : s.heap.get? P = some (tabObj ps))
    (m1 : m (Str.ofString "numbers") = some (.ref Dn)) (m2 : m (Str.ofString "rising") = some (.ref Dr)) (m3 : m (Str.ofString "around") = some (.ref Da))
    (l1 : s.heap.IsList Dn nv.toArray) (l2 : s.heap.IsList Dr rv.toArray) (l3 : s.heap.IsList Da av.toArray)
    (b1 : IntsAre nv V) (b2 : IntsAre rv R) (b3 : IntsAre av Z)
    (hV : ∀ n ∈ V, InR n) (hR : R.Perm V) (hZ : Z.Perm V) (sR : R.Pairwise (· ≤ ·)) (sZ : Z.Pairwise (fun m n => keyZ m ≤ keyZ n)) (hl2 : 2 ≤ V.length) (hl8 : V.length ≤ 8) :
    wpAny (model prog w) A (execs ((bdOf (stmtAt 14)).drop 6) (lawEnv L fa c C)) (fun f s' => Done (LawEnd h₀ L P s f s')) (fun _ _ => False) s := by
  have hh := rm.hh
  have ok' : Ok mg mb s.heap := ok.keeps F.keep
  conv in (execs _ _) => arg 1; whnf
  refine wpAny_execs_cons ?_
  refine wpAny_Assign_Name ?_
  repeat' (walk_at "mine"; try dsimp only)
  refine comp_list (cl := []) (fun _ => true) (fun v y => ∃ t', y = .bytes (bytesA (codeL (numOf v))) t') hh ?_ (closureFor_none (by decide))
  repeat' (walk_at "mine"; try dsimp only)
  refine ⟨_, nv.toArray, rfl, l1, by rw [List.size_toArray, b1.length, sizeLine_eq]; omega, ?_, ?_, ?_⟩
  · intro C' m₃ s₃ v hv Fc hm
    exact wpAny_tests_nil ⟨rfl, Keeps.rfl'⟩
  · intro C' m₃ s₃ v hv _ Fc hm
    obtain ⟨n, tn, rfl, hn⟩ := ints_mem b1 v hv
    have hn' : -(16 : Int) ^ 6 ≤ n ∧ n < 16 ^ 6 := hV n hn
    have N3 : News s.heap C' s₃.heap [] := News.nil
    unfold Ev
    repeat' (walk_at "mine"; try dsimp only)
    exact ⟨⟨_, rfl⟩, _, _, rfl, by assumption⟩
  · intro D1 h1 tk1 ys1 hpl1 hD1 hp1 hk1
    rw [filter_true] at hp1
    have F1 := Fr_on F hk1
    have e1 : BytesAre ys1.toList (V.map fun n => bytesA (codeL n)) := by
      rw [← ints_map (fun n => bytesA (codeL n)) b1]
      exact bytes_of_paired hp1
    try dsimp only
    repeat' (walk_at "mine"; try dsimp only)
    refine sorted_bytes (hpl1.isList) e1 (by rw [e1.len, List.length_map]; omega) ?_
    intro h2 D2 out bs hD2 _ hk2 hb2 hpm hpw
    have eb := sorted_codes hV hR sR hpm hpw
    subst eb
    have F2 := Fr_on F1 hk2
    try dsimp only
    refine st_any F2 ?_
    intro h3 F3 hk3
    have hk03 : ∀ b o, b ≠ L → s.heap.get? b = some o → h3.get? b = some o := fun b o hb e => hk3 b o hb (hk2 _ _ (hk1 _ _ e))
    have l1' := l1.at fun o e => hk03 _ o (list_ne l1 F.ns) e
    have l2' := l2.at fun o e => hk03 _ o (list_ne l2 F.ns) e
    have l3' := l3.at fun o e => hk03 _ o (list_ne l3 F.ns) e
    have l4' := hD2.at fun o e => hk3 _ o (list_ne hD2 F2.ns) e
    have hP' := hk03 _ _ (tab_ne hP F.ns) hP
    have ok3 : Ok mg mb h3 := Ok_of F3 ok
    have hRin : ∀ n ∈ R, InR n := fun n hn => hV n (hR.mem_iff.mp hn)
    have hRl := hR.length_eq
    try dsimp only
    refine wpAny_execs_cons ?_
    refine wpAny_Assign_Name ?_
    repeat' (walk_at "mine"; try dsimp only)
    refine comp_list (cl := []) (fun _ => true) (fun v y => ∃ t', y = .str (strL ((octs (bytesOf v)).map shownL).flatten) t') hh ?_ (closureFor_none (by decide))
    repeat' (walk_at "mine"; try dsimp only)
    refine ⟨_, out.toArray, rfl, l4', by rw [List.size_toArray, hb2.len, List.length_map, sizeLine_eq]; omega, ?_, ?_, ?_⟩
    · intro C' m₃ s₃ v hv Fc hm
      exact wpAny_tests_nil ⟨rfl, Keeps.rfl'⟩
    · intro C' m₃ s₃ v hv _ Fc hm
      obtain ⟨tv, ev⟩ := hb2.all v hv
      have hsz : (bytesOf v).size ≤ 7 := by
        obtain ⟨n, hn, e⟩ := List.mem_map.mp (mem_bytes hb2 hv)
        rw [← e, bytesA_size]
        exact codeL_size (hRin n hn)
      rw [ev] at hm
      have ok4 := ok3.keeps Fc.keep
      have N3 : News h3 C' s₃.heap [] := News.nil
      unfold Ev
      repeat' (walk_at "mine"; try dsimp only)
      refine comp_bytes (cl := []) (fun o y => ∃ t', y = .str (unS (o : Int)) t') hh ?_ (closureFor_none (by decide))
      repeat' (walk_at "mine"; try dsimp only)
      refine ⟨_, _, rfl, by rw [sizeLine_eq]; omega, ?_, ?_⟩
      · intro C2 m4 s4 o u ho Fc2 hm2
        unfold Ev
        have ho' : o.toNat < 256 := o.toNat_lt
        repeat' (walk_at "mine"; try dsimp only)
        exact ⟨⟨_, rfl⟩, _, _, rfl, by assumption⟩
      · intro D h' tk ys hpl hD hp hk
        have F10 := Fr_on Fc hk
        try dsimp only
        repeat' (walk_at "mine"; try dsimp only)
        refine join_listW hpl.isList (strs_of_pairedL (g := fun o : UInt8 => unS (o.toNat : Int)) hp) (by decide) ?_ ?_
        · have := weight_le (fun o : UInt8 => unS (o.toNat : Int)) 3 (bytesOf v).toList (fun o _ => unS_len o)
          rw [Array.length_toList] at this
          rw [List.length_map, Array.length_toList]
          omega
        · intro t' k'
          exact ⟨⟨t', congrArg (Value.str · t') (join_shown _)⟩, _, _, rfl, hk⟩
    · intro D4 h4 tk4 ys4 hpl4 hD4 hp4 hk4
      rw [filter_true] at hp4
      have F4 := Fr_on F3 hk4
      have e4 := strs_of_pairedL (g := fun v => strL ((octs (bytesOf v)).map shownL).flatten) hp4
      rw [show out.toArray.toList = out from rfl, strs_shown hb2 hRin] at e4
      try dsimp only
      repeat' (walk_at "mine"; try dsimp only)
      refine sorted_strsP hpl4.isList e4 (by rw [e4.len_eq, List.length_map]; omega) ?_
      intro h5 D5 out5 ss hD5 _ hk5 hs5 hpm5 hpw5
      have es := sorted_shown hV hZ sZ (hpm5.trans (hR.map _)) hpw5
      subst es
      have F5 := Fr_on F4 hk5
      try dsimp only
      refine st_any F5 ?_
      intro h6 F6 hk6
      have hk36 : ∀ b o, b ≠ L → h3.get? b = some o → h6.get? b = some o := fun b o hb e => hk6 b o hb (hk5 _ _ (hk4 _ _ e))
      have hZl := hZ.length_eq
      dsimp only
      refine wpAny_mono (law8 (Dc := D2) (Dr := Dr) (Da := Da) (Ds := D5) ok rm F6 (hk36 _ _ (tab_ne hP' F3.ns) hP') ?_ ?_ ?_ ?_
        (l4'.at fun o e => hk36 _ o (list_ne l4' F3.ns) e) (l2'.at fun o e => hk36 _ o (list_ne l2' F3.ns) e) (l3'.at fun o e => hk36 _ o (list_ne l3' F3.ns) e) (hD5.at fun o e => hk6 _ o (list_ne hD5 F5.ns) e)
        hb2 b2 b3 hs5 hRin (fun n hn => hV n (hZ.mem_iff.mp hn)) (by omega) (by omega) (by omega)) (fun f s' q => ?_) fun _ _ e => e
      · rfl
      · exact m2
      · exact m3
      · rfl
      · obtain ⟨⟨q1, h7, tk7, m7, q2, q3, q4⟩⟩ := q
        exact ⟨q1, h7, tk7, m7, q2, q3, q4⟩
end
end Mine

namespace Mine
theorem News_st {h₀ h h' : Heap} {L : Addr} {news : List (Addr × Obj)} (N : News h₀ L h news) (hk : ∀ b o, b ≠ L → h.get? b = some o → h'.get? b = some o) : News h₀ L h' news :=
  fun p hp => ⟨hk _ _ (N p hp).2.1 (N p hp).1, (N p hp).2⟩
section
variable {prog : Program} {w : World} {A : Around} {s : Shared} {mg mb : Str → Option Value} {h₀ : Heap} {L fa c C P : Addr} {m : Str → Option Value}

local macro_rules | `(tactic| walk_at "mine") => `(tactic| first
  | with_reducible refine wpAny_execs_cons ?_
  | with_reducible refine wpAny_execs_nil ?_
  | with_reducible refine wpAny_If ?_
  | with_reducible refine wpAny_Return_some ?_
  | with_reducible refine wpAny_IfExp ?_
  | with_reducible refine wpAny_BinOp ?_
  | with_reducible refine wpAny_Constant_int ?_
  | with_reducible refine args_nil ?_
  | (with_reducible show wpAny _ _ (eval (Expr.Name _ _) _) _ _ _); (first | refine nm_loc (Fr.ns (by assumption)) (by first | rfl | assumption) ?_ | refine nm_bi (Ok_of (by assumption) (by assumption)) (by first | reg3_boot | with_reducible exact PySem.boot_len) ?_)
  | (with_reducible show wpAny _ _ (eval (Expr.Call (Expr.Name _ _) _ _ _) _) _ _ _); refine Call_bi (Ok_of (by assumption) (by assumption)) (by first | reg3_boot | with_reducible exact PySem.boot_len) ?_
  | (with_reducible show wpAny _ _ (loadName _ _) _ _ _); refine wpAny_loadName_local rfl rfl (Fr.ns (by assumption)) (by first | rfl | assumption) ?_
  | (with_reducible show wpAny _ _ (spliced _) _ _ _); refine args_cons ?_
  | (with_reducible show wpAny _ _ (truthy (Value.bool _)) _ _ _); refine wpAny_truthy_bool ?_; (try dsimp only)
  | ((fail_if_success (with_reducible show wpAny _ _ (exec (Stmt.While _ _ _ _) _) _ _ _)); (fail_if_success (with_reducible show wpAny _ _ (exec (Stmt.For _ _ _ _ _) _) _ _ _)); (fail_if_success (with_reducible show wpAny _ _ (eval (Expr.ListComp _ _ _ _) _) _ _ _)); (fail_if_success (with_reducible show wpAny _ _ (call (Value.builtin "list.append") _) _ _ _)); (fail_if_success (with_reducible show wpAny _ _ (subscriptTail _ _ (Value.ref _) _) _ _ _)); (fail_if_success (with_reducible show wpAny _ _ (setItem _ _ _) _ _ _)); (first | (with_reducible show wpAny _ _ _ _ _ _) | (with_reducible show ite _ _ _)); walk1))

theorem lam_call {n : Nat} {f c' : Addr} {name qual : Str} {params : Arguments} {body : Expr} {scope : Scope} {pm ctv v : Value} {x : Str} {P : Value → Heap → Prop}
    (ho : s.heap.get? f = some (kla_obj name qual params body scope [] pm c' ctv)) (hcd : s.heap.CodeRec (.ref c') qual) (lim : s.heap.NoLimit) (rm : Rm A (n + 1))
    (hbind : bindArgs (kla_fn name qual params body scope [] pm (.ref c') ctv) ⟨[v], []⟩ = pure [(x, v)]) (hloc : ∀ y ∈ [(x, v)], scope.names.lookup y.1 = some .local)
    (hcell : ∀ y ∈ scope.names, y.2 ≠ .cell) (hk : scope.kind = .function) (hco : scope.isCoroutine = false) (hgen : scope.isGenerator = false)
    (h : ∀ L' h₁ A', Rm A' n → Fr s.heap L' h₁ (fun y => ([(x, v)] : List (Str × Value)).reverse.lookup y) →
      wpAny (model prog w) A' (eval body (envX qual scope L' f (.ref c') [])) (fun r s' => Done (P r s'.heap ∧ Keeps s s')) (fun _ _ => False) { s with heap := h₁, toks := s.toks + 1 }) :
    Ev prog w A (call (.ref f) [v]) P s := by
  refine wpAny_call (kla_callFunE (by have := rm.hd; omega) ho rfl hco hgen rfl hcd ?_)
  rw [hbind]
  refine wpAny_pure (wpAny_newFunctionEnv hcell hloc (fun h₁ hns hsb => ⟨lim.fresh _ hsb, ?_⟩) hk)
  show codeAny _ _ (.expr body (envX qual scope s.heap.objs.size f (.ref c') [])) _ _
  refine kla_codeExpr (wpAny_mono (h s.heap.objs.size h₁ _ (rm.deeper _) ⟨hns, fun b o e => hsb.extBut b o (Nat.ne_of_lt (Heap.lt_size e)) (Heap.get?_push_of_some _ e), Nat.le_refl _⟩) (fun r s' d => d.out) fun _ _ e => e.elim)

set_option maxHeartbeats 4000000 in
theorem law4 {p : Program} {loose : List Str} {mean : ExcName → Option Value} {Dn : Addr} {nv : List Value} {en : Nat} {V : List Int} (T : Top p loose mean mg mb h₀) (CH : CodeHd h₀ c P) (ok : Ok mg mb h₀) (rm : Rm A 10) (F : Fr h₀ L s.heap m)
    (N : News h₀ L s.heap [(P, tabObj #[]), (Dn, listOf nv.toArray en)])
    (m1 : m (Str.ofString "numbers") = some (.ref Dn)) (b1 : IntsAre nv V) (hV : ∀ n ∈ V, InR n) (hl2 : 2 ≤ V.length) (hl8 : V.length ≤ 8) :
    wpAny (model prog w) A (execs ((bdOf (stmtAt 14)).drop 4) (lawEnv L fa c C)) (fun f s' => Done (LawEnd h₀ L P s f s')) (fun _ _ => False) s := by
  have hh := rm.hh
  have hlen := b1.length
  conv in (execs _ _) => arg 1; whnf
  refine wpAny_execs_cons ?_
  refine wpAny_Assign_Name ?_
  refine Call_bi (ok.keeps F.keep) boot_sorted ?_
  refine args_cons ?_
  refine nm_loc F.ns m1 ?_
  refine args_nil ?_
  refine sorted_N F N ⟨_, (N _ (.tail _ (.head _))).1, rfl, _, rfl⟩ b1 (by omega) ?_
  intro h1 rv R e1 F1 N1 b2 hR sR
  refine st_any (s := { s with heap := h1 }) F1 ?_
  intro h2 F2 hk2
  replace N1 := News_st N1 hk2
  dsimp only at N1 ⊢
  refine wpAny_execs_cons ?_
  refine wpAny_Assign_Name ?_
  refine wpAny_Call_Name_kw ?_
  refine nm_bi (ok.keeps F2.keep) boot_sorted ?_
  refine callWith_kw ?_
  refine args_cons ?_
  refine nm_loc F2.ns m1 ?_
  refine args_nil ?_
  refine kws_cons ?_
  refine kla_eval rfl ?_
  refine kla_nest (s := ⟨_, _, _, _, _⟩) F2 N1 T CH rfl (.tail ?_ (.head ?_)) ?_ ?_ (closureFor_none (by decide)) ?_
  · exact Nat.ne_of_gt (Nat.lt_succ_of_lt (Heap.lt_size (N _ (.head _)).1))
  · intro q hq
    rw [List.mem_singleton.mp hq]
    intro e
    have h5 := (N _ (.tail _ (.head _))).1
    have h6 := (N _ (.head _)).1
    dsimp only at h5 h6 e
    rw [e, h6] at h5
    cases h5
  · exact (by trivial)
  · rfl
  intro f c' oc cvs t ctv h3 tk3 F3 N3 hoc hvs hlt1 hlt2
  refine kws_nil ?_
  show wpAny _ _ (call (.builtin "sorted") [.ref Dn] [(Str.ofString "key", .ref f)]) _ _ _
  refine ksk_letter (s := ⟨_, _, _, _, _⟩) (b := false) keyZ F3 N3 ⟨_, (N3 _ (.tail _ (.tail _ (.tail _ (.tail _ (.head _)))))).1, rfl, _, rfl⟩ b1 (by omega) (ksk_s1 _ _) (fun x => ksk_l1 _ _) (fun x => ksk_t1 f x) ?_ ?_
  · intro n tn h tk own hn F' N'
    have lim : h.NoLimit := ok.lim.keeps F'.keep
    refine Ev.use (lam_call (P := fun v _ => ∃ t', v = .int (keyZ n) t') (n := 5) (x := Str.ofString "n") (N' _ (.head _)).1 ⟨c', oc, cvs, t, rfl, (N' _ (.tail _ (.head _))).1, hoc, hvs⟩ lim ?_ rfl (locs rfl) ?_ rfl rfl rfl ?_) ?_
    · exact (rm.less (by decide : 5 + 1 + 2 ≤ 10)).in1.in1
    · dsimp only; decide
    · intro L' h4 A' rm' F4
      have N4 : News h L' h4 [] := News.nil
      try dsimp only
      repeat' (walk_at "mine"; try dsimp only)
      exact ⟨⟨_, rfl⟩, _, _, rfl, F4.keep⟩
    · rintro _ h4 tk4 ⟨t4, rfl⟩ hk4
      exact ⟨h4, tk4, t4, rfl, rfl, Fr_on F' hk4, News_on N' hk4⟩
  · intro D av Z ca h5 tk5 F5 N5 hlt b3 hZl hZ sZ _
    dsimp only
    refine st_any (s := ⟨_, _, _, _, _⟩) F5 ?_
    intro h6 F6 hk6
    replace N5 := News_st N5 hk6
    dsimp only at N5 ⊢
    refine wpAny_mono (law6 (Dn := Dn) (Dr := s.heap.objs.size + 1) (Da := D) ok rm F6 (N5 _ (.tail _ (.tail _ (.tail _ (.tail _ (.head _)))))).1 m1 ?_ ?_
      ⟨_, (N5 _ (.tail _ (.tail _ (.tail _ (.tail _ (.tail _ (.head _))))))).1, rfl, _, rfl⟩ ⟨_, (N5 _ (.tail _ (.tail _ (.tail _ (.head _))))).1, rfl, _, rfl⟩ ⟨_, (N5 _ (.head _)).1, rfl, _, rfl⟩
      b1 b2 b3 hV hR hZ sR sZ hl2 hl8) (fun f s' q => ?_) fun _ _ e => e
    · rfl
    · rfl
    · obtain ⟨⟨q1, h7, tk7, m7, q2, q3, q4⟩⟩ := q
      exact ⟨q1, h7, tk7, m7, q2, q3, q4⟩
end
end Mine

namespace Mine
section
variable {prog : Program} {w : World} {A : Around} {s : Shared} {mg mb : Str → Option Value} {h₀ : Heap} {L fa c C P : Addr} {m : Str → Option Value}

local macro_rules | `(tactic| walk_at "mine") => `(tactic| first
  | with_reducible refine wpAny_execs_cons ?_
  | with_reducible refine wpAny_execs_nil ?_
  | with_reducible refine wpAny_If ?_
  | with_reducible refine wpAny_Return_some ?_
  | with_reducible refine wpAny_IfExp ?_
  | with_reducible refine wpAny_BinOp ?_
  | with_reducible refine wpAny_Constant_int ?_
  | with_reducible refine args_nil ?_
  | (with_reducible show wpAny _ _ (eval (Expr.Name _ _) _) _ _ _); (first | refine nm_loc (Fr.ns (by assumption)) (by first | rfl | assumption) ?_ | refine nm_bi (Ok_of (by assumption) (by assumption)) (by first | reg3_boot | with_reducible exact PySem.boot_len) ?_)
  | (with_reducible show wpAny _ _ (eval (Expr.Call (Expr.Name _ _) _ _ _) _) _ _ _); refine Call_bi (Ok_of (by assumption) (by assumption)) (by first | reg3_boot | with_reducible exact PySem.boot_len) ?_
  | (with_reducible show wpAny _ _ (loadName _ _) _ _ _); refine wpAny_loadName_local rfl rfl (Fr.ns (by assumption)) (by first | rfl | assumption) ?_
  | (with_reducible show wpAny _ _ (spliced _) _ _ _); refine args_cons ?_
  | (with_reducible show wpAny _ _ (truthy (Value.bool _)) _ _ _); refine wpAny_truthy_bool ?_; (try dsimp only)
  | ((fail_if_success (with_reducible show wpAny _ _ (exec (Stmt.While _ _ _ _) _) _ _ _)); (fail_if_success (with_reducible show wpAny _ _ (exec (Stmt.For _ _ _ _ _) _) _ _ _)); (fail_if_success (with_reducible show wpAny _ _ (eval (Expr.ListComp _ _ _ _) _) _ _ _)); (fail_if_success (with_reducible show wpAny _ _ (call (Value.builtin "list.append") _) _ _ _)); (fail_if_success (with_reducible show wpAny _ _ (subscriptTail _ _ (Value.ref _) _) _ _ _)); (fail_if_success (with_reducible show wpAny _ _ (setItem _ _ _) _ _ _)); (first | (with_reducible show wpAny _ _ _ _ _ _) | (with_reducible show ite _ _ _)); walk1))

local macro_rules | `(tactic| walk_at "mine") => `(tactic| first
  | ((with_reducible show wpAny _ _ (eval (Expr.Call (Expr.Name "Int2AP" _) _ _ _) _) _ _ _); refine Call_def 1 (Ok_of (by assumption) (by assumption)) ?_; intro f' hf')
  | ((with_reducible show wpAny _ _ (eval (Expr.Call (Expr.Name "unctrl" _) _ _ _) _) _ _ _); refine Call_def 9 (Ok_of (by assumption) (by assumption)) ?_; intro f' hf')
  | ((with_reducible show wpAny _ _ (eval (Expr.Call (Expr.Name "_law_code" _) _ _ _) _) _ _ _); refine Call_def 11 (Ok_of (by assumption) (by assumption)) ?_; intro f' hf')
  | ((with_reducible show wpAny _ _ (eval (Expr.Call (Expr.Name "_law_told" _) _ _ _) _) _ _ _); refine Call_def 12 (Ok_of (by assumption) (by assumption)) ?_; intro f' hf')
  | ((with_reducible show wpAny _ _ (eval (Expr.Call (Expr.Name "_law_read" _) _ _ _) _) _ _ _); refine Call_def 13 (Ok_of (by assumption) (by assumption)) ?_; intro f' hf')
  | ((with_reducible show AndK 1 _ _); refine ⟨fun _ _ e => e, Ev.on (Int2AP_spec (Ok_of (by assumption) (by assumption)) (Rm.less (by assumption) (by decide)) (by assumption) (by omega)) (by assumption) ?_⟩; intro v h' tk hv hk F' N'; obtain ⟨t', hv⟩ := hv; subst hv; (try dsimp only))
  | ((with_reducible show AndK 9 _ _); refine ⟨fun _ _ e => e, Ev.on (unctrl_spec (Ok_of (by assumption) (by assumption)) (Rm.less (by assumption) (by decide)) (by assumption) (by assumption)) (by assumption) ?_⟩; intro v h' tk hv hk F' N'; obtain ⟨t', hv⟩ := hv; subst hv; (try dsimp only))
  | ((with_reducible show AndK 11 _ _); refine ⟨fun _ _ e => e, Ev.on (law_code_spec (Ok_of (by assumption) (by assumption)) (Rm.less (by assumption) (by decide)) (by assumption) (by assumption)) (by assumption) ?_⟩; intro v h' tk hv hk F' N'; obtain ⟨t', hv⟩ := hv; subst hv; (try dsimp only))
  | ((with_reducible show AndK 12 _ _); refine ⟨fun _ _ e => e, Ev.on (law_told_spec (Ok_of (by assumption) (by assumption)) (Rm.less (by assumption) (by decide)) (by assumption) (by assumption)) (by assumption) ?_⟩; intro v h' tk hv hk F' N'; obtain ⟨t', hv⟩ := hv; subst hv; (try dsimp only))
  | ((with_reducible show wpAny _ _ (eval (Expr.Constant (Const.bool _) _ _) _) _ _ _); walk1)
  | fail)

set_option maxHeartbeats 4000000 in
theorem law3 {p : Program} {loose : List Str} {mean : ExcName → Option Value} {Dn : Addr} {nv : List Value} {en : Nat} {V : List Int} (T : Top p loose mean mg mb h₀) (CH : CodeHd h₀ c P) (ok : Ok mg mb h₀) (rm : Rm A 10) (F : Fr h₀ L s.heap m)
    (N : News h₀ L s.heap [(P, tabObj #[]), (Dn, listOf nv.toArray en)])
    (m1 : m (Str.ofString "numbers") = some (.ref Dn)) (b1 : IntsAre nv V) (hV : ∀ n ∈ V, InR n) (hl2 : 2 ≤ V.length) (hl8 : V.length ≤ 8) :
    wpAny (model prog w) A (execs ((bdOf (stmtAt 14)).drop 3) (lawEnv L fa c C)) (fun f s' => Done (LawEnd h₀ L P s f s')) (fun _ _ => False) s := by
  have hh := rm.hh
  have hlen := b1.length
  have ok' : Ok mg mb s.heap := ok.keeps F.keep
  conv in (execs _ _) => arg 1; whnf
  refine wpAny_execs_cons ?_
  refine wpAny_If ?_
  refine wpAny_isTrue_Compare1 ?_
  refine comp_list (cl := []) (fun _ => false) (fun v y => False) hh ?_ (closureFor_none (by decide))
  refine nm_loc F.ns m1 ?_
  refine ⟨_, nv.toArray, rfl, ⟨_, (N _ (.tail _ (.head _))).1, rfl, _, rfl⟩, by rw [List.size_toArray, hlen, sizeLine_eq]; omega, ?_, ?_, ?_⟩
  · intro C' m₃ s₃ v hv Fc hm
    obtain ⟨n, tn, rfl, hn⟩ := ints_mem b1 v hv
    have hn' : -(16 : Int) ^ 6 ≤ n ∧ n < 16 ^ 6 := hV n hn
    have N3 : News s.heap C' s₃.heap [] := News.nil
    refine wpAny_tests_one ?_
    refine isTrue_not ?_
    refine isTrue_plain ?_
    repeat' (walk_at "mine"; try dsimp only)
    refine call_isinstance_yes (typeIs_bytes _ _ _) PyProof.Rows.meta_bytes PySem.F.sub_bytes_bytes ?_
    refine wpAny_truthy_bool ?_
    exact ⟨rfl, _, _, rfl, by assumption⟩
  · intro C' m₃ s₃ v hv h _ _
    cases h
  · intro D1 h1 tk1 ys1 hpl1 hD1 hp1 hk1
    have e0 : ys1.toList = [] := by
      have : (nv.toArray.toList.filter fun _ => false) = [] := List.filter_eq_nil_iff.mpr fun _ _ => Bool.false_ne_true
      rw [this] at hp1
      generalize ys1.toList = q at hp1
      cases hp1
      rfl
    have F1 := Fr_on F hk1
    have N1 := News_on N hk1
    have e1 : ys1 = ([] : List Value).toArray := by rw [← e0]
    subst e1
    refine List_ ?_
    refine args_nil ?_
    refine wpAny_newList ?_ (Nat.zero_le _)
    have hpush : ∀ b o, h1.get? b = some o → (h1.push { cls := .type "list", data := .seq ([] : List Value).toArray }).get? b = some o := fun b o e => Heap.get?_push_of_some _ e
    have F2 := Fr_on F1 hpush
    have N2 := News_on N1 hpush
    have hu : A.units + 64 < cLine := by have := rm.hu; omega
    refine ke_ne_ints (a := D1) (b := h1.objs.size) (xs := []) (ys := []) (ns := []) (ms := []) (hpl1.isList.at fun o e => hpush _ o e) ⟨_, Heap.get?_push_size _ rfl, rfl, _, rfl⟩ .nil .nil hu ?_
    refine wpAny_truthy_bool ?_
    rw [if_neg (by decide)]
    refine wpAny_execs_nil ?_
    refine wpAny_mono (law4 (Dn := Dn) T CH ok rm F2 N2 m1 b1 hV hl2 hl8) (fun f s' q => ?_) fun _ _ e => e
    obtain ⟨⟨q1, h7, tk7, m7, q2, q3, q4⟩⟩ := q
    exact ⟨q1, h7, tk7, m7, q2, q3, q4⟩
end
end Mine

namespace Mine
def numD (d : Int) : Int := if (d.fdiv 7).fmod 2 = 0 then (d.fdiv 14).fmod (16 ^ (d.fmod 7).toNat) else -((d.fdiv 14).fmod (16 ^ (d.fmod 7).toNat)) - 1
theorem pow16_le {k : Nat} (h : k ≤ 6) : (16 : Int) ^ k ≤ 16 ^ 6 := by
  have : k = 0 ∨ k = 1 ∨ k = 2 ∨ k = 3 ∨ k = 4 ∨ k = 5 ∨ k = 6 := by omega
  rcases this with rfl | rfl | rfl | rfl | rfl | rfl | rfl <;> decide
theorem pow16_pos (k : Nat) : (0 : Int) < 16 ^ k := Int.pow_pos (by decide)
theorem fmod7 (d : Int) : 0 ≤ d.fmod 7 ∧ d.fmod 7 < 7 := by
  rw [Int.fmod_eq_emod_of_nonneg _ (by decide)]; omega
theorem numD_in (d : Int) : InR (numD d) := by
  have h7 := fmod7 d
  have hp := pow16_le (k := (d.fmod 7).toNat) (by omega)
  have hq := pow16_pos (d.fmod 7).toNat
  unfold numD InR
  rw [Int.fmod_eq_emod_of_nonneg _ (Int.le_of_lt hq)]
  have h1 := Int.emod_nonneg (d.fdiv 14) (Int.ne_of_gt hq)
  have h2 := Int.emod_lt_of_pos (d.fdiv 14) hq
  generalize (d.fdiv 14) % (16 ^ (d.fmod 7).toNat) = z at *
  generalize (16 : Int) ^ (d.fmod 7).toNat = y at *
  split <;> omega
section
variable {prog : Program} {w : World} {A : Around} {s : Shared} {mg mb : Str → Option Value} {h₀ : Heap} {L fa c C P : Addr} {m : Str → Option Value}

local macro_rules | `(tactic| walk_at "mine") => `(tactic| first
  | with_reducible refine wpAny_execs_cons ?_
  | with_reducible refine wpAny_execs_nil ?_
  | with_reducible refine wpAny_If ?_
  | with_reducible refine wpAny_Return_some ?_
  | with_reducible refine wpAny_IfExp ?_
  | with_reducible refine wpAny_BinOp ?_
  | with_reducible refine wpAny_Constant_int ?_
  | with_reducible refine args_nil ?_
  | (with_reducible show wpAny _ _ (eval (Expr.Name _ _) _) _ _ _); (first | refine nm_loc (Fr.ns (by assumption)) (by first | rfl | assumption) ?_ | refine nm_bi (Ok_of (by assumption) (by assumption)) (by first | reg3_boot | with_reducible exact PySem.boot_len) ?_)
  | (with_reducible show wpAny _ _ (eval (Expr.Call (Expr.Name _ _) _ _ _) _) _ _ _); refine Call_bi (Ok_of (by assumption) (by assumption)) (by first | reg3_boot | with_reducible exact PySem.boot_len) ?_
  | (with_reducible show wpAny _ _ (loadName _ _) _ _ _); refine wpAny_loadName_local rfl rfl (Fr.ns (by assumption)) (by first | rfl | assumption) ?_
  | (with_reducible show wpAny _ _ (spliced _) _ _ _); refine args_cons ?_
  | (with_reducible show wpAny _ _ (truthy (Value.bool _)) _ _ _); refine wpAny_truthy_bool ?_; (try dsimp only)
  | ((fail_if_success (with_reducible show wpAny _ _ (exec (Stmt.While _ _ _ _) _) _ _ _)); (fail_if_success (with_reducible show wpAny _ _ (exec (Stmt.For _ _ _ _ _) _) _ _ _)); (fail_if_success (with_reducible show wpAny _ _ (eval (Expr.ListComp _ _ _ _) _) _ _ _)); (fail_if_success (with_reducible show wpAny _ _ (call (Value.builtin "list.append") _) _ _ _)); (fail_if_success (with_reducible show wpAny _ _ (subscriptTail _ _ (Value.ref _) _) _ _ _)); (fail_if_success (with_reducible show wpAny _ _ (setItem _ _ _) _ _ _)); (first | (with_reducible show wpAny _ _ _ _ _ _) | (with_reducible show ite _ _ _)); walk1))

local macro_rules | `(tactic| walk_at "mine") => `(tactic| first
  | ((with_reducible show wpAny _ _ (storeName _ _ _) _ _ _); refine st_any (by assumption) ?_; intro h' F' hk'; (have N' := News_st (by assumption) hk'); (try dsimp only at N'); (try dsimp only))
  | fail)

set_option maxHeartbeats 4000000 in
theorem law1 {p : Program} {loose : List Str} {mean : ExcName → Option Value} {Dd : Addr} {dv : List Value} {ed : Nat} {W : List Int} (T : Top p loose mean mg mb h₀) (CH : CodeHd h₀ c P) (ok : Ok mg mb h₀) (rm : Rm A 10) (F : Fr h₀ L s.heap m)
    (N : News h₀ L s.heap [(P, tabObj #[]), (Dd, listOf dv.toArray ed)])
    (m1 : m (Str.ofString "drawn") = some (.ref Dd)) (b1 : IntsAre dv W) (hl2 : 2 ≤ W.length) (hl8 : W.length ≤ 8) :
    wpAny (model prog w) A (execs ((bdOf (stmtAt 14)).drop 1) (lawEnv L fa c C)) (fun f s' => Done (LawEnd h₀ L P s f s')) (fun _ _ => False) s := by
  have hh := rm.hh
  have hlen := b1.length
  conv in (execs _ _) => arg 1; whnf
  refine wpAny_execs_cons ?_
  refine wpAny_Assign_Name ?_
  refine List_ ?_
  refine args_nil ?_
  refine newList_N F N ?_ (Nat.zero_le _)
  intro h1 F1 N1
  obtain ⟨Dn, hDn⟩ : ∃ D, D = s.heap.objs.size := ⟨_, rfl⟩
  rw [← hDn] at N1 ⊢
  have hDP : P ≠ Dn := by rw [hDn]; exact Nat.ne_of_lt (Heap.lt_size (N _ (.head _)).1)
  have hDd : Dd ≠ Dn := by rw [hDn]; exact Nat.ne_of_lt (Heap.lt_size (N _ (.tail _ (.head _))).1)
  refine st_any (s := { s with heap := h1 }) F1 ?_
  intro h2 F2 hk2
  have N2 := News_st N1 hk2
  dsimp only at F2 N2 ⊢
  clear N1 F1 F N
  refine wpAny_execs_cons ?_
  refine wpAny_For ?_
  refine nm_loc F2.ns m1 ?_
  refine wpAny_pyIter_list ⟨_, (N2 _ (.tail _ (.tail _ (.head _)))).1, rfl, _, rfl⟩ ?_
  dsimp only
  have hLI : L ≠ h2.objs.size := Nat.ne_of_lt F2.ns.lt
  have hnI : Dn ≠ h2.objs.size := Nat.ne_of_lt (Heap.lt_size (N2 _ (.head _)).1)
  have hPI : P ≠ h2.objs.size := Nat.ne_of_lt (Heap.lt_size (N2 _ (.tail _ (.head _))).1)
  have hdI : Dd ≠ h2.objs.size := Nat.ne_of_lt (Heap.lt_size (N2 _ (.tail _ (.tail _ (.head _)))).1)
  have hI0 : h₀.get? h2.objs.size = none := Heap.get?_none_of_le (Nat.le_trans F2.above (Nat.le_of_lt F2.ns.lt))
  obtain ⟨I, hI⟩ : ∃ I, I = h2.objs.size := ⟨_, rfl⟩
  rw [← hI] at hLI hnI hPI hdI hI0 ⊢
  refine for_walks (Walks.list hh I Dd hdI dv.toArray) (fun i s' => ∃ h tk m' vs e, s' = { s with heap := h, toks := tk } ∧ Fr h₀ L h m' ∧ m' (Str.ofString "numbers") = some (.ref Dn) ∧
    News h₀ L h [(Dn, listOf vs.toArray e), (P, tabObj #[]), (Dd, listOf dv.toArray ed)] ∧ IntsAre vs ((W.take i).map numD))
    ⟨⟨_, hI ▸ Heap.get?_push_size _ rfl, rfl, rfl⟩, ⟨_, Heap.get?_push_of_some _ (N2 _ (.tail _ (.tail _ (.head _)))).1, rfl, _, rfl⟩⟩
    ⟨_, _, _, [], _, rfl, F2.push _, rfl, News_on N2 fun _ _ e => Heap.get?_push_of_some _ e, .nil⟩ ?_ ?_
  · rintro i v s₁ h3 tk3 hi ⟨h, tk1, m', vs, e, rfl, F3, m3, N3, hints⟩ hv hst hk
    rw [List.getElem?_toArray] at hv
    have hi' : i < W.length := by rw [← hlen]; simpa using hi
    obtain ⟨td, htd⟩ := ints_at b1 i hi'
    rw [hv] at htd
    cases htd
    generalize hd : W.getD i 0 = d at *
    have F4 : Fr h₀ L h3 m' := ⟨F3.ns.at' (fun o e => hk L o hLI e), fun b o e => hk b o (fun q => by rw [q, hI0] at e; cases e) (F3.keep b o e), F3.above⟩
    obtain ⟨oI, hoI, _⟩ := id hst.1
    have N4 : News h₀ L h3 [(Dn, listOf vs.toArray e), (P, tabObj #[]), (Dd, listOf dv.toArray ed), (I, oI)] := by
      intro q hq
      rcases List.mem_cons.mp hq with rfl | hq
      · exact ⟨hk _ _ hnI (N3 _ (.head _)).1, (N3 _ (.head _)).2⟩
      · rcases List.mem_cons.mp hq with rfl | hq
        · exact ⟨hk _ _ hPI (N3 _ (.tail _ (.head _))).1, (N3 _ (.tail _ (.head _))).2⟩
        · rcases List.mem_cons.mp hq with rfl | hq
          · exact ⟨hk _ _ hdI (N3 _ (.tail _ (.tail _ (.head _)))).1, (N3 _ (.tail _ (.tail _ (.head _)))).2⟩
          · rw [List.mem_singleton.mp hq]
            exact ⟨hoI, hLI.symm, hI0⟩
    clear N3 F3
    have h7 := fmod7 d
    have hWi : W[i]? = some d := by rw [← hd, List.getD_eq_getElem?_getD, List.getElem?_eq_getElem hi']; rfl
    have hne : (16 : Int) ^ (d.fmod 7).toNat ≠ 0 := Int.ne_of_gt (pow16_pos _)
    dsimp only
    repeat' (walk_at "mine"; try dsimp only)
    · rename_i h6 F6 hk6 N6 hcond
      have hval : numD d = (d.fdiv 14).fmod (16 ^ (d.fmod 7).toNat) := by unfold numD; rw [if_pos hcond]
      refine append_K (its := vs.toArray) F6 N6 (.head (by
        intro q hq
        rcases List.mem_cons.mp hq with rfl | hq
        · exact hDP
        · rcases List.mem_cons.mp hq with rfl | hq
          · exact hDd
          · rw [List.mem_singleton.mp hq]; exact hnI.symm)) ?_ (by rw [List.size_toArray, hints.length, List.length_map, List.length_take, sizeLine_eq]; omega)
      intro h7 F7 N7
      rw [List.push_toArray] at N7
      dsimp only
      refine wpAny_execs_nil ?_
      refine ⟨rfl, ⟨h7, _, _, _, _, rfl, F7, m3, fun q hq => N7 q (List.mem_append_left [(I, oI)] hq), ?_⟩, ?_⟩
      · rw [List.take_add_one, hWi, List.map_append]
        refine hints.append ?_
        show IntsAre _ [numD d]
        rw [hval]
        exact .cons _ _ .nil
      · intro a ha o e
        rcases List.mem_cons.mp ha with rfl | ha
        · rw [hoI] at e
          rw [← e]
          exact (N7 _ (.tail _ (.tail _ (.tail _ (.head _))))).1
        · rw [List.mem_singleton.mp ha] at e ⊢
          have := (N4 _ (.tail _ (.tail _ (.head _)))).1
          rw [e] at this
          rw [this]
          exact (N7 _ (.tail _ (.tail _ (.head _)))).1
    · rename_i h6 F6 hk6 N6 hcond
      have hval : numD d = -((d.fdiv 14).fmod (16 ^ (d.fmod 7).toNat)) - 1 := by unfold numD; rw [if_neg hcond]
      refine append_K (its := vs.toArray) F6 N6 (.head (by
        intro q hq
        rcases List.mem_cons.mp hq with rfl | hq
        · exact hDP
        · rcases List.mem_cons.mp hq with rfl | hq
          · exact hDd
          · rw [List.mem_singleton.mp hq]; exact hnI.symm)) ?_ (by rw [List.size_toArray, hints.length, List.length_map, List.length_take, sizeLine_eq]; omega)
      intro h7 F7 N7
      rw [List.push_toArray] at N7
      dsimp only
      refine wpAny_execs_nil ?_
      refine ⟨rfl, ⟨h7, _, _, _, _, rfl, F7, m3, fun q hq => N7 q (List.mem_append_left [(I, oI)] hq), ?_⟩, ?_⟩
      · rw [List.take_add_one, hWi, List.map_append]
        refine hints.append ?_
        show IntsAre _ [numD d]
        rw [hval]
        exact .cons _ _ .nil
      · intro a ha o e
        rcases List.mem_cons.mp ha with rfl | ha
        · rw [hoI] at e
          rw [← e]
          exact (N7 _ (.tail _ (.tail _ (.tail _ (.head _))))).1
        · rw [List.mem_singleton.mp ha] at e ⊢
          have := (N4 _ (.tail _ (.tail _ (.head _)))).1
          rw [e] at this
          rw [this]
          exact (N7 _ (.tail _ (.tail _ (.head _)))).1
  · rintro s₁ h3 tk3 ⟨h, tk1, m', vs, e, rfl, F3, m3, N3, hints⟩ hk
    have F4 : Fr h₀ L h3 m' := ⟨F3.ns.at' (fun o e => hk L o hLI e), fun b o e => hk b o (fun q => by rw [q, hI0] at e; cases e) (F3.keep b o e), F3.above⟩
    have N4 : News h₀ L h3 [(P, tabObj #[]), (Dn, listOf vs.toArray e)] := by
      intro q hq
      rcases List.mem_cons.mp hq with rfl | hq
      · exact ⟨hk _ _ hPI (N3 _ (.tail _ (.head _))).1, (N3 _ (.tail _ (.head _))).2⟩
      · rw [List.mem_singleton.mp hq]
        exact ⟨hk _ _ hnI (N3 _ (.head _)).1, (N3 _ (.head _)).2⟩
    rw [List.take_of_length_le (by rw [List.size_toArray, hlen]; exact Nat.le_refl _)] at hints
    dsimp only
    refine wpAny_mono (law3 (Dn := Dn) T CH ok rm F4 N4 m3 hints (fun n hn => by obtain ⟨d, _, rfl⟩ := List.mem_map.mp hn; exact numD_in d) (by rw [List.length_map]; exact hl2) (by rw [List.length_map]; exact hl8)) (fun f s' q => ?_) fun _ _ e => e
    obtain ⟨⟨q1, h7, tk7, m7, q2, q3, q4⟩⟩ := q
    exact ⟨q1, h7, tk7, m7, q2, q3, q4⟩
end
end Mine

namespace Mine
section
local macro_rules | `(tactic| walk_at "adr") => `(tactic| first | (refine (show @Ne Nat _ _ from ?_); omega) | omega)
variable {prog : Program} {w : World} {A : Around} {E : Value → Shared → Prop} {s : Shared} {env : Env} {h₀ : Heap} {m : Str → Option Value}

theorem assign_comp_enum {elt iter : Expr} {a b y : Str} {pa pb tp py : Pos} {kk : Nat} {scope : Scope} {cl : List (Str × Addr)} {pos spos : Pos} {Q : Flow → Shared → Prop}
    (hh : A.handled = none)
    (h : wpAny (model prog w) A (eval iter env) (fun xv s₁ => ∃ e it l items, xv = .ref e ∧ IsEnum s₁.heap e it 0 .none ∧ s₁.heap.IsListIter it l 0 ∧ s₁.heap.IsList l items ∧ e ≠ it ∧ l ≠ e ∧ l ≠ it ∧ items.size ≤ 100 ∧
      Fr h₀ env.locals s₁.heap m ∧ h₀.get? e = none ∧ h₀.get? it = none ∧ e ≠ env.locals ∧ it ≠ env.locals ∧
      (∀ C m₃ s₃ i x t, items[i]? = some x → s₃.heap.Ns C m₃ → m₃ a = some (.int (i : Nat) t) → m₃ b = some x → (∀ b o, b ≠ e → b ≠ it → s₁.heap.get? b = some o → s₃.heap.get? b = some o) → s₁.heap.objs.size ≤ C →
        Ev prog w A (eval elt (compEnvC scope cl C env)) (fun y _ => ∃ n t, y = .int n t) s₃) ∧
      (∀ D h' tk ys ns, h'.PlainList D ys → IntsAre ys.toList ns → ns.length = items.size → s₁.heap.objs.size ≤ D → Fr h₀ env.locals h' (fun z => if z = y then some (.ref D) else m z) →
        (∀ b o, b ≠ env.locals → b ≠ e → b ≠ it → s₁.heap.get? b = some o → h'.get? b = some o) → Q .next { s₁ with heap := h', toks := tk })) E s)
    (hclos : closureFor scope env = pure cl)
    (hsw : swapsWith (.ListComp elt [⟨.Tuple [.Name a pa, .Name b pb] kk tp, iter, [], 0⟩] scope pos) (some (.Name y py)) spos.line env = pure true := by rfl)
    (hcell : ∀ y ∈ scope.names, y.2 ≠ .cell := by decide) (hkind : scope.kind = .function := by rfl)
    (hnames : ∀ y ∈ scope.names, y.2 = .local → scope.names.lookup y.1 = some .local := by decide) (ha : scope.names.lookup a = some .local := by rfl) (hb : scope.names.lookup b = some .local := by rfl)
    (hne : a ≠ b := by decide)
    (hy : env.kindOf y = some .local := by rfl) (hp : (env.scope.kind == .class || (env.scope.kind == .module && env.locals != env.globals)) = false := by rfl)
    (hs : ∀ x, foldedSetIterable iter env x = pure x := by intro _; rfl) :
    wpAny (model prog w) A (exec (.Assign [.Name y py] (.ListComp elt [⟨.Tuple [.Name a pa, .Name b pb] kk tp, iter, [], 0⟩] scope pos) spos) env) Q E s := by
  rw [exec_Assign_Name_used _ _ _ _ hsw]
  refine wpAny_bind (wpAny_standAt (wpAny_bind ?_))
  show wpAny _ A (do let _ ← comprehension (.ListComp elt [⟨.Tuple [.Name a pa, .Name b pb] kk tp, iter, [], 0⟩] scope pos) scope env _ (newList []) false (eval iter env) (some (assign (.Name y py) env))) _ _ s
  refine wpAny_bind (wpAny_mono (wpAny_comprehension_free (use := some (assign (.Name y py) env)) (Q := fun _ s' => Q .next s') rfl hs hclos hkind hnames
    (wpAny_mono h (fun xv s₁ h₁ => ?_) fun _ _ e => e)) (fun _ s' hq => wpAny_pure (wpAny_pure hq)) fun _ _ e => e)
  obtain ⟨e, it, l, items, rfl, he, hit, hl, hei, hle, hli, hsz, F, he0, hit0, heL, hiL, helt, hQ⟩ := h₁
  refine wpAny_pyIter_enum he ?_
  refine wpAny_newObj_type (wpAny_newFunctionEnv hcell (by intro y hy; simp at hy) (fun h₂ hns₂ hsb₂ => ?_) hkind)
  dsimp only at hns₂ hsb₂ ⊢
  have heS : @LT.lt Nat _ e s₁.heap.objs.size := Heap.lt_size he
  have hiS : @LT.lt Nat _ it s₁.heap.objs.size := by obtain ⟨o, ho, _⟩ := hit; exact Heap.lt_size ho
  have hlS : @LT.lt Nat _ l s₁.heap.objs.size := by obtain ⟨o, ho, _⟩ := hl; exact Heap.lt_size ho
  have hLS : @LT.lt Nat _ env.locals s₁.heap.objs.size := F.ns.lt
  generalize hH2 : s₁.heap.push { cls := .type "list", dict := none, data := .seq ([] : List Value).toArray } = H2 at hns₂ hsb₂ ⊢
  have hC : H2.objs.size = s₁.heap.objs.size + 1 := by rw [← hH2, Heap.size_push]
  obtain ⟨D, hD⟩ : ∃ D : Addr, @Eq Nat D s₁.heap.objs.size := ⟨_, rfl⟩
  obtain ⟨C, hCC⟩ : ∃ C : Addr, @Eq Nat C H2.objs.size := ⟨_, rfl⟩
  rw [← hCC] at hns₂ hsb₂ ⊢
  rw [← hD] at ⊢
  have old : ∀ b o, s₁.heap.get? b = some o → h₂.get? b = some o := fun b o q => hsb₂.extBut b o (by have : @LT.lt Nat _ b s₁.heap.objs.size := Heap.lt_size q; walk_at "adr") (Heap.get?_push_of_some _ (hH2 ▸ Heap.get?_push_of_some _ q))
  have hacc : h₂.PlainList D #[] := ⟨_, hsb₂.extBut _ _ (by walk_at "adr") (Heap.get?_push_of_some _ (hH2 ▸ hD ▸ Heap.get?_push_size _ rfl))⟩
  have hab : @LE.le Nat _ h₀.objs.size env.locals := F.above
  have n0 : ∀ b o, h₀.get? b = some o → b ≠ C ∧ b ≠ D ∧ b ≠ e ∧ b ≠ it ∧ b ≠ env.locals := fun b o q => by
    have : @LT.lt Nat _ b h₀.objs.size := Heap.lt_size q
    refine ⟨by walk_at "adr", by walk_at "adr", ?_, ?_, by walk_at "adr"⟩
    · rintro rfl; rw [he0] at q; cases q
    · rintro rfl; rw [hit0] at q; cases q
  have loop : ∀ s₃ : Shared, s₃ = { s₁ with heap := h₂, toks := s₁.toks + ([] : List (Str × Value)).length } →
      codeAny (model prog w) A (.compLoop (.ListComp elt [⟨.Tuple [.Name a pa, .Name b pb] kk tp, iter, [], 0⟩] scope pos) 0 (.ref e) (.ref D) (compEnvC scope cl C env))
        (compPost (model prog w) A E (some (assign (.Name y py) env)) (fun _ s' => Q .next s') (.ref D) C) s₃ := by
    rintro s₃ rfl
    refine kcp_loop
      (fun k s' => ∃ h tk m' ys ns i old, s' = { s₁ with heap := h, toks := tk } ∧ IsEnum h e it ((i : Nat) : Int) old ∧ h.IsListIter it l i ∧ h.IsList l items ∧ h.PlainList D ys ∧ h.Ns C m' ∧ IntsAre ys.toList ns ∧ ns.length = i ∧ i ≤ items.size ∧ k = items.size + 1 - i ∧
        (∀ b o, b ≠ C → b ≠ D → b ≠ e → b ≠ it → s₁.heap.get? b = some o → h.get? b = some o)) ?_ (items.size + 1)
      ⟨h₂, _, _, #[], [], 0, .none, rfl, old _ _ he, hit.at fun o x => old _ o x, hl.at fun o x => old _ o x, hacc, hns₂, IntsAre.nil, rfl, Nat.zero_le _, rfl, fun b o _ _ _ _ q => old b o q⟩
    rintro k s' ⟨H, tk, m', ys, ns, i, old', rfl, he', hit', hl', hp', hn', hI', hlen, hi, rfl, hk⟩
    cases hv : items[i]? with
    | none =>
      have hsz' : i = items.size := Nat.le_antisymm hi (by simpa using hv)
      refine wpAny_pyNext_enum_end hh he' hit' hl' hv fun h₃ he₃ => ?_
      show wpAny _ A (assign (.Name y py) env (.ref D)) _ _ _
      have hk₃ : ∀ b o, b ≠ C → b ≠ D → b ≠ e → b ≠ it → s₁.heap.get? b = some o → h₃.get? b = some o := fun b o q1 q2 q3 q4 q => he₃ b o q4 (hk b o q1 q2 q3 q4 q)
      refine wpAny_assign_Name (wpAny_storeName_local hy (F.ns.at' fun o q => hk₃ _ o (by walk_at "adr") (by walk_at "adr") (Ne.symm heL) (Ne.symm hiL) q) (fun h₄ hn₄ hs₄ => ?_) hp)
      replace hs₄ : Heap.SameBut env.locals h₃ h₄ := hs₄
      refine ⟨m', (hn'.extBut he₃ (by walk_at "adr")).sameBut hs₄ (by walk_at "adr"), fun h₅ hs₅ => ?_⟩
      replace hs₅ : Heap.SameBut C h₄ h₅ := hs₅
      refine hQ D h₅ _ ys ns (((hp'.extBut he₃ (by walk_at "adr")).extBut hs₄.extBut (by walk_at "adr")).extBut hs₅.extBut (by walk_at "adr")) hI' (hlen.trans hsz') (by walk_at "adr") ⟨hn₄.sameBut hs₅ (by walk_at "adr"), fun b o q => ?_, F.above⟩ fun b o q1 q2 q3 q => ?_
      · obtain ⟨r1, r2, r3, r4, r5⟩ := n0 b o q
        exact hs₅.extBut b o r1 (hs₄.extBut b o r5 (hk₃ b o r1 r2 r3 r4 (F.keep b o q)))
      · have : @LT.lt Nat _ b s₁.heap.objs.size := Heap.lt_size q
        exact hs₅.extBut b o (by walk_at "adr") (hs₄.extBut b o q1 (hk₃ b o (by walk_at "adr") (by walk_at "adr") q2 q3 q))
    | some v =>
      have hlt : i < items.size := (Array.getElem?_eq_some_iff.mp hv).1
      have heH : @LT.lt Nat _ e H.objs.size := Heap.lt_size he'
      have hCH : @LT.lt Nat _ C H.objs.size := hn'.lt
      obtain ⟨oi, hoi, _⟩ := id hit'
      obtain ⟨ol, hol, _⟩ := id hl'
      have hiH : @LT.lt Nat _ it H.objs.size := Heap.lt_size hoi
      have hlH : @LT.lt Nat _ l H.objs.size := Heap.lt_size hol
      have hDH : @LT.lt Nat _ D H.objs.size := by obtain ⟨n, ho⟩ := hp'; exact Heap.lt_size ho
      refine wpAny_pyNext_enum_item he' hit' hl' hv hei fun h₃ heo hit₃ ht₃ hz₃ hk₃ => ?_
      refine wpAny_letOwnedTupleGo_enum heo fun h₄ he₄ hs₄ => ?_
      replace hs₄ : Heap.SameBut e h₃ h₄ := hs₄
      have ht₄ : h₄.IsTuple H.objs.size #[.int i tk, v] := ⟨_, (hs₄.2 _ (Nat.ne_of_gt heH)).trans ht₃, rfl, _, rfl⟩
      have up₄ : ∀ b o, b ≠ e → b ≠ it → H.get? b = some o → h₄.get? b = some o := fun b o q1 q2 q => hs₄.extBut b o q1 (hk₃ b o q1 q2 q)
      refine kcp_assign (env := compEnvC scope cl C env) hh ht₄ (lookup_relabel_local ha) (lookup_relabel_local hb) (by simp [compEnvC, relabel, hkind]) (hn'.at' fun o q => up₄ _ o (by walk_at "adr") (by walk_at "adr") q) fun h₅ tk₅ hn₅ hs₅ => ?_
      replace hs₅ : ∀ c o, c ≠ C → h₄.get? c = some o → h₅.get? c = some o := hs₅
      have up₅ : ∀ b o, b ≠ C → b ≠ e → b ≠ it → H.get? b = some o → h₅.get? b = some o := fun b o q1 q2 q3 q => hs₅ b o q1 (up₄ b o q2 q3 q)
      refine (helt C _ { s₁ with heap := h₅, toks := tk₅ } i v tk hv hn₅ (by simp [hne]) (by simp) (fun b o q1 q2 q => ?_) (by walk_at "adr")).use fun x h₆ tk₆ hx₆ hk₆ => ?_
      · have : @LT.lt Nat _ b s₁.heap.objs.size := Heap.lt_size q
        exact up₅ b o (by walk_at "adr") q1 q2 (hk b o (by walk_at "adr") (by walk_at "adr") q1 q2 q)
      obtain ⟨n, t, rfl⟩ := hx₆
      replace hk₆ : ∀ b o, h₅.get? b = some o → h₆.get? b = some o := hk₆
      have hp₆ : h₆.PlainList D ys := by obtain ⟨z, ho⟩ := hp'; exact ⟨z, hk₆ _ _ (up₅ _ _ (by walk_at "adr") (by walk_at "adr") (by walk_at "adr") ho)⟩
      refine wpAny_list_append_plain hp₆ (fun h₇ hp₇ hs₇ => ?_) (by have := intsAre_size hI'; have : (100 : Nat) ≤ sizeLine := by decide
                                                                    omega)
      replace hs₇ : Heap.SameBut D h₆ h₇ := hs₇
      have up₇ : ∀ b o, b ≠ D → h₅.get? b = some o → h₇.get? b = some o := fun b o q1 q => hs₇.extBut b o q1 (hk₆ b o q)
      refine ⟨items.size + 1 - (i + 1), by walk_at "adr", h₇, tk₆, _, ys.push (.int n t), ns ++ [n], i + 1, v, rfl, ?_, ?_, ?_, hp₇, hn₅.at' fun o q => up₇ C o (by walk_at "adr") q, intsAre_push hI', by simp [hlen], hlt, rfl, fun b o q1 q2 q3 q4 q => ?_⟩
      · have : ((i + 1 : Nat) : Int) = (i : Int) + 1 := by push_cast; rfl
        rw [this]; exact up₇ e _ (by walk_at "adr") (hs₅ e _ (by walk_at "adr") he₄)
      · exact (hit₃.extBut hs₄.extBut (Ne.symm hei)).at fun o q => up₇ it o (by walk_at "adr") (hs₅ it o (by walk_at "adr") q)
      · exact hl'.at fun o q => up₇ l o (by walk_at "adr") (up₅ l o (by walk_at "adr") hle hli q)
      · exact up₇ b o q2 (up₅ b o q1 q3 q4 (hk b o q1 q2 q3 q4 q))
  exact codeAny_compStart_list (loop _ rfl) (wpAny_pyIter_enum (old _ _ he) (loop _ rfl))
end
end Mine

namespace Mine
section
variable {prog : Program} {w : World} {A : Around} {s : Shared} {mg mb : Str → Option Value} {h₀ : Heap} {L fa c C P : Addr} {m : Str → Option Value}

theorem Call_ty {E : Value → Shared → Prop} {env : Env} {x : Str} {id : String} {np pos : Pos} {e : Expr} {rest : List Expr} {Q : Value → Shared → Prop} (ok : Ok mg mb s.heap) (hv : bootBuiltins x = some (.type id))
    (h : wpAny (model prog w) A (spliced (backTo pos (starEach (e :: rest) env))) (fun vs s₁ => wpAny (model prog w) A (call (.type id) vs) Q E s₁) E s)
    (hx : x ∈ ownBuiltins := by decide) (hg : env.globals = mainGlobals := by rfl) (hb : env.builtins = builtinsNs := by rfl)
    (hk : env.scope.kind = .function := by rfl) (hl : env.kindOf x = some .globalImplicit := by rfl) (hd : (x == ("__debug__" : Str)) = false := by decide)
    (he : starEach (e :: rest) env = (false, eval e env) :: starEach rest env := by rfl)
    (hplain : (backTo pos (starEach rest env)).any (·.1) = false := by rfl)
    (hc : eval (.Call (.Name x np) (e :: rest) [] pos) env = (do callWith pos (← eval (.Name x np) env) [] (backTo pos (starEach (e :: rest) env)) (backToKw pos (keywordEach [] env))) := by rfl) :
    wpAny (model prog w) A (eval (.Call (.Name x np) (e :: rest) [] pos) env) Q E s := by
  refine Call_ (nm_bi ok hv ?_ hx hg hb hk hl hd) hc
  exact PyProof.Rows.callWith_type1 h he hplain

local macro_rules | `(tactic| walk_at "mine") => `(tactic| first
  | with_reducible refine wpAny_execs_cons ?_
  | with_reducible refine wpAny_execs_nil ?_
  | with_reducible refine wpAny_If ?_
  | with_reducible refine wpAny_Return_some ?_
  | with_reducible refine wpAny_IfExp ?_
  | with_reducible refine wpAny_BinOp ?_
  | with_reducible refine wpAny_Constant_int ?_
  | with_reducible refine args_nil ?_
  | (with_reducible show wpAny _ _ (eval (Expr.Name _ _) _) _ _ _); (first | refine nm_loc (Fr.ns (by assumption)) (by first | rfl | assumption) ?_ | refine nm_bi (Ok_of (by assumption) (by assumption)) (by first | reg3_boot | with_reducible exact PySem.boot_len) ?_)
  | (with_reducible show wpAny _ _ (eval (Expr.Call (Expr.Name _ _) _ _ _) _) _ _ _); refine Call_bi (Ok_of (by assumption) (by assumption)) (by first | reg3_boot | with_reducible exact PySem.boot_len) ?_
  | (with_reducible show wpAny _ _ (loadName _ _) _ _ _); refine wpAny_loadName_local rfl rfl (Fr.ns (by assumption)) (by first | rfl | assumption) ?_
  | (with_reducible show wpAny _ _ (spliced _) _ _ _); refine args_cons ?_
  | (with_reducible show wpAny _ _ (truthy (Value.bool _)) _ _ _); refine wpAny_truthy_bool ?_; (try dsimp only)
  | ((fail_if_success (with_reducible show wpAny _ _ (exec (Stmt.While _ _ _ _) _) _ _ _)); (fail_if_success (with_reducible show wpAny _ _ (exec (Stmt.For _ _ _ _ _) _) _ _ _)); (fail_if_success (with_reducible show wpAny _ _ (eval (Expr.ListComp _ _ _ _) _) _ _ _)); (fail_if_success (with_reducible show wpAny _ _ (call (Value.builtin "list.append") _) _ _ _)); (fail_if_success (with_reducible show wpAny _ _ (subscriptTail _ _ (Value.ref _) _) _ _ _)); (fail_if_success (with_reducible show wpAny _ _ (setItem _ _ _) _ _ _)); (first | (with_reducible show wpAny _ _ _ _ _ _) | (with_reducible show ite _ _ _)); walk1))

local macro_rules | `(tactic| walk_at "mine") => `(tactic| first
  | ((with_reducible show wpAny _ _ (storeName _ _ _) _ _ _); refine st_any (by assumption) ?_; intro h' F' hk'; (have N' := News_st (by assumption) hk'); (try dsimp only at N'); (try dsimp only))
  | fail)


theorem some_ints {α : Type} : ∀ {l : List α} {ys : List Value}, Paired (fun _ y => ∃ n t, y = .int n t) l ys → ∃ ns, IntsAre ys ns
  | _, _, .nil => ⟨[], .nil⟩
  | _, _, .cons ⟨n, t, e⟩ r => by
    obtain ⟨ns, h⟩ := some_ints r
    subst e
    exact ⟨n :: ns, .cons _ _ h⟩

theorem slice_keep {E : Value → Shared → Prop} {value slice : Expr} {l : Addr} {items : Array Value} {vl vu vk : Value} {lo hi st : Option Int} {ops : List Value} {tk : Nat} {Q : Value → Shared → Prop}
    (hl : s.heap.IsList l items) (pl : IsPart vl lo) (pu : IsPart vu hi) (pk : IsPart vk st) (h0 : st ≠ some 0)
    (h : ∀ h' D, h'.IsList D (slicePick items lo hi st) → (∀ b o, s.heap.get? b = some o → h'.get? b = some o) → Q (.ref D) { s with heap := h', toks := tk })
    (hs : subscripted slice false (.ref l) (.ref s.heap.objs.size) = operate ops (getItem (.ref l) (.ref s.heap.objs.size)) := by with_unfolding_all rfl)
    (ht : ∀ r, letTemporaryGo value (.ref l) r = pure () := by intro _; with_unfolding_all rfl)
    (hsz : items.size ≤ sizeLine := by size_fits) :
    wpAny (model prog w) A (subscriptTail value slice (.ref l) (.ref s.heap.objs.size)) Q E { s with heap := s.heap.push { cls := .type "slice", data := .fields #[vl, vu, vk] }, toks := tk } := by
  refine subscriptTail_ops (Heap.IsList.typeIs (s := { s with heap := s.heap.push { cls := .type "slice", data := .fields #[vl, vu, vk] }, toks := tk }) (hl.push _)) list_getitem_lookup
    (wpAny_getItem_list_slice (hl.push _) (Heap.IsSliceOf.new ..) pl pu pk h0 ?_ hsz) hs ht
  refine h _ _ ⟨_, Heap.get?_push_size _ rfl, rfl, _, rfl⟩ fun b o e => Heap.get?_push_of_some _ (Heap.get?_push_of_some _ e)

set_option maxHeartbeats 4000000 in
theorem law0 {p : Program} {loose : List Str} {mean : ExcName → Option Value} {sa : Addr} {oC : Obj} {vs : List Value} {ns : List Int} (T : Top p loose mean mg mb h₀) (CH : CodeHd h₀ c P) (ok : Ok mg mb h₀) (rm : Rm A 10) (F : Fr h₀ L s.heap m)
    (N : News h₀ L s.heap [(C, oC), (P, tabObj #[])]) (hC : oC.data = .cell (some (.ref sa))) (hl : h₀.IsList sa vs.toArray) (hi : IntsAre vs ns) (h63 : ns.length ≤ 63) :
    wpAny (model prog w) A (execs (bdOf (stmtAt 14)) (lawEnv L fa c C)) (fun f s' => Done (LawEnd h₀ L P s f s')) (fun _ _ => False) s := by
  have hh := rm.hh
  have hlen := hi.length
  conv in (execs _ _) => arg 1; whnf
  refine wpAny_execs_cons ?_
  refine assign_comp_enum (h₀ := h₀) (m := m) (cl := [(Str.ofString "script", C)]) hh ?_ rfl
  refine Call_ty (ok.keeps F.keep) boot_enumerate ?_
  refine args_cons ?_
  refine List_ ?_
  iterate 8 (refine args_cons ?_; refine wpAny_Constant_int ?_)
  refine args_nil ?_
  dsimp only
  refine newList_N F N ?_
  intro h1 F1 N1
  refine args_nil ?_
  dsimp only [List.append_nil, List.nil_append, List.cons_append] at N1 ⊢
  obtain ⟨l, hlD⟩ : ∃ D : Addr, @Eq Nat D s.heap.objs.size := ⟨_, rfl⟩
  rw [← hlD] at N1 ⊢
  obtain ⟨items, N1, hit⟩ : ∃ items : List Value, News h₀ L h1 [(l, listOf items.toArray 0), (C, oC), (P, tabObj #[])] ∧ IntsAre items [0, 7, 366, 373, 3404, 3411, 57348, 3594] :=
    ⟨[_, _, _, _, _, _, _, _], N1, .cons _ _ (.cons _ _ (.cons _ _ (.cons _ _ (.cons _ _ (.cons _ _ (.cons _ _ (.cons _ _ .nil)))))))⟩
  have h8 : items.length = 8 := hit.length
  have hl1 : h1.IsList l items.toArray := ⟨_, (N1 _ (.head _)).1, rfl, _, rfl⟩
  refine call_enumerate_list (l := l) (items := items.toArray) (by exact hl1) ?_
  dsimp only
  intro h2 he2 hit2 hz2 hk2
  have hL1 : @LT.lt Nat _ L h1.objs.size := F1.ns.lt
  have hll : @LT.lt Nat _ l h1.objs.size := Heap.lt_size (N1 _ (.head _)).1
  have hab : @LE.le Nat _ h₀.objs.size L := F1.above
  have F2 : Fr h₀ L h2 m := Fr_on F1 hk2
  have e0 : h₀.get? (h1.objs.size + 1) = none := Heap.get?_none_of_le (by omega)
  have i0 : h₀.get? h1.objs.size = none := Heap.get?_none_of_le (by omega)
  refine ⟨h1.objs.size + 1, h1.objs.size, l, items.toArray, rfl, he2, hit2, hl1.at fun o q => hk2 _ _ q, (show ¬ @Eq Nat (h1.objs.size + 1) h1.objs.size by omega), ?_, ?_, ?_, F2, e0, i0, ?_, ?_, ?_, ?_⟩
  · show @Ne Nat _ _; omega
  · show @Ne Nat _ _; omega
  · rw [List.size_toArray]; omega
  · show @Ne Nat _ _; show ¬ @Eq Nat (h1.objs.size + 1) L; omega
  · show ¬ @Eq Nat (h1.objs.size) L; omega
  · intro C3 m3 s3 i x t hx hn hmk hmo hk3 hsz
    have F3 : Fr h₀ C3 s3.heap m3 := ⟨hn, fun b o q => hk3 b o (fun z => by rw [z, e0] at q; cases q) (fun z => by rw [z, i0] at q; cases q) (F2.keep b o q), by have : @LE.le Nat _ h2.objs.size C3 := hsz; omega⟩
    have hCs : @LT.lt Nat _ C h1.objs.size := Heap.lt_size (N1 _ (.tail _ (.head _))).1
    have c1 : C ≠ h1.objs.size + 1 := by show ¬ @Eq Nat _ _; omega
    have c2 : C ≠ h1.objs.size := by show ¬ @Eq Nat _ _; omega
    have hcell : s3.heap.IsCell C (some (.ref sa)) := ⟨oC, hk3 _ _ c1 c2 (hk2 _ _ (N1 _ (.tail _ (.head _))).1), hC⟩
    have hl3 := hl.at fun o q => F3.keep _ o q
    rw [List.getElem?_toArray] at hx
    obtain ⟨tx, htx⟩ := ints_at hit i (by rw [← hit.length]; exact (List.getElem?_eq_some_iff.mp hx).1)
    rw [hx] at htx
    cases htx
    generalize List.getD _ i 0 = d at *
    unfold Ev
    refine wpAny_BinOp ?_
    refine nm_loc F3.ns hmo ?_
    refine Call_bi (Ok_of F3 ok) boot_sum ?_
    refine args_cons ?_
    refine comp_list (cl := []) (fun _ => true) (fun _ y => ∃ n t, y = .int n t) hh ?_ rfl
    refine Subscript_ ?_
    refine ldCellK rfl hcell ?_
    repeat' (walk_at "mine"; try dsimp only)
    refine slice_keep (s := s3) (lo := some (i : Int)) (hi := none) (st := some 8) (by exact hl3) (.int _ _) .none (.int _ _) (by decide) ?_ (hsz := by rw [List.size_toArray, hlen, sizeLine_eq]; omega)
    intro h4 D4 hl4 hk4
    have hp4 := hi.pick (some (i : Int)) none (some 8)
    have hz4 := length_pickNums_le hi (some (i : Int)) none (some 8)
    have hlp := hp4.length
    refine ⟨D4, _, rfl, hl4, by rw [← Array.length_toList, hlp, sizeLine_eq]; omega, ?_, ?_, ?_⟩
    · intro C' m₃ s₃ v hv Fc hm
      exact wpAny_tests_nil ⟨rfl, Keeps.rfl'⟩
    · intro C' m₃ s₃ v hv _ Fc hm
      obtain ⟨n, tn, rfl, hn⟩ := ints_mem hp4 v (by simpa using hv)
      unfold Ev
      have N5 : News h4 C' s₃.heap [] := News.nil
      dsimp only at Fc
      repeat' (walk_at "mine"; try dsimp only)
      exact ⟨⟨_, _, rfl⟩, _, _, rfl, fun _ _ e => e⟩
    · intro D1 h5 tk5 ys5 hpl5 hD5 hp5 hk5
      obtain ⟨zs, hz⟩ := some_ints hp5
      obtain ⟨xs, hxs⟩ := hz.allInts.items
      have hl5 : h5.IsList D1 (intItems xs) := by rw [← hxs]; exact hpl5.isList
      dsimp only at hk5 ⊢
      refine args_nil ?_
      try dsimp only
      refine sum_intListG hh (by exact hl5) ?_
      intro h6 tk6 t6 hk6
      try dsimp only
      repeat' (walk_at "mine"; try dsimp only)
      exact ⟨⟨_, _, rfl⟩, _, _, rfl, fun b o e => hk6 _ _ (hk5 _ _ (hk4 _ _ e))⟩
  · intro D h' tk ys ws hpl hys hwl hsz F5 hk5
    obtain ⟨ed, hed⟩ := hpl
    try dsimp only at F5 hk5
    try dsimp only
    have hDs : @LE.le Nat _ h2.objs.size D := hsz
    have hPs : @LT.lt Nat _ P h1.objs.size := Heap.lt_size (N1 _ (.tail _ (.tail _ (.head _)))).1
    have hPe : h'.get? P = some (tabObj #[]) := hk5 _ _ (N1 _ (.tail _ (.tail _ (.head _)))).2.1 (show ¬ @Eq Nat P (h1.objs.size + 1) by omega) (show ¬ @Eq Nat P h1.objs.size by omega) (hk2 _ _ (N1 _ (.tail _ (.tail _ (.head _)))).1)
    have N5 : News h₀ L h' [(P, tabObj #[]), (D, listOf ys.toList.toArray ed)] := by
      intro q hq
      rcases List.mem_cons.mp hq with rfl | hq
      · exact ⟨hPe, (N1 _ (.tail _ (.tail _ (.head _)))).2⟩
      · rw [List.mem_singleton.mp hq]
        exact ⟨hed, (show ¬ @Eq Nat D L by omega), Heap.get?_none_of_le (by omega)⟩
    refine wpAny_mono (law1 (Dd := D) T CH ok rm F5 N5 rfl hys (by rw [hwl, List.size_toArray]; omega) (by rw [hwl, List.size_toArray]; omega)) (fun f s' q => ?_) fun _ _ e => e
    obtain ⟨⟨q1, h7, tk7, m7, q2, q3, q4⟩⟩ := q
    exact ⟨q1, h7, tk7, m7, q2, q3, q4⟩
end
end Mine

namespace Mine
theorem caller_room (env : Env) : Rm (callerA.deeper env) 10 where
  hh := rfl
  hd := by show 1 + claimMargin + 1 + 10 < recursionLimit; decide +kernel
  hu := by show 4 + 3 + 20 * 10 < cLine; decide +kernel
def recOk (p : Program) (i : Nat) : Prop := ∃ (j : Nat) (pos : _), (recsOf p)[j]? = some (DefRec.mk (nmOf (stmtAt i)) (arOf (stmtAt i)) (bdOf (stmtAt i)) (scOf (stmtAt i)) pos)
theorem Ok_top {p : Program} {loose : List Str} {mean : ExcName → Option Value} {mg mb : Str → Option Value} {h₁ : Heap} {tabs : List (Addr × Addr)} (hT : TabsAt tabs h₁) (T : Top p loose mean mg mb h₁)
    (hf : ∀ i ∈ ownDefs, recOk p i)
    (hb : ∀ x ∈ ownBuiltins, x ∉ startupNames ∧ x ∉ loose ∧ x ∉ (recsOf p).map (·.name) ∧ x ∉ (litsOf p).map (·.1) ∧ x ∉ (clssOf p loose).map (·.name) ∧ x ≠ "__name__") : Ok mg mb (ghostOf h₁ tabs) where
  g := ghost_ns hT T.g
  b := ghost_ns hT T.b
  lim := let ⟨mc, a, r⟩ := T.nolimit; ⟨mc, ghost_ns hT a, r⟩
  fn := fun i hi => by
    obtain ⟨j, pos, hj⟩ := hf i hi
    obtain ⟨a, o, pm, code, doc, h1, h2, h3, c, oc, vs, t, h4, h5, h6, h7⟩ := T.fn _ (List.mem_of_getElem? hj)
    refine ⟨a, o, pm, code, doc, h1, ghost_get hT h2 (fun q => by rw [q] at h3; cases h3), h3, c, oc, vs, t, h4, ghost_get hT h5 (fun q => ?_), h6, h7⟩
    rw [q] at h6
    cases h6
    cases h7
  bi := fun x hx => by
    obtain ⟨b1, b2, b3, b4, b5, b6⟩ := hb x hx
    exact ⟨T.free x b1 b2 b3 b4 b5, T.builtins x b6⟩
end Mine

namespace Mine
open_top hd for PySem.Challenge.rw_pg0032_01
end Mine
set_option maxHeartbeats 4000000 in
theorem PySem.Challenge.cw_pg0032_01_holds : PySem.Challenge.rw_pg0032_01.Holds := by
  refine Mine.hd (by
    k_go0
    have ok' := Mine.Ok_top (by assumption) (by assumption) (by
      intro i hi
      simp only [Mine.ownDefs, List.mem_cons, List.not_mem_nil, or_false] at hi
      rcases hi with rfl | rfl | rfl | rfl | rfl | rfl | rfl | rfl | rfl | rfl | rfl
      · exact ⟨0, _, rfl⟩
      · exact ⟨1, _, rfl⟩
      · exact ⟨2, _, rfl⟩
      · exact ⟨3, _, rfl⟩
      · exact ⟨4, _, rfl⟩
      · exact ⟨5, _, rfl⟩
      · exact ⟨6, _, rfl⟩
      · exact ⟨7, _, rfl⟩
      · exact ⟨8, _, rfl⟩
      · exact ⟨9, _, rfl⟩
      · exact ⟨10, _, rfl⟩) (by decide +kernel)
    refine wpAny_mono (Mine.law0 (by assumption) codeHd (by assumption) (Mine.caller_room _) (by assumption) (by assumption) (by assumption) lifted (by assumption) (by omega)) (fun f s' q => ?_) (fun _ _ e => e.elim)
    obtain ⟨⟨rfl, h', tk, m', rfl, F2, ps, hP⟩⟩ := q
    exact ⟨goodW_bool F2 (by assumption) (raisesW_false (by wrow_none_raised)) (by wrow_post), ⟨⟨ps, hP⟩, trivial⟩⟩)

