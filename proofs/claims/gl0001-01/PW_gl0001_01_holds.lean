import PyProof.Rows.All
import Wide.All
import OpenK.AllK
import Wide.FinOn
import Lean
import PySem.Challenge.RW_gl0001_01
open PySem PySem.W PySem.Calls PyProof.Rows
set_option Elab.async false
set_option maxRecDepth 100000
set_option pp.maxSteps 2500
set_option pp.deepTerms false
set_option linter.unusedVariables false
set_option linter.deprecated false

namespace Mine
set_option pp.maxSteps 2500
set_option pp.deepTerms false
set_option linter.unusedVariables false

def stm (i : Nat) : Stmt := PySem.Challenge.pw_gl0001_01.main.body.getD i (.Pass ⟨0, 0, 0, 0⟩)
def nmOf : Stmt → Str
  | .FunctionDef n .. => n
  | _ => Str.empty
def prOf : Stmt → Arguments
  | .FunctionDef _ a .. => a
  | _ => ⟨[], [], none, [], [], none, []⟩
def bdOf : Stmt → List Stmt
  | .FunctionDef _ _ b .. => b
  | _ => []
def scOf : Stmt → Scope
  | .FunctionDef _ _ _ _ _ _ s .. => s
  | _ => default
def FnOk (h : Heap) (a : Addr) (st : Stmt) : Prop :=
  ∃ o pm cd doc, h.get? a = some o ∧ o.data = .func (Calls.docDef (nmOf st) (prOf st) (bdOf st) (scOf st) pm cd doc) ∧ h.CodeRec cd (nmOf st)

theorem kRefl (s : Shared) : Keeps s s := ⟨s.heap, s.toks, rfl, fun _ _ e => e⟩
theorem kTrans {a b c : Shared} (h : Keeps a b) (g : Keeps b c) : Keeps a c := by
  obtain ⟨h1, t1, rfl, k1⟩ := h
  obtain ⟨h2, t2, rfl, k2⟩ := g
  exact ⟨h2, t2, rfl, fun b o e => k2 b o (k1 b o e)⟩
theorem kGet {a b : Shared} (h : Keeps a b) : ∀ x o, a.heap.get? x = some o → b.heap.get? x = some o := by
  obtain ⟨h1, t1, rfl, k1⟩ := h
  exact k1
theorem kMk (s : Shared) (h' : Heap) (tk : Nat) (hk : ∀ b o, s.heap.get? b = some o → h'.get? b = some o) : Keeps s { s with heap := h', toks := tk } := ⟨h', tk, rfl, hk⟩
theorem kTok (s : Shared) (tk : Nat) : Keeps s { s with toks := tk } := ⟨s.heap, tk, rfl, fun _ _ e => e⟩
theorem kPush (s : Shared) (o : Obj) (tk : Nat) : Keeps s { s with heap := s.heap.push o, toks := tk } := ⟨_, tk, rfl, fun _ _ e => Heap.get?_push_of_some _ e⟩


/-- module facts -/
structure Ad where
  ac : Addr
  cc : Addr
  bs : Addr
  lo : Addr
  lt : Addr
  lr : Addr
structure ModOk (D : Ad) (mg mb : Str → Option Value) (h : Heap) : Prop where
  lim : h.NoLimit
  g : h.Ns mainGlobals mg
  b : h.Ns builtinsNs mb
  fac : FnOk h D.ac (stm 1)
  fcc : FnOk h D.cc (stm 2)
  fbs : FnOk h D.bs (stm 4)
  flo : FnOk h D.lo (stm 6)
  flt : FnOk h D.lt (stm 7)
  flr : FnOk h D.lr (stm 8)
  gac : mg "add_callers" = some (.ref D.ac)
  gcc : mg "count_calls" = some (.ref D.cc)
  gbs : mg "_byteswap" = some (.ref D.bs)
  glo : mg "_law_orders" = some (.ref D.lo)
  glt : mg "_law_turns" = some (.ref D.lt)
  glr : mg "_law_row" = some (.ref D.lr)
  bsum : mg "sum" = none ∧ mb "sum" = some (.builtin "sum")
  blen : mg "len" = none ∧ mb "len" = some (.builtin "len")
  bsor : mg "sorted" = none ∧ mb "sorted" = some (.builtin "sorted")
  bisi : mg "isinstance" = none ∧ mb "isinstance" = some (.builtin "isinstance")
  bran : mg "range" = none ∧ mb "range" = some (.type "range")
  bbyt : mg "bytes" = none ∧ mb "bytes" = some (.type "bytes")
  blis : mg "list" = none ∧ mb "list" = some (.type "list")
  btup : mg "tuple" = none ∧ mb "tuple" = some (.type "tuple")
  bbya : mg "bytearray" = none ∧ mb "bytearray" = some (.type "bytearray")

theorem FnOk.keeps {h h' : Heap} {a : Addr} {st : Stmt} (x : FnOk h a st) (hk : ∀ b o, h.get? b = some o → h'.get? b = some o) : FnOk h' a st := by
  obtain ⟨o, pm, cd, doc, h1, h2, h3⟩ := x
  exact ⟨o, pm, cd, doc, hk _ _ h1, h2, h3.keeps hk⟩
theorem ModOk.keeps {D : Ad} {mg mb : Str → Option Value} {h h' : Heap} (x : ModOk D mg mb h) (hk : ∀ b o, h.get? b = some o → h'.get? b = some o) : ModOk D mg mb h' :=
  { x with lim := x.lim.keeps hk, g := x.g.keeps hk, b := x.b.keeps hk, fac := x.fac.keeps hk, fcc := x.fcc.keeps hk, fbs := x.fbs.keeps hk, flo := x.flo.keeps hk, flt := x.flt.keeps hk, flr := x.flr.keeps hk }

section
variable {prog : Program} {w : World} {A : Around} {E : Value → Shared → Prop} {s : Shared} {env : Env} {D : Ad} {mg mb : Str → Option Value}

/-- a global def's name -/
theorem nmG {x : Str} {pos : Pos} {v : Value} {Q : Value → Shared → Prop} (X : ModOk D mg mb s.heap) (hv : mg x = some v) (h : Q v s)
    (hg : env.globals = mainGlobals := by rfl) (hk : env.scope.kind = .function := by rfl) (hx : env.kindOf x = some .globalImplicit := by rfl)
    (hd : (x == ("__debug__" : Str)) = false := by decide) : wpAny (model prog w) A (eval (.Name x pos) env) Q E s :=
  Name_function_global hk hx (loadGlobal_global (by rw [hg]; exact X.g) hv h) hd
/-- a built-in's name -/
theorem nmB {x : Str} {pos : Pos} {v : Value} {Q : Value → Shared → Prop} (X : ModOk D mg mb s.heap) (hv : mg x = none ∧ mb x = some v) (h : Q v s)
    (hg : env.globals = mainGlobals := by rfl) (hb : env.builtins = builtinsNs := by rfl) (hk : env.scope.kind = .function := by rfl) (hx : env.kindOf x = some .globalImplicit := by rfl)
    (hd : (x == ("__debug__" : Str)) = false := by decide) : wpAny (model prog w) A (eval (.Name x pos) env) Q E s :=
  Name_function_global hk hx (loadGlobal_builtin (by rw [hg]; exact X.g) hv.1 (by rw [hb]; exact X.b) hv.2 h) hd
/-- a call of a name -/
theorem callN {id : Str} {p pos : Pos} {args : List Expr} {Q : Value → Shared → Prop}
    (h : wpAny (model prog w) A (eval (.Name id p) env) (fun f s₁ => wpAny (model prog w) A (callWith pos f [] (backTo pos (starEach args env)) []) Q E s₁) E s) :
    wpAny (model prog w) A (eval (.Call (.Name id p) args [] pos) env) Q E s := wpAny_Call_NameR h

abbrev envF (st : Stmt) (L a : Addr) (cd : Value) : Env := envOfC (nmOf st) (scOf st) L a cd
def retOf : Flow → Value
  | .ret v => v
  | _ => .none
/-- a call of a def of the text: its body -/
theorem callFn {st : Stmt} {a : Addr} {args : List Value} {Q : Value → Shared → Prop} (binds : List (Str × Value)) (X : FnOk s.heap a st) (lim : s.heap.NoLimit) (hd : A.depth < recursionLimit)
    (hbind : ∀ pm cd doc, bindArgs (Calls.docDef (nmOf st) (prOf st) (bdOf st) (scOf st) pm cd doc) ⟨args, []⟩ = pure binds)
    (hkind : (binds.all fun y => (scOf st).names.lookup y.1 == some .local || (scOf st).names.lookup y.1 == some .cell) = true)
    (h : ∀ L cd s₁, L = s.heap.objs.size → Keeps s s₁ → Fr s.heap L s₁.heap (bindL (envF st L a cd).kindOf binds fun _ => none) →
      Cl L (cellsFrom (L + 1) (scOf st).names []) s₁.heap (bindC (envF st L a cd).kindOf binds fun _ => none) →
      wpAny (model prog w) (A.deeper (envF st L a cd)) (execs (bdOf st) (envF st L a cd)) (fun f s' => Q (retOf f) s') (fun _ _ => False) s₁)
    (hco : (scOf st).isCoroutine = false := by rfl) (hgen : (scOf st).isGenerator = false := by rfl) (hk : (scOf st).kind = .function := by rfl) :
    wpAny (model prog w) A (call (.ref a) args) Q E s := by
  obtain ⟨o, pm, cd, doc, ho, hdata, hcd⟩ := X
  refine wpAny_call (call_cells_ret (binds := binds) hd ho hdata lim hcd (hbind _ _ _) (kindsX hkind _) ?_ hco hgen hk)
  intro h₁ tk F C
  refine wpAny_mono (h _ cd _ rfl (kMk s h₁ tk F.keep) F C) (fun f s' q => ?_) fun _ _ e => e
  cases f <;> exact q

theorem sp_nil {pos : Pos} {Q : List Value → Shared → Prop} (h : Q [] s) : wpAny (model prog w) A (spliced (backTo pos (starEach [] env))) Q E s := wpAny_pure h
theorem sp_cons {e : Expr} {rest : List Expr} {pos : Pos} {Q : List Value → Shared → Prop}
    (h : wpAny (model prog w) A (eval e env) (fun v s₁ => wpAny (model prog w) A (spliced (backTo pos (starEach rest env))) (fun vs s₂ => Q (v :: vs) s₂) E s₁) E s)
    (he : starEach (e :: rest) env = (false, eval e env) :: starEach rest env := by rfl) : wpAny (model prog w) A (spliced (backTo pos (starEach (e :: rest) env))) Q E s := by
  rw [he]
  exact spliced_cons h
theorem evalArgs_ns {f : Value} : ∀ {args : List (Bool × Sem Value)} {Q : Args → Shared → Prop} (_ : args.any (·.1) = false)
    (_ : wpAny (model prog w) A (spliced args) (fun vs s' => Q ⟨vs, []⟩ s') E s), wpAny (model prog w) A (evalArgs f true args []) Q E s
  | [], Q, _, h => by
    unfold evalArgs
    show wpAny _ A (spliced [] >>= _) Q E s
    refine wpAny_bind (wpAny_mono h (fun vs s' h' => ?_) fun _ _ x => x)
    refine wpAny_holding ?_
    exact wpAny_bind (wpAny_pure (wpAny_bind (wpAny_pure (wpAny_pure h'))))
  | (false, x) :: rest, Q, _, h => evalArgs_plain h
  | (true, x) :: rest, Q, hn, _ => by simp at hn
theorem cB {id : String} {first : List Value} {args : List Expr} {pos : Pos} {Q : Value → Shared → Prop}
    (h : wpAny (model prog w) A (spliced (backTo pos (starEach args env))) (fun vs s₁ => wpAny (model prog w) A (call (.builtin id) (first ++ vs)) Q E s₁) E s)
    (hn : (backTo pos (starEach args env)).any (·.1) = false := by rfl) : wpAny (model prog w) A (callWith pos (.builtin id) first (backTo pos (starEach args env)) []) Q E s :=
  callWith_builtin hn (evalArgs_ns hn h)
theorem cT {T : String} {first : List Value} {args : List Expr} {pos : Pos} {Q : Value → Shared → Prop}
    (h : wpAny (model prog w) A (spliced (backTo pos (starEach args env))) (fun vs s₁ => wpAny (model prog w) A (call (.type T) (first ++ vs)) Q E s₁) E s)
    (hn : (backTo pos (starEach args env)).any (·.1) = false := by rfl) : wpAny (model prog w) A (callWith pos (.type T) first (backTo pos (starEach args env)) []) Q E s :=
  PyProof.Rows.callWith_type hn (evalArgs_ns hn h)
theorem cF {a : Addr} {args : List Expr} {pos : Pos} {st : Stmt} {Q : Value → Shared → Prop}
    (h : wpAny (model prog w) A (spliced (backTo pos (starEach args env))) (fun vs s₁ => FnOk s₁.heap a st ∧ wpAny (model prog w) A (call (.ref a) vs) Q E s₁) E s)
    (hn : (backTo pos (starEach args env)).any (·.1) = false := by rfl) : wpAny (model prog w) A (callWith pos (.ref a) [] (backTo pos (starEach args env)) []) Q E s := by
  unfold callWith
  refine wpAny_bind (wpAny_holding (evalArgs_ns hn (wpAny_mono h (fun vs s₁ h₁ => wpAny_bind (wpAny_standAt ?_)) fun _ _ x => x)))
  obtain ⟨⟨o, pm, cd, doc, ho, hdata, _⟩, hc⟩ := h₁
  have tail : ∀ {t : Sem Value}, wpAny (model prog w) A t Q E s₁ → wpAny (model prog w) A (t >>= fun r => holding [r] point >>= fun _ => pure r) Q E s₁ :=
    fun ht => wpAny_bind (wpAny_mono ht (fun r s₂ hr => wpAny_bind (wpAny_holding (wpAny_point (wpAny_pure hr)))) fun _ _ x => x)
  simp only [hn, List.any_nil, Bool.or_false]
  refine wpAny_bind (m := keeperOf (.ref a)) ?_
  unfold keeperOf
  refine wpAny_bind (wpAny_load ho ?_)
  rw [hdata]
  refine wpAny_pure ?_
  show wpAny (model prog w) A (if _ then _ else _) Q E s₁
  refine wpAny_ite ?_
  split
  · exact tail hc
  · exact tail (by unfold callMarked; exact wpAny_keep hc)
end
end Mine

namespace Mine

/-- iterating xv from s gives n items, the ith is P i; own: the old objects that the iterator reads -/
def Src (prog : Program) (w : World) (A : Around) (xv : Value) (s : Shared) (n : Nat) (P : Nat → Value → Prop) (own : List Addr) : Prop :=
  ∀ (Q : Value → Shared → Prop) (E : Value → Shared → Prop),
    (∀ I fp St s₂, Walks prog w A I fp [I] n P St → St 0 s₂.heap → (∀ b ∈ fp, b < s₂.heap.objs.size) → (∀ b ∈ fp, b = I ∨ b ∈ own) → s.heap.objs.size ≤ I → (∀ i h, St i h → ∃ o, h.get? I = some o) → Keeps s s₂ → Q (.ref I) s₂) →
    wpAny (model prog w) A (pyIter xv) Q E s
/-- all but wr is kept -/
def KeepsBut (wr : List Addr) (s s' : Shared) : Prop := ∃ h' tk, s' = { s with heap := h', toks := tk } ∧ ∀ b o, b ∉ wr → s.heap.get? b = some o → h'.get? b = some o
theorem Keeps.but {s s' : Shared} {wr : List Addr} (h : Keeps s s') : KeepsBut wr s s' := by
  obtain ⟨h1, t1, rfl, k1⟩ := h
  exact ⟨h1, t1, rfl, fun b o _ e => k1 b o e⟩
theorem KeepsBut.trans {a b c : Shared} {wr : List Addr} (h : KeepsBut wr a b) (g : KeepsBut wr b c) : KeepsBut wr a c := by
  obtain ⟨h1, t1, rfl, k1⟩ := h
  obtain ⟨h2, t2, rfl, k2⟩ := g
  exact ⟨h2, t2, rfl, fun x o hx e => k2 x o hx (k1 x o hx e)⟩
theorem KeepsBut.mono {s s' : Shared} {wr wr' : List Addr} (h : KeepsBut wr s s') (hw : ∀ b ∈ wr, b ∈ wr') : KeepsBut wr' s s' := by
  obtain ⟨h1, t1, rfl, k1⟩ := h
  exact ⟨h1, t1, rfl, fun b o hb e => k1 b o (fun q => hb (hw b q)) e⟩
theorem KeepsBut.get {wr : List Addr} {s s' : Shared} (h : KeepsBut wr s s') : ∀ b o, b ∉ wr → s.heap.get? b = some o → s'.heap.get? b = some o := by
  obtain ⟨h1, t1, rfl, k1⟩ := h
  exact k1
/-- what was not there may be changed -/
theorem KeepsBut.new {a b c : Shared} {wr : List Addr} (h : Keeps a b) (g : KeepsBut wr b c) (hn : ∀ x ∈ wr, a.heap.get? x = none) : Keeps a c := by
  obtain ⟨h1, t1, rfl, k1⟩ := h
  obtain ⟨h2, t2, rfl, k2⟩ := g
  refine ⟨h2, t2, rfl, fun x o e => k2 x o (fun hx => ?_) (k1 x o e)⟩
  rw [hn x hx] at e; cases e
theorem KeepsBut.newB {a b c : Shared} {wr wr' : List Addr} (h : KeepsBut wr a b) (g : KeepsBut wr' b c) (hn : ∀ x ∈ wr', x ∈ wr ∨ a.heap.get? x = none) : KeepsBut wr a c := by
  obtain ⟨h1, t1, rfl, k1⟩ := h
  obtain ⟨h2, t2, rfl, k2⟩ := g
  refine ⟨h2, t2, rfl, fun x o hx e => k2 x o (fun hx' => ?_) (k1 x o hx e)⟩
  rcases hn x hx' with q | q
  · exact hx q
  · rw [q] at e; cases e

theorem noneAt {h : Heap} {a : Addr} (ha : h.objs.size ≤ a) : h.get? a = none := by
  cases e : h.get? a with
  | none => rfl
  | some o' => exact absurd (Heap.lt_size e) (Nat.not_lt.mpr ha)

section
variable {prog : Program} {w : World} {A : Around} {E : Value → Shared → Prop} {s : Shared} {env : Env}

theorem Src.lt {xv : Value} {n : Nat} {P : Nat → Value → Prop} {own : List Addr} (h : Src prog w A xv s n P own) : Src prog w A xv s n (fun i v => i < n ∧ P i v) own := by
  intro Q E hQ
  refine h Q E fun I fp St s₂ W hst hfp hwr hI hz k => hQ I fp St s₂ ?_ hst hfp hwr hI hz k
  exact { W with item := fun i s Q E hi st hQ => W.item i s Q E hi st fun v h' tk hP => hQ v h' tk ⟨hi, hP⟩ }
theorem src_range {r : Addr} {a b : Int} {t u v : Tok} (hA : A.handled = none) (hr : IsRange s.heap r a b 1 t u v) (h1 : -(2 ^ 62) ≤ a) (h2 : a < 2 ^ 62) (h3 : -(2 ^ 62) ≤ b) (h4 : b < 2 ^ 62) :
    Src prog w A (.ref r) s (b - a).toNat (fun i v => ∃ t, v = .int (a + (i : Int)) t) [] := by
  intro Q E h
  refine wpAny_pyIter_range hr (small_one h1 h2 h3 h4) ?_
  have W : Walks prog w A s.heap.objs.size [s.heap.objs.size] [s.heap.objs.size] (b - a).toNat (fun i v => ∃ t, v = .int (a + (i : Int)) t) (fun i h => IsRangeIter h s.heap.objs.size (a + (i : Nat) * 1) (((b - a).toNat : Int) - (i : Nat)) 1) := by
    have := Walks.range (prog := prog) (w := w) hA s.heap.objs.size a 1 (b - a).toNat
    simpa using this
  refine h _ _ _ _ W ?_ ?_ ?_ (Nat.le_refl _) (fun _ _ st => ⟨_, st⟩) (kPush s _ s.toks)
  · have e : Builtin.Range.rangeSize a b 1 = (((b - a).toNat : Int) - ((0 : Nat) : Int)) := by rw [rangeSize_one]; split <;> omega
    have e2 : a + ((0 : Nat) : Int) * 1 = a := by simp
    show IsRangeIter _ _ _ _ _
    rw [← e, e2]
    exact Heap.get?_push_size _ rfl
  · intro b hb
    rw [List.mem_singleton.mp hb]
    simp [Heap.size_push]
  · intro b hb
    exact .inl (List.mem_singleton.mp hb)

theorem src_list {l : Addr} {items : Array Value} (hA : A.handled = none) (hl : s.heap.IsList l items) :
    Src prog w A (.ref l) s items.size (fun i v => items[i]? = some v) [l] := by
  intro Q E h
  refine wpAny_pyIter_list hl ?_
  have hlt : l < s.heap.objs.size := by obtain ⟨o, ho, _⟩ := hl; exact Heap.lt_size ho
  refine h _ _ _ _ (Walks.list hA s.heap.objs.size l (Nat.ne_of_lt hlt) items) ?_ ?_ ?_ (Nat.le_refl _) (fun _ _ st => let ⟨o, ho, _⟩ := st.1; ⟨o, ho⟩) (kPush s _ s.toks)
  · exact ⟨⟨_, Heap.get?_push_size _ rfl, rfl, rfl⟩, hl.push _⟩
  · intro b hb
    rcases List.mem_cons.mp hb with rfl | hb
    · simp [Heap.size_push]
    · rw [List.mem_singleton.mp hb]
      show l < (s.heap.push _).objs.size
      rw [Heap.size_push]; exact Nat.lt_succ_of_lt hlt
  · intro b hb
    rcases List.mem_cons.mp hb with rfl | hb
    · exact .inl rfl
    · exact .inr hb

/-- a comprehension of one clause -/
theorem comp_rule {elt iter : Expr} {x : Str} {px : Pos} {ifs : List Expr} {scope : Scope} {pos : Pos} {Q : Value → Shared → Prop} (cl : List (Str × Addr)) (p : Value → Bool) (F : Value → Value → Prop)
    (hclos : closureFor scope env = pure cl) (hcell : ∀ y ∈ scope.names, y.2 ≠ .cell) (hkind : scope.kind = .function)
    (hnames : ∀ y ∈ scope.names, y.2 = .local → scope.names.lookup y.1 = some .local) (hx : scope.names.lookup x = some .local)
    (h : wpAny (model prog w) A (eval iter env) (fun xv s₁ => Keeps s s₁ ∧ ∃ n P own, Src prog w A xv s₁ n P own ∧ n ≤ sizeLine ∧
      (∀ C i v s₃ m₃ E', P i v → s₃.heap.Ns C m₃ → m₃ x = some v → (∀ b o, s.heap.get? b = some o → s₃.heap.get? b = some o) →
        wpAny (model prog w) A (forIn ifs true fun c r => if r = true then do let ok ← isTrue c (compEnvC scope cl C env) (eval c (compEnvC scope cl C env)); pure (ForInStep.yield ok) else pure (ForInStep.yield r))
          (fun ok s₄ => ok = p v ∧ Keeps s₃ s₄) E' s₃) ∧
      (∀ C i v s₃ m₃ E', P i v → p v = true → s₃.heap.Ns C m₃ → m₃ x = some v → (∀ b o, s.heap.get? b = some o → s₃.heap.get? b = some o) →
        wpAny (model prog w) A (eval elt (compEnvC scope cl C env)) (fun y s₄ => F v y ∧ Keeps s₃ s₄) E' s₃) ∧
      (∀ D s' ys (vs : List Value), Keeps s s' → s.heap.get? D = none → PlainL s'.heap D ys → vs.length = n → (∀ j v, vs[j]? = some v → P j v) → Paired F (vs.filter p) ys.toList → Q (.ref D) s')) E s)
    (hs : ∀ x, foldedSetIterable iter env x = pure x := by intro _; rfl) :
    wpAny (model prog w) A (eval (.ListComp elt [⟨.Name x px, iter, ifs, 0⟩] scope pos) env) Q E s := by
  refine wpAny_ListComp_free p F hclos hcell hkind hnames hx (wpAny_mono h (fun xv s₁ h₁ => ?_) fun _ _ e => e) hs
  obtain ⟨k₁, n, P, own, hsrc, hn, htest, helt, hQ⟩ := h₁
  refine hsrc _ _ ?_
  intro I fp St s₂ W hst hfp _ hI _ k₂
  have k₁₂ := kTrans k₁ k₂
  have up : ∀ (g : Heap), (∀ b o, b ∉ [I] → s₂.heap.get? b = some o → g.get? b = some o) → ∀ b o, s.heap.get? b = some o → g.get? b = some o := by
    intro g hg b o e
    refine hg b o (fun hb => ?_) (kGet k₁₂ b o e)
    rw [List.mem_singleton.mp hb] at e
    exact absurd (Heap.lt_size (kGet k₁ _ o e)) (Nat.not_lt.mpr hI)
  refine ⟨I, fp, [I], n, P, St, rfl, W, hn, hst, hfp, ⟨?_, ?_⟩, ?_⟩
  · intro C i v s₃ m₃ E' _ hP hns hm hk _
    exact htest C i v s₃ m₃ E' hP hns hm (up _ hk)
  · intro C i v s₃ m₃ E' _ hP hp hns hm hk _
    exact helt C i v s₃ m₃ E' hP hp hns hm (up _ hk)
  · intro D h' tk ys vs hD _ hl hlen hP hF hk
    have k₁₂' := k₁₂
    obtain ⟨g₂, t₂, rfl, _⟩ := k₁₂
    refine hQ D _ ys vs ?_ ?_ (let ⟨n, e⟩ := hl; ⟨_, n, e, rfl, rfl, rfl⟩) hlen hP hF
    · exact kMk s h' tk (up _ hk)
    · cases e : s.heap.get? D with
      | none => rfl
      | some o => rw [kGet k₁₂' _ _ e] at hD; cases hD

/-- an item of bytes -/
theorem sub_bytes {value slice : Expr} {pos : Pos} {l : List UInt8} {Q : Value → Shared → Prop} (hfit : l.length ≤ 1099511627776)
    (h : wpAny (model prog w) A (eval value env) (fun o s₁ => wpAny (model prog w) A (eval slice env) (fun i s₂ => ∃ t k u, o = .bytes l.toArray t ∧ i = .int k u ∧ 0 ≤ k ∧ k < l.length ∧
      ∀ t', Q (.int (l.getD k.toNat 0).toNat t') { s₂ with toks := s₂.toks + 1 }) E s₁) E s)
    (hs : ∀ o i, subscripted slice false o i = operate [o, i] (getItem o i) := by intro _ _; with_unfolding_all rfl) :
    wpAny (model prog w) A (eval (.Subscript value slice pos) env) Q E s := by
  refine Subscript_ (wpAny_mono h (fun o s₁ h₁ => wpAny_mono h₁ (fun i s₂ h₂ => ?_) fun _ _ e => e) fun _ _ e => e)
  obtain ⟨t, k, u, rfl, rfl, h0, h1, hQ⟩ := h₂
  exact tail_any (typeIs_bytes _ _ _) FB.slot_bytes_getitem.lookup (getItem_bytes hfit h0 h1 (hQ _)) (hs _ _)

/-- a store under a local name -/
theorem st_loc {x : Str} {v : Value} {m : Str → Option Value} {Q : Unit → Shared → Prop} (hns : s.heap.Ns env.locals m)
    (h : ∀ s', KeepsBut [env.locals] s s' → s'.heap.Ns env.locals (fun y => if y = x then some v else m y) → Q () s')
    (hl : env.kindOf x = some .local := by rfl) (hk : env.scope.kind = .function := by rfl) : wpAny (model prog w) A (storeName env x v) Q E s :=
  wpAny_storeName_local hl hns (fun h' hn hs => h _ ⟨h', _, rfl, fun b o hb e => hs.extBut b o (fun q => hb (List.mem_singleton.mpr q)) e⟩ hn) (by rw [hk]; rfl)
/-- a store into a cell -/
theorem st_cell {x : Str} {c : Addr} {v : Value} {v₀ : Option Value} {Q : Unit → Shared → Prop} (hc : s.heap.IsCell c v₀)
    (h : ∀ s', KeepsBut [c] s s' → s'.heap.IsCell c (some v) → Q () s')
    (hlk : env.cells.lookup x = some c := by rfl) (hl : env.kindOf x = some .cell := by rfl) (hk : env.scope.kind = .function := by rfl) : wpAny (model prog w) A (storeName env x v) Q E s :=
  wpAny_storeName_cell hk hl hlk hc fun h' hv hs => h _ ⟨h', s.toks, rfl, fun b o hb e => hs.extBut b o (fun q => hb (List.mem_singleton.mpr q)) e⟩ hv

/-- a loop -/
theorem for_rule {target iter : Expr} {body : List Stmt} {pos : Pos} {Q : Flow → Shared → Prop}
    (h : wpAny (model prog w) A (eval iter env) (fun xv s₁ => ∃ n P own wr, ∃ Inv : Addr → Nat → Heap → Prop, Src prog w A xv s₁ n P own ∧ (∀ b ∈ wr, b ∉ own ∧ ∃ o, s₁.heap.get? b = some o) ∧
      (∀ I s₂, s₁.heap.objs.size ≤ I → Keeps s₁ s₂ → Inv I 0 s₂.heap) ∧
      (∀ I i h h', Inv I i h → (∀ b o, b ≠ I → h.get? b = some o → h'.get? b = some o) → s₁.heap.objs.size ≤ I → Inv I i h') ∧
      (∀ I i v s₂, i < n → P i v → s₁.heap.objs.size ≤ I → (∃ o, s₂.heap.get? I = some o) → Inv I i s₂.heap → wpAny (model prog w) A (assign target env v) (fun _ s₃ => wpAny (model prog w) A (execs body env)
        (fun f s₄ => f = .next ∧ Inv I (i + 1) s₄.heap ∧ KeepsBut wr s₂ s₄) (fun _ _ => False) s₃) (fun _ _ => False) s₂) ∧
      (∀ I s₂, s₁.heap.objs.size ≤ I → Inv I n s₂.heap → (∃ h tk, s₂ = { s₁ with heap := h, toks := tk }) → Q .next s₂)) E s)
    (hs : ∀ x, foldedSetIterable iter env x = pure x := by intro _; rfl)
    (ht : ∀ it v, letOwnedTupleGo target it v = pure () := by intro _ _; rfl) :
    wpAny (model prog w) A (exec (.For target iter body [] pos) env) Q E s := by
  refine wpAny_For (wpAny_mono h (fun xv s₁ h₁ => ?_) fun _ _ e => e) hs
  obtain ⟨n, P, own, wr, Inv, hsrc, hwr, h0, hstab, hturn, hend⟩ := h₁
  refine hsrc _ _ ?_
  intro I fp St s₂ W hst hfp hfo hI hz k₂
  have hfw : ∀ b ∈ fp, b ∉ wr := fun b hb hbw => by
    rcases hfo b hb with q | q
    · obtain ⟨o, ho⟩ := (hwr b hbw).2
      rw [q] at ho
      exact absurd (Heap.lt_size ho) (Nat.not_lt.mpr hI)
    · exact (hwr b hbw).1 q
  have hIf : I ∈ fp := W.sub I (List.mem_singleton.mpr rfl)
  have hIwr : I ∉ wr := hfw I hIf
  have k₂' := k₂
  obtain ⟨g₂, t₂, e₂, _⟩ := k₂'
  refine codeAny_forLoop (fun k s' => ∃ h tk i, s' = { s₁ with heap := h, toks := tk } ∧ St i h ∧ Inv I i h ∧ i ≤ n ∧ k = n + 1 - i) ?_ (n + 1) ?_ (fun v => ht (.ref I) v)
  · rintro k s' ⟨hh, tk, i, rfl, hSt, hInv, hi, rfl⟩
    by_cases hlt : i < n
    · refine W.item i _ _ _ hlt hSt fun v h₁ tk₁ hP hSt₁ hk₁ => ?_
      dsimp only
      have hInv₁ : Inv I i h₁ := hstab I i hh h₁ hInv (fun b o hb e => hk₁ b o (fun q => hb (List.mem_singleton.mp q)) e) hI
      refine wpAny_mono (hturn I i v { s₁ with heap := h₁, toks := tk₁ } hlt hP hI (hz _ _ hSt₁) hInv₁) (fun _ s₃ h₃ => ?_) fun _ _ e => e.elim
      refine wpAny_mono h₃ (fun f s₄ h₄ => ?_) fun _ _ e => e.elim
      obtain ⟨rfl, hInv₄, g₄, t₄, rfl, k₄⟩ := h₄
      exact ⟨n + 1 - (i + 1), by omega, g₄, t₄, i + 1, rfl, W.frame _ _ _ hSt₁ fun b hb o e => k₄ b o (hfw b hb) e, hInv₄, hlt, rfl⟩
    · have : i = n := by omega
      subst this
      refine W.done _ _ _ hSt fun h₁ tk₁ hk₁ => ?_
      dsimp only
      refine wpAny_execs_nil ?_
      exact hend I { s₁ with heap := h₁, toks := tk₁ } hI (hstab I i hh h₁ hInv (fun b o hb e => hk₁ b o (fun q => hb (List.mem_singleton.mp q)) e) hI) ⟨h₁, tk₁, rfl⟩
  · exact ⟨s₂.heap, s₂.toks, 0, by rw [e₂], hst, h0 I s₂ hI k₂, Nat.zero_le _, by omega⟩
end
end Mine

namespace Mine
section
variable {prog : Program} {w : World} {A : Around} {E : Value → Shared → Prop} {s : Shared} {env : Env}

theorem PlainL.new (h : Heap) (its : Array Value) : PlainL (h.push { cls := .type "list", data := .seq its }) h.objs.size its := ⟨_, _, Heap.get?_push_size _ rfl, rfl, rfl, rfl⟩
theorem PlainL.but {h h' : Heap} {a : Addr} {its : Array Value} {wr : List Addr} (x : PlainL h a its) (hk : ∀ b o, b ∉ wr → h.get? b = some o → h'.get? b = some o) (ha : a ∉ wr) : PlainL h' a its :=
  let ⟨o, n, e, r⟩ := x; ⟨o, n, hk a o ha e, r⟩
theorem PlainL.some {h : Heap} {a : Addr} {its : Array Value} (x : PlainL h a its) : ∃ o, h.get? a = some o := let ⟨o, _, e, _⟩ := x; ⟨o, e⟩

/-- a list's display -/
theorem r_list {elts : List Expr} {pos : Pos} {Q : Value → Shared → Prop}
    (h : wpAny (model prog w) A (spliced (backTo pos (starEach elts env))) (fun vs s₁ => vs.length ≤ sizeLine ∧ ∀ D s₂, Keeps s₁ s₂ → s₁.heap.get? D = none → PlainL s₂.heap D vs.toArray → Q (.ref D) s₂) E s) :
    wpAny (model prog w) A (eval (.List elts pos) env) Q E s :=
  wpAny_List (wpAny_mono h (fun vs s₁ h₁ => ⟨h₁.1, h₁.2 _ _ (kPush s₁ _ s₁.toks) (noneAt (Nat.le_refl _)) (PlainL.new _ _)⟩) fun _ _ e => e)

/-- two lists glued -/
theorem r_add_list {l b : Addr} {vs ws : List Value} {Q : Value → Shared → Prop} (hl : PlainL s.heap l vs.toArray) (hb : PlainL s.heap b ws.toArray) (hsz : vs.length + ws.length ≤ sizeLine)
    (h : ∀ D s', Keeps s s' → s.heap.get? D = none → PlainL s'.heap D (vs ++ ws).toArray → Q (.ref D) s') : wpAny (model prog w) A (binaryOp .Add (.ref l) (.ref b)) Q E s := by
  obtain ⟨⟨c1, d1, x1, y1⟩, n, e1, h1, h2, h3⟩ := hl
  obtain ⟨⟨c2, d2, x2, y2⟩, m, e2, g1, g2, g3⟩ := hb
  subst h1 h2 h3 g1 g2 g3
  refine concat_meets ⟨_, e1, rfl⟩ ⟨_, e2, rfl⟩ noFill_list_add seq_list_add PySem.F.slot_list_add PySem.F.entry_list_add (PySem.F.args_list_add_2 _ _) (list_addW l b vs.toArray ws.toArray n m none none y1 y2 (by simpa using hsz)) ⟨e1, e2, ?_⟩
  have e : vs.toArray ++ ws.toArray = (vs ++ ws).toArray := by simp
  rw [e]
  exact h _ _ (kPush s _ s.toks) (noneAt (Nat.le_refl _)) (PlainL.new _ _)

/-- an item of a list -/
theorem sub_list {value slice : Expr} {pos : Pos} {Q : Value → Shared → Prop}
    (h : wpAny (model prog w) A (eval value env) (fun o s₁ => wpAny (model prog w) A (eval slice env) (fun i s₂ => ∃ l items k u x, o = .ref l ∧ i = .int k u ∧ s₂.heap.IsList l items ∧ 0 ≤ k ∧ k < 2 ^ 63 ∧ items[k.toNat]? = some x ∧ Q x s₂) E s₁) E s)
    (hs : ∀ o i, subscripted slice false o i = operate [o, i] (getItem o i) := by intro _ _; with_unfolding_all rfl) :
    wpAny (model prog w) A (eval (.Subscript value slice pos) env) Q E s := by
  refine Subscript_ (wpAny_mono h (fun o s₁ h₁ => wpAny_mono h₁ (fun i s₂ h₂ => ?_) fun _ _ e => e) fun _ _ e => e)
  obtain ⟨l, items, k, u, x, rfl, rfl, hl, h0, h1, hx, hQ⟩ := h₂
  exact tail_any hl.typeIs slot_list_getitem.lookup (wpAny_getItem_list hl h0 h1 hx hQ) (hs _ _)
theorem sub_list_neg {value slice : Expr} {pos : Pos} {Q : Value → Shared → Prop}
    (h : wpAny (model prog w) A (eval value env) (fun o s₁ => wpAny (model prog w) A (eval slice env) (fun i s₂ => ∃ l items k u x, o = .ref l ∧ i = .int k u ∧ s₂.heap.IsList l items ∧ k < 0 ∧ -(items.size : Int) ≤ k ∧ -(2 ^ 63) ≤ k ∧ items[(k + items.size).toNat]? = some x ∧ Q x s₂) E s₁) E s)
    (hs : ∀ o i, subscripted slice false o i = operate [o, i] (getItem o i) := by intro _ _; with_unfolding_all rfl) :
    wpAny (model prog w) A (eval (.Subscript value slice pos) env) Q E s := by
  refine Subscript_ (wpAny_mono h (fun o s₁ h₁ => wpAny_mono h₁ (fun i s₂ h₂ => ?_) fun _ _ e => e) fun _ _ e => e)
  obtain ⟨l, items, k, u, x, rfl, rfl, hl, h0, h1, h2, hx, hQ⟩ := h₂
  exact tail_any hl.typeIs slot_list_getitem.lookup (wpAny_getItem_list_neg hl h0 h1 h2 hx hQ) (hs _ _)

/-- a slice's parts -/
theorem r_slice {lo hi st : Option Expr} {p : Pos} {Q : Value → Shared → Prop}
    (h : wpAny (model prog w) A (evalPart lo env) (fun l s₁ => wpAny (model prog w) A (evalPart hi env) (fun u s₂ => wpAny (model prog w) A (evalPart st env) (fun k s₃ =>
      ∀ D s₄, Keeps s₃ s₄ → s₄.heap.IsSliceOf D l u k → Q (.ref D) s₄) E s₂) E s₁) E s) : wpAny (model prog w) A (eval (.Slice lo hi st p) env) Q E s :=
  wpAny_Slice (wpAny_mono h (fun l s₁ h₁ => wpAny_mono h₁ (fun u s₂ h₂ => wpAny_mono h₂ (fun k s₃ h₃ => h₃ _ _ (kPush s₃ _ s₃.toks) (Heap.IsSliceOf.new _ _ _ _)) fun _ _ e => e) fun _ _ e => e) fun _ _ e => e)

/-- a slice of a list -/
theorem sub_slice {value : Expr} {lo hi st : Option Expr} {p pos : Pos} {Q : Value → Shared → Prop}
    (h : wpAny (model prog w) A (eval value env) (fun o s₁ => wpAny (model prog w) A (eval (.Slice lo hi st p) env) (fun i s₂ => ∃ l sl items vl vu vk lo' hi' st', o = .ref l ∧ i = .ref sl ∧ s₂.heap.IsList l items ∧
      s₂.heap.IsSliceOf sl vl vu vk ∧ IsPart vl lo' ∧ IsPart vu hi' ∧ IsPart vk st' ∧ st' ≠ some 0 ∧ items.size ≤ sizeLine ∧
      ∀ D s₃, Keeps s₂ s₃ → s₂.heap.get? D = none → PlainL s₃.heap D (slicePick items lo' hi' st') → Q (.ref D) s₃) E s₁) E s)
    (ops : Value → Value → List Value) (hs : ∀ o i, subscripted (.Slice lo hi st p) false o i = operate (ops o i) (getItem o i)) :
    wpAny (model prog w) A (eval (.Subscript value (.Slice lo hi st p) pos) env) Q E s := by
  refine Subscript_ (wpAny_mono h (fun o s₁ h₁ => wpAny_mono h₁ (fun i s₂ h₂ => ?_) fun _ _ e => e) fun _ _ e => e)
  obtain ⟨l, sl, items, vl, vu, vk, lo', hi', st', rfl, rfl, hl, hsl, p1, p2, p3, h0, hz, hQ⟩ := h₂
  exact tail_any hl.typeIs slot_list_getitem.lookup (wpAny_getItem_list_slice hl hsl p1 p2 p3 h0 (hQ _ _ (kPush s₂ _ s₂.toks) (noneAt (Nat.le_refl _)) (PlainL.new _ _)) hz) (hs _ _)
/-- a slice of bytes -/
theorem sub_slice_b {value : Expr} {lo hi : Option Expr} {p pos : Pos} {Q : Value → Shared → Prop}
    (h : wpAny (model prog w) A (eval value env) (fun o s₁ => wpAny (model prog w) A (eval (.Slice lo hi none p) env) (fun i s₂ => ∃ b t sl vl vu lo' hi', o = .bytes b t ∧ i = .ref sl ∧
      s₂.heap.IsSliceOf sl vl vu .none ∧ IsPart vl lo' ∧ IsPart vu hi' ∧ b.size ≤ sizeLine ∧
      ∀ s₃ t', Keeps s₂ s₃ → Q (.bytes (KBy.picked b lo' hi') t') s₃) E s₁) E s) :
    wpAny (model prog w) A (eval (.Subscript value (.Slice lo hi none p) pos) env) Q E s := by
  refine Subscript_ (wpAny_mono h (fun o s₁ h₁ => wpAny_mono h₁ (fun i s₂ h₂ => ?_) fun _ _ e => e) fun _ _ e => e)
  obtain ⟨b, t, sl, vl, vu, lo', hi', rfl, rfl, hsl, p1, p2, hz, hQ⟩ := h₂
  refine tail_any (typeIs_bytes _ _ _) FB.slot_bytes_getitem.lookup (ops := [.ref sl, .bytes b t]) ?_ (by with_unfolding_all rfl)
  exact getItem_meets (typeIs_bytes _ _ _) (by decide) FB.slot_bytes_getitem FB.entry_bytes_getitem (FB.args_bytes_getitem_2 _ _) (KBc.meets_slice2 b t _ p1 p2)
    ⟨hsl, Nat.le_trans (KBc.size_picked_le b lo' hi') hz, fun t' k => hQ _ _ (kTok _ _)⟩

theorem pick_mid (l : List UInt8) (k : Nat) (hk : k < l.length) : KBy.picked l.toArray (some (k : Int)) (some ((k : Int) + 1)) = [l[k]].toArray := by
  rw [KBc.picked_eq]
  have e : ((k : Int) + 1) = ((k + 1 : Nat) : Int) := by simp
  simp only [Option.elim, e, clipAt_nat, List.size_toArray]
  congr 1
  rw [Nat.min_eq_left (by omega), Nat.min_eq_left (by omega), show k + 1 - k = 1 by omega, List.drop_eq_getElem_cons hk]
  rfl
theorem pick_lo (l : List UInt8) (k : Nat) (hk : k ≤ l.length) : KBy.picked l.toArray none (some (k : Int)) = (l.take k).toArray := by
  rw [KBc.picked_eq]
  simp only [Option.elim, clipAt_nat, List.size_toArray]
  congr 1
  rw [Nat.min_eq_left hk]
  rfl
theorem pick_hi (l : List UInt8) (k : Nat) (hk : k + 1 ≤ l.length) : KBy.picked l.toArray (some ((k : Int) + 1)) none = (l.drop (k + 1)).toArray := by
  rw [KBc.picked_eq]
  have e : ((k : Int) + 1) = ((k + 1 : Nat) : Int) := by simp
  simp only [Option.elim, e, clipAt_nat, List.size_toArray]
  congr 1
  rw [Nat.min_eq_left hk, List.take_of_length_le (by simp)]

theorem r_range1 {n : Int} {t : Tok} {Q : Value → Shared → Prop} (h : ∀ r s' u v, Keeps s s' → IsRange s'.heap r 0 n 1 u t v → Q (.ref r) s') :
    wpAny (model prog w) A (call (.type "range") [.int n t]) Q E s := call_range_1 (h _ _ _ _ (kPush s _ _) (IsRange.new ..))
theorem r_range2 {a b : Int} {t u : Tok} {Q : Value → Shared → Prop} (h : ∀ r s' v, Keeps s s' → IsRange s'.heap r a b 1 t u v → Q (.ref r) s') :
    wpAny (model prog w) A (call (.type "range") [.int a t, .int b u]) Q E s := call_range_2 (h _ _ _ (kPush s _ _) (IsRange.new ..))
theorem nsEx {h : Heap} {L : Addr} {m : Str → Option Value} (x : h.Ns L m) : ∃ o, h.get? L = some o := let ⟨o, _, _, e, _⟩ := x; ⟨o, e⟩
theorem cellEx {h : Heap} {c : Addr} {v : Option Value} (x : h.IsCell c v) : ∃ o, h.get? c = some o := let ⟨o, e, _⟩ := x; ⟨o, e⟩
theorem neNew {h : Heap} {a b : Addr} (ha : ∃ o, h.get? a = some o) (hb : h.get? b = none) : b ≠ a := by
  rintro rfl
  obtain ⟨o, e⟩ := ha
  rw [hb] at e; cases e
theorem ltNew {h : Heap} {a b : Addr} (ha : ∃ o, h.get? a = some o) (hb : h.objs.size ≤ b) : a < b := by
  obtain ⟨o, e⟩ := ha
  exact Nat.lt_of_lt_of_le (Heap.lt_size e) hb
theorem nsBut {h h' : Heap} {L : Addr} {m : Str → Option Value} {wr : List Addr} (x : h.Ns L m) (hk : ∀ b o, b ∉ wr → h.get? b = some o → h'.get? b = some o) (hL : L ∉ wr) : h'.Ns L m :=
  x.at' fun o e => hk L o hL e
theorem cellBut {h h' : Heap} {c : Addr} {v : Option Value} {wr : List Addr} (x : h.IsCell c v) (hk : ∀ b o, b ∉ wr → h.get? b = some o → h'.get? b = some o) (hc : c ∉ wr) : h'.IsCell c v :=
  let ⟨o, e, d⟩ := x; ⟨o, hk c o hc e, d⟩
theorem nsOne {h h' : Heap} {L I : Addr} {m : Str → Option Value} (x : h.Ns L m) (hk : ∀ b o, b ≠ I → h.get? b = some o → h'.get? b = some o) (hL : @LT.lt Nat _ L I) : h'.Ns L m :=
  x.at' fun o e => hk L o (Nat.ne_of_lt hL) e
theorem cellOne {h h' : Heap} {c I : Addr} {v : Option Value} (x : h.IsCell c v) (hk : ∀ b o, b ≠ I → h.get? b = some o → h'.get? b = some o) (hc : @LT.lt Nat _ c I) : h'.IsCell c v :=
  let ⟨o, e, d⟩ := x; ⟨o, hk c o (Nat.ne_of_lt hc) e, d⟩
theorem plOne {h h' : Heap} {a I : Addr} {its : Array Value} (x : PlainL h a its) (hk : ∀ b o, b ≠ I → h.get? b = some o → h'.get? b = some o) (ha : a ≠ I) : PlainL h' a its :=
  let ⟨o, n, e, r⟩ := x; ⟨o, n, hk a o ha e, r⟩
theorem oldKeep {a b : Heap} {wr : List Addr} {c : Heap} (h : ∀ x o, a.get? x = some o → b.get? x = some o) (g : ∀ x o, x ∉ wr → b.get? x = some o → c.get? x = some o) (hn : ∀ x ∈ wr, a.objs.size ≤ x) :
    ∀ x o, a.get? x = some o → c.get? x = some o := fun x o e => g x o (fun hx => absurd (Heap.lt_size e) (Nat.not_lt.mpr (hn x hx))) (h x o e)
theorem notIn1 {a I : Addr} (h : @LT.lt Nat _ a I) : I ∉ [a] := fun hm => Nat.ne_of_gt h (List.mem_singleton.mp hm)
theorem notIn2 {a b I : Addr} (h : @LT.lt Nat _ a I) (g : @LT.lt Nat _ b I) : I ∉ [a, b] := fun hm => by
  rcases List.mem_cons.mp hm with q | q
  · exact Nat.ne_of_gt h q
  · exact Nat.ne_of_gt g (List.mem_singleton.mp q)
theorem oldOne {a h h' : Heap} {I : Addr} (g : ∀ b o, a.get? b = some o → h.get? b = some o) (hk : ∀ b o, b ≠ I → h.get? b = some o → h'.get? b = some o) (hI : a.objs.size ≤ I) : ∀ b o, a.get? b = some o → h'.get? b = some o :=
  fun b o e => hk b o (Nat.ne_of_lt (Nat.lt_of_lt_of_le (Heap.lt_size e) hI)) (g b o e)
theorem keepsOf {a b : Shared} (hs : ∃ h tk, b = { a with heap := h, toks := tk }) (hk : ∀ x o, a.heap.get? x = some o → b.heap.get? x = some o) : Keeps a b := by
  obtain ⟨h, tk, rfl⟩ := hs
  exact ⟨h, tk, rfl, hk⟩
theorem KeepsBut.same {wr : List Addr} {a b : Shared} (h : KeepsBut wr a b) : ∃ h tk, b = { a with heap := h, toks := tk } := by
  obtain ⟨h, tk, rfl, _⟩ := h
  exact ⟨h, tk, rfl⟩
theorem sameTrans {a b c : Shared} (h : ∃ h tk, b = { a with heap := h, toks := tk }) (g : ∃ h tk, c = { b with heap := h, toks := tk }) : ∃ h tk, c = { a with heap := h, toks := tk } := by
  obtain ⟨h, tk, rfl⟩ := h
  obtain ⟨h', tk', rfl⟩ := g
  exact ⟨h', tk', rfl⟩
theorem noneBack {a b : Heap} {x : Addr} (hk : ∀ x o, a.get? x = some o → b.get? x = some o) (h : b.get? x = none) : a.get? x = none := by
  cases q : a.get? x with
  | none => rfl
  | some o => rw [hk _ _ q] at h; cases h
theorem ltNew' {a b : Shared} {x J : Addr} {o : Obj} (k : Keeps a b) (e : a.heap.get? x = some o) (hJ : b.heap.objs.size ≤ J) : @LT.lt Nat _ x J := Nat.lt_of_lt_of_le (Heap.lt_size (kGet k _ _ e)) hJ
theorem keepsButOf {a b : Shared} {wr : List Addr} (hs : ∃ h tk, b = { a with heap := h, toks := tk }) (hk : ∀ x o, x ∉ wr → a.heap.get? x = some o → b.heap.get? x = some o) : KeepsBut wr a b := by
  obtain ⟨h, tk, rfl⟩ := hs
  exact ⟨h, tk, rfl, hk⟩
end
end Mine

namespace Mine
def tst (b : List UInt8) (f : Bool) (k : Int) : Bool :=
  decide ((b.getD (k - 1).toNat 0).toNat < (b.getD k.toNat 0).toNat) != (((k.fmod 2) == 1) == f)
def tstV (b : List UInt8) (f : Bool) : Value → Bool
  | .int k _ => tst b f k
  | _ => false
def turnsB (b : List UInt8) (f : Bool) : Bool := (List.range (b.length - 1)).all fun (j : Nat) => !tst b f (1 + (j : Int))

theorem Paired.len {α β : Type} {F : α → β → Prop} {l₁ : List α} {l₂ : List β} (h : Paired F l₁ l₂) : l₁.length = l₂.length := PySem.Paired.length h

theorem filter_empty (p : Value → Bool) (q : Nat → Bool) (vs : List Value) (n : Nat) (hn : vs.length = n) (h : ∀ j v, vs[j]? = some v → p v = q j) :
    ((vs.filter p).length == 0) = (List.range n).all fun j => !q j := by
  rw [Bool.eq_iff_iff]
  simp only [beq_iff_eq, List.length_eq_zero_iff, List.filter_eq_nil_iff, List.all_eq_true, List.mem_range, Bool.not_eq_true']
  constructor
  · intro hh j hj
    have hj' : j < vs.length := by omega
    have e := h j vs[j] (by simp [hj'])
    have := hh vs[j] (List.getElem_mem hj')
    rw [← e]; simpa using this
  · intro hh v hv
    obtain ⟨j, hj, rfl⟩ := List.getElem_of_mem hv
    have e := h j vs[j] (by simp [hj])
    rw [e, hh j (by omega)]; simp

section
variable {prog : Program} {w : World} {A : Around} {E : Value → Shared → Prop} {s : Shared} {D : Ad} {mg mb : Str → Option Value}

/-- a list against an empty one -/
theorem eq_empty {l e : Addr} {ys : Array Value} {Q : Value → Shared → Prop} (hl : s.heap.IsList l ys) (he : s.heap.IsList e #[]) (hu : A.units < cLine) (h : Q (.bool (ys.size == 0)) s) :
    wpAny (model prog w) A (compareOp .Eq (.ref l) (.ref e)) Q E s := by
  by_cases h0 : ys.size = 0
  · have : ys = #[] := Array.eq_empty_of_size_eq_zero h0
    subst this
    refine SeqAt.eq_listAt (e := fun _ => true) hl he rfl hu (fun j h1 => absurd h1 (by simp)) ?_
    exact h
  · have hb : (ys.size == 0) = false := by simpa using h0
    rw [hb] at h
    exact SeqAt.eq_list_lengthsAt hl he (by simpa using h0) hu h

theorem turns_call {b : List UInt8} {t : Tok} {f : Bool} {Q : Value → Shared → Prop} (X : ModOk D mg mb s.heap) (hA : A.handled = none) (hd : A.depth < recursionLimit) (hu : A.units + 10 < cLine) (hb : b.length ≤ 8)
    (h : ∀ s', Keeps s s' → Q (.bool (turnsB b f)) s') : wpAny (model prog w) A (call (.ref D.lt) [.bytes b.toArray t, .bool f]) Q E s := by
  refine callFn [("order", .bytes b.toArray t), ("first", .bool f)] X.flt X.lim hd (fun _ _ _ => rfl) rfl ?_
  intro L cd s₁ hL k01 F C
  have X1 := X.keeps F.keep
  have co : s₁.heap.IsCell (L + 1) (some (.bytes b.toArray t)) := C.cell "order" _ rfl
  have cf : s₁.heap.IsCell (L + 2) (some (.bool f)) := C.cell "first" _ rfl
  have hA' : (A.deeper (envF (stm 7) L D.lt cd)).handled = none := hA
  have hu' : (A.deeper (envF (stm 7) L D.lt cd)).units < cLine := by show A.units + 3 < cLine; omega
  generalize hB : A.deeper (envF (stm 7) L D.lt cd) = B at hA' hu' ⊢
  with_unfolding_all refine wpAny_execs_cons ?_
  with_unfolding_all refine wpAny_Return_some ?_
  with_unfolding_all refine wpAny_Compare1 ?_ ?_
  case refine_2 => with_unfolding_all rfl
  refine comp_rule [("order", L + 1), ("first", L + 2)] (tstV b f) (fun v y => ∃ k t t', v = .int k t ∧ y = .int k t') rfl (by decide) rfl (by decide) rfl ?_
  refine callN (nmB X1 X1.bran (cT (sp_cons (wpAny_Constant_int (sp_cons ?_)))))
  refine callN (nmB X1 X1.blen (cB (sp_cons (wpAny_Name (wpAny_loadName_cell rfl rfl rfl co (sp_nil ?_))))))
  refine len_bytes (by simp; omega) (sp_nil (call_range_2 ?_))
  refine ⟨⟨_, _, rfl, fun _ _ e => Heap.get?_push_of_some _ e⟩, _, _, _, Src.lt (src_range hA' (IsRange.new ..) (by decide) (by decide) (by omega) (by simp; omega)), ?_, ?_, ?_, ?_⟩
  · simp [sizeLine]; omega
  · rintro C i v s₃ m₃ E' ⟨hi, t3, rfl⟩ hns hm hk
    have hi' : i + 1 < b.length := by have : ((b.toArray.size : Int) - 1).toNat = b.length - 1 := by simp
                                      omega
    refine wpAny_tests_one ?_
    have co₃ := co.keeps hk
    have cf₃ := cf.keeps hk
    refine wpAny_isTrue_Compare1 ?_ (by with_unfolding_all rfl)
    refine wpAny_Compare1 ?_ (by with_unfolding_all rfl)
    refine sub_bytes (l := b) (by omega) (wpAny_Name (wpAny_loadName_cell rfl rfl rfl co₃ (wpAny_Name (wpAny_loadName_local rfl rfl hns hm ⟨_, _, _, rfl, rfl, by omega, by omega, fun t5 => ?_⟩))))
    refine sub_bytes (l := b) (by omega) (wpAny_Name (wpAny_loadName_cell rfl rfl rfl co₃ (wpAny_BinOp (wpAny_Name (wpAny_loadName_local rfl rfl hns hm (wpAny_Constant_int (sub_int ⟨_, _, _, rfl, rfl, by omega, by omega, fun t6 => ?_⟩)))))))
    refine gt_int ?_
    refine wpAny_Compare1 ?_ (by with_unfolding_all rfl)
    refine wpAny_Compare1 ?_ (by with_unfolding_all rfl)
    refine wpAny_BinOp (wpAny_Name (wpAny_loadName_local rfl rfl hns hm (wpAny_Constant_int (mod_int' (by decide) (wpAny_Constant_int (wpAny_eq_int ?_))))))
    refine wpAny_Name (wpAny_loadName_cell rfl rfl rfl cf₃ (eq_bool (ne_bool (wpAny_truthy_bool ?_))))
    refine ⟨?_, kTok _ _⟩
    show _ = tst b f (1 + (i : Int))
    unfold tst
    simp
  · rintro C i v s₃ m₃ E' ⟨hi, t3, rfl⟩ hp hns hm hk
    refine wpAny_Name (wpAny_loadName_local rfl rfl hns hm ?_)
    exact ⟨⟨_, _, _, rfl, rfl⟩, kRefl _⟩
  · intro Dl s' ys vs k1 hD hl hlen hP hF
    refine wpAny_List (sp_nil ⟨by simp [sizeLine], ?_⟩)
    refine eq_empty (hl.isList.push _) ⟨_, Heap.get?_push_size _ rfl, rfl, _, rfl⟩ hu' ?_
    have e1 : (ys.size == 0) = turnsB b f := by
      have e2 : ys.size = (vs.filter (tstV b f)).length := by rw [Paired.len hF]; simp
      rw [e2]
      refine (filter_empty (tstV b f) (fun j => tst b f (1 + (j : Int))) vs _ hlen ?_).trans ?_
      · intro j v hv
        obtain ⟨_, t4, rfl⟩ := hP j v hv
        rfl
      · unfold turnsB
        congr 2
        simp
    rw [e1]
    exact h _ (kTrans k01 (kTrans k1 (kPush s' _ _)))
end
end Mine

namespace Mine
/-- the orders, by the text's road -/
def ords : Nat → List UInt8 → List (List UInt8)
  | 0, l => [l]
  | n + 1, l => if l.length < 2 then [l] else (List.range l.length).flatMap fun k => (ords n (l.take k ++ l.drop (k + 1))).map fun r => [l.getD k 0] ++ r
/-- values that are these bytes -/
def BL (vs : List Value) (ls : List (List UInt8)) : Prop := Paired (fun v l => ∃ t, v = Value.bytes l.toArray t) vs ls
theorem BL.app {vs ws : List Value} {ls ms : List (List UInt8)} (h : BL vs ls) (g : BL ws ms) : BL (vs ++ ws) (ls ++ ms) := by
  induction h with
  | nil => exact g
  | cons x _ ih => exact .cons x ih
theorem BL.len {vs : List Value} {ls : List (List UInt8)} (h : BL vs ls) : vs.length = ls.length := PySem.Paired.length h
theorem BL.get {vs : List Value} {ls : List (List UInt8)} (h : BL vs ls) : ∀ (j : Nat) (v : Value), vs[j]? = some v → ∃ l t, ls[j]? = some l ∧ v = .bytes l.toArray t := by
  induction h with
  | nil => intro j v e; simp at e
  | @cons a b l1 l2 x _ ih =>
    intro j v e
    cases j with
    | zero => simp at e; subst e; obtain ⟨t, rfl⟩ := x; exact ⟨b, t, rfl, rfl⟩
    | succ j => exact ih j v (by simpa using e)
theorem pairMap {F : Value → Value → Prop} {g : List UInt8 → List UInt8} {vs ys : List Value} (h : Paired F vs ys) : ∀ {ls : List (List UInt8)}, BL vs ls →
    (∀ v y l t, F v y → v = .bytes l.toArray t → ∃ t', y = .bytes (g l).toArray t') → BL ys (ls.map g) := by
  induction h with
  | nil => intro ls hb _; cases hb; exact .nil
  | cons x _ ih =>
    intro ls hb hF
    cases hb with
    | cons y hb' =>
      obtain ⟨t, e⟩ := y
      exact .cons (hF _ _ _ _ x e) (ih hb' hF)
theorem flat_snoc {α : Type} (f : Nat → List α) (i : Nat) : (List.range (i + 1)).flatMap f = (List.range i).flatMap f ++ f i := by
  rw [List.range_succ, List.flatMap_append]; simp
theorem filter_true (vs : List Value) : vs.filter (fun _ => true) = vs := by simp
def szO : Nat → Nat
  | 0 => 1
  | n + 1 => (n + 2) * szO n
theorem szO_pos : ∀ n, 1 ≤ szO n
  | 0 => Nat.le_refl _
  | n + 1 => by have := szO_pos n; show 1 ≤ (n + 2) * szO n; exact Nat.le_trans this (Nat.le_mul_of_pos_left _ (by omega))
theorem szO_le {n : Nat} (h : n ≤ 5) : szO n ≤ 720 := by
  have : n = 0 ∨ n = 1 ∨ n = 2 ∨ n = 3 ∨ n = 4 ∨ n = 5 := by omega
  rcases this with rfl | rfl | rfl | rfl | rfl | rfl <;> decide
theorem flat_len {α : Type} (f : Nat → List α) (c : Nat) : ∀ i, (∀ j, j < i → (f j).length ≤ c) → ((List.range i).flatMap f).length ≤ i * c
  | 0, _ => by simp
  | i + 1, h => by
    rw [flat_snoc, List.length_append, Nat.add_mul, Nat.one_mul]
    exact Nat.add_le_add (flat_len f c i fun j hj => h j (by omega)) (h i (by omega))
theorem ords_len : ∀ (n : Nat) (l : List UInt8), l.length ≤ n + 1 → (ords n l).length ≤ szO n
  | 0, l, _ => by simp [ords, szO]
  | n + 1, l, h => by
    unfold ords
    split
    · have := szO_pos (n + 1); simpa using this
    · have := flat_len (fun k => (ords n (l.take k ++ l.drop (k + 1))).map fun r => [l.getD k 0] ++ r) (szO n) l.length (fun j hj => by
        rw [List.length_map]
        exact ords_len n _ (by simp; omega))
      exact Nat.le_trans this (Nat.mul_le_mul_right _ h)

theorem ords_each : ∀ (n : Nat) (l : List UInt8), l.length ≤ n + 1 → ∀ x ∈ ords n l, x.length ≤ l.length
  | 0, l, _, x, hx => by simp [ords] at hx; rw [hx]; exact Nat.le_refl _
  | n + 1, l, h, x, hx => by
    unfold ords at hx
    split at hx
    · simp at hx; rw [hx]; exact Nat.le_refl _
    · rename_i h2
      obtain ⟨k, hk, hx⟩ := List.mem_flatMap.mp hx
      obtain ⟨r, hr, rfl⟩ := List.mem_map.mp hx
      have hk' := List.mem_range.mp hk
      have := ords_each n (l.take k ++ l.drop (k + 1)) (by simp; omega) r hr
      simp at this ⊢
      omega
theorem same_vals {vs ws : List Value} (hl : vs.length = ws.length) (h : ∀ (j : Nat) (v : Value), vs[j]? = some v → ws.toArray[j]? = some v) : vs = ws := by
  apply List.ext_getElem?
  intro j
  by_cases hj : j < vs.length
  · have := h j vs[j] (by simp [hj])
    rw [List.getElem?_toArray] at this
    rw [this]; simp [hj]
  · rw [List.getElem?_eq_none (by omega), List.getElem?_eq_none (by omega)]

section
variable {prog : Program} {w : World} {D : Ad} {mg mb : Str → Option Value}

def OrdersOk (prog : Program) (w : World) (D : Ad) (mg mb : Str → Option Value) (n : Nat) : Prop :=
  ∀ {A : Around} {E : Value → Shared → Prop} {s : Shared} {b : List UInt8} {t : Tok} {Q : Value → Shared → Prop}, ModOk D mg mb s.heap → A.handled = none → A.depth + n < recursionLimit →
    A.units + 3 * n + 10 < cLine → b.length ≤ n + 1 → n ≤ 5 →
    (∀ R s' vs, Keeps s s' → s.heap.get? R = none → PlainL s'.heap R (List.toArray vs) → BL vs (ords n b) → Q (.ref R) s') → wpAny (model prog w) A (call (.ref D.lo) [.bytes b.toArray t]) Q E s

theorem orders_step (n : Nat) (IH : ∀ m, n = m + 1 → OrdersOk prog w D mg mb m) : OrdersOk prog w D mg mb n := by
  intro A E s b t Q X hA hd hu hb hn h
  refine callFn [("octets", .bytes b.toArray t)] X.flo X.lim (by omega) (fun _ _ _ => rfl) rfl ?_
  intro L cd s₁ hL k01 F C
  have X1 := X.keeps F.keep
  have co : s₁.heap.IsCell (L + 1) (some (.bytes b.toArray t)) := C.cell "octets" _ rfl
  have ck : s₁.heap.IsCell (L + 2) none := C.cell "k" _ rfl
  have hA' : (A.deeper (envF (stm 6) L D.lo cd)).handled = none := hA
  have hu' : (A.deeper (envF (stm 6) L D.lo cd)).units = A.units + 3 := rfl
  have hd' : (A.deeper (envF (stm 6) L D.lo cd)).depth = A.depth + 1 := rfl
  generalize hB : A.deeper (envF (stm 6) L D.lo cd) = B at hA' hu' hd' ⊢
  with_unfolding_all refine wpAny_execs_cons ?_
  with_unfolding_all refine wpAny_If ?_
  with_unfolding_all refine wpAny_isTrue_Compare1 ?_ ?_
  case refine_2 => with_unfolding_all rfl
  refine callN (nmB X1 X1.blen (cB (sp_cons (wpAny_Name (wpAny_loadName_cell rfl rfl rfl co (sp_nil ?_))))))
  refine len_bytes (by simp; omega) (wpAny_Constant_int (lt_int (wpAny_truthy_bool ?_)))
  by_cases h2 : b.length < 2
  · rw [if_pos (by simp; omega)]
    refine wpAny_execs_cons (wpAny_Return_some (r_list (sp_cons (wpAny_Name (wpAny_loadName_cell rfl rfl rfl co (sp_nil ⟨by simp [sizeLine], ?_⟩))))))
    intro R s₂ k2 hR hl
    have e : ords n b = [b] := by
      cases n with
      | zero => rfl
      | succ n => show (if b.length < 2 then _ else _) = _; rw [if_pos h2]
    refine h R s₂ [.bytes b.toArray t] (kTrans k01 (kTrans (kTok _ _) k2)) ?_ hl ?_
    · cases q : s.heap.get? R with
      | none => rfl
      | some o => exact absurd (kGet k01 _ _ q) (by rw [show s₁.heap.get? R = none from hR]; exact fun e => nomatch e)
    · rw [e]; exact .cons ⟨t, rfl⟩ .nil
  · rw [if_neg (by simp; omega)]
    obtain ⟨m, rfl⟩ : ∃ m, n = m + 1 := ⟨n - 1, by omega⟩
    have ih : OrdersOk prog w D mg mb m := IH m rfl
    have hsz : szO m ≤ 720 := szO_le (by omega)
    refine wpAny_execs_nil ?_
    refine wpAny_execs_cons (wpAny_Assign_Name (r_list (sp_nil ⟨by simp [sizeLine], ?_⟩)) (by with_unfolding_all rfl))
    intro R0 s₂ k2 hR0 hl0
    have k12 : Keeps s₁ s₂ := kTrans (kTok _ _) k2
    have co2 := co.keeps (kGet k12)
    have ck2 := ck.keeps (kGet k12)
    have hns2 := F.ns.keeps (kGet k12)
    have hLx : ∃ o, s₁.heap.get? L = some o := let ⟨o, _, _, e, _⟩ := F.ns; ⟨o, e⟩
    have hkx : ∃ o, s₁.heap.get? (L + 2) = some o := let ⟨o, e, _⟩ := ck; ⟨o, e⟩
    have hR0w : R0 ∉ [L, L + 2] := by
      intro hm
      have hR0' : s₁.heap.get? R0 = none := hR0
      rcases List.mem_cons.mp hm with rfl | hm
      · obtain ⟨o, e⟩ := hLx; rw [hR0'] at e; cases e
      · rw [List.mem_singleton.mp hm] at hR0'; obtain ⟨o, e⟩ := hkx; rw [hR0'] at e; cases e
    refine st_loc (env := envF (stm 6) L D.lo cd) hns2 fun s₃ k3 hns3 => ?_
    have k13 : ∀ b o, s.heap.get? b = some o → s₃.heap.get? b = some o := fun b o e => k3.get b o (fun hm => by
      rw [List.mem_singleton.mp hm] at e
      exact absurd (Heap.lt_size e) (Nat.not_lt.mpr (Nat.le_of_eq hL.symm))) (kGet k12 _ _ (kGet k01 _ _ e))
    have co3 : s₃.heap.IsCell (L + 1) (some (.bytes b.toArray t)) := by
      obtain ⟨o, e, d⟩ := co2
      exact ⟨o, k3.get _ _ (by show L + 1 ∉ [L]; simp) e, d⟩
    have ck3 : s₃.heap.IsCell (L + 2) none := by
      obtain ⟨o, e, d⟩ := ck2
      exact ⟨o, k3.get _ _ (by show L + 2 ∉ [L]; simp) e, d⟩
    have hl3 := Mine.PlainL.but hl0 k3.get (by intro hm; exact hR0w (List.mem_cons.mpr (.inl (List.mem_singleton.mp hm))))
    have X3 := X.keeps k13
    dsimp only
    refine wpAny_execs_cons (for_rule ?_)
    refine callN (nmB X3 X3.bran (cT (sp_cons (callN (nmB X3 X3.blen (cB (sp_cons (wpAny_Name (wpAny_loadName_cell rfl rfl rfl co3 (sp_nil ?_))))))))))
    refine len_bytes (by simp; omega) (sp_nil (r_range1 ?_))
    intro r s₄ u v k4 hr4
    have k34 : Keeps s₃ s₄ := kTrans (kTok _ _) k4
    have fl : ∀ i, i ≤ b.length → ((List.range i).flatMap fun k => (ords m (b.take k ++ b.drop (k + 1))).map fun r => [b.getD k 0] ++ r).length ≤ 5040 := by
      intro i hi
      have := flat_len (fun k => (ords m (b.take k ++ b.drop (k + 1))).map fun r => [b.getD k 0] ++ r) (szO m) i (fun j hj => by
        rw [List.length_map]
        exact ords_len m _ (by simp; omega))
      have h7 : i * szO m ≤ 7 * 720 := Nat.mul_le_mul (by omega) hsz
      omega
    refine ⟨_, _, [], [L, L + 2], fun I i h => ∃ mm vs R, h.Ns L mm ∧ mm "found" = some (.ref R) ∧ PlainL h R (List.toArray vs) ∧
      BL vs ((List.range i).flatMap fun k => (ords m (b.take k ++ b.drop (k + 1))).map fun r => [b.getD k 0] ++ r) ∧ R ∉ [L, L + 2] ∧ R ≠ I ∧ s.heap.get? R = none ∧ @LT.lt Nat _ (L + 2) I ∧
      (∀ b o, s.heap.get? b = some o → h.get? b = some o) ∧ h.IsCell (L + 1) (some (.bytes b.toArray t)) ∧ ∃ v, h.IsCell (L + 2) v,
      Src.lt (src_range hA' hr4 (by decide) (by decide) (by omega) (by simp; omega)), ?_, ?_, ?_, ?_, ?_⟩
    · intro x hx
      refine ⟨by simp, ?_⟩
      rcases List.mem_cons.mp hx with rfl | hx
      · obtain ⟨o, e⟩ := nsEx hns3; exact ⟨o, kGet k34 _ _ e⟩
      · rw [List.mem_singleton.mp hx]; obtain ⟨o, e⟩ := cellEx ck3; exact ⟨o, kGet k34 _ _ e⟩
    · intro I s₅ hI k5
      have k35 := kTrans k34 k5
      have hI3 : ∀ a, (∃ o, s₃.heap.get? a = some o) → a < I := fun a ⟨o, e⟩ => ltNew ⟨o, kGet k34 _ _ e⟩ hI
      exact ⟨_, [], R0, hns3.keeps (kGet k35), if_pos rfl, hl3.keeps (kGet k35), .nil, hR0w, Nat.ne_of_lt (hI3 _ (Mine.PlainL.some hl3)), noneBack (kGet k01) hR0, hI3 _ (cellEx ck3),
        fun b o e => kGet k35 _ _ (k13 b o e), co3.keeps (kGet k35), none, ck3.keeps (kGet k35)⟩
    · rintro I i h1 h2 ⟨mm, vs, R, a1, a2, a3, a4, a5, a6, a7n, a7, a8, a9, vk, a10⟩ hk hI
      exact ⟨mm, vs, R, nsOne a1 hk (by omega), a2, plOne a3 hk a6, a4, a5, a6, a7n, a7, oldOne a8 hk (by omega), cellOne a9 hk (by omega), vk, cellOne a10 hk (by omega)⟩
    · rintro I i v s₅ hi ⟨_, tk, rfl⟩ hI hIe ⟨mm, vs, R, a1, a2, a3, a4, a5, a6, a7n, a7, a8, a9, vk, a10⟩
      have hi' : i < b.length := by simpa using hi
      refine wpAny_assign_Name (st_cell (env := envF (stm 6) L D.lo cd) a10 fun s₆ k6 c6 => ?_)
      have b1 := nsBut a1 k6.get (by simp)
      have b3 := Mine.PlainL.but a3 k6.get (by intro hm; exact a5 (List.mem_cons.mpr (.inr hm)))
      have b9 := cellBut a9 k6.get (by simp)
      have b8 : ∀ b o, s.heap.get? b = some o → s₆.heap.get? b = some o := oldKeep a8 k6.get (by simp; omega)
      have X6 := X.keeps b8
      have I6 : ∃ o, s₆.heap.get? I = some o := let ⟨o, e⟩ := hIe; ⟨o, k6.get _ _ (notIn1 a7) e⟩
      refine wpAny_execs_cons (wpAny_Assign_Name (wpAny_BinOp (wpAny_Name (wpAny_loadName_local rfl rfl b1 a2 ?_))) (by with_unfolding_all rfl))
      refine comp_rule [("octets", L + 1), ("k", L + 2)] (fun _ => true) (fun v y => ∀ l t, v = .bytes (List.toArray l) t → ∃ t', y = .bytes ([b.getD i 0] ++ l).toArray t') rfl (by decide) rfl (by decide) rfl ?_
      have ek : (0 : Int) + (i : Int) = (i : Int) := Int.zero_add _
      rw [ek] at c6
      refine callN (nmG X6 X6.glo (cF (st := stm 6) (sp_cons (wpAny_BinOp ?_))))
      refine sub_slice_b (wpAny_Name (wpAny_loadName_cell rfl rfl rfl b9 (r_slice (evalPart_none_step (evalPart_some_step (wpAny_Name (wpAny_loadName_cell rfl rfl rfl c6 (evalPart_none_step ?_))))))))
      intro Sl s₇ k7 hsl7
      refine ⟨_, _, _, _, _, _, _, rfl, rfl, hsl7, .none, .int _ _, by simp [sizeLine]; omega, fun s₈ t8 k8 => ?_⟩
      have k68 := kTrans k7 k8
      have b98 := b9.keeps (kGet k68)
      have c68 := c6.keeps (kGet k68)
      refine sub_slice_b (wpAny_Name (wpAny_loadName_cell rfl rfl rfl b98 (r_slice (evalPart_some_step (wpAny_BinOp (wpAny_Name (wpAny_loadName_cell rfl rfl rfl c68 (wpAny_Constant_int (add_int (evalPart_none_step (evalPart_none_step ?_)))))))))))
      intro Sl2 s₉ k9 hsl9
      refine ⟨_, _, _, _, _, _, _, rfl, rfl, hsl9, .int _ _, .none, by simp [sizeLine]; omega, fun s₁₀ t10 k10 => ?_⟩
      rw [pick_lo _ _ (by omega), pick_hi _ _ (by omega)]
      have k60 : Keeps s₆ s₁₀ := kTrans k68 (kTrans (kTok _ _) (kTrans k9 k10))
      refine KBy.add_bytes (by simp; omega) fun t11 tk11 => ?_
      have eb : (b.take i).toArray ++ (b.drop (i + 1)).toArray = (b.take i ++ b.drop (i + 1)).toArray := by simp
      rw [eb]
      have k60' := kTrans k60 (kTok s₁₀ tk11)
      refine sp_nil ⟨X6.flo.keeps (kGet k60'), ih (X6.keeps (kGet k60')) hA' (by omega) (by omega) (by simp; omega) (by omega) ?_⟩
      intro R' s₁₁ vs' k11 hR' hl' hbl'
      have k61 : Keeps s₆ s₁₁ := kTrans k60 (kTrans (kTok _ _) k11)
      have hlen' : vs'.length ≤ 720 := by rw [BL.len hbl']; exact Nat.le_trans (ords_len m _ (by simp; omega)) hsz
      refine ⟨k61, _, _, _, src_list hA' hl'.isList, by simp [sizeLine]; omega, ?_, ?_, ?_⟩
      · intro C i' v s₁₂ m₁₂ E' _ _ _ _
        exact wpAny_tests_nil ⟨rfl, kRefl _⟩
      · intro C i' v s₁₂ m₁₂ E' hP _ hns hm hk
        obtain ⟨l, t12, hl12, rfl⟩ := BL.get hbl' i' v (by simpa using hP)
        have hll : l.length ≤ 8 := by
          have := ords_each m _ (by simp; omega) l (List.mem_of_getElem? hl12)
          simp at this; omega
        have e9 := b9.keeps hk
        have e6 := c6.keeps hk
        refine wpAny_BinOp (sub_slice_b (wpAny_Name (wpAny_loadName_cell rfl rfl rfl e9 (r_slice (evalPart_some_step (wpAny_Name (wpAny_loadName_cell rfl rfl rfl e6 (evalPart_some_step (wpAny_BinOp (wpAny_Name (wpAny_loadName_cell rfl rfl rfl e6 (wpAny_Constant_int (add_int (evalPart_none_step ?_))))))))))))))
        intro Sl3 s₁₃ k13' hsl13
        refine ⟨_, _, _, _, _, _, _, rfl, rfl, hsl13, .int _ _, .int _ _, by simp [sizeLine]; omega, fun s₁₄ t14 k14 => ?_⟩
        rw [pick_mid _ _ hi']
        have k124 : Keeps s₁₂ s₁₄ := kTrans (kTok _ _) (kTrans k13' k14)
        refine wpAny_Name (wpAny_loadName_local rfl rfl (hns.keeps (kGet k124)) hm ?_)
        refine KBy.add_bytes (by simp; omega) fun t15 tk15 => ⟨?_, kTrans k124 (kTok _ _)⟩
        intro l' t' e
        cases e
        refine ⟨t15, ?_⟩
        simp [hi']
      · intro Dn s₁₂ ys vs2 k12' hDn hlD hlen2 hP2 hF2
        have evs : vs2 = vs' := same_vals (by simpa using hlen2) hP2
        subst evs
        rw [filter_true] at hF2
        have hbl2 : BL ys.toList ((ords m (b.take i ++ b.drop (i + 1))).map fun r => [b.getD i 0] ++ r) := pairMap hF2 hbl' fun v y l t hF e => hF l t e
        have hfl := fl (i + 1) hi'
        rw [flat_snoc, List.length_append] at hfl
        have ez : ys = ys.toList.toArray := by simp
        rw [ez] at hlD
        refine r_add_list (b3.keeps (kGet k12')) hlD (by rw [BL.len a4, BL.len hbl2]; simp only [sizeLine]; omega) ?_
        intro R2 s₁₃ k13' hR2 hl2
        have k613 := kTrans k12' k13'
        refine st_loc (env := envF (stm 6) L D.lo cd) (b1.keeps (kGet k613)) fun s₁₄ k14 hns14 => ?_
        have hR2' : s₆.heap.get? R2 = none := noneBack (kGet k12') hR2
        have nL : R2 ≠ L := neNew (nsEx b1) hR2'
        have nK : R2 ≠ L + 2 := neNew (cellEx c6) hR2'
        have nI : R2 ≠ I := neNew I6 hR2'
        have kk : ∀ x o, x ∉ [L] → s₆.heap.get? x = some o → s₁₄.heap.get? x = some o := fun x o hx e => k14.get x o hx (kGet k613 _ _ e)
        refine wpAny_execs_nil ⟨rfl, ⟨_, vs ++ ys.toList, R2, hns14, if_pos rfl, Mine.PlainL.but hl2 k14.get (by intro hm; exact nL (List.mem_singleton.mp hm)), ?_, ?_, nI, noneBack b8 hR2', a7, oldKeep b8 kk (by simp; omega), cellBut b9 kk (by simp), _, cellBut c6 kk (by simp)⟩, ?_⟩
        · rw [flat_snoc]; exact BL.app a4 hbl2
        · intro hm
          rcases List.mem_cons.mp hm with q | q
          · exact nL q
          · exact nK (List.mem_singleton.mp q)
        · refine KeepsBut.trans (k6.mono (by simp)) (KeepsBut.trans (Mine.Keeps.but k613) (k14.mono (by intro x hx; exact List.mem_cons.mpr (.inl (List.mem_singleton.mp hx)))))
    · rintro I s₅ hI ⟨mm, vs, R, a1, a2, a3, a4, a5, a6, a7n, a7, a8, a9, vk, a10⟩ ⟨g5, t5, e5⟩
      dsimp only
      refine wpAny_execs_cons (wpAny_Return_some (wpAny_Name (wpAny_loadName_local rfl rfl a1 a2 ?_)))
      refine h R s₅ vs (keepsOf (sameTrans (KeepsBut.same (KeepsBut.trans (Mine.Keeps.but k01) (KeepsBut.trans (Mine.Keeps.but k12) (KeepsBut.trans k3 (Mine.Keeps.but k34))))) ⟨g5, t5, e5⟩) a8) a7n a3 ?_
      have e : ords (m + 1) b = (List.range b.length).flatMap fun k => (ords m (b.take k ++ b.drop (k + 1))).map fun r => [b.getD k 0] ++ r := by
        show (if b.length < 2 then _ else _) = _
        rw [if_neg h2]
      rw [e]
      simpa using a4
theorem orders_call : ∀ n, OrdersOk prog w D mg mb n
  | 0 => orders_step 0 fun m e => by omega
  | n + 1 => orders_step (n + 1) fun m e => by cases e; exact orders_call n
end
end Mine

namespace Mine
def stepRow (row : List Int) : List Int := row.reverse.foldl (fun acc x => acc ++ [acc.getLastD 0 + x]) [0]
def rowL : Nat → List Int
  | 0 => [1]
  | n + 1 => stepRow (rowL n)
def stepTo (row : List Int) (j : Nat) : List Int := (row.reverse.take j).foldl (fun acc x => acc ++ [acc.getLastD 0 + x]) [0]
theorem fold_len : ∀ (xs acc : List Int), (xs.foldl (fun acc x => acc ++ [acc.getLastD 0 + x]) acc).length = acc.length + xs.length
  | [], acc => rfl
  | x :: xs, acc => by rw [List.foldl_cons, fold_len xs]; simp; omega
theorem stepTo_len {row : List Int} {j : Nat} (h : j ≤ row.length) : (stepTo row j).length = j + 1 := by
  unfold stepTo; rw [fold_len]; simp; omega
theorem stepTo_succ {row : List Int} {j : Nat} {x : Int} (h : row.reverse[j]? = some x) : stepTo row (j + 1) = stepTo row j ++ [(stepTo row j).getLastD 0 + x] := by
  unfold stepTo
  rw [List.take_add_one, h, List.foldl_append]; rfl
theorem rowL_len : ∀ n, (rowL n).length = n + 1
  | 0 => rfl
  | n + 1 => by show (stepRow (rowL n)).length = _; unfold stepRow; rw [fold_len]; simp [rowL_len n]; omega
theorem rowL_succ (n : Nat) : rowL (n + 1) = stepTo (rowL n) (rowL n).length := by
  show stepRow _ = _
  unfold stepRow stepTo
  rw [List.take_of_length_le (by simp)]
theorem IntsAre.at {vs : List Value} {ns : List Int} (h : IntsAre vs ns) : ∀ (j : Nat) (v : Value), vs[j]? = some v → ∃ n t, ns[j]? = some n ∧ v = .int n t := by
  induction h with
  | nil => intro j v e; simp at e
  | @cons n t vs ns _ ih =>
    intro j v e
    cases j with
    | zero => simp at e; subst e; exact ⟨n, t, rfl, rfl⟩
    | succ j => exact ih j v (by simpa using e)
theorem IntsAre.snoc {vs : List Value} {ns : List Int} (h : IntsAre vs ns) (n : Int) (t : Tok) : IntsAre (vs ++ [.int n t]) (ns ++ [n]) := by
  induction h with
  | nil => exact .cons n t .nil
  | cons a b _ ih => exact .cons a b ih
theorem lastD_of {l : List Int} {j : Nat} {y : Int} (hl : l.length = j + 1) (h : l[j]? = some y) : l.getLastD 0 = y := by
  rw [List.getLastD_eq_getLast?, List.getLast?_eq_getElem?, hl]
  simp [h]
section
variable {prog : Program} {w : World} {A : Around} {E : Value → Shared → Prop} {s : Shared} {env : Env}
/-- l.append(e) as a statement -/
theorem r_append {o e : Expr} {apos pos spos : Pos} {Q : Flow → Shared → Prop}
    (h : wpAny (model prog w) A (eval o env) (fun ov s₁ => ∃ l, ov = .ref l ∧ (∃ its, PlainL s₁.heap l its) ∧ wpAny (model prog w) A (eval e env) (fun v s₂ => ∃ its, PlainL s₂.heap l its ∧ its.size ≤ sizeLine ∧
      ∀ s₃, KeepsBut [l] s₂ s₃ → PlainL s₃.heap l (its.push v) → Q .next s₃) E s₁) E s)
    (hbase : attributeBase o "append" env (eval o env) = eval o env := by rfl) (hline : (apos.endLine == pos.line) = true := by rfl) (he : starEach [e] env = [(false, eval e env)] := by rfl)
    (hi : interactive env = false := by rfl) (hs : swapsWith (.Call (.Attribute o "append" apos) [e] [] pos) none spos.line env = pure false := by rfl) :
    wpAny (model prog w) A (exec (.Expr (.Call (.Attribute o "append" apos) [e] [] pos) spos) env) Q E s := by
  refine wpAny_Expr (wpAny_Call_method_late hbase (by rw [he]; rfl) hline rfl (wpAny_mono h (fun ov s₁ h₁ => ?_) fun _ _ e => e)) hi hs
  obtain ⟨l, rfl, ⟨its, hl⟩, h₁⟩ := h₁
  refine ⟨"list", "list.append", F.plainAttrs_list, PySem.slot_list_append, PySem.F.type_list_append, hl.isList.typeIs, fun a ea => ?_, ?_⟩
  · cases ea
    obtain ⟨o, n, e1, _, e2, _⟩ := hl
    exact ⟨o, e1, e2⟩
  · refine cB (first := [.ref l]) (sp_cons (wpAny_mono h₁ (fun v s₂ h₂ => sp_nil ?_) fun _ _ e => e) he) (by rw [he]; rfl)
    obtain ⟨its, hl2, hz, hQ⟩ := h₂
    exact list_append_plainL hl2 (fun h' hp hs => hQ _ ⟨h', s₂.toks, rfl, fun b o hb e => hs.extBut b o (fun q => hb (List.mem_singleton.mpr q)) e⟩ hp) hz
variable {D : Ad} {mg mb : Str → Option Value}
theorem row_call {n : Nat} {t : Tok} {Q : Value → Shared → Prop} (X : ModOk D mg mb s.heap) (hA : A.handled = none) (hd : A.depth < recursionLimit) (hn : 1 ≤ n) (hn8 : n ≤ 8)
    (h : ∀ R s' vs, Keeps s s' → s.heap.get? R = none → PlainL s'.heap R (List.toArray vs) → IntsAre vs (rowL (n - 1)) → Q (.ref R) s') : wpAny (model prog w) A (call (.ref D.lr) [.int n t]) Q E s := by
  refine callFn [("many", .int n t)] X.flr X.lim hd (fun _ _ _ => rfl) rfl ?_
  intro L cd s₁ hL k01 F C
  have X1 := X.keeps F.keep
  have hA' : (A.deeper (envF (stm 8) L D.lr cd)).handled = none := hA
  generalize hB : A.deeper (envF (stm 8) L D.lr cd) = B at hA' ⊢
  have hLx := nsEx F.ns
  with_unfolding_all refine wpAny_execs_cons ?_
  with_unfolding_all refine wpAny_Assign_Name ?_ ?_
  case refine_2 => with_unfolding_all rfl
  refine r_list (sp_cons (wpAny_Constant_int (sp_nil ⟨by simp [sizeLine], ?_⟩)))
  intro R0 s₂ k2 hR0 hl0
  have k12 : Keeps s₁ s₂ := kTrans (kTok _ _) k2
  have nR0L : R0 ≠ L := neNew hLx hR0
  refine st_loc (env := envF (stm 8) L D.lr cd) (F.ns.keeps (kGet k12)) fun s₃ k3 hns3 => ?_
  have hl3 := Mine.PlainL.but hl0 k3.get (by intro hm; exact nR0L (List.mem_singleton.mp hm))
  have k13 : ∀ b o, s.heap.get? b = some o → s₃.heap.get? b = some o := oldKeep (fun x o e => kGet k12 _ _ (kGet k01 _ _ e)) k3.get (by intro x hx; rw [List.mem_singleton.mp hx]; exact Nat.le_of_eq hL.symm)
  have X3 := X.keeps k13
  dsimp only
  refine wpAny_execs_cons (for_rule ?_)
  refine callN (nmB X3 X3.bran (cT (sp_cons (wpAny_Constant_int (sp_cons (wpAny_Name (wpAny_loadName_local (v := .int n t) rfl rfl hns3 rfl (sp_nil (r_range2 ?_)))))))))
  intro r s₄ v4 k4 hr4
  have k34 : Keeps s₃ s₄ := kTrans (kTok _ _) k4
  have sm4 : ∃ h tk, s₄ = { s with heap := h, toks := tk } := KeepsBut.same (KeepsBut.trans (Mine.Keeps.but k01) (KeepsBut.trans (Mine.Keeps.but k12) (KeepsBut.trans k3 (Mine.Keeps.but k34))))
  refine ⟨_, _, [], [L], fun I i h => ∃ mm vs R, h.Ns L mm ∧ mm "many" = some (.int n t) ∧ mm "row" = some (.ref R) ∧ PlainL h R (List.toArray vs) ∧ IntsAre vs (rowL i) ∧ R ≠ L ∧ R ≠ I ∧ s.heap.get? R = none ∧ @LT.lt Nat _ L I ∧
      (∀ b o, s.heap.get? b = some o → h.get? b = some o), Src.lt (src_range hA' hr4 (by decide) (by decide) (by omega) (by omega)), ?_, ?_, ?_, ?_, ?_⟩
  · intro x hx
    refine ⟨by simp, ?_⟩
    rw [List.mem_singleton.mp hx]
    obtain ⟨o, e⟩ := nsEx hns3; exact ⟨o, kGet k34 _ _ e⟩
  · intro I s₅ hI k5
    have k35 := kTrans k34 k5
    have hI3 : ∀ a, (∃ o, s₃.heap.get? a = some o) → a < I := fun a ⟨o, e⟩ => ltNew ⟨o, kGet k34 _ _ e⟩ hI
    exact ⟨_, [.int 1 s₁.toks], R0, hns3.keeps (kGet k35), rfl, rfl, hl3.keeps (kGet k35), .cons 1 _ .nil, nR0L, Nat.ne_of_lt (hI3 _ (Mine.PlainL.some hl3)), noneBack (kGet k01) hR0, hI3 _ (nsEx hns3), fun b o e => kGet k35 _ _ (k13 b o e)⟩
  · rintro I i h1 h2 ⟨mm, vs, R, a1, a2, a3, a4, a5, a6, a7, a8, a9, a10⟩ hk hI
    exact ⟨mm, vs, R, nsOne a1 hk a9, a2, a3, plOne a4 hk a7, a5, a6, a7, a8, a9, oldOne a10 hk (by omega)⟩
  · rintro I i v s₅ hi ⟨_, tk, rfl⟩ hI hIe ⟨mm, vs, R, a1, a2, a3, a4, a5, a6, a7, a8, a9, a10⟩
    refine wpAny_assign_Name (st_loc (env := envF (stm 8) L D.lr cd) a1 fun s₆ k6 b1 => ?_)
    have hLI := a9
    have X6 := X.keeps (oldKeep a10 k6.get (by intro x hx; rw [List.mem_singleton.mp hx]; exact Nat.le_of_eq hL.symm))
    have c4 := Mine.PlainL.but a4 k6.get (by intro hm; exact a6 (List.mem_singleton.mp hm))
    have I6 : ∃ o, s₆.heap.get? I = some o := let ⟨o, e⟩ := hIe; ⟨o, k6.get _ _ (notIn1 a9) e⟩
    refine wpAny_execs_cons (wpAny_Assign_Name (r_list (sp_cons (wpAny_Constant_int (sp_nil ⟨by simp [sizeLine], ?_⟩)))) (by with_unfolding_all rfl))
    intro T s₇ k7 hT hl7
    have k67 : Keeps s₆ s₇ := kTrans (kTok _ _) k7
    have nTL : T ≠ L := neNew (nsEx b1) hT
    have nTR : T ≠ R := neNew (Mine.PlainL.some c4) hT
    have nTI : T ≠ I := neNew I6 hT
    refine st_loc (env := envF (stm 8) L D.lr cd) (b1.keeps (kGet k67)) fun s₈ k8 b2 => ?_
    have d4 := Mine.PlainL.but (c4.keeps (kGet k67)) k8.get (by intro hm; exact a6 (List.mem_singleton.mp hm))
    have dT := Mine.PlainL.but hl7 k8.get (by intro hm; exact nTL (List.mem_singleton.mp hm))
    have k68 : KeepsBut [L] s₅ s₈ := KeepsBut.trans k6 (KeepsBut.trans (Mine.Keeps.but k67) k8)
    have hrl := rowL_len i
    have hi8 : i ≤ 8 := by omega
    dsimp only
    refine wpAny_execs_cons (for_rule ?_)
    refine sub_slice (wpAny_Name (wpAny_loadName_local (v := .ref R) rfl rfl b2 a3 (r_slice (evalPart_none_step (evalPart_none_step (evalPart_some_step (wpAny_UnaryOp (wpAny_Constant_int (neg_int ?_))))))))) (fun o i => [o, i]) (by intro _ _; with_unfolding_all rfl)
    intro Sl s₉ k9 hsl9
    have k89 : Keeps s₈ s₉ := kTrans (kTok s₈ (s₈.toks + 1 + 1)) k9
    refine ⟨R, Sl, _, _, _, _, none, none, some (-1), rfl, rfl, (d4.keeps (kGet k89)).isList, hsl9, .none, .none, .int _ _, by decide, by simp [sizeLine, a5.length, hrl]; omega, ?_⟩
    intro Dr s₁₀ k10 hDr hlr
    rw [krv_pick] at hlr
    have k810 := kTrans k89 k10
    have hDr8 : s₈.heap.get? Dr = none := noneBack (kGet k89) hDr
    have nDL : L ≠ Dr := (neNew (nsEx b2) hDr8).symm
    have nDT : T ≠ Dr := (neNew (Mine.PlainL.some dT) hDr8).symm
    refine ⟨_, _, [Dr], [L, T], fun J j h => ∃ mm' ws, h.Ns L mm' ∧ mm' "many" = some (.int n t) ∧ mm' "after" = some (.ref T) ∧ PlainL h T (List.toArray ws) ∧ IntsAre ws (stepTo (rowL i) j) ∧ @LT.lt Nat _ L J ∧ T ≠ J ∧
      (∀ b o, s.heap.get? b = some o → h.get? b = some o) ∧ (∀ b o, b ∉ [L, T] → s₈.heap.get? b = some o → h.get? b = some o), Src.lt (src_list hA' hlr.isList), ?_, ?_, ?_, ?_, ?_⟩
    · intro x hx
      rcases List.mem_cons.mp hx with rfl | hx
      · exact ⟨by intro hm; exact nDL (List.mem_singleton.mp hm), let ⟨o, e⟩ := nsEx b2; ⟨o, kGet k810 _ _ e⟩⟩
      · rw [List.mem_singleton.mp hx]
        exact ⟨by intro hm; exact nDT (List.mem_singleton.mp hm), let ⟨o, e⟩ := Mine.PlainL.some dT; ⟨o, kGet k810 _ _ e⟩⟩
    · intro J s₁₁ hJ k11
      have k811 := kTrans k810 k11
      have hJ3 : ∀ a, (∃ o, s₈.heap.get? a = some o) → a < J := fun a ⟨o, e⟩ => ltNew ⟨o, kGet k810 _ _ e⟩ hJ
      refine ⟨_, [.int 0 _], b2.keeps (kGet k811), ?_, if_pos rfl, dT.keeps (kGet k811), .cons 0 _ .nil, hJ3 _ (nsEx b2), Nat.ne_of_lt (hJ3 _ (Mine.PlainL.some dT)),
        fun b o e => kGet k811 _ _ (oldKeep a10 k68.get (by intro x hx; rw [List.mem_singleton.mp hx]; exact Nat.le_of_eq hL.symm) _ _ e), fun b o _ e => kGet k811 _ _ e⟩
      exact a2
    · rintro J j h1 h2 ⟨mm', ws, e1, e2, e3, e4, e5, e6, e7, e8, e9⟩ hk hJ
      exact ⟨mm', ws, nsOne e1 hk e6, e2, e3, plOne e4 hk e7, e5, e6, e7, oldOne e8 hk (by omega), fun b o hb e => hk b o (Nat.ne_of_lt (ltNew' k810 e hJ)) (e9 b o hb e)⟩
    · rintro J j v s₁₁ hj ⟨_, hP⟩ hJ hJe ⟨mm', ws, e1, e2, e3, e4, e5, e6, e7, e8, e9⟩
      have hvl : vs.length = i + 1 := by rw [a5.length, hrl]
      have hj' : j < i + 1 := by simpa [hvl] using hj
      obtain ⟨x, tx, hx, rfl⟩ := Mine.IntsAre.at a5.reverse j v (by simpa using hP)
      refine wpAny_assign_Name (st_loc (env := envF (stm 8) L D.lr cd) e1 fun s₁₂ k12' f1 => ?_)
      have f4 := Mine.PlainL.but e4 k12'.get (by intro hm; exact nTL (List.mem_singleton.mp hm))
      have hsl : (stepTo (rowL i) j).length = j + 1 := stepTo_len (by omega)
      have hwl : ws.length = j + 1 := by rw [e5.length, hsl]
      have hw : j < ws.length := by omega
      obtain ⟨y, ty, hy, ey⟩ := Mine.IntsAre.at e5 j ws[j] (by simp [hw])
      have hyl := lastD_of hsl hy
      refine wpAny_execs_cons (r_append (wpAny_Name (wpAny_loadName_local (v := .ref T) rfl rfl f1 e3 ⟨T, rfl, ⟨_, f4⟩, ?_⟩)))
      refine wpAny_BinOp (sub_list_neg (wpAny_Name (wpAny_loadName_local (v := .ref T) rfl rfl f1 e3 (wpAny_UnaryOp (wpAny_Constant_int (neg_int ?_))))))
      refine ⟨T, ws.toArray, -1, _, .int y ty, rfl, rfl, f4.isList, by decide, by simp; omega, by decide, ?_, ?_⟩
      · have e0 : ((-1 : Int) + ((ws.toArray.size : Nat) : Int)).toNat = j := by rw [List.size_toArray, hwl]; omega
        rw [e0, ← ey]; simp [hw]
      · refine wpAny_Name (wpAny_loadName_local (v := .int x tx) rfl rfl f1 rfl (add_int ⟨ws.toArray, f4, by simp [sizeLine]; omega, ?_⟩))
        intro s₁₃ k13' hT13
        have kk : KeepsBut [L, T] s₁₁ s₁₃ := KeepsBut.trans (k12'.mono (by intro x hx; exact List.mem_cons.mpr (.inl (List.mem_singleton.mp hx)))) (KeepsBut.trans (Mine.Keeps.but (kTok s₁₂ _)) (k13'.mono (by simp)))
        have hTs : s.heap.get? T = none := noneBack (oldKeep a10 k6.get (by intro x hx; rw [List.mem_singleton.mp hx]; exact Nat.le_of_eq hL.symm)) hT
        refine wpAny_execs_nil ⟨rfl, ⟨_, ws ++ [.int (y + x) _], nsBut f1 k13'.get (fun hm => nTL (List.mem_singleton.mp hm).symm), e2, e3, by simpa using hT13, ?_, e6, e7, ?_, ?_⟩, kk⟩
        · rw [stepTo_succ hx, hyl]; exact Mine.IntsAre.snoc e5 _ _
        · intro z o ez
          refine kk.get z o (fun hm => ?_) (e8 z o ez)
          rcases List.mem_cons.mp hm with q | q
          · subst q; exact absurd (Heap.lt_size ez) (Nat.not_lt.mpr (Nat.le_of_eq hL.symm))
          · rw [List.mem_singleton.mp q, hTs] at ez; cases ez
        · exact fun z o hz ez => kk.get z o hz (e9 z o hz ez)
    · rintro J s₁₁ hJ ⟨mm', ws, e1, e2, e3, e4, e5, e6, e7, e8, e9⟩ sm11
      dsimp only
      refine wpAny_execs_cons (wpAny_Assign_Name (wpAny_Name (wpAny_loadName_local rfl rfl e1 e3 (st_loc (env := envF (stm 8) L D.lr cd) e1 fun s₁₂ k12' f1 => ?_))) (by with_unfolding_all rfl))
      have f4 := Mine.PlainL.but e4 k12'.get (by intro hm; exact nTL (List.mem_singleton.mp hm))
      have hTs : s.heap.get? T = none := noneBack (oldKeep a10 k6.get (by intro x hx; rw [List.mem_singleton.mp hx]; exact Nat.le_of_eq hL.symm)) hT
      have hT5 : s₅.heap.get? T = none := by
        cases q : s₅.heap.get? T with
        | none => rfl
        | some o =>
          have := k6.get T o (fun hm => nTL (List.mem_singleton.mp hm)) q
          rw [show s₆.heap.get? T = none from hT] at this; cases this
      have kAll : KeepsBut [L] s₅ s₁₂ := by
        refine keepsButOf (sameTrans (KeepsBut.same k68) (sameTrans (KeepsBut.same (Mine.Keeps.but (wr := []) k810)) (sameTrans sm11 (KeepsBut.same k12')))) ?_
        intro z o hz ez
        refine k12'.get z o hz (e9 z o (fun hm => ?_) (k68.get z o hz ez))
        rcases List.mem_cons.mp hm with q | q
        · exact hz (List.mem_singleton.mpr q)
        · rw [List.mem_singleton.mp q, hT5] at ez; cases ez
      refine wpAny_execs_nil ⟨rfl, ⟨_, ws, T, f1, e2, if_pos rfl, f4, ?_, nTL, nTI, hTs, hLI, oldKeep e8 k12'.get (by intro x hx; rw [List.mem_singleton.mp hx]; exact Nat.le_of_eq hL.symm)⟩, kAll⟩
      rw [rowL_succ]
      have e : vs.toArray.toList.reverse.toArray.size = (rowL i).length := by simp [a5.length]
      rw [← e]; exact e5
  · rintro I s₅ hI ⟨mm, vs, R, a1, a2, a3, a4, a5, a6, a7, a8, a9, a10⟩ sm5
    dsimp only
    refine wpAny_execs_cons (wpAny_Return_some (wpAny_Name (wpAny_loadName_local rfl rfl a1 a3 ?_)))
    refine h R s₅ vs (keepsOf (sameTrans sm4 sm5) a10) a8 a4 ?_
    have e : ((n : Int) - 1).toNat = n - 1 := by omega
    rw [e] at a5; exact a5
end
end Mine

namespace Mine
/-- the built-ins that may hold a bytearray -/
def holders : List String := ["bytearray.__contains__", "bytearray.__mod__", "bytearray.__rmod__", "_struct.pack_into.held", "bytearray.find.held"] ++ PySem.Builtin.Bytes.decodersThatHold
def okC : Code → Bool
  | .builtin id _ => !holders.contains id
  | _ => true
def NiceB (Γ : Ctx) : Prop := ∀ x ∈ Γ.below, okC x.1 = true
def Nice (Γ : Ctx) : Prop := okC Γ.code = true ∧ NiceB Γ
def wpN {α : Type} (M : Model) (A : Around) (t : Sem α) (Q : α → Shared → Prop) (E : Value → Shared → Prop) (s : Shared) : Prop :=
  ∀ Γ p, Γ.In A → Nice Γ → Sem.wp M Γ t (fun a _ s' => Q a s') (fun e _ s' => E e s') p s
def codeN (M : Model) (A : Around) (c : Code) (R : Result → Shared → Prop) (s : Shared) : Prop :=
  ∀ Γ p, Γ.code = c → Γ.Below A → NiceB Γ → wpCode M Γ R p s
section
variable {α β : Type} {M : Model} {A : Around} {E : Value → Shared → Prop} {s : Shared}
theorem wpN_any {t : Sem α} {Q : α → Shared → Prop} (h : wpAny M A t Q E s) : wpN M A t Q E s := fun Γ p hΓ _ => h Γ p hΓ
theorem wpN_mono {t : Sem α} {Q Q' : α → Shared → Prop} {E' : Value → Shared → Prop} (h : wpN M A t Q E s) (hQ : ∀ a s, Q a s → Q' a s) (hE : ∀ e s, E e s → E' e s) : wpN M A t Q' E' s :=
  fun Γ p hΓ hn => Sem.wp_mono M Γ t (fun a _ s => hQ a s) (fun e _ s => hE e s) p s (h Γ p hΓ hn)
theorem wpN_bind {m : Sem α} {f : α → Sem β} {Q : β → Shared → Prop} (h : wpN M A m (fun a s' => wpN M A (f a) Q E s') E s) : wpN M A (m >>= f) Q E s := fun Γ p hΓ hn => by
  rw [Sem.wp_bind']
  exact Sem.wp_mono M Γ _ (fun a p' s' h' => h' Γ p' hΓ hn) (fun _ _ _ h' => h') _ _ (h Γ p hΓ hn)
/-- a step of wpAny first -/
theorem wpN_bindA {m : Sem α} {f : α → Sem β} {Q : β → Shared → Prop} (h : wpAny M A m (fun a s' => wpN M A (f a) Q E s') E s) : wpN M A (m >>= f) Q E s := wpN_bind (wpN_any h)
theorem wpN_onRaise {m : Sem α} {k : Value → Sem Unit} {Q : α → Shared → Prop} (h : wpN M A m Q (fun e s' => wpAny M A (k e) (fun _ s'' => E e s'') E s') s) : wpN M A (m.onRaise k) Q E s := fun Γ p hΓ hn => by
  rw [Sem.wp_onRaise]
  exact Sem.wp_mono M Γ _ (fun _ _ _ h' => h') (fun e p' s' h' => h' Γ p' hΓ) _ _ (h Γ p hΓ hn)
theorem wpN_holding {vs : List Value} {m : Sem α} {Q : α → Shared → Prop} (h : wpN M A m Q E s) : wpN M A (holding vs m) Q E s := fun Γ p hΓ hn => by
  rw [Sem.wp_holding]; exact h Γ p hΓ hn
theorem wpN_keep {vs : List Value} {m : Sem α} {Q : α → Shared → Prop} (h : wpN M A m Q E s) : wpN M A (m.keep vs) Q E s := fun Γ p hΓ hn => by
  rw [Sem.wp_keep]; exact h Γ p hΓ hn
theorem niceEnter {Γ : Ctx} (hn : Nice Γ) (c : Code) (hd : Option Value) (p : Pos) : NiceB (Γ.enter c hd p) := fun x hx => by
  rcases List.mem_cons.mp hx with rfl | hx
  · exact hn.1
  · exact hn.2 x hx
theorem wpN_call {f : Value} {pos : List Value} {kw : List (Str × Value)} {Q : Value → Shared → Prop}
    (hc : codeN M A (.call f ⟨pos, kw⟩) (fun r s' => match r with | .ok (.ret v) => Q v s' | .ok _ => False | .error e => E e s') s) : wpN M A (call f pos kw) Q E s := fun Γ p hΓ hn => by
  show Sem.wp M Γ (runValue (.call f ⟨pos, kw⟩)) _ _ p s
  rw [Sem.wp_runValue]
  exact hc _ p rfl (hΓ.enter _ none p (by intro x; cases x)) (niceEnter hn _ _ _)
theorem wpN_run {c : Code} {Q : Flow → Shared → Prop} (hc : codeN M A c (fun r s' => match r with | .ok f => Q f s' | .error e => E e s') s) : wpN M A (run c none) Q E s := fun Γ p hΓ hn => by
  rw [Sem.wp_run]
  exact hc _ p rfl (hΓ.enter _ none p (by intro x; cases x)) (niceEnter hn _ _ _)
theorem codeN_of_tree {c : Code} {R : Result → Shared → Prop} (ho : okC c = true)
    (h : wpN M (A.under c) (M.den c) (fun fin s' => match fin with | .done f => R (.ok f) s' | .again c' => c'.quiet = true ∧ codeN M A c' R s') (fun e s' => R (.error e) s') s) : codeN M A c R s := fun Γ p hc hΓ hn => by
  rw [wpCode_iff_wp, hc]
  refine Sem.wp_mono M Γ _ (fun fin p' s' h' => ?_) (fun _ _ _ h' => h') p s (h Γ p (hc ▸ hΓ.in) ⟨hc ▸ ho, hn⟩)
  cases fin with
  | done f => exact h'
  | again c' => exact ⟨h'.1, h'.2 (Γ.goto c') p' rfl (hΓ.goto c') hn⟩
theorem codeN_any {c : Code} {R : Result → Shared → Prop} (h : codeAny M A c R s) : codeN M A c R s := fun Γ p hc hΓ _ => h Γ p hc hΓ
theorem codeN_mono {c : Code} {R R' : Result → Shared → Prop} (h : codeN M A c R s) (hR : ∀ r s, R r s → R' r s) : codeN M A c R' s := fun Γ p hc hΓ hn => by
  obtain ⟨r, s', h1, h2⟩ := h Γ p hc hΓ hn
  exact ⟨r, s', h1, hR r s' h2⟩
/-- nobody holds it -/
theorem exported_no {self : Value} {Q : Bool → Shared → Prop} (h : Q false s) : wpN M A (PySem.Builtin.Bytes.exported self) Q E s := fun Γ p hΓ hn => by
  unfold PySem.Builtin.Bytes.exported
  show Sem.wp M Γ (stack >>= _) _ _ p s
  rw [Sem.wp_bind']
  show Sem.wp M Γ (.stack .pure) _ _ p s
  rw [Sem.wp_stack]
  show Sem.wp M Γ (pure _) _ _ p s
  have hq : ∀ b : Bool, b = false → Q b s := fun b e => e ▸ h
  refine hq _ ?_
  rw [List.any_eq_false]
  intro x hx
  have hok : okC x.1 = true := by
    rcases List.mem_cons.mp hx with rfl | hx
    · exact hn.1
    · exact hn.2 x hx
  clear hx
  split
  all_goals first
    | (exfalso; revert hok; simp [okC, holders]; done)
    | skip
  · rename_i id v vs kw pp _ _ _ _ _
    have : PySem.Builtin.Bytes.decodersThatHold.contains id = false := by
      have h1 : holders.contains id = false := by
        have : (!holders.contains id) = true := hok
        simpa using this
      cases q : PySem.Builtin.Bytes.decodersThatHold.contains id with
      | false => rfl
      | true =>
        have : holders.contains id = true := by
          rw [List.contains_iff_mem] at q ⊢
          exact List.mem_append.mpr (.inr q)
        rw [h1] at this; cases this
    rw [this, Bool.and_false]
    simp
  · simp
end
end Mine

namespace Mine
theorem ba_mro : mroOf (.type "bytearray") = pure [.type "bytearray", .type "object"] := by rw [mroOf_type]; kernel_rfl
theorem ba_lookup_new : typeLookup (.type "bytearray") "__new__" = pure (some (.builtin "bytearray.__new__")) := by rw [typeLookup_type, builtinLookup_eq_fast]; kernel_rfl
theorem ba_slot_init : Slot "bytearray" "__init__" "bytearray.__init__" :=
  .of (owner := "bytearray") (n := "__init__") (by rw [typeLookup_type, builtinLookup_eq_fast]; kernel_rfl) (by decide +kernel) (by decide +kernel) (by decide +kernel)
    (by first | exact .inl (by decide +kernel) | exact .inr (by decide +kernel)) (by rw [isSubtype_type]; kernel_rfl)
theorem ba_slot_set : Slot "bytearray" "__setitem__" "bytearray.__setitem__" :=
  .of (owner := "bytearray") (n := "__setitem__") (by rw [typeLookup_type, builtinLookup_eq_fast]; kernel_rfl) (by decide +kernel) (by decide +kernel) (by decide +kernel)
    (by first | exact .inl (by decide +kernel) | exact .inr (by decide +kernel)) (by rw [isSubtype_type]; kernel_rfl)
theorem ba_made : Bind.madeBy (.type "bytearray") = pure (some "bytearray.__new__") := madeBy_type ba_mro ba_lookup_new (by decide +kernel)
theorem ba_typeCall (a : Value) : checkTypeCall "bytearray" ⟨[a], []⟩ = pure () := by kernel_rfl
theorem ba_newCall (a : Value) : checkBuiltinCall "bytearray.__new__" ⟨[.type "bytearray", a], []⟩ = pure () := by kernel_rfl
theorem ba_entry_new : entryFor table "bytearray.__new__" = some PySem.Builtin.«list.__new__» :=
  entryFor_alias (id' := "list.__new__") (by kernel_rfl) (by first | rfl | decide +kernel | (unfold String.splitOn; simp +decide [String.splitOnAux])) (by decide +kernel) (by kernel_rfl)
theorem ba_entry_init : entryFor table "bytearray.__init__" = some PySem.Builtin.«bytearray.__init__» := by first | exact entryFor_of_fast (by kernel_rfl) | exact entryFor_of_tree (by kernel_rfl)
theorem ba_plain_new : plainId "bytearray.__new__" = true := by decide +kernel
theorem ba_plain_init : plainId "bytearray.__init__" = true := by decide +kernel
theorem ba_sub : isSubtype (.type "bytearray") (.type "bytearray") = pure true := by rw [isSubtype_type]; kernel_rfl
theorem ba_owner : Manifest.owners.lookup (String.ofList ['y', 'a', 'r', 'r', 'a', 'e', 't', 'y', 'b'].reverse) = some Manifest.sig_bytearray := by kernel_rfl
theorem ba_initCall (o a : Value) : argsOk "bytearray.__init__" ⟨[o, a], []⟩ := by
  unfold argsOk; rw [signature?_of (id := "bytearray.__init__") (n := ['_', '_', 't', 'i', 'n', 'i', '_', '_']) (o := ['y', 'a', 'r', 'r', 'a', 'e', 't', 'y', 'b']) (by kernel_rfl) ba_owner]; kernel_rfl
theorem ba_setCall (o a b : Value) : argsOk "bytearray.__setitem__" ⟨[o, a, b], []⟩ := by
  unfold argsOk; rw [signature?_of (id := "bytearray.__setitem__") (n := ['_', '_', 'm', 'e', 't', 'i', 't', 'e', 's', '_', '_']) (o := ['y', 'a', 'r', 'r', 'a', 'e', 't', 'y', 'b']) (by kernel_rfl) ba_owner]; kernel_rfl
theorem ba_entry_set : entryFor table "bytearray.__setitem__" = some PySem.Builtin.«bytearray.__setitem__» := by first | exact entryFor_of_fast (by kernel_rfl) | exact entryFor_of_tree (by kernel_rfl)
theorem ba_bind (v : Value) : PySem.Builtin.Bytes.bindOptional "bytearray.__init__" "bytearray" ["source", "encoding", "errors"] [v] [] = pure [some v, none, none] := by kernel_rfl
theorem ba_release : typeLookup (.type "bytearray") "__release_buffer__" = pure (some (.builtin "bytearray.__release_buffer__")) := by rw [typeLookup_type, builtinLookup_eq_fast]; kernel_rfl
end Mine

namespace Mine
set_option maxRecDepth 1000000 in
set_option maxHeartbeats 4000000 in
theorem ba_owner_new : ("bytearray.__new__".splitOn ".__new__").headD "" = "bytearray" := by simp +decide [String.splitOn, String.splitOnAux]
section
variable {prog : Program} {w : World} {A : Around} {E : Value → Shared → Prop} {s : Shared}

theorem ba_new (a : Value) {Q₁ : Value → Shared → Prop}
    (h : Q₁ (.ref s.heap.objs.size) { s with heap := s.heap.push { cls := .type "bytearray", data := .bytearray #[] } }) :
    codeAny (model prog w) A (.call (.builtin "bytearray.__new__") ⟨[.type "bytearray", a], []⟩) (wants Q₁ E) s := by
  refine codeAny_of_tree ?_
  show wpAny _ A.in1 (do checkBuiltinCall "bytearray.__new__" ⟨[.type "bytearray", a], []⟩; again (.builtin "bytearray.__new__" ⟨[.type "bytearray", a], []⟩)) _ _ s
  refine wpAny_bind (wpAny_of_eq (ba_newCall a) (wpAny_pure ⟨plainId_quiet ba_plain_new _, codeAny_builtin_stack ba_entry_new rfl fun p st => ?_⟩))
  rw [Around.under_plainId ba_plain_new _]
  have hsub := ba_sub
  have hown := ba_owner_new
  obtain ⟨hp, g, d, tk, os⟩ := s
  simp only [hown]
  wp_walk
  exact h

theorem codeN_builtin {id : String} {args : Args} {b : Builtin} {R : Result → Shared → Prop} (ho : okC (.builtin id args) = true) (hb : entryFor table id = some b)
    (h : wpN (model prog w) (A.under (.builtin id args)) (b args)
      (fun fin s' => match fin with | .done f => R (.ok f) s' | .again c' => c'.quiet = true ∧ codeN (model prog w) A c' R s') (fun e s' => R (.error e) s') s) :
    codeN (model prog w) A (.builtin id args) R s := by
  refine codeN_of_tree ho ?_
  show wpN _ _ (match entryFor table id with | some b => b args | none => unsupported ((withoutEnding? id "#data").getD id)) _ _ s
  rw [hb]; exact h
theorem codeN_call_builtin {id : String} {args : Args} {b : Builtin} {R : Result → Shared → Prop} (ho : okC (.builtin id args) = true) (hq : plainId id = true) (hb : entryFor table id = some b)
    (h : wpAny (model prog w) A.in1 (checkBuiltinCall id args) (fun _ s₁ => wpN (model prog w) A.in1 (b args)
      (fun fin s' => match fin with | .done f => R (.ok f) s' | .again c' => c'.quiet = true ∧ codeN (model prog w) A c' R s') (fun e s' => R (.error e) s') s₁)
      (fun e s' => R (.error e) s') s) : codeN (model prog w) A (.call (.builtin id) args) R s := by
  refine codeN_of_tree rfl (wpN_any ?_)
  show wpAny _ A.in1 (do checkBuiltinCall id args; again (.builtin id args)) _ _ s
  refine wpAny_bind (wpAny_mono h (fun _ s₁ h₁ => wpAny_pure (And.intro (plainId_quiet hq args) (codeN_builtin ho hb ?_))) fun _ _ h' => h')
  rw [Around.under_plainId hq args]; exact h₁
theorem specialN {self : Value} {T : String} {name : Str} {id : String} {args : List Value} {Q : Option Value → Shared → Prop} (hT : s.TypeIs self T) (h : Slot T name id)
    (hc : wpN (model prog w) A (call (.builtin id) (self :: args)) (fun v => Q (some v)) E s) : wpN (model prog w) A (callSpecial? self name args) Q E s := by
  simp only [callSpecial?]
  refine wpN_bindA (wpAny_specialOf hT h.lookup ?_)
  simp only [h.bind]
  exact wpN_holding (wpN_bindA (wpAny_pure (wpN_bind (wpN_mono hc (fun v s' h' => wpN_any (wpAny_pure h')) fun _ _ h' => h'))))

theorem ba_type {v : Value} {Q : Value → Shared → Prop}
    (h : wpN (model prog w) A.in1 (call (.builtin "bytearray.__init__") [.ref s.heap.objs.size, v]) (fun r s₂ => r = .none ∧ Q (.ref s.heap.objs.size) s₂) E
      { s with heap := s.heap.push { cls := .type "bytearray", data := .bytearray #[] } }) : wpN (model prog w) A (call (.type "bytearray") [v]) Q E s := by
  refine wpN_call (codeN_of_tree rfl ?_)
  show wpN _ _ (callAny (.type "bytearray") _) _ _ _
  refine wpN_any (wpAny_pure ⟨Code.quiet_builtin _ (by decide +kernel), codeN_builtin (show (!holders.contains "type.__call__") = true by decide +kernel) F.entry_type_call ?_⟩)
  rw [Around.under_plain (weight_type_call_type "bytearray" [v] []) rfl]
  have h1 : (Value.type "bytearray" == Value.type "type") = false := by decide +kernel
  have h2 : ((Manifest.find? "bytearray").bind (·.mro.findSome? fun t => (Manifest.find? t).bind fun b => if b.noNew then some true else if b.attrs.any (·.1 == "__new__") then some false else none)).getD false = false := by decide +kernel
  have h3 := ba_typeCall v
  have h4 := ba_mro
  have h5 := ba_made
  unfold PySem.Builtin.«type.__call__»
  simp only [h1, h2, h3, h4, h5, Bool.false_eq_true, if_false, pure_bind, List.isEmpty_cons]
  refine wpN_bindA (wpAny_holding (wpAny_call (codeAny_mono (ba_new v (Q₁ := fun o s' => o = .ref s.heap.objs.size ∧ s' = { s with heap := s.heap.push { cls := .type "bytearray", data := .bytearray #[] } }) (E := fun _ _ => False) ⟨rfl, rfl⟩) fun r s₁ hr => ?_)))
  cases r with
  | error e => exact hr.elim
  | ok fl =>
    cases fl with
    | ret obj =>
      obtain ⟨rfl, rfl⟩ := hr
      have hT : Shared.TypeIs { s with heap := s.heap.push { cls := .type "bytearray", data := .bytearray #[] } } (.ref s.heap.objs.size) "bytearray" := ⟨_, Heap.get?_push_size _ rfl, rfl⟩
      refine wpN_bindA (wpAny_isInstance hT ba_sub ?_)
      simp only [Bool.not_true, Bool.false_eq_true, if_false]
      refine wpN_bind (wpN_holding (specialN hT ba_slot_init (wpN_mono h (fun r s₂ hr => ?_) fun _ _ e => e)))
      obtain ⟨rfl, hq⟩ := hr
      exact wpN_any (wpAny_pure hq)
    | _ => exact hr.elim
end
end Mine

namespace Mine
def IsBA (h : Heap) (a : Addr) (b : Array UInt8) : Prop := ∃ o, h.get? a = some o ∧ o.cls = .type "bytearray" ∧ o.data = .bytearray b 0
section
variable {prog : Program} {w : World} {A : Around} {E : Value → Shared → Prop} {s : Shared}
theorem IsBA.typeIs {a : Addr} {b : Array UInt8} (h : IsBA s.heap a b) : s.TypeIs (.ref a) "bytearray" := let ⟨o, e, c, _⟩ := h; ⟨o, e, c⟩

theorem own_rel {a : Addr} {b : Array UInt8} {Q : Bool → Shared → Prop} (hb : IsBA s.heap a b) (h : Q false s) : wpAny (model prog w) A (PySem.Builtin.Bytes.ownRelease (.ref a)) Q E s := by
  unfold PySem.Builtin.Bytes.ownRelease PySem.Builtin.Bytes.slotIsOwn
  refine wpAny_bind (wpAny_bind (wpAny_specialOf hb.typeIs ba_release ?_))
  have e1 : ("bytearray.__release_buffer__".endsWith ("." ++ "__release_buffer__")) = true := by decide +kernel
  have e2 : "bytearray.__release_buffer__".dropRight ("__release_buffer__".length + 1) = "bytearray" := by decide +kernel
  simp only [e1, e2, Bool.not_true, Bool.false_eq_true, if_false]
  exact wpAny_isInstance hb.typeIs ba_sub (wpAny_pure h)
theorem ba_payload {a : Addr} {b : Array UInt8} {Q : Array UInt8 → Shared → Prop} (hb : IsBA s.heap a b) (h : Q b s) : wpAny (model prog w) A (PySem.Builtin.Bytes.payload (.ref a)) Q E s := by
  obtain ⟨o, e, c, d⟩ := hb
  unfold PySem.Builtin.Bytes.payload PySem.Builtin.Bytes.payload?
  refine wpAny_bind (wpAny_bind (wpAny_load e ?_))
  rw [d]
  exact wpAny_pure (wpAny_pure h)
theorem ba_write {a : Addr} {b : Array UInt8} {f : Array UInt8 → Array UInt8} {Q : Unit → Shared → Prop} (hb : IsBA s.heap a b) (hz : (f b).size ≤ sizeLine)
    (h : ∀ s', KeepsBut [a] s s' → IsBA s'.heap a (f b) → Q () s') : wpAny (model prog w) A (PySem.Builtin.Bytes.write (.ref a) f) Q E s := by
  obtain ⟨⟨c0, d0, x0, y0⟩, e, c, d⟩ := hb
  subst c d
  show wpAny _ _ (updateBytearray a f) _ _ s
  unfold updateBytearray
  refine wpAny_bind (wpAny_load e ?_)
  dsimp only
  have ge : (s.heap.update a (Obj.mapBytearray f)).get? a = some ⟨.type "bytearray", d0, .bytearray (f b) 0, y0⟩ := Heap.get?_update_self _ e rfl
  refine wpAny_bind (wpAny_update e (wpAny_lookBehind ge ?_ (h _ ⟨_, s.toks, rfl, fun x o hx ex => (Heap.SameBut.update ..).extBut x o (fun q => hx (List.mem_singleton.mpr q)) ex⟩ ⟨_, ge, rfl, rfl⟩)))
  show (if (f b).size > sizeLine then _ else _) = _
  rw [if_neg (by omega)]
theorem ba_exports {a : Addr} {b : Array UInt8} {Q : Nat → Shared → Prop} (hb : IsBA s.heap a b) (h : Q 0 s) : wpAny (model prog w) A (PySem.Builtin.Bytes.exportsOf (.ref a)) Q E s := by
  obtain ⟨o, e, c, d⟩ := hb
  unfold PySem.Builtin.Bytes.exportsOf
  refine wpAny_bind (wpAny_load e ?_)
  rw [d]
  exact wpAny_pure h

theorem ba_init {a : Addr} {n : Nat} {t : Tok} {Q : Value → Shared → Prop} (hb : IsBA s.heap a #[]) (hn : 0 < n) (hn8 : n ≤ 8)
    (h : ∀ s', KeepsBut [a] s s' → IsBA s'.heap a (Array.replicate n 0) → Q .none s') : wpN (model prog w) A (call (.builtin "bytearray.__init__") [.ref a, .int n t]) Q E s := by
  refine wpN_call (codeN_call_builtin (show (!holders.contains "bytearray.__init__") = true by decide +kernel) ba_plain_init ba_entry_init (ba_slot_init.check _ _ _ _ _ _ _ _ hb.typeIs (ba_initCall _ _) ?_))
  unfold PySem.Builtin.«bytearray.__init__»
  dsimp only
  refine wpN_bindA (own_rel hb ?_)
  simp only [Bool.false_eq_true, if_false]
  refine wpN_bindA (wpAny_of_eq (ba_bind _) ?_)
  dsimp only
  refine wpN_bindA (wpAny_of_eq (show PySem.Builtin.Bytes.checkCodecArg _ _ _ none = pure () from rfl) ?_)
  refine wpN_bindA (wpAny_of_eq (show PySem.Builtin.Bytes.checkCodecArg _ _ _ none = pure () from rfl) ?_)
  refine wpN_bind ?_
  show wpN _ _ (orM _ _) _ _ _
  unfold orM
  refine wpN_bind (exported_no ?_)
  show wpN _ _ (PySem.Builtin.Bytes.exportsOf (.ref a) >>= _) _ _ _
  refine wpN_bindA (ba_exports hb (wpN_any (wpAny_pure ?_)))
  simp only [Nat.lt_irrefl, gt_iff_lt, decide_false, Bool.false_eq_true, if_false]
  refine wpN_bindA (ba_write hb (by simp) fun s₁ k1 hb1 => ?_)
  have e1 : asStr? (Value.int (n : Int) t) = pure none := by rfl
  rw [e1]
  simp only [pure_bind, Option.isSome_none, Bool.false_eq_true, if_false]
  have h5 : ∀ Q : Option Value → Shared → Prop, Q (some (.builtin "int.__index__")) s₁ → wpAny (model prog w) A.in1 (specialOf (.int (n : Int) t) (Str.ofString "__index__")) Q (fun e s' => False) s₁ := fun Q hq => by
    exact wpAny_specialOf (name := Str.ofString "__index__") (typeIs_int s₁ n t) F.slot_int_index.lookup hq
  refine wpN_bindA ?_
  with_reducible refine wpAny_mono (h5 (fun v s' => v = some (.builtin "int.__index__") ∧ s' = s₁) ⟨rfl, rfl⟩) ?_ (fun e s' q => q.elim)
  rintro _ _ ⟨rfl, rfl⟩
  have e6 : (asIndex (Value.int (n : Int) t)).attempt = pure (.ok (n : Int)) := by rfl
  have e7 : PySem.Builtin.Bytes.fitsIndex (n : Int) = true := by
    unfold PySem.Builtin.Bytes.fitsIndex
    simp only [Bool.and_eq_true, decide_eq_true_eq]
    constructor <;> omega
  have e8 : ¬ ((n : Int) < 0) := by omega
  have e9 : ((n : Int) == 2 ^ 63 - 1) = false := by
    rw [beq_eq_false_iff_ne]; omega
  have e10 : PySem.Builtin.Bytes.tooLong n = false := by
    unfold PySem.Builtin.Bytes.tooLong
    simp [sizeLine]; omega
  have e11 : (0 : Int) < (n : Int) := by omega
  have e12 : ((n : Int)).toNat = n := by omega
  rw [e6]
  simp only [Option.isSome_some, if_true, pure_bind, e7, e8, e9, e10, e11, e12, Bool.not_true, Bool.false_eq_true, if_false]
  refine wpN_bindA (wpAny_rule ?_)
  refine wpN_bindA (ba_write hb1 (by simp [sizeLine]; omega) fun s₂ k2 hb2 => ?_)
  exact wpN_any (wpAny_pure (h _ (KeepsBut.trans k1 k2) hb2))
end
end Mine

namespace Mine
theorem ba_no_bytes : typeLookup (.type "bytearray") "__bytes__" = pure none := by rw [typeLookup_type, builtinLookup_eq_fast]; kernel_rfl
theorem ba_no_index : typeLookup (.type "bytearray") "__index__" = pure none := by rw [typeLookup_type, builtinLookup_eq_fast]; kernel_rfl
theorem ba_buffer : typeLookup (.type "bytearray") "__buffer__" = pure (some (.builtin "bytearray.__buffer__")) := by rw [typeLookup_type, builtinLookup_eq_fast]; kernel_rfl
section
variable {prog : Program} {w : World} {A : Around} {E : Value → Shared → Prop} {s : Shared}
theorem ifF {α : Type} {M : Model} {c : Bool} {a b : Sem α} {Q : α → Shared → Prop} (hc : c = false) (h : wpAny M A b Q E s) : wpAny M A (if c = true then a else b) Q E s := by
  subst hc; exact h
theorem ifT {α : Type} {M : Model} {c : Bool} {a b : Sem α} {Q : α → Shared → Prop} (hc : c = true) (h : wpAny M A a Q E s) : wpAny M A (if c = true then a else b) Q E s := by
  subst hc; exact h

/-- a store into a bytearray -/
theorem set_ba {a : Addr} {b : Array UInt8} {k v : Int} {t u : Tok} {Q : Unit → Shared → Prop} (hb : IsBA s.heap a b) (h0 : 0 ≤ k) (hk : k < b.size) (hz : b.size ≤ 1000) (hv0 : 0 ≤ v) (hv : v < 256)
    (h : ∀ s', KeepsBut [a] s s' → IsBA s'.heap a (b.setIfInBounds k.toNat v.toNat.toUInt8) → Q () s') : wpAny (model prog w) A (setItem (.ref a) (.int k t) (.int v u)) Q E s := by
  unfold setItem
  try with_reducible refine wpAny_holding ?_
  first | refine wpAny_bind (wpAny_pure ?_) | skip
  refine wpAny_bind (wpAny_sequenceKey hb.typeIs (by decide) ?_)
  refine wpAny_bind (wpAny_callSpecial?_slot (name := Str.ofString "__setitem__") hb.typeIs ba_slot_set
    (wpAny_call_entry ba_slot_set hb.typeIs ba_entry_set ?_ (ba_setCall _ _ _)))
  unfold PySem.Builtin.«bytearray.__setitem__»
  refine ifF rfl ?_
  dsimp only
  refine wpAny_bind ?_
  unfold PySem.Builtin.Bytes.subscript?
  refine wpAny_bind ?_
  have h5 : ∀ Q : Option Value → Shared → Prop, Q (some (.builtin "int.__index__")) s → wpAny (model prog w) A.in1 (specialOf (.int k t) (Str.ofString "__index__")) Q (fun e s' => False) s := fun Q hq =>
    wpAny_specialOf (name := Str.ofString "__index__") (typeIs_int s k t) F.slot_int_index.lookup hq
  with_reducible refine wpAny_mono (h5 (fun v s' => v = some (.builtin "int.__index__") ∧ s' = s) ⟨rfl, rfl⟩) ?_ (fun e s' q => q.elim)
  rintro _ _ ⟨rfl, rfl⟩
  refine ifF rfl ?_
  have e6 : asIndex (Value.int k t) = pure k := by rfl
  have e7 : PySem.Builtin.Bytes.fitsIndex k = true := by
    unfold PySem.Builtin.Bytes.fitsIndex
    simp only [Bool.and_eq_true, decide_eq_true_eq]
    constructor <;> omega
  have e8 : asIndex (Value.int v u) = pure v := by rfl
  have e9 : (decide (v < 0) || decide (v ≥ 256)) = false := by simp; omega
  rw [e6]
  simp only [pure_bind, e7, Bool.not_true, Bool.false_eq_true, if_false]
  refine wpAny_pure ?_
  dsimp only
  refine wpAny_bind ?_
  unfold PySem.Builtin.Bytes.byteValue
  rw [e8]
  simp only [pure_bind, e9, Bool.false_eq_true, if_false]
  refine wpAny_pure ?_
  refine wpAny_bind (ba_payload hb ?_)
  have e10 : seqIndex? k b.size = some k.toNat := by
    have hn : ¬ k < 0 := by omega
    simp [seqIndex?, hn, h0, hk]
  rw [e10]
  dsimp only
  refine wpAny_bind (ba_write hb (by simp [sizeLine]; omega) fun s' k1 hb1 => ?_)
  exact wpAny_pure ⟨.none, rfl, wpAny_pure (h _ k1 hb1)⟩

theorem ba_bytes_new {a : Addr} {b : Array UInt8} {Q : Value → Shared → Prop} (hb : IsBA s.heap a b) (hz : b.size ≤ 1000)
    (hQ : ∀ t k, Q (.bytes b t) { s with toks := k }) : codeAny (model prog w) A (.call (.builtin "bytes.__new__") ⟨[.type "bytes", .ref a], []⟩) (wants Q E) s := by
  refine codeAny_of_tree ?_
  show wpAny _ A.in1 (do checkBuiltinCall "bytes.__new__" ⟨[.type "bytes", .ref a], []⟩; again (.builtin "bytes.__new__" ⟨[.type "bytes", .ref a], []⟩)) _ _ s
  refine wpAny_bind (wpAny_of_eq (F.bm_newCall _) (wpAny_pure ⟨plainId_quiet F.bm_plain _, codeAny_builtin F.bm_entry ?_⟩))
  rw [Around.under_plainId F.bm_plain _]
  have hT := hb.typeIs
  obtain ⟨o, ho, hc, hd⟩ := id hb
  unfold PySem.Builtin.«bytes.__new__»
  refine wpAny_bind (wpAny_of_eq (a := true) rfl ?_)
  refine ifF rfl ?_
  refine wpAny_bind (wpAny_of_eq F.bm_sub ?_)
  refine ifF rfl ?_
  refine wpAny_bind (wpAny_of_eq (F.bm_bind _) ?_)
  refine wpAny_bind (wpAny_of_eq (a := ()) rfl ?_)
  refine wpAny_bind (wpAny_of_eq (a := ()) rfl ?_)
  refine ifF rfl ?_
  refine wpAny_bind (wpAny_specialOf hT ba_no_bytes ?_)
  refine wpAny_bind (wpAny_bind ?_)
  show wpAny _ _ (load a >>= _) _ _ _
  refine wpAny_bind (wpAny_load ho ?_)
  rw [hd]
  refine wpAny_pure (wpAny_pure ?_)
  refine ifF rfl ?_
  refine wpAny_bind (wpAny_specialOf hT ba_no_index ?_)
  refine ifT rfl ?_
  first
    | show wpAny _ _ (PySem.Builtin.Bytes.buffer? "bytes.__new__" (.ref a) true >>= _) _ _ _
    | (refine wpAny_bind ?_; show wpAny _ _ (PySem.Builtin.Bytes.buffer? "bytes.__new__" (.ref a) true >>= _) _ _ _)
  refine wpAny_bind ?_
  unfold PySem.Builtin.Bytes.buffer?
  refine wpAny_bind (wpAny_specialOf hT ba_buffer ?_)
  refine wpAny_bind ?_
  unfold PySem.Builtin.Bytes.slotIsOwn
  refine wpAny_bind (wpAny_specialOf hT ba_buffer ?_)
  have e1 : ("bytearray.__buffer__".endsWith ("." ++ "__buffer__")) = true := by decide +kernel
  have e2 : "bytearray.__buffer__".dropRight ("__buffer__".length + 1) = "bytearray" := by decide +kernel
  simp only [e1, e2, Bool.not_true, Bool.false_eq_true, if_false]
  refine wpAny_isInstance hT ba_sub ?_
  refine ifF rfl ?_
  refine wpAny_bind (wpAny_specialOf hT ba_buffer ?_)
  show wpAny _ _ (PySem.Builtin.Bytes.ownRelease (.ref a) >>= _) _ _ _
  refine wpAny_bind (own_rel hb ?_)
  refine ifF rfl ?_
  refine wpAny_bind (ba_payload hb (wpAny_pure ?_))
  refine wpAny_bind (wpAny_rule ?_)
  refine wpAny_bind (wpAny_mkBytes ?_ (by simp [sizeLine]; omega))
  show wpAny _ _ (if (Value.type "bytes" == Value.type "bytes") = true then _ else _) _ _ _
  refine ifT (by decide) ?_
  first
    | exact wpAny_pure (hQ _ _)
    | exact wpAny_bind (wpAny_pure (wpAny_pure (hQ _ _)))
theorem bytes_ba {a : Addr} {b : Array UInt8} {Q : Value → Shared → Prop} (hb : IsBA s.heap a b) (hz : b.size ≤ 1000) (hQ : ∀ t k, Q (.bytes b t) { s with toks := k }) : wpAny (model prog w) A (call (.type "bytes") [.ref a]) Q E s := by
  refine callType_codes (Q₁ := fun obj s₁ => s₁.TypeIs obj "bytes" ∧ Q obj s₁) F.bm_called (F.bm_typeCall _) F.entry_object_init
    (ba_bytes_new hb hz fun t k => ⟨PySem.W.typeIs_bytes _ _ _, hQ t k⟩) fun obj s₁ h₁ => ?_
  exact ⟨h₁.1, F.args_object_init_2 obj _, object_init_meets F.bm_called.init.lookup F.bm_called.made (by decide) prog w A.in1 _ s₁ ⟨h₁.1, rfl, h₁.2⟩⟩
end
end Mine

namespace Mine
theorem ra_no_bytes : typeLookup (.type "range") "__bytes__" = pure none := by rw [typeLookup_type, builtinLookup_eq_fast]; kernel_rfl
theorem ra_no_index : typeLookup (.type "range") "__index__" = pure none := by rw [typeLookup_type, builtinLookup_eq_fast]; kernel_rfl
theorem ra_no_buffer : typeLookup (.type "range") "__buffer__" = pure none := by rw [typeLookup_type, builtinLookup_eq_fast]; kernel_rfl
theorem ra_len : typeLookup (.type "range") "__len__" = pure (some (.builtin "range.__len__")) := by rw [typeLookup_type, builtinLookup_eq_fast]; kernel_rfl
theorem ra_split : PySem.splitId "range.__len__" = some ("range", "__len__") := by decide +kernel
theorem ra_sub : isSubtype (.type "range") (.type "range") = pure true := by rw [isSubtype_type]; kernel_rfl
def upB (val : Nat → Nat) (i : Nat) : Array UInt8 := ((List.range i).map fun j => (val j).toUInt8).toArray
theorem upB_succ (val : Nat → Nat) (i : Nat) : upB val (i + 1) = (upB val i).push (val i).toUInt8 := by
  unfold upB
  rw [List.range_succ, List.map_append]
  simp
theorem upB_size (val : Nat → Nat) (i : Nat) : (upB val i).size = i := by simp [upB]
section
variable {prog : Program} {w : World} {A : Around} {E : Value → Shared → Prop} {s : Shared}
theorem bytes_loop {I S : Addr} {fp : List Addr} {n : Nat} {P : Nat → Value → Prop} {St : Nat → Heap → Prop} {R : Result → Shared → Prop} (W : Walks prog w A.in1 I fp [I] n P St) (val : Nat → Nat)
    (hP : ∀ i v, P i v → ∃ t, v = .int (val i : Nat) t) (hv : ∀ i, i < n → val i < 256) (hz : n ≤ 1000) (hS : S ∉ fp) :
    ∀ (k i : Nat) (s : Shared), n - i = k → i ≤ n → St i s.heap → IsBA s.heap S (upB val i) →
      (∀ s' t, KeepsBut [I, S] s s' → R (.ok (.ret (.bytes (upB val n) t))) s') →
      codeAny (model prog w) A (.builtin "bytes.__new__.loop" ⟨[.type "bytes", .ref I, .ref S], []⟩) R s := by
  have hIS : I ≠ S := fun e => hS (e ▸ W.sub I (List.mem_singleton.mpr rfl))
  intro k
  induction k with
  | zero =>
    intro i s hk hle hst hb hR
    have hin : i = n := by omega
    subst hin
    refine codeAny_builtin F.bm_entry_loop ?_
    rw [Around.under_plainId F.bm_plain_loop _]
    show wpAny _ A.in1 (pyNext (.ref I) >>= _) _ _ s
    refine wpAny_bind (W.done s _ _ hst fun h' tk he => ?_)
    have hb' : IsBA h' S (upB val i) := let ⟨o, e, c, d⟩ := hb; ⟨o, he S o (fun q => hIS (List.mem_singleton.mp q).symm) e, c, d⟩
    refine wpAny_bind (ba_payload (s := { s with heap := h', toks := tk }) hb' ?_)
    refine wpAny_bind (wpAny_mkBytes ?_ (by rw [upB_size]; simp [sizeLine]; omega))
    show wpAny _ _ (if (Value.type "bytes" == Value.type "bytes") = true then _ else _) _ _ _
    refine ifT (by decide) ?_
    have fin := hR { s with heap := h', toks := tk + 1 } tk ⟨h', tk + 1, rfl, fun b o hb e => he b o (fun q => hb (List.mem_cons.mpr (.inl (List.mem_singleton.mp q)))) e⟩
    first
      | exact wpAny_pure fin
      | exact wpAny_bind (wpAny_pure (wpAny_pure fin))
  | succ k ih =>
    intro i s hk hle hst hb hR
    have hlt : i < n := by omega
    refine codeAny_builtin F.bm_entry_loop ?_
    rw [Around.under_plainId F.bm_plain_loop _]
    show wpAny _ A.in1 (pyNext (.ref I) >>= _) _ _ s
    refine wpAny_bind (W.item i s _ _ hlt hst fun v h' tk hPv hst' he => ?_)
    obtain ⟨t, rfl⟩ := hP i v hPv
    have hvi := hv i hlt
    have hb' : IsBA h' S (upB val i) := let ⟨o, e, c, d⟩ := hb; ⟨o, he S o (fun q => hIS (List.mem_singleton.mp q).symm) e, c, d⟩
    refine wpAny_bind (wpAny_holding (wpAny_of_eq (rfl : asIndex (.int ((val i : Nat) : Int) t) = pure ((val i : Nat) : Int)) ?_))
    refine wpAny_bind (wpAny_letGo ?_)
    refine ifF (by simp only [Bool.or_eq_false_iff, decide_eq_false_iff_not]; omega) ?_
    refine wpAny_bind (ba_write (s := { s with heap := h', toks := tk }) hb' (by rw [Array.size_push, upB_size]; simp [sizeLine]; omega) fun s₂ k2 hb2 => ?_)
    have en : ((val i : Nat) : Int).toNat.toUInt8 = (val i).toUInt8 := by simp
    rw [en, ← upB_succ] at hb2
    obtain ⟨g2, t2, rfl, k2⟩ := k2
    refine wpAny_pure ⟨plainId_quiet F.bm_plain_loop _, ih (i + 1) _ (by omega) hlt (W.frame _ _ _ hst' fun b hb o e => k2 b o (fun q => hS (List.mem_singleton.mp q ▸ hb)) e) hb2 fun s' t' k' => ?_⟩
    refine hR s' t' ?_
    obtain ⟨g3, t3, rfl, k3⟩ := k'
    exact ⟨g3, t3, rfl, fun b o hb e => k3 b o hb (k2 b o (fun q => hb (List.mem_cons.mpr (.inr q))) (he b o (fun q => hb (List.mem_cons.mpr (.inl (List.mem_singleton.mp q)))) e))⟩

theorem bytes_range_new {r : Addr} {n : Nat} {t u v : Tok} {Q : Value → Shared → Prop} (hA : A.handled = none) (hr : IsRange s.heap r 0 n 1 t u v) (hn : n ≤ 200)
    (hQ : ∀ s' t, Keeps s s' → Q (.bytes (upB id n) t) s') : codeAny (model prog w) A (.call (.builtin "bytes.__new__") ⟨[.type "bytes", .ref r], []⟩) (wants Q E) s := by
  refine codeAny_of_tree ?_
  show wpAny _ A.in1 (do checkBuiltinCall "bytes.__new__" ⟨[.type "bytes", .ref r], []⟩; again (.builtin "bytes.__new__" ⟨[.type "bytes", .ref r], []⟩)) _ _ s
  refine wpAny_bind (wpAny_of_eq (F.bm_newCall _) (wpAny_pure ⟨plainId_quiet F.bm_plain _, codeAny_builtin F.bm_entry ?_⟩))
  rw [Around.under_plainId F.bm_plain _]
  have hT : s.TypeIs (.ref r) "range" := ⟨_, hr, rfl⟩
  unfold PySem.Builtin.«bytes.__new__»
  refine wpAny_bind (wpAny_of_eq (a := true) rfl ?_)
  refine ifF rfl ?_
  refine wpAny_bind (wpAny_of_eq F.bm_sub ?_)
  refine ifF rfl ?_
  refine wpAny_bind (wpAny_of_eq (F.bm_bind _) ?_)
  refine wpAny_bind (wpAny_of_eq (a := ()) rfl ?_)
  refine wpAny_bind (wpAny_of_eq (a := ()) rfl ?_)
  refine ifF rfl ?_
  refine wpAny_bind (wpAny_specialOf hT ra_no_bytes ?_)
  refine wpAny_bind (wpAny_bind ?_)
  show wpAny _ _ (load r >>= _) _ _ _
  refine wpAny_bind (wpAny_load hr ?_)
  refine wpAny_pure (wpAny_pure ?_)
  refine ifF rfl ?_
  refine wpAny_bind (wpAny_specialOf hT ra_no_index ?_)
  refine ifT rfl ?_
  first
    | show wpAny _ _ (PySem.Builtin.Bytes.buffer? "bytes.__new__" (.ref r) true >>= _) _ _ _
    | (refine wpAny_bind ?_; show wpAny _ _ (PySem.Builtin.Bytes.buffer? "bytes.__new__" (.ref r) true >>= _) _ _ _)
  refine wpAny_bind ?_
  unfold PySem.Builtin.Bytes.buffer?
  refine wpAny_bind (wpAny_specialOf hT ra_no_buffer ?_)
  refine wpAny_bind (wpAny_specialOf hT ra_no_buffer ?_)
  refine wpAny_pure ?_
  refine wpAny_bind (wpAny_tryCatch ?_)
  refine src_range (A := A.in1) hA hr (by decide) (by decide) (by omega) (by omega) _ _ ?_
  intro I fp St s₁ W hst hfp hfo hI hz k1
  have hr1 := kGet k1 _ _ hr
  have hT1 : s₁.TypeIs (.ref r) "range" := ⟨_, hr1, rfl⟩
  refine wpAny_bind (wpAny_holding ?_)
  unfold PySem.Builtin.Bytes.lengthHint
  refine wpAny_bind (wpAny_specialOf hT1 ra_len ?_)
  dsimp only
  rw [ra_split]
  dsimp only
  refine wpAny_bind (wpAny_isInstance hT1 ra_sub ?_)
  refine ifF rfl ?_
  refine ifF (by decide +kernel) ?_
  refine ifT rfl ?_
  refine wpAny_bind (wpAny_rule ?_)
  have hrs : PySem.Builtin.Range.rangeSize 0 (n : Int) 1 = (n : Int) := by rw [rangeSize_one]; split <;> omega
  refine wpAny_bind (wpAny_attempt (call_len_range hr1 hrs (by omega) ?_))
  dsimp only
  have e1 : asInt? (Value.int (n : Int) (s₁.toks + 1)) = pure (some (n : Int)) := by rfl
  have e2 : PySem.Builtin.Bytes.tooLong ((n : Int).toNat) = false := by
    unfold PySem.Builtin.Bytes.tooLong
    simp [sizeLine]; omega
  rw [e1]
  simp only [pure_bind, e2, Bool.false_eq_true, if_false]
  refine wpAny_pure ?_
  refine wpAny_bind ?_
  unfold PySem.Builtin.Bytes.newBytearray
  refine wpAny_newObj_type ?_ (Nat.zero_le _)
  have main := bytes_loop (prog := prog) (w := w) (A := A) (S := s₁.heap.objs.size) (R := wants Q E) W id (fun i v ⟨t, e⟩ => ⟨t, by rw [e]; simp⟩) (fun i hi => by simp at hi ⊢; omega) (by simp; omega) (fun hm => Nat.lt_irrefl _ (hfp _ hm))
    _ 0 { s₁ with heap := s₁.heap.push { cls := .type "bytearray", data := .bytearray #[] }, toks := s₁.toks + 1 + 1 } rfl (Nat.zero_le _) (W.frame _ _ _ hst fun b _ o e => Heap.get?_push_of_some _ e) ⟨_, Heap.get?_push_size _ rfl, rfl, rfl⟩
    (fun s' t' k' => by
      have en : ((n : Int) - 0).toNat = n := by omega
      rw [en]
      refine hQ s' t' (keepsOf (sameTrans (KeepsBut.same (Mine.Keeps.but (wr := []) k1)) (sameTrans ⟨_, _, rfl⟩ (KeepsBut.same k'))) fun x o e => ?_)
      have e1 := kGet k1 x o e
      refine k'.get x o (fun hm => ?_) (Heap.get?_push_of_some _ e1)
      rcases List.mem_cons.mp hm with q | q
      · rw [q] at e; exact absurd (Heap.lt_size e) (Nat.not_lt.mpr hI)
      · rw [List.mem_singleton.mp q] at e1; exact absurd (Heap.lt_size e1) (Nat.lt_irrefl _))
  first
    | exact wpAny_pure ⟨plainId_quiet F.bm_plain_loop _, main⟩
    | exact wpAny_pure (wpAny_pure ⟨plainId_quiet F.bm_plain_loop _, main⟩)
theorem bytes_range {r : Addr} {n : Nat} {t u v : Tok} {Q : Value → Shared → Prop} (hA : A.handled = none) (hr : IsRange s.heap r 0 n 1 t u v) (hn : n ≤ 200)
    (hQ : ∀ s' t, Keeps s s' → Q (.bytes (upB id n) t) s') : wpAny (model prog w) A (call (.type "bytes") [.ref r]) Q E s := by
  refine callType_codes (Q₁ := fun obj s₁ => s₁.TypeIs obj "bytes" ∧ Q obj s₁) F.bm_called (F.bm_typeCall _) F.entry_object_init
    (bytes_range_new (A := A.in1) hA hr hn fun s' t' k => ⟨PySem.W.typeIs_bytes _ _ _, hQ s' t' k⟩) fun obj s₁ h₁ => ?_
  exact ⟨h₁.1, F.args_object_init_2 obj _, object_init_meets F.bm_called.init.lookup F.bm_called.made (by decide) prog w A.in1 _ s₁ ⟨h₁.1, rfl, h₁.2⟩⟩
end
end Mine

namespace Mine
section
variable {prog : Program} {w : World} {A : Around} {E : Value → Shared → Prop} {s : Shared} {env : Env}
theorem codeN_func {body : List Stmt} {R : Result → Shared → Prop}
    (h : wpN (model prog w) (A.deeper env) (execs body env) (fun f s' => R (.ok (.ret (retOf f))) s') (fun _ _ => False) s) : codeN (model prog w) A (.func body env) R s := by
  refine codeN_of_tree rfl ?_
  show wpN _ (A.deeper env) (do point; match ← (execs body env).onRaise (leaving env) with | .ret v => ret v | _ => ret .none) _ _ s
  refine wpN_bindA (wpAny_point (wpN_bind (wpN_onRaise (wpN_mono h (fun f s' h' => ?_) fun _ _ h' => h'.elim))))
  cases f <;> exact wpN_any (wpAny_pure h')
/-- a call of a def of the text, its body under the watch -/
theorem callFnN {st : Stmt} {a : Addr} {args : List Value} {Q : Value → Shared → Prop} (binds : List (Str × Value)) (X : FnOk s.heap a st) (lim : s.heap.NoLimit) (hd : A.depth < recursionLimit)
    (hbind : ∀ pm cd doc, bindArgs (Calls.docDef (nmOf st) (prOf st) (bdOf st) (scOf st) pm cd doc) ⟨args, []⟩ = pure binds)
    (hkind : (binds.all fun y => (scOf st).names.lookup y.1 == some .local || (scOf st).names.lookup y.1 == some .cell) = true)
    (h : ∀ L cd s₁, L = s.heap.objs.size → Keeps s s₁ → Fr s.heap L s₁.heap (bindL (envF st L a cd).kindOf binds fun _ => none) →
      Cl L (cellsFrom (L + 1) (scOf st).names []) s₁.heap (bindC (envF st L a cd).kindOf binds fun _ => none) →
      wpN (model prog w) (A.deeper (envF st L a cd)) (execs (bdOf st) (envF st L a cd)) (fun f s' => Q (retOf f) s') (fun _ _ => False) s₁)
    (hco : (scOf st).isCoroutine = false := by rfl) (hgen : (scOf st).isGenerator = false := by rfl) (hk : (scOf st).kind = .function := by rfl) :
    wpN (model prog w) A (call (.ref a) args) Q E s := by
  obtain ⟨o, pm, cd, doc, ho, hdata, hcd⟩ := X
  refine wpN_call (codeN_of_tree rfl (wpN_any ?_))
  show wpAny _ A.in1 (callAny (.ref a) ⟨args, []⟩) _ _ s
  simp only [callAny]
  refine wpAny_bind (wpAny_load ho ?_)
  obtain ⟨c, oc, vs, tq, rfl, hoc, hdc, hq⟩ := hcd
  have hbody : (Calls.docDef (nmOf st) (prOf st) (bdOf st) (scOf st) pm (.ref c) doc).body = .stmts (bdOf st) := rfl
  have hsc : (Calls.docDef (nmOf st) (prOf st) (bdOf st) (scOf st) pm (.ref c) doc).scope = scOf st := rfl
  have hcode : (Calls.docDef (nmOf st) (prOf st) (bdOf st) (scOf st) pm (.ref c) doc).code = .ref c := rfl
  simp only [hdata, callFunction, hbody, hsc, hcode, hco, hgen]
  refine wpAny_bind (m := field (.ref c) 1) (wpAny_field hoc hdc hq (wpAny_bind (wpAny_pure ?_)))
  rw [hbind pm (.ref c) doc]
  refine wpAny_bind (wpAny_pure (wpAny_bind ?_))
  refine wpAny_newFunctionEnv_cells hk (kindsX hkind _) fun env he s' x => ?_
  subst he
  refine wpAny_bind (wpAny_enterFrame (lim.keeps x.toInCall.keep) hd (wpAny_pure ⟨rfl, codeN_func ?_⟩))
  obtain ⟨h₁, tk, rfl, _⟩ := x.done
  exact h _ (.ref c) _ rfl (kMk s h₁ tk x.toInCall.keep) ⟨x.toInCall.ns, x.toInCall.keep, x.toInCall.fresh⟩ ⟨x.cell, x.apart, x.above⟩

theorem execsN_cons {st : Stmt} {rest : List Stmt} {Q : Flow → Shared → Prop}
    (h : wpN (model prog w) A (exec st env) (fun f s' => match f with | .next => wpN (model prog w) A (execs rest env) Q E s' | f => Q f s') E s) : wpN (model prog w) A (execs (st :: rest) env) Q E s := by
  rw [execs_cons]
  refine wpN_bind (wpN_mono h (fun f s' h' => ?_) fun _ _ e => e)
  cases f <;> first | exact h' | exact wpN_any (wpAny_pure h')
/-- a plain statement first -/
theorem execsN_any {st : Stmt} {rest : List Stmt} {Q : Flow → Shared → Prop}
    (h : wpAny (model prog w) A (exec st env) (fun f s' => match f with | .next => wpN (model prog w) A (execs rest env) Q E s' | f => Q f s') E s) : wpN (model prog w) A (execs (st :: rest) env) Q E s :=
  execsN_cons (wpN_any h)
theorem assignN {x : Str} {pos' : Pos} {value : Expr} {pos : Pos} {Q : Flow → Shared → Prop}
    (h : wpN (model prog w) A (eval value env) (fun v s₁ => wpAny (model prog w) A (storeName env x v) (fun _ => Q .next) E s₁) E s)
    (hs : swapsWith value (some (.Name x pos')) pos.line env = pure false := by rfl) : wpN (model prog w) A (exec (.Assign [.Name x pos'] value pos) env) Q E s := fun Γ p hΓ hn => by
  simp only [exec_Assign_Name env x pos' value pos hs, Sem.wp_bind', Sem.wp_cmd_standAt, Sem.wp_bindName, Sem.wp_pure']
  exact Sem.wp_mono _ Γ _ (fun v _ s₁ h₁ => h₁ Γ _ hΓ) (fun _ _ _ h' => h') _ _ (h Γ _ hΓ hn)
theorem callNN {id : Str} {p pos : Pos} {args : List Expr} {Q : Value → Shared → Prop}
    (h : wpAny (model prog w) A (eval (.Name id p) env) (fun f s₁ => wpN (model prog w) A (callWith pos f [] (backTo pos (starEach args env)) []) Q E s₁) E s) :
    wpN (model prog w) A (eval (.Call (.Name id p) args [] pos) env) Q E s := by
  show wpN _ A (do callWith pos (← eval (.Name id p) env) [] (backTo pos (starEach args env)) (backToKw pos (keywordEach [] env))) Q E s
  exact wpN_bindA h
theorem cFN {a : Addr} {args : List Expr} {pos : Pos} {st : Stmt} {Q : Value → Shared → Prop}
    (h : wpAny (model prog w) A (spliced (backTo pos (starEach args env))) (fun vs s₁ => FnOk s₁.heap a st ∧ wpN (model prog w) A (call (.ref a) vs) Q E s₁) E s)
    (hn : (backTo pos (starEach args env)).any (·.1) = false := by rfl) : wpN (model prog w) A (callWith pos (.ref a) [] (backTo pos (starEach args env)) []) Q E s := by
  unfold callWith
  refine wpN_bindA (wpAny_holding (evalArgs_ns hn (wpAny_mono h (fun vs s₁ h₁ => wpN_bindA (wpAny_standAt ?_)) fun _ _ x => x)))
  obtain ⟨⟨o, pm, cd, doc, ho, hdata, _⟩, hc⟩ := h₁
  have tail : ∀ {t : Sem Value}, wpN (model prog w) A t Q E s₁ → wpN (model prog w) A (t >>= fun r => holding [r] point >>= fun _ => pure r) Q E s₁ :=
    fun ht => wpN_bind (wpN_mono ht (fun r s₂ hr => wpN_any (wpAny_bind (wpAny_holding (wpAny_point (wpAny_pure hr))))) fun _ _ x => x)
  simp only [hn, List.any_nil, Bool.or_false]
  refine wpN_bindA (m := keeperOf (.ref a)) ?_
  unfold keeperOf
  refine wpAny_bind (wpAny_load ho ?_)
  rw [hdata]
  refine wpAny_pure ?_
  show wpN (model prog w) A (if _ then _ else _) Q E s₁
  split
  · exact tail hc
  · exact tail (by unfold callMarked; exact wpN_keep hc)
theorem cTN {T : String} {args : List Expr} {pos : Pos} {Q : Value → Shared → Prop}
    (h : wpAny (model prog w) A (spliced (backTo pos (starEach args env))) (fun vs s₁ => wpN (model prog w) A (call (.type T) vs) Q E s₁) E s)
    (hn : (backTo pos (starEach args env)).any (·.1) = false := by rfl) : wpN (model prog w) A (callWith pos (.type T) [] (backTo pos (starEach args env)) []) Q E s := by
  unfold callWith
  refine wpN_bindA (wpAny_holding (evalArgs_ns hn (wpAny_mono h (fun vs s₁ h₁ => wpN_bindA (wpAny_standAt ?_)) fun _ _ x => x)))
  simp only [hn, List.any_nil, Bool.or_false]
  refine wpN_bindA (wpAny_pure ?_)
  exact wpN_bind (wpN_mono h₁ (fun r s₂ hr => wpN_any (wpAny_bind (wpAny_holding (wpAny_point (wpAny_pure hr))))) fun _ _ x => x)
end
end Mine

namespace Mine
section
variable {prog : Program} {w : World} {A : Around} {E : Value → Shared → Prop} {s : Shared} {env : Env}
theorem loopN {target : Expr} {it : Value} {body : List Stmt} {R : Result → Shared → Prop} (I : Nat → Shared → Prop)
    (turn : ∀ n s, I n s → wpAny (model prog w) A (pyNext it) (fun r s₁ => match r with
      | none => R (.ok .next) s₁
      | some v => wpAny (model prog w) A (assign target env v) (fun _ s₂ => wpN (model prog w) A (execs body env) (fun f s₃ => f = .next ∧ ∃ m, m < n ∧ I m s₃) (fun _ _ => False) s₂) (fun _ _ => False) s₁) (fun _ _ => False) s)
    (n : Nat) (h : I n s) (ht : ∀ v, letOwnedTupleGo target it v = pure () := by intro _; rfl) : codeN (model prog w) A (.forLoop target it body [] env) R s := by
  induction n using Nat.strongRecOn generalizing s with
  | ind n ih =>
    refine codeN_of_tree rfl ?_
    show wpN _ A ((forTurn target it body [] env).onRaise (fun x => do noteFrame x env; theTreesLotGoes x)) _ _ s
    refine wpN_onRaise ?_
    simp only [forTurn]
    refine wpN_bindA (wpAny_standAt (wpN_bindA (wpAny_onRaise (wpAny_mono (turn n s h) (fun r s₁ h₁ => ?_) fun _ _ h' => h'.elim))))
    cases r with
    | none =>
      refine wpN_any (wpAny_pure ⟨rfl, codeN_any (codeAny_of_tree ?_)⟩)
      show wpAny _ _ (do return Fin.done (← (execs [] env).onRaise (fun x => do noteFrame x env; theTreesLotGoes x))) _ _ s₁
      exact wpAny_bind (wpAny_onRaise (wpAny_mono (wpAny_execs_nil (E := fun _ _ => False) (Q := fun f s' => f = .next ∧ s' = s₁) ⟨rfl, rfl⟩) (fun f s' ⟨e1, e2⟩ => by subst e1 e2; exact wpAny_pure h₁) fun _ _ h' => h'.elim))
    | some v =>
      refine wpN_bindA (wpAny_of_eq (ht v) ?_)
      refine wpN_bindA (wpAny_mono h₁ (fun _ s₂ h₂ => ?_) fun _ _ e => e.elim)
      refine wpN_bind (wpN_mono h₂ (fun f s₃ h₃ => ?_) fun _ _ e => e.elim)
      obtain ⟨rfl, m, hm, hI⟩ := h₃
      exact wpN_any (wpAny_pure ⟨rfl, ih m hm hI⟩)

/-- a loop whose turns are under the watch -/
theorem forN {target iter : Expr} {body : List Stmt} {pos : Pos} {Q : Flow → Shared → Prop}
    (h : wpAny (model prog w) A (eval iter env) (fun xv s₁ => ∃ n P own wr, ∃ Inv : Addr → Nat → Heap → Prop, Src prog w A xv s₁ n P own ∧ (∀ b ∈ wr, b ∉ own ∧ ∃ o, s₁.heap.get? b = some o) ∧
      (∀ I s₂, s₁.heap.objs.size ≤ I → Keeps s₁ s₂ → Inv I 0 s₂.heap) ∧
      (∀ I i h h', Inv I i h → (∀ b o, b ≠ I → h.get? b = some o → h'.get? b = some o) → s₁.heap.objs.size ≤ I → Inv I i h') ∧
      (∀ I i v s₂, i < n → P i v → s₁.heap.objs.size ≤ I → (∃ o, s₂.heap.get? I = some o) → Inv I i s₂.heap → wpAny (model prog w) A (assign target env v) (fun _ s₃ => wpN (model prog w) A (execs body env)
        (fun f s₄ => f = .next ∧ Inv I (i + 1) s₄.heap ∧ KeepsBut wr s₂ s₄) (fun _ _ => False) s₃) (fun _ _ => False) s₂) ∧
      (∀ I s₂, s₁.heap.objs.size ≤ I → Inv I n s₂.heap → (∃ h tk, s₂ = { s₁ with heap := h, toks := tk }) → Q .next s₂)) E s)
    (hs : ∀ x, foldedSetIterable iter env x = pure x := by intro _; rfl)
    (ht : ∀ it v, letOwnedTupleGo target it v = pure () := by intro _ _; rfl) :
    wpN (model prog w) A (exec (.For target iter body [] pos) env) Q E s := by
  rw [exec_For]
  refine wpN_bindA (wpAny_standAt (wpN_bindA (wpAny_mono h (fun xv s₁ h₁ => wpN_bindA (wpAny_of_eq (hs xv) (wpN_bindA (wpAny_standAt (wpN_bindA (wpAny_holding ?_)))))) fun _ _ e => e)))
  obtain ⟨n, P, own, wr, Inv, hsrc, hwr, h0, hstab, hturn, hend⟩ := h₁
  refine hsrc _ _ ?_
  intro I fp St s₂ W hst hfp hfo hI hz k₂
  have hfw : ∀ b ∈ fp, b ∉ wr := fun b hb hbw => by
    rcases hfo b hb with q | q
    · obtain ⟨o, ho⟩ := (hwr b hbw).2
      rw [q] at ho
      exact absurd (Heap.lt_size ho) (Nat.not_lt.mpr hI)
    · exact (hwr b hbw).1 q
  have k₂' := k₂
  obtain ⟨g₂, t₂, e₂, _⟩ := k₂'
  unfold runOwn
  refine wpN_onRaise (wpN_run (loopN (fun k s' => ∃ h tk i, s' = { s₁ with heap := h, toks := tk } ∧ St i h ∧ Inv I i h ∧ i ≤ n ∧ k = n + 1 - i) ?_ (n + 1) ?_ (fun v => ht (.ref I) v)))
  · rintro k s' ⟨hh, tk, i, rfl, hSt, hInv, hi, rfl⟩
    by_cases hlt : i < n
    · refine W.item i _ _ _ hlt hSt fun v h₁ tk₁ hP hSt₁ hk₁ => ?_
      dsimp only
      have hInv₁ : Inv I i h₁ := hstab I i hh h₁ hInv (fun b o hb e => hk₁ b o (fun q => hb (List.mem_singleton.mp q)) e) hI
      refine wpAny_mono (hturn I i v { s₁ with heap := h₁, toks := tk₁ } hlt hP hI (hz _ _ hSt₁) hInv₁) (fun _ s₃ h₃ => ?_) fun _ _ e => e
      refine wpN_mono h₃ (fun f s₄ h₄ => ?_) fun _ _ e => e
      obtain ⟨rfl, hInv₄, g₄, t₄, rfl, k₄⟩ := h₄
      exact ⟨rfl, n + 1 - (i + 1), by omega, g₄, t₄, i + 1, rfl, W.frame _ _ _ hSt₁ fun b hb o e => k₄ b o (hfw b hb) e, hInv₄, hlt, rfl⟩
    · have : i = n := by omega
      subst this
      refine W.done _ _ _ hSt fun h₁ tk₁ hk₁ => ?_
      dsimp only
      exact hend I { s₁ with heap := h₁, toks := tk₁ } hI (hstab I i hh h₁ hInv (fun b o hb e => hk₁ b o (fun q => hb (List.mem_singleton.mp q)) e) hI) ⟨h₁, tk₁, rfl⟩
  · exact ⟨s₂.heap, s₂.toks, 0, by rw [e₂], hst, h0 I s₂ hI k₂, Nat.zero_le _, by omega⟩
end
end Mine

namespace Mine
def revTo (b : List UInt8) (j : Nat) : Array UInt8 := ((List.range b.length).map fun p => if b.length - 1 - p < j then b.getD (b.length - 1 - p) 0 else 0).toArray
theorem revTo_zero (b : List UInt8) : Array.replicate b.length 0 = revTo b 0 := by
  unfold revTo
  apply Array.ext
  · simp
  · intro i h1 h2
    simp
theorem revTo_size (b : List UInt8) (j : Nat) : (revTo b j).size = b.length := by simp [revTo]
theorem revTo_succ (b : List UInt8) (j : Nat) (hj : j < b.length) : (revTo b j).setIfInBounds (b.length - 1 - j) (b.getD j 0) = revTo b (j + 1) := by
  apply Array.ext
  · simp [revTo]
  · intro i h1 h2
    have hi : i < b.length := by simpa [revTo] using h2
    rw [Array.getElem_setIfInBounds]
    · by_cases e : b.length - 1 - j = i
      · rw [if_pos e]
        have e2 : b.length - 1 - i = j := by omega
        simp [revTo, e2]
      · rw [if_neg e]
        simp only [revTo, List.getElem_toArray, List.getElem_map, List.getElem_range]
        by_cases c : b.length - 1 - i < j
        · rw [if_pos c, if_pos (by omega)]
        · rw [if_neg c, if_neg (by omega)]
    · simpa [revTo] using hi
theorem revTo_all (b : List UInt8) : revTo b b.length = b.reverse.toArray := by
  apply Array.ext
  · simp [revTo]
  · intro i h1 h2
    have hi : i < b.length := by simpa [revTo] using h1
    simp only [revTo, List.getElem_toArray, List.getElem_map, List.getElem_range]
    rw [if_pos (by omega)]
    simp only [List.getElem_reverse]
    rw [List.getD_eq_getElem?_getD, List.getElem?_eq_getElem (by omega)]
    rfl
section
variable {prog : Program} {w : World} {A : Around} {E : Value → Shared → Prop} {s : Shared} {env : Env} {D : Ad} {mg mb : Str → Option Value}
theorem r_range3 {n : Nat} {t u v : Tok} {Q : Value → Shared → Prop} (hn : 1 ≤ n) (hn8 : n ≤ 8) (h : ∀ r s', Keeps s s' → IsRange s'.heap r 0 n n t u v → Q (.ref r) s') :
    wpAny (model prog w) A (call (.type "range") [.int 0 t, .int n u, .int n v]) Q E s :=
  call_range_3 (by omega) (h _ _ (kPush s _ _) (IsRange.new ..)) (by exact Or.inl (PyProof.noPylong_small (by omega)))
theorem src_range3 {r : Addr} {n : Nat} {t u v : Tok} (hA : A.handled = none) (hn : 1 ≤ n) (hn8 : n ≤ 8) (hr : IsRange s.heap r 0 n n t u v) :
    Src prog w A (.ref r) s 1 (fun i v => ∃ t, v = .int (0 + (i : Int) * (n : Int)) t) [] := by
  have hsm : PySem.Builtin.Range.small 0 (n : Int) (n : Int) = true ∧ PySem.Builtin.Range.rangeSize 0 (n : Int) (n : Int) = 1 := by
    have : n = 1 ∨ n = 2 ∨ n = 3 ∨ n = 4 ∨ n = 5 ∨ n = 6 ∨ n = 7 ∨ n = 8 := by omega
    rcases this with rfl | rfl | rfl | rfl | rfl | rfl | rfl | rfl <;> decide
  intro Q E h
  refine wpAny_pyIter_range hr hsm.1 ?_
  rw [hsm.2]
  refine h _ _ _ _ (Walks.range hA s.heap.objs.size 0 n 1) ?_ ?_ ?_ (Nat.le_refl _) (fun _ _ st => ⟨_, st⟩) (kPush s _ s.toks)
  · have e2 : (0 : Int) + ((0 : Nat) : Int) * (n : Int) = 0 := by simp
    show IsRangeIter _ _ _ _ _
    rw [e2]
    exact Heap.get?_push_size _ rfl
  · intro b hb
    rw [List.mem_singleton.mp hb]
    simp [Heap.size_push]
  · intro b hb
    exact .inl (List.mem_singleton.mp hb)
theorem IsBA.but {h h' : Heap} {a : Addr} {b : Array UInt8} {wr : List Addr} (x : IsBA h a b) (hk : ∀ b o, b ∉ wr → h.get? b = some o → h'.get? b = some o) (ha : a ∉ wr) : IsBA h' a b :=
  let ⟨o, e, r⟩ := x; ⟨o, hk a o ha e, r⟩
theorem IsBA.some {h : Heap} {a : Addr} {b : Array UInt8} (x : IsBA h a b) : ∃ o, h.get? a = some o := let ⟨o, e, _⟩ := x; ⟨o, e⟩

theorem swap_call {b : List UInt8} {n : Nat} {t u : Tok} {Q : Value → Shared → Prop} (X : ModOk D mg mb s.heap) (hA : A.handled = none) (hd : A.depth < recursionLimit) (hn : 1 ≤ n) (hn8 : n ≤ 8) (hbn : b.length = n)
    (h : ∀ s' t', Keeps s s' → Q (.bytes b.reverse.toArray t') s') : wpN (model prog w) A (call (.ref D.bs) [.bytes b.toArray t, .int n u]) Q E s := by
  refine callFnN [("data", .bytes b.toArray t), ("width", .int n u)] X.fbs X.lim hd (fun _ _ _ => rfl) rfl ?_
  intro L cd s₁ hL k01 F C
  have X1 := X.keeps F.keep
  have hA' : (A.deeper (envF (stm 4) L D.bs cd)).handled = none := hA
  generalize hB : A.deeper (envF (stm 4) L D.bs cd) = B at hA' ⊢
  have hLx := nsEx F.ns
  have hLs : ∀ x ∈ [L], s.heap.objs.size ≤ x := by intro x hx; rw [List.mem_singleton.mp hx]; exact Nat.le_of_eq hL.symm
  with_unfolding_all refine execsN_cons (assignN ?_ ?_)
  case refine_2 => with_unfolding_all rfl
  refine callNN (nmB X1 X1.bbya (cTN (sp_cons ?_)))
  refine callN (nmB X1 X1.blen (cB (sp_cons (wpAny_Name (wpAny_loadName_local (v := .bytes b.toArray t) rfl rfl F.ns rfl (sp_nil ?_))))))
  refine len_bytes (by simp; omega) (sp_nil (ba_type ?_))
  have ebn : ((b.toArray.size : Nat) : Int) = (n : Int) := by simp [hbn]
  rw [ebn]
  refine wpN_mono (ba_init (Q := fun r s₂ => r = .none ∧ ∃ S, S = s₁.heap.objs.size ∧ Keeps s₁ s₂ ∧ IsBA s₂.heap S (Array.replicate n 0)) ⟨_, Heap.get?_push_size _ rfl, rfl, rfl⟩ (by omega) hn8 ?_) ?_ (fun _ _ e => e)
  · intro s₂ k2 hb2
    refine ⟨rfl, _, rfl, ?_, hb2⟩
    refine keepsOf (sameTrans ⟨_, _, rfl⟩ (KeepsBut.same k2)) fun x o e => k2.get x o (fun hm => ?_) (Heap.get?_push_of_some _ e)
    rw [List.mem_singleton.mp hm] at e
    exact absurd (Heap.lt_size e) (Nat.lt_irrefl _)
  · rintro r s₂ ⟨rfl, S, hS, k12, hb2⟩
    refine ⟨rfl, ?_⟩
    have hSn : s₁.heap.get? S = none := noneAt (Nat.le_of_eq hS.symm)
    have nSL : S ≠ L := neNew hLx hSn
    rw [show s₁.heap.objs.size = S from hS.symm]
    refine st_loc (env := envF (stm 4) L D.bs cd) (F.ns.keeps (kGet k12)) fun s₃ k3 hns3 => ?_
    have hb3 := IsBA.but hb2 k3.get (by intro hm; exact nSL (List.mem_singleton.mp hm))
    have k13 : ∀ b o, s.heap.get? b = some o → s₃.heap.get? b = some o := oldKeep (fun x o e => kGet k12 _ _ (kGet k01 _ _ e)) k3.get hLs
    have X3 := X.keeps k13
    have hSs : s.heap.get? S = none := noneBack (kGet k01) hSn
    have sm3 : ∃ h tk, s₃ = { s with heap := h, toks := tk } := KeepsBut.same (KeepsBut.trans (Mine.Keeps.but k01) (KeepsBut.trans (Mine.Keeps.but k12) k3))
    refine wpN_any ?_
    refine wpAny_execs_cons (for_rule ?_)
    refine callN (nmB X3 X3.bran (cT (sp_cons (wpAny_Constant_int (sp_cons ?_)))))
    refine callN (nmB X3 X3.blen (cB (sp_cons (wpAny_Name (wpAny_loadName_local (v := .bytes b.toArray t) rfl rfl hns3 rfl (sp_nil ?_))))))
    refine len_bytes (by simp; omega) (sp_cons (wpAny_Name (wpAny_loadName_local (v := .int n u) rfl rfl hns3 rfl (sp_nil ?_))))
    rw [ebn]
    refine r_range3 hn hn8 ?_
    intro r s₄ k4 hr4
    have k34 : Keeps s₃ s₄ := kTrans (kTok _ _) k4
    refine ⟨_, _, [], [L, S], fun I i h => ∃ mm, h.Ns L mm ∧ mm "data" = some (.bytes b.toArray t) ∧ mm "width" = some (.int n u) ∧ mm "swapped_data" = some (.ref S) ∧ IsBA h S (revTo b (i * n)) ∧
      @LT.lt Nat _ L I ∧ @LT.lt Nat _ S I ∧ (∀ b o, s.heap.get? b = some o → h.get? b = some o), Src.lt (src_range3 hA' hn hn8 hr4), ?_, ?_, ?_, ?_, ?_⟩
    · intro x hx
      refine ⟨by simp, ?_⟩
      rcases List.mem_cons.mp hx with rfl | hx
      · obtain ⟨o, e⟩ := nsEx hns3; exact ⟨o, kGet k34 _ _ e⟩
      · rw [List.mem_singleton.mp hx]; obtain ⟨o, e⟩ := IsBA.some hb3; exact ⟨o, kGet k34 _ _ e⟩
    · intro I s₅ hI k5
      have k35 := kTrans k34 k5
      have hI3 : ∀ a, (∃ o, s₃.heap.get? a = some o) → a < I := fun a ⟨o, e⟩ => ltNew ⟨o, kGet k34 _ _ e⟩ hI
      refine ⟨_, hns3.keeps (kGet k35), rfl, rfl, rfl, ?_, hI3 _ (nsEx hns3), hI3 _ (IsBA.some hb3), fun b o e => kGet k35 _ _ (k13 b o e)⟩
      rw [Nat.zero_mul, ← revTo_zero, hbn]
      exact IsBA.but hb3 (wr := []) (fun b o _ e => kGet k35 _ _ e) (by simp)
    · rintro I i h1 h2 ⟨mm, a1, a2, a3, a4, a5, a6, a7, a8⟩ hk hI
      exact ⟨mm, nsOne a1 hk a6, a2, a3, a4, IsBA.but a5 (wr := [I]) (fun b o hb e => hk b o (fun q => hb (List.mem_singleton.mpr q)) e) (fun hm => Nat.ne_of_lt a7 (List.mem_singleton.mp hm)), a6, a7, oldOne a8 hk (by omega)⟩
    · rintro I i v s₅ hi ⟨_, tk, rfl⟩ hI hIe ⟨mm, a1, a2, a3, a4, a5, a6, a7, a8⟩
      have hi0 : i = 0 := by omega
      subst hi0
      refine wpAny_assign_Name (st_loc (env := envF (stm 4) L D.bs cd) a1 fun s₆ k6 b1 => ?_)
      have b5 := IsBA.but a5 k6.get (by intro hm; exact nSL (List.mem_singleton.mp hm))
      have b8 : ∀ b o, s.heap.get? b = some o → s₆.heap.get? b = some o := oldKeep a8 k6.get hLs
      have X6 := X.keeps b8
      have ez : (0 : Int) + ((0 : Nat) : Int) * (n : Int) = 0 := by simp
      rw [ez] at b1
      refine wpAny_execs_cons (for_rule ?_)
      refine callN (nmB X6 X6.bran (cT (sp_cons (wpAny_Name (wpAny_loadName_local (v := .int n u) rfl rfl b1 a3 (sp_nil (r_range1 ?_)))))))
      intro r7 s₇ u7 v7 k7 hr7
      refine ⟨_, _, [], [L, S], fun J j h => ∃ mm, h.Ns L mm ∧ mm "data" = some (.bytes b.toArray t) ∧ mm "width" = some (.int n u) ∧ mm "swapped_data" = some (.ref S) ∧ mm "i" = some (.int 0 tk) ∧ IsBA h S (revTo b j) ∧
        @LT.lt Nat _ L J ∧ @LT.lt Nat _ S J ∧ (∀ b o, b ∉ [L, S] → s₆.heap.get? b = some o → h.get? b = some o), Src.lt (src_range hA' hr7 (by decide) (by decide) (by omega) (by omega)), ?_, ?_, ?_, ?_, ?_⟩
      · intro x hx
        refine ⟨by simp, ?_⟩
        rcases List.mem_cons.mp hx with rfl | hx
        · obtain ⟨o, e⟩ := nsEx b1; exact ⟨o, kGet k7 _ _ e⟩
        · rw [List.mem_singleton.mp hx]; obtain ⟨o, e⟩ := IsBA.some b5; exact ⟨o, kGet k7 _ _ e⟩
      · intro J s₈ hJ k8
        have k68 := kTrans k7 k8
        have hJ3 : ∀ a, (∃ o, s₆.heap.get? a = some o) → a < J := fun a ⟨o, e⟩ => ltNew ⟨o, kGet k7 _ _ e⟩ hJ
        refine ⟨_, b1.keeps (kGet k68), a2, a3, a4, if_pos rfl, ?_, hJ3 _ (nsEx b1), hJ3 _ (IsBA.some b5), fun b o _ e => kGet k68 _ _ e⟩
        rw [Nat.zero_mul] at b5
        exact IsBA.but b5 (wr := []) (fun b o _ e => kGet k68 _ _ e) (by simp)
      · rintro J j h1 h2 ⟨m2, c1, c2, c3, c4, c5, c6, c7, c8, c9⟩ hk hJ
        exact ⟨m2, nsOne c1 hk c7, c2, c3, c4, c5, IsBA.but c6 (wr := [J]) (fun b o hb e => hk b o (fun q => hb (List.mem_singleton.mpr q)) e) (fun hm => Nat.ne_of_lt c8 (List.mem_singleton.mp hm)), c7, c8,
          fun b o hb e => hk b o (Nat.ne_of_lt (ltNew' k7 e hJ)) (c9 b o hb e)⟩
      · rintro J j v s₈ hj ⟨_, tj, rfl⟩ hJ hJe ⟨m2, c1, c2, c3, c4, c5, c6, c7, c8, c9⟩
        have hj' : j < n := by simpa using hj
        refine wpAny_assign_Name (st_loc (env := envF (stm 4) L D.bs cd) c1 fun s₉ k9 d1 => ?_)
        have d6 := IsBA.but c6 k9.get (by intro hm; exact nSL (List.mem_singleton.mp hm))
        have e0 : (0 : Int) + (j : Int) = (j : Int) := by simp
        rw [e0] at d1
        refine wpAny_execs_cons (wpAny_Assign_Subscript ?_ (by with_unfolding_all rfl))
        refine sub_bytes (l := b) (by omega) (wpAny_Name (wpAny_loadName_local (v := .bytes b.toArray t) rfl rfl d1 c2 (wpAny_BinOp (wpAny_Name (wpAny_loadName_local (v := .int 0 tk) rfl rfl d1 c5 (wpAny_Name (wpAny_loadName_local (v := .int j tj) rfl rfl d1 rfl (add_int ?_))))))))
        refine ⟨_, _, _, rfl, rfl, by omega, by omega, fun t10 => ?_⟩
        refine wpAny_Name (wpAny_loadName_local (v := .ref S) rfl rfl d1 c4 ?_)
        refine wpAny_BinOp (wpAny_BinOp (wpAny_BinOp (wpAny_Name (wpAny_loadName_local (v := .int 0 tk) rfl rfl d1 c5 (wpAny_Name (wpAny_loadName_local (v := .int n u) rfl rfl d1 c3 (add_int (wpAny_Constant_int (sub_int (wpAny_Name (wpAny_loadName_local (v := .int j tj) rfl rfl d1 rfl (sub_int ?_))))))))))))
        refine set_ba d6 (by omega) (by rw [revTo_size]; omega) (by rw [revTo_size]; omega) (by omega) ?_ ?_
        · have := (b.getD ((0 : Int) + (j : Int)).toNat 0).toNat_lt
          omega
        · intro s₁₀ k10 hb10
          have kk : KeepsBut [L, S] s₈ s₁₀ := KeepsBut.trans (k9.mono (by intro x hx; exact List.mem_cons.mpr (.inl (List.mem_singleton.mp hx)))) (KeepsBut.trans (Mine.Keeps.but (kTok s₉ _)) (k10.mono (by simp)))
          refine wpAny_execs_nil ⟨rfl, ⟨_, nsBut d1 k10.get (fun hm => nSL (List.mem_singleton.mp hm).symm), c2, c3, c4, c5, ?_, c7, c8, fun z o hz ez => kk.get z o hz (c9 z o hz ez)⟩, kk⟩
          have en : ((0 : Int) + (n : Int) - 1 - (j : Int)).toNat = b.length - 1 - j := by omega
          have ej : ((0 : Int) + (j : Int)).toNat = j := by omega
          rw [en, ej] at hb10
          have ev : ((b.getD j 0).toNat : Int).toNat.toUInt8 = b.getD j 0 := by simp
          rw [ev, revTo_succ b j (by omega)] at hb10
          exact hb10
      · rintro J s₈ hJ ⟨m2, c1, c2, c3, c4, c5, c6, c7, c8, c9⟩ sm8
        have kAll : KeepsBut [L, S] s₅ s₈ := by
          refine keepsButOf (sameTrans (KeepsBut.same k6) (sameTrans (KeepsBut.same (Mine.Keeps.but (wr := []) k7)) sm8)) fun z o hz ez => c9 z o hz (k6.get z o (fun hm => hz (List.mem_cons.mpr (.inl (List.mem_singleton.mp hm)))) ez)
        have en : ((n : Int) - 0).toNat = (0 + 1) * n := by omega
        rw [en] at c6
        refine wpAny_execs_nil ⟨rfl, ⟨m2, c1, c2, c3, c4, c6, a6, a7, ?_⟩, kAll⟩
        intro z o ez
        refine kAll.get z o (fun hm => ?_) (a8 z o ez)
        rcases List.mem_cons.mp hm with q | q
        · rw [q] at ez; exact absurd (Heap.lt_size ez) (Nat.not_lt.mpr (Nat.le_of_eq hL.symm))
        · rw [List.mem_singleton.mp q, hSs] at ez; cases ez
    · rintro I s₅ hI ⟨mm, a1, a2, a3, a4, a5, a6, a7, a8⟩ sm5
      dsimp only
      refine wpAny_execs_cons (wpAny_Return_some ?_)
      have X5 := X.keeps a8
      refine callN (nmB X5 X5.bbyt (cT (sp_cons (wpAny_Name (wpAny_loadName_local (v := .ref S) rfl rfl a1 a4 (sp_nil ?_))))))
      refine bytes_ba a5 (by rw [revTo_size]; omega) fun t6 k6 => ?_
      rw [Nat.one_mul, ← hbn, revTo_all]
      refine h _ t6 (keepsOf (sameTrans sm3 (sameTrans (KeepsBut.same (Mine.Keeps.but (wr := []) k34)) (sameTrans sm5 ⟨_, _, rfl⟩))) a8)
end
end Mine

namespace Mine

/-- keys that are strings or ints -/
def isMix : Str ⊕ Int → Value → Bool
  | .inl x, v => Value.isStrOf x v
  | .inr i, v => Value.isInt i v
def hashMix (w : World) : Str ⊕ Int → Int
  | .inl x => hashStr w x
  | .inr i => hashInt i
theorem mixInl {x : Str} {v : Value} (h : isMix (.inl x) v = true) : ∃ t, v = .str x t := Value.isStrOf_shape h
theorem mixInr {x : Int} {v : Value} (h : isMix (.inr x) v = true) : ∃ t, v = .int x t := Value.isInt_shape h
theorem mixInj (v : Value) (a b : Str ⊕ Int) (ha : isMix a v = true) (hb : isMix b v = true) : a = b := by
  cases a <;> cases b
  · exact congrArg _ (Value.isStrOf_inj _ _ _ ha hb)
  · obtain ⟨t, rfl⟩ := mixInl ha
    obtain ⟨u, e⟩ := mixInr hb
    cases e
  · obtain ⟨t, rfl⟩ := mixInl hb
    obtain ⟨u, e⟩ := mixInr ha
    cases e
  · exact congrArg _ (Value.isInt_inj _ _ _ ha hb)
theorem mixByV (k : Str ⊕ Int) (v : Value) (h : isMix k v = true) : carriedByValue v = true := by
  cases k
  · obtain ⟨t, rfl⟩ := mixInl h; rfl
  · obtain ⟨t, rfl⟩ := mixInr h; rfl
theorem mixStrs (k : Str ⊕ Int) (x : Str) (t : Tok) (v : Value) (h : isMix k (.str x t) = true) : isMix k v = v.isStr x := by
  cases k
  · obtain ⟨u, hu⟩ := mixInl h
    injection hu with hx
    subst hx
    cases v <;> rfl
  · obtain ⟨u, hu⟩ := mixInr h
    cases hu
section
variable {prog : Program} {w : World} {A : Around} {E : Value → Shared → Prop} {s : Shared}
theorem mixEq {a b : Str ⊕ Int} {u v : Value} {Q : Bool → Shared → Prop} (hu : isMix a u = true) (hv : isMix b v = true) (h : Q (decide (a = b)) s) : wpAny (model prog w) A (eqBool u v) Q E s := by
  cases a <;> cases b
  · obtain ⟨t, rfl⟩ := mixInl hu
    obtain ⟨t, rfl⟩ := mixInl hv
    refine wpAny_eqBool_str ?_
    rw [show ∀ x y : Str, decide ((Sum.inl x : Str ⊕ Int) = Sum.inl y) = decide (x = y) from fun x y => decide_eq_decide.mpr ⟨fun e => Sum.inl.inj e, fun e => e ▸ rfl⟩] at h
    exact h
  · obtain ⟨t, rfl⟩ := mixInl hu
    obtain ⟨t, rfl⟩ := mixInr hv
    unfold eqBool
    rw [if_neg (show ¬ ((Value.str _ _ == Value.int _ _) = true) from Bool.false_ne_true)]
    refine wpAny_bind (PySem.EqMixed.eq_str_int (wpAny_truthy_bool ?_))
    rw [decide_eq_false (by intro e; cases e)] at h
    exact h
  · obtain ⟨t, rfl⟩ := mixInr hu
    obtain ⟨t, rfl⟩ := mixInl hv
    unfold eqBool
    rw [if_neg (show ¬ ((Value.int _ _ == Value.str _ _) = true) from Bool.false_ne_true)]
    refine wpAny_bind (PySem.EqMixed.eq_int_str (wpAny_truthy_bool ?_))
    rw [decide_eq_false (by intro e; cases e)] at h
    exact h
  · obtain ⟨t, rfl⟩ := mixInr hu
    obtain ⟨t, rfl⟩ := mixInr hv
    refine wpAny_eqBool_int ?_
    rw [show ∀ x y : Int, decide ((Sum.inr x : Str ⊕ Int) = Sum.inr y) = decide (x = y) from fun x y => decide_eq_decide.mpr ⟨fun e => Sum.inr.inj e, fun e => e ▸ rfl⟩] at h
    exact h
theorem mixHash {k : Str ⊕ Int} {v : Value} {Q : Int → Shared → Prop} (hv : isMix k v = true) (h : Q (hashMix w k) { s with toks := s.toks + 1 }) : wpAny (model prog w) A (pyHash v) Q E s := by
  cases k
  · obtain ⟨t, rfl⟩ := mixInl hv; exact wpAny_pyHash_str h
  · obtain ⟨t, rfl⟩ := mixInr hv; exact wpAny_pyHash_int h
end
def mixK (prog : Program) (w : World) : PySem.KeyKind prog w (Str ⊕ Int) := ⟨isMix, hashMix w, mixInj, mixByV, mixHash, mixEq, mixStrs⟩

abbrev tupK (prog : Program) (w : World) := tupleKind (mixK prog w)

/-- a dict, by its entries -/
def RawD (h : Heap) (d : Addr) (es : Array DictEntry) (ep : Nat) : Prop := ∃ o, h.get? d = some o ∧ o.ExactDict ∧ o.data = .dict es ep
theorem RawD.but {h h' : Heap} {d : Addr} {es : Array DictEntry} {ep : Nat} {wr : List Addr} (x : RawD h d es ep) (hk : ∀ b o, b ∉ wr → h.get? b = some o → h'.get? b = some o) (hd : d ∉ wr) : RawD h' d es ep := by
  obtain ⟨o, a, r⟩ := x
  exact ⟨o, hk _ _ hd a, r⟩
theorem RawD.typeIs {s : Shared} {d : Addr} {es : Array DictEntry} {ep : Nat} (x : RawD s.heap d es ep) : s.TypeIs (.ref d) "dict" := let ⟨o, ho, hc, _⟩ := x; ⟨o, ho, hc.1⟩

section
variable {prog : Program} {w : World} {A : Around} {E : Value → Shared → Prop} {s : Shared} {env : Env}

theorem meets_items (d : Addr) (hd : (d == sysModules) = false) :
    MeetsIn prog w (Builtin.«dict.items» ⟨[.ref d], []⟩) (fun _ R s => (∃ es ep, RawD s.heap d es ep) ∧
      R (.ok (.ret (.ref s.heap.objs.size))) { s with heap := s.heap.push { cls := .type "dict_items", data := .fields #[.ref d] } }) :=
  .of_wp fun A R s ⟨⟨_, _, hm⟩, h⟩ => by
    refine wpAny_bind ?_
    unfold Builtin.Dict.noArgs
    refine wpAny_bind (wpAny_notOrdered_dict hm.typeIs ?_)
    show wpAny _ _ (pure d) _ _ s
    refine wpAny_pure ?_
    show wpAny _ _ (Builtin.Dict.showsAll d >>= _) _ _ s
    unfold Builtin.Dict.showsAll
    rw [if_neg (by rw [hd]; exact Bool.false_ne_true)]
    refine wpAny_bind (wpAny_pure ?_)
    exact wpAny_bind (wpAny_newObj_type (wpAny_pure ⟨_, rfl, h⟩))
theorem meets_values (d : Addr) (hd : (d == sysModules) = false) :
    MeetsIn prog w (Builtin.«dict.values» ⟨[.ref d], []⟩) (fun _ R s => (∃ es ep, RawD s.heap d es ep) ∧
      R (.ok (.ret (.ref s.heap.objs.size))) { s with heap := s.heap.push { cls := .type "dict_values", data := .fields #[.ref d] } }) :=
  .of_wp fun A R s ⟨⟨_, _, hm⟩, h⟩ => by
    refine wpAny_bind ?_
    unfold Builtin.Dict.noArgs
    refine wpAny_bind (wpAny_notOrdered_dict hm.typeIs ?_)
    show wpAny _ _ (pure d) _ _ s
    refine wpAny_pure ?_
    show wpAny _ _ (Builtin.Dict.showsAll d >>= _) _ _ s
    unfold Builtin.Dict.showsAll
    rw [if_neg (by rw [hd]; exact Bool.false_ne_true)]
    refine wpAny_bind (wpAny_pure ?_)
    exact wpAny_bind (wpAny_newObj_type (wpAny_pure ⟨_, rfl, h⟩))

/-- a method of a dict, without arguments, under a local name -/
theorem d_items {o : Expr} {apos pos : Pos} {d : Addr} {es : Array DictEntry} {ep : Nat} {Q : Value → Shared → Prop} (hdS : (d == sysModules) = false) (hm : RawD s.heap d es ep)
    (ho : ∀ Q', Q' (.ref d) s → wpAny (model prog w) A (eval o env) Q' E s)
    (hQ : ∀ V s', V = s.heap.objs.size → Keeps s s' → s'.heap.IsItemsView V d → Q (.ref V) s')
    (hbase : attributeBase o "items" env (eval o env) = eval o env := by rfl) (hline : (apos.endLine == pos.line) = true := by rfl) :
    wpAny (model prog w) A (eval (.Call (.Attribute o "items" apos) [] [] pos) env) Q E s := by
  refine wpAny_Call_method (T := "dict") (id := "dict.items") hbase rfl hline F.plainAttrs_dict F.slot_dict_items F.type_dict_items (ho _ ⟨hm.typeIs, ?_, ?_⟩)
  · rintro b e
    injection e with e
    subst e
    obtain ⟨ob, h1, h2, _⟩ := hm
    exact ⟨ob, h1, h2.2.1⟩
  · show wpAny _ _ (callWith pos (.builtin "dict.items") [.ref d] [] []) Q E s
    exact method_meetsIn F.slot_dict_items F.entry_dict_items rfl (PySem.evalArgs_none ⟨rfl, hm.typeIs, F.args_dict_items_1 _, _, meets_items d hdS, ⟨_, _, hm⟩,
      hQ _ _ rfl (kPush s _ s.toks) ⟨_, Heap.get?_push_size _ rfl, rfl, rfl⟩⟩)
theorem d_values {o : Expr} {apos pos : Pos} {d : Addr} {es : Array DictEntry} {ep : Nat} {Q : Value → Shared → Prop} (hdS : (d == sysModules) = false) (hm : RawD s.heap d es ep)
    (ho : ∀ Q', Q' (.ref d) s → wpAny (model prog w) A (eval o env) Q' E s)
    (hQ : ∀ V s', V = s.heap.objs.size → Keeps s s' → s'.heap.IsValuesView V d → Q (.ref V) s')
    (hbase : attributeBase o "values" env (eval o env) = eval o env := by rfl) (hline : (apos.endLine == pos.line) = true := by rfl) :
    wpAny (model prog w) A (eval (.Call (.Attribute o "values" apos) [] [] pos) env) Q E s := by
  refine wpAny_Call_method (T := "dict") (id := "dict.values") hbase rfl hline F.plainAttrs_dict F.slot_dict_values F.type_dict_values (ho _ ⟨hm.typeIs, ?_, ?_⟩)
  · rintro b e
    injection e with e
    subst e
    obtain ⟨ob, h1, h2, _⟩ := hm
    exact ⟨ob, h1, h2.2.1⟩
  · show wpAny _ _ (callWith pos (.builtin "dict.values") [.ref d] [] []) Q E s
    exact method_meetsIn F.slot_dict_values F.entry_dict_values rfl (PySem.evalArgs_none ⟨rfl, hm.typeIs, F.args_dict_values_1 _, _, meets_values d hdS, ⟨_, _, hm⟩,
      hQ _ _ rfl (kPush s _ s.toks) ⟨_, Heap.get?_push_size _ rfl, rfl, rfl⟩⟩)

/-- iter(d.items()) -/
theorem it_items {v d : Addr} {es : Array DictEntry} {ep : Nat} {Q : Value → Shared → Prop} (hv : s.heap.IsItemsView v d) (hm : RawD s.heap d es ep)
    (hQ : ∀ I s', I = s.heap.objs.size → Keeps s s' → IsItemIter s'.heap I d 0 es.size ep .none .none → Q (.ref I) s') : wpAny (model prog w) A (pyIter (.ref v)) Q E s := by
  obtain ⟨ov, hov, hcv, hdv⟩ := id hv
  obtain ⟨o, ho, hc, hdat⟩ := id hm
  refine wpAny_pyIter_slot hv.typeIs F.slot_dict_items_iter (wpAny_call_entry F.slot_dict_items_iter hv.typeIs F.entry_dict_items_iter ?_ (F.args_dict_items_iter_1 _))
  unfold Builtin.«dict_items.__iter__»
  refine wpAny_bind (wpAny_pure (wpAny_bind ?_))
  unfold Builtin.Dict_items.dictOf
  refine wpAny_bind (wpAny_field hov hdv (x := .ref d) rfl (wpAny_pure (wpAny_bind ?_)))
  unfold Builtin.Dict_items.newIterator
  refine wpAny_bind (wpAny_dictEntries ho hdat (wpAny_bind (wpAny_dictEpoch ho hdat ?_)))
  have hown : Builtin.Dict_items.ownsTuple "dict_itemiterator" = true := by decide
  simp only [hown, if_true]
  refine wpAny_newObj_type (wpAny_pure ⟨_, rfl, "dict_itemiterator", _, ⟨_, Heap.get?_push_size _ rfl, rfl⟩, F.slot_dict_itemiterator_next.lookup, ?_⟩)
    (by simp only [sizeOk, Builtin.Dict_items.ownedTupleFields, List.size_toArray, List.length_append, List.length_cons, List.length_nil, sizeLine_eq]; omega)
  exact hQ _ _ rfl (kPush s _ s.toks) (Heap.get?_push_size _ rfl)

/-- the next of d.items() -/
theorem it_item {it d : Addr} {i ep : Nat} {es : Array DictEntry} {ok ov : Value} {Q : Option Value → Shared → Prop} (hit : IsItemIter s.heap it d i es.size ep ok ov)
    (hm : RawD s.heap d es ep) (hx : i < es.size)
    (hQ : ∀ T h', T = s.heap.objs.size → IsItemIterOut h' it d (i + 1) es.size ep es[i].key es[i].val T →
      h'.get? T = some { cls := .type "tuple", data := .seq #[es[i].key, es[i].val] } → h'.objs.size = s.heap.objs.size + 1 →
      (∀ b o, b ≠ it → s.heap.get? b = some o → h'.get? b = some o) → Q (some (.ref T)) { s with heap := h' }) :
    wpAny (model prog w) A (pyNext (.ref it)) Q E s := by
  obtain ⟨hp, g, dr, tk, os⟩ := s
  obtain ⟨od, hod, hcd, hdd⟩ := id hm
  have hT : Shared.TypeIs ⟨hp, g, dr, tk, os⟩ (.ref it) "dict_itemiterator" := ⟨_, hit, rfl⟩
  unfold pyNext
  refine wpAny_bind (wpAny_attempt (wpAny_callSpecial?_slot (name := Str.ofString "__next__") hT F.slot_dict_itemiterator_next
    (wpAny_call_entry F.slot_dict_itemiterator_next hT F.entry_dict_itemiterator_next ?_ (F.args_dict_itemiterator_next_1 _))))
  refine wpAny_bind (wpAny_pure (wpAny_bind (wpAny_bind ?_)))
  first | refine wpAny_bind (wpAny_typeNameOfWhole_itemiter hT (wpAny_pure ?_)) | refine wpAny_bind (wpAny_typeNameOf_itemiter hT (wpAny_pure ?_))
  refine wpAny_bind (wpAny_fieldsOf hit rfl ?_)
  have hown : Builtin.Dict_items.ownsTuple "dict_itemiterator" = true := by decide
  simp only [hown, if_true]
  show wpAny _ _ (if (Value.ref d == Value.none) = true then _ else _) _ _ _
  rw [if_neg (show ¬ ((Value.ref d == Value.none) = true) from Bool.false_ne_true)]
  refine wpAny_bind (wpAny_pure (wpAny_bind (wpAny_dictEntries hod hdd ?_)))
  rw [if_neg (by simp)]
  refine wpAny_bind (wpAny_pure (wpAny_bind (wpAny_dictEpoch hod hdd ?_)))
  rw [if_neg (by simp)]
  refine wpAny_pure ?_
  simp only [show ¬ ((i : Int) < 0) from by omega, if_false, Int.toNat_natCast, Array.getElem?_eq_getElem hx]
  refine wpAny_bind ?_
  first | refine wpAny_bind (wpAny_typeNameOfWhole_itemiter hT (wpAny_pure ?_)) | refine wpAny_bind (wpAny_typeNameOf_itemiter hT (wpAny_pure ?_))
  refine wpAny_bind (wpAny_isOneOf_itemiter hT ?_)
  show wpAny _ _ (setField (.ref it) 3 (rawInt ((i : Int) + 1)) >>= _) _ _ ⟨hp, g, dr, tk, os⟩
  refine wpAny_bind (wpAny_setField_rec hit (by simp) fun h₁ he₁ hs₁ => ?_)
  replace hs₁ : Heap.SameBut it hp h₁ := hs₁
  replace he₁ : IsItemIter h₁ it d (i + 1) es.size ep ok ov := by
    have e : ((i + 1 : Nat) : Int) = (i : Int) + 1 := by omega
    unfold IsItemIter; rw [e]; simpa [rawInt] using he₁
  have hT₁ : Shared.TypeIs ⟨h₁, g, dr, tk, os⟩ (.ref it) "dict_itemiterator" := ⟨_, he₁, rfl⟩
  refine wpAny_bind (wpAny_holding (wpAny_bind (wpAny_isOneOf_itemiter hT₁ (wpAny_bind (wpAny_isOneOf_itemiter hT₁ ?_)))))
  show wpAny _ _ (Builtin.Dict_items.pairFromOwner (.ref it) 6 es[i].key es[i].val) _ _ ⟨h₁, g, dr, tk, os⟩
  unfold Builtin.Dict_items.pairFromOwner
  refine wpAny_bind (wpAny_newTuple ?_)
  have he₂ : IsItemIter (h₁.push { cls := .type "tuple", data := .seq #[es[i].key, es[i].val] }) it d (i + 1) es.size ep ok ov := Heap.get?_push_of_some _ he₁
  generalize hh₂ : h₁.push { cls := .type "tuple", data := .seq #[es[i].key, es[i].val] } = h₂ at he₂
  have hz₁ : h₁.objs.size = hp.objs.size := hs₁.1
  have hil : it < hp.objs.size := Heap.lt_size hit
  have ht₂ : h₂.get? hp.objs.size = some { cls := .type "tuple", data := .seq #[es[i].key, es[i].val] } := by rw [← hh₂, ← hz₁]; exact Heap.get?_push_size _ rfl
  have hz₂ : h₂.objs.size = hp.objs.size + 1 := by rw [← hh₂, Heap.size_push, hz₁]
  have hk₂ : ∀ b o, b ≠ it → hp.get? b = some o → h₂.get? b = some o := fun b o hb e => by rw [← hh₂]; exact Heap.get?_push_of_some _ (hs₁.extBut b o hb e)
  show wpAny _ _ (Builtin.Dict_items.ownedTupleIsFree (.ref it) >>= _) _ _ ⟨h₂, g, dr, tk, os⟩
  rw [hz₁]
  clear hh₂ he₁ hs₁ hT₁ hz₁ h₁
  refine wpAny_bind ?_
  unfold Builtin.Dict_items.ownedTupleIsFree
  refine wpAny_bind (wpAny_field he₂ rfl (x := .none) rfl (wpAny_pure ?_))
  simp only [if_true]
  refine wpAny_bind (wpAny_field he₂ rfl (x := ok) rfl (wpAny_bind (wpAny_field he₂ rfl (x := ov) rfl ?_)))
  refine wpAny_bind (wpAny_setField_rec he₂ (by simp) fun h₃ he₃ hs₃ => ?_)
  replace hs₃ : Heap.SameBut it h₂ h₃ := hs₃
  replace he₃ : IsItemIter h₃ it d (i + 1) es.size ep es[i].key ov := he₃
  refine wpAny_bind (wpAny_setField_rec he₃ (by simp) fun h₄ he₄ hs₄ => ?_)
  replace hs₄ : Heap.SameBut it h₃ h₄ := hs₄
  replace he₄ : IsItemIter h₄ it d (i + 1) es.size ep es[i].key es[i].val := he₄
  refine wpAny_bind (wpAny_setField_rec he₄ (by simp) fun h₅ he₅ hs₅ => ?_)
  replace hs₅ : Heap.SameBut it h₄ h₅ := hs₅
  replace he₅ : IsItemIterOut h₅ it d (i + 1) es.size ep es[i].key es[i].val hp.objs.size := he₅
  refine wpAny_bind (wpAny_setField_rec he₅ (by simp) fun h₆ he₆ hs₆ => ?_)
  replace hs₆ : Heap.SameBut it h₅ h₆ := hs₆
  replace he₆ : IsItemIterOut h₆ it d (i + 1) es.size ep es[i].key es[i].val hp.objs.size := he₆
  refine wpAny_bind (wpAny_letGo (wpAny_pure (wpAny_pure ⟨_, rfl, wpAny_pure (hQ hp.objs.size h₆ rfl he₆ ?_ ?_ ?_)⟩)))
  · exact hs₆.extBut _ _ (Nat.ne_of_gt hil) (hs₅.extBut _ _ (Nat.ne_of_gt hil) (hs₄.extBut _ _ (Nat.ne_of_gt hil) (hs₃.extBut _ _ (Nat.ne_of_gt hil) ht₂)))
  · show h₆.objs.size = hp.objs.size + 1
    rw [hs₆.1, hs₅.1, hs₄.1, hs₃.1, hz₂]
  · exact fun b o hb e => hs₆.extBut b o hb (hs₅.extBut b o hb (hs₄.extBut b o hb (hs₃.extBut b o hb (hk₂ b o hb e))))

theorem it_end {it d : Addr} {i ep : Nat} {es : Array DictEntry} {ok ov : Value} {Q : Option Value → Shared → Prop} (hh : A.handled = none) (hit : IsItemIter s.heap it d i es.size ep ok ov)
    (hm : RawD s.heap d es ep) (hx : es.size ≤ i) (hQ : ∀ h', Heap.ExtBut it s.heap h' → Q none { s with heap := h' }) : wpAny (model prog w) A (pyNext (.ref it)) Q E s := by
  obtain ⟨od, hod, hcd, hdd⟩ := id hm
  have hT : s.TypeIs (.ref it) "dict_itemiterator" := ⟨_, hit, rfl⟩
  unfold pyNext
  refine wpAny_bind (wpAny_attempt (wpAny_callSpecial?_slot (name := Str.ofString "__next__") hT F.slot_dict_itemiterator_next
    (wpAny_call_entry F.slot_dict_itemiterator_next hT F.entry_dict_itemiterator_next ?_ (F.args_dict_itemiterator_next_1 _))))
  refine wpAny_bind (wpAny_pure (wpAny_bind (wpAny_bind ?_)))
  first | refine wpAny_bind (wpAny_typeNameOfWhole_itemiter hT (wpAny_pure ?_)) | refine wpAny_bind (wpAny_typeNameOf_itemiter hT (wpAny_pure ?_))
  refine wpAny_bind (wpAny_fieldsOf hit rfl ?_)
  have hown : Builtin.Dict_items.ownsTuple "dict_itemiterator" = true := by decide
  simp only [hown, if_true]
  show wpAny _ _ (if (Value.ref d == Value.none) = true then _ else _) _ _ s
  rw [if_neg (show ¬ ((Value.ref d == Value.none) = true) from Bool.false_ne_true)]
  refine wpAny_bind (wpAny_pure (wpAny_bind (wpAny_dictEntries hod hdd ?_)))
  rw [if_neg (by simp)]
  refine wpAny_bind (wpAny_pure (wpAny_bind (wpAny_dictEpoch hod hdd ?_)))
  rw [if_neg (by simp)]
  refine wpAny_pure ?_
  simp only [show ¬ ((i : Int) < 0) from by omega, if_false, Int.toNat_natCast, Array.getElem?_eq_none hx]
  refine wpAny_bind ?_
  first | refine wpAny_bind (wpAny_typeNameOfWhole_itemiter hT (wpAny_pure ?_)) | refine wpAny_bind (wpAny_typeNameOf_itemiter hT (wpAny_pure ?_))
  show wpAny _ _ (setField (.ref it) 2 .none >>= _) _ _ s
  refine wpAny_bind (wpAny_setField hit rfl (by simp) ?_)
  show wpAny _ _ (newExc (.type "StopIteration") [] >>= _) _ _ _
  refine wpAny_bind ?_
  simp only [newExc, newTuple]
  refine wpAny_bind (wpAny_newObj_type ?_ (by size_fits))
  refine wpAny_bind (m := firstArgMember _ _) (wpAny_of_eq (a := Value.none) (by first | rfl | (simp only [firstArgMember]; rfl)) ?_)
  refine wpAny_newObj_type ?_ (by size_fits)
  simp only [raiseNew]
  refine wpAny_bind (wpAny_handled ?_)
  rw [show A.in1.handled = none from hh]
  refine wpAny_bind (wpAny_pure (wpAny_throw ?_))
  refine wpAny_bind (wpAny_isInstance (T := "StopIteration") (b := true) ⟨_, Heap.get?_push_size _ rfl, rfl⟩ isSubtype_stop ?_)
  exact wpAny_pure (hQ _ (((Heap.SameBut.update ..).extBut.push _).push _))

/-- a loop over d.items() -/
theorem for_items {xk xv : Str} {pk pv pt : Pos} {x1 : Nat} {iter : Expr} {body : List Stmt} {pos : Pos} {Q : Flow → Shared → Prop} (hA : A.handled = none)
    (h : wpAny (model prog w) A (eval iter env) (fun xv' s₁ => ∃ v d es ep wr, ∃ Inv : Nat → Heap → Prop, xv' = .ref v ∧ s₁.heap.IsItemsView v d ∧ RawD s₁.heap d es ep ∧ d ∉ wr ∧ (∀ b ∈ wr, ∃ o, s₁.heap.get? b = some o) ∧
      (∀ s₂, Keeps s₁ s₂ → Inv 0 s₂.heap) ∧
      (∀ i h h', Inv i h → (∀ b o, (∃ o, s₁.heap.get? b = some o) → h.get? b = some o → h'.get? b = some o) → (∀ b o, h.get? b = some o → b ∈ wr ∨ h'.get? b = some o ∨ s₁.heap.objs.size ≤ b) → Inv i h') ∧
      (∀ i s₂ (hi : i < es.size), RawD s₂.heap d es ep → Inv i s₂.heap → wpAny (model prog w) A (storeName env xk es[i].key) (fun _ s₃ => wpAny (model prog w) A (storeName env xv es[i].val) (fun _ s₄ => wpAny (model prog w) A (execs body env)
        (fun f s₅ => f = .next ∧ Inv (i + 1) s₅.heap ∧ KeepsBut wr s₂ s₅) (fun _ _ => False) s₄) (fun _ _ => False) s₃) (fun _ _ => False) s₂) ∧
      (∀ s₂, Inv es.size s₂.heap → (∃ h tk, s₂ = { s₁ with heap := h, toks := tk }) → Q .next s₂)) E s)
    (hs : ∀ x, foldedSetIterable iter env x = pure x := by intro _; rfl) :
    wpAny (model prog w) A (exec (.For (.Tuple [.Name xk pk, .Name xv pv] x1 pt) iter body [] pos) env) Q E s := by
  refine wpAny_For (wpAny_mono h (fun xv' s₁ h₁ => ?_) fun _ _ e => e) hs
  obtain ⟨v, d, es, ep, wr, Inv, rfl, hv, hm, hdw, hwr, h0, hstab, hturn, hend⟩ := h₁
  have hdz : d < s₁.heap.objs.size := by obtain ⟨o, ho, _⟩ := hm; exact Heap.lt_size ho
  refine it_items hv hm fun I s₂ hI k₂ hit => ?_
  obtain ⟨g₂, t₂, rfl, _⟩ := id k₂
  have hIw : I ∉ wr := fun hb => by obtain ⟨o, ho⟩ := hwr I hb; rw [hI] at ho; exact absurd (Heap.lt_size ho) (Nat.lt_irrefl _)
  have hdI : d ≠ I := by rw [hI]; exact Nat.ne_of_lt hdz
  have oldI : ∀ b, (∃ o, s₁.heap.get? b = some o) → b ≠ I := fun b ⟨o, ho⟩ e => by rw [e, hI] at ho; exact absurd (Heap.lt_size ho) (Nat.lt_irrefl _)
  refine codeAny_forLoop_any
    (fun n s' => ∃ h' tk i ok ov, s' = { s₁ with heap := h', toks := tk } ∧ IsItemIter h' I d i es.size ep ok ov ∧ RawD h' d es ep ∧ Inv i h' ∧ i ≤ es.size ∧ n = es.size + 1 - i) ?_ (es.size + 1)
    ⟨g₂, t₂, 0, .none, .none, rfl, hit, hm.but (wr := []) (fun b o _ e => kGet k₂ b o e) (by simp), h0 _ k₂, Nat.zero_le _, rfl⟩
  rintro n s' ⟨H, tk, i, ok, ov, rfl, hit', hm', hInv, hi, rfl⟩
  by_cases hlt : i < es.size
  · have hiH : I < H.objs.size := Heap.lt_size hit'
    refine it_item hit' hm' hlt fun T h₁ hT heo ht₁ hz₁ hk₁ => ?_
    replace hT : T = H.objs.size := hT
    refine wpAny_letOwnedTupleGo_items heo fun h₂ he₂ hs₂ => ?_
    replace hs₂ : Heap.SameBut I h₁ h₂ := hs₂
    have hTI : T ≠ I := by rw [hT]; exact Nat.ne_of_gt hiH
    have ht₂ : h₂.IsTuple T #[es[i].key, es[i].val] := ⟨_, (hs₂.2 _ hTI).trans ht₁, rfl, _, rfl⟩
    have hz₂ : h₂.objs.size = H.objs.size + 1 := hs₂.1.trans hz₁
    refine wpAny_assign_Tuple hA ht₂ rfl rfl fun h₃ hx₃ => ?_
    replace hx₃ : Heap.ExtBut h₂.objs.size h₂ h₃ := hx₃
    have up₃ : ∀ b o, b ≠ I → H.get? b = some o → h₃.get? b = some o := fun b o hb x =>
      hx₃ b o (by rw [hz₂]; exact Nat.ne_of_lt (Nat.lt_succ_of_lt (Heap.lt_size x))) (hs₂.extBut b o hb (hk₁ b o hb x))
    have it₃ : IsItemIter h₃ I d (i + 1) es.size ep es[i].key es[i].val := hx₃ I _ (by rw [hz₂]; exact Nat.ne_of_lt (Nat.lt_succ_of_lt hiH)) he₂
    have inv₃ : Inv i h₃ := by
      refine hstab i H h₃ hInv (fun b o hb e => up₃ b o (oldI b hb) e) fun b o e => ?_
      by_cases hb : b = I
      · exact .inr (.inr (by rw [hb, hI]; exact Nat.le_refl _))
      · exact .inr (.inl (up₃ b o hb e))
    have m₃ : RawD h₃ d es ep := hm'.but (wr := [I]) (fun b o hb e => up₃ b o (fun q => hb (List.mem_singleton.mpr q)) e) (fun q => hdI (List.mem_singleton.mp q))
    show wpAny _ _ (do holding [es[i].val] (assign (.Name xk pk) env es[i].key); do holding [] (assign (.Name xv pv) env es[i].val); pure ()) _ _ _
    have t := hturn i { s₁ with heap := h₃, toks := tk } hlt m₃ inv₃
    refine wpAny_bind (wpAny_holding (wpAny_assign_Name (wpAny_mono t (fun _ s₄ h₄ => ?_) fun _ _ e => e.elim)))
    refine wpAny_bind (wpAny_holding (wpAny_assign_Name (wpAny_mono h₄ (fun _ s₅ h₅ => wpAny_pure ?_) fun _ _ e => e.elim)))
    refine wpAny_mono h₅ (fun f s₆ h₆ => ?_) fun _ _ e => e.elim
    obtain ⟨rfl, inv₆, g₆, t₆, rfl, k₆⟩ := h₆
    exact ⟨es.size + 1 - (i + 1), by omega, g₆, t₆, i + 1, _, _, rfl, k₆ I _ hIw it₃, m₃.but k₆ hdw, inv₆, hlt, rfl⟩
  · have hii : i = es.size := Nat.le_antisymm hi (Nat.not_lt.mp hlt)
    subst hii
    refine it_end hA hit' hm' (Nat.le_refl _) fun h₁ he₁ => wpAny_execs_nil ?_
    refine hend _ (hstab _ H h₁ hInv (fun b o hb e => he₁ b o (oldI b hb) e) fun b o e => ?_) ⟨_, _, rfl⟩
    by_cases hb : b = I
    · exact .inr (.inr (by rw [hb, hI]; exact Nat.le_refl _))
    · exact .inr (.inl (he₁ b o hb e))
end
end Mine

namespace Mine

abbrev TK := List (Str ⊕ Int)
/-- a dict object whose keys are tuples -/
def DObj (prog : Program) (w : World) (h : Heap) (d : Addr) (xs : List (TK × Addr × Value)) : Prop :=
  ∃ o es ep, h.get? d = some o ∧ o.ExactDict ∧ o.data = .dict es ep ∧ es.toList = xs.map (entryOfKey (tupK prog w)) ∧ (xs.map (·.1)).Nodup
def KeysAt (prog : Program) (w : World) (h : Heap) (xs : List (TK × Addr × Value)) : Prop := ∀ x ∈ xs, IsTupleKey (mixK prog w) h x.1 x.2.1

section
variable {prog : Program} {w : World}
theorem DObj.but {h h' : Heap} {d : Addr} {xs : List (TK × Addr × Value)} {wr : List Addr} (x : DObj prog w h d xs) (hk : ∀ b o, b ∉ wr → h.get? b = some o → h'.get? b = some o) (hd : d ∉ wr) : DObj prog w h' d xs := by
  obtain ⟨o, es, ep, a, r⟩ := x
  exact ⟨o, es, ep, hk _ _ hd a, r⟩
theorem DObj.some {h : Heap} {d : Addr} {xs : List (TK × Addr × Value)} (x : DObj prog w h d xs) : ∃ o, h.get? d = some o := let ⟨o, _, _, a, _⟩ := x; ⟨o, a⟩
theorem DObj.full {h : Heap} {d : Addr} {xs : List (TK × Addr × Value)} (x : DObj prog w h d xs) (k : KeysAt prog w h xs) : h.DictOfH (tupK prog w) d xs := by
  obtain ⟨o, es, ep, a, b, c, e, f⟩ := x
  exact ⟨o, es, ep, a, b, c, e, k, f⟩
theorem DObj.of {h : Heap} {d : Addr} {xs : List (TK × Addr × Value)} (x : h.DictOfH (tupK prog w) d xs) : DObj prog w h d xs ∧ KeysAt prog w h xs := by
  obtain ⟨o, es, ep, a, b, c, e, k, f⟩ := x
  exact ⟨⟨o, es, ep, a, b, c, e, f⟩, k⟩
theorem DObj.raw {h : Heap} {d : Addr} {xs : List (TK × Addr × Value)} (x : DObj prog w h d xs) : ∃ es ep, RawD h d es ep ∧ es.size = xs.length ∧ ∀ i (hi : i < es.size) (hx : i < xs.length), es[i].key = .ref xs[i].2.1 ∧ es[i].val = xs[i].2.2 := by
  obtain ⟨o, es, ep, a, b, c, e, f⟩ := x
  have hz := size_of_entries e
  refine ⟨es, ep, ⟨o, a, b, c⟩, hz, fun i hi hx => ?_⟩
  have q := entry_at e i
  rw [Array.getElem?_eq_getElem hi, List.getElem?_eq_getElem hx] at q
  have q' := Option.some.inj q
  rw [q']
  exact ⟨rfl, rfl⟩
theorem DObj.nodup {h : Heap} {d : Addr} {xs : List (TK × Addr × Value)} (x : DObj prog w h d xs) : (xs.map (·.1)).Nodup := let ⟨_, _, _, _, _, _, _, f⟩ := x; f
theorem KeysAt.keeps {h h' : Heap} {xs : List (TK × Addr × Value)} (x : KeysAt prog w h xs) (hk : ∀ b o, h.get? b = some o → h'.get? b = some o) : KeysAt prog w h' xs := fun y hy => by
  obtain ⟨o, items, n, a, r⟩ := x y hy
  exact ⟨o, items, n, hk _ _ a, r⟩
theorem KeysAt.take {h : Heap} {xs : List (TK × Addr × Value)} (x : KeysAt prog w h xs) (i : Nat) : KeysAt prog w h (xs.take i) := fun y hy => x y (List.mem_of_mem_take hy)
theorem atKey_take {xs : List (TK × Addr × Value)} (hn : (xs.map (·.1)).Nodup) {i : Nat} (hi : i < xs.length) : atKey (xs.take i) xs[i].1 = none := by
  refine atKey_none_of_get fun j p hj => ?_
  rw [List.getElem?_take] at hj
  split at hj
  next hji =>
    have hjl : j < xs.length := by omega
    have e : (xs.map (·.1))[j]? = (xs.map (·.1))[i]? := by
      rw [List.getElem?_map, List.getElem?_map, hj, List.getElem?_eq_getElem hi]; rfl
    have := (List.getElem?_inj (by simpa using hjl) hn).mp e
    omega
  next => cases hj

/-- what one count more makes of the entries -/
def Bump (xs : List (TK × Addr × Value)) (k : TK) (a : Addr) (ys : List (TK × Addr × Value)) : Prop :=
  (atKey xs k = none ∧ ∃ u, ys = xs ++ [(k, a, .int 1 u)]) ∨ ∃ a₀ v t t', atKey xs k = some (a₀, .int v t) ∧ ys = xs.map (putAt k (.int (v + 1) t'))

variable {A : Around} {E : Value → Shared → Prop} {s : Shared} {D : Ad} {mg mb : Str → Option Value}

/-- a new address is not the modules' -/
theorem newSys {s : Shared} {mg mb : Str → Option Value} {D : Ad} (X : ModOk D mg mb s.heap) {N : Addr} (h : s.heap.objs.size ≤ N) : (N == sysModules) = false := by
  obtain ⟨og, eg⟩ := nsEx X.g
  have h1 := Heap.lt_size eg
  have : (3 : Nat) < N := Nat.lt_of_lt_of_le h1 h
  simp only [beq_eq_false_iff_ne, ne_eq]
  intro q
  rw [q] at this
  exact absurd this (by decide)
theorem st_dict {d a : Addr} {k : TK} {v : Value} {xs : List (TK × Addr × Value)} {Q : Unit → Shared → Prop} (hu : A.units + 1 < cLine) (hx : DObj prog w s.heap d xs) (hk : KeysAt prog w s.heap xs) (ha : IsTupleKey (mixK prog w) s.heap k a)
    (hz : xs.length ≤ 1000) (h : ∀ s', KeepsBut [d] s s' → DObj prog w s'.heap d (storedH xs k a v) → Q () s') : wpAny (model prog w) A (setItem (.ref d) (.ref a) v) Q E s := by
  refine wpAny_setItem_heap (knd := tupK prog w) hu ha (hx.full hk) (fun h' hd hs => h _ ⟨h', _, rfl, fun b o hb e => hs.extBut b o (fun q => hb (List.mem_singleton.mpr q)) e⟩ (DObj.of hd).1) (by simp [sizeLine]; omega)

theorem add_call {t src a' : Addr} {k : TK} {u : Tok} {xs : List (TK × Addr × Value)} {Q : Value → Shared → Prop} (X : ModOk D mg mb s.heap) (hA : A.handled = none) (hd : A.depth < recursionLimit) (hu : A.units + 10 < cLine)
    (htS : (t == sysModules) = false) (hsS : (src == sysModules) = false)
    (ht : DObj prog w s.heap t xs) (htk : KeysAt prog w s.heap xs) (hs : DObj prog w s.heap src [(k, a', .int 1 u)]) (hsk : KeysAt prog w s.heap [(k, a', .int 1 u)]) (hv : ∀ x ∈ xs, ∃ v t, x.2.2 = .int v t) (hz : xs.length ≤ 100)
    (h : ∀ N s' ys, Keeps s s' → s.heap.get? N = none → (N == sysModules) = false → DObj prog w s'.heap N ys → KeysAt prog w s'.heap ys → Bump xs k a' ys → Q (.ref N) s') :
    wpAny (model prog w) A (call (.ref D.ac) [.ref t, .ref src]) Q E s := by
  refine callFn [("target", .ref t), ("source", .ref src)] X.fac X.lim hd (fun _ _ _ => rfl) rfl ?_
  intro L cd s₁ hL k01 F C
  have X1 := X.keeps F.keep
  have hns : s₁.heap.Ns L (bindL (envF (stm 1) L D.ac cd).kindOf [("target", .ref t), ("source", .ref src)] fun _ => none) := F.ns
  have hA' : (A.deeper (envF (stm 1) L D.ac cd)).handled = none := hA
  have hu' : (A.deeper (envF (stm 1) L D.ac cd)).units + 1 < cLine := by show A.units + 3 + 1 < cLine; omega
  have hLs : ∀ x ∈ [L], s.heap.objs.size ≤ x := fun x hx => by rw [List.mem_singleton.mp hx]; exact Nat.le_of_eq hL.symm
  generalize hB : A.deeper (envF (stm 1) L D.ac cd) = B at hA' hu' ⊢
  with_unfolding_all refine wpAny_execs_cons ?_
  with_unfolding_all refine wpAny_Assign_Name ?_ ?_
  case refine_2 => with_unfolding_all rfl
  refine wpAny_Dict_empty ?_
  generalize hN : s₁.heap.objs.size = N
  have kN : Keeps s₁ { s₁ with heap := s₁.heap.push { cls := .type "dict", data := .dict #[] } } := kPush s₁ _ s₁.toks
  have oN : ({ s₁ with heap := s₁.heap.push { cls := .type "dict", data := .dict #[] } } : Shared).heap.get? N = some { cls := .type "dict", data := .dict #[] } := by rw [← hN]; exact Heap.get?_push_size _ rfl
  generalize hs2 : ({ s₁ with heap := s₁.heap.push { cls := .type "dict", data := .dict #[] } } : Shared) = s₂ at kN oN ⊢
  clear hs2
  have dN : DObj prog w s₂.heap N [] := ⟨_, #[], 0, oN, ⟨rfl, rfl, rfl⟩, rfl, rfl, List.nodup_nil⟩
  have hN1 : s₁.heap.get? N = none := noneAt (Nat.le_of_eq hN)
  have hNs : s.heap.get? N = none := noneBack (kGet k01) hN1
  have nNL : N ≠ L := neNew (nsEx hns) hN1
  have nS : (N == sysModules) = false := by
    obtain ⟨og, eg⟩ := nsEx X.g
    have h1 := Heap.lt_size eg
    have h2 : s₁.heap.objs.size = N := hN
    have h3 := Heap.lt_size (kGet k01 _ _ eg)
    have : (3 : Nat) < N := by rw [← h2]; exact h3
    simp only [beq_eq_false_iff_ne, ne_eq]
    intro q
    rw [q] at this
    exact absurd this (by decide)
  refine st_loc (env := envF (stm 1) L D.ac cd) (hns.keeps (kGet kN)) fun s₃ k3 hns3 => ?_
  have d3 := dN.but k3.get (by intro hm; exact nNL (List.mem_singleton.mp hm))
  have k13 : ∀ b o, s.heap.get? b = some o → s₃.heap.get? b = some o := oldKeep (fun x o e => kGet kN _ _ (kGet k01 _ _ e)) k3.get hLs
  have old2 : ∀ x ∈ [L, N], s.heap.get? x = none := fun x hx => by
    rcases List.mem_cons.mp hx with q | q
    · rw [q]; exact noneAt (Nat.le_of_eq hL.symm)
    · rw [List.mem_singleton.mp q]; exact hNs
  have keep2 : ∀ {g g' : Heap}, (∀ b o, s.heap.get? b = some o → g.get? b = some o) → (∀ b o, b ∉ [L, N] → g.get? b = some o → g'.get? b = some o) → ∀ b o, s.heap.get? b = some o → g'.get? b = some o :=
    fun h1 h2 b o e => h2 b o (fun hb => by rw [old2 b hb] at e; cases e) (h1 b o e)
  have notOld : ∀ {d : Addr}, (∃ o, s.heap.get? d = some o) → d ∉ [L, N] := fun ⟨o, e⟩ hb => by rw [old2 _ hb] at e; cases e
  have inL : ∀ b ∈ [L], b ∈ [L, N] := fun x hx => List.mem_cons.mpr (.inl (List.mem_singleton.mp hx))
  dsimp only
  refine wpAny_execs_cons (for_items hA' ?_)
  have t3 := ht.but (wr := []) (fun b o _ e => k13 b o e) (by simp)
  obtain ⟨es, ep, hraw, hsz, hent⟩ := t3.raw
  refine d_items htS hraw (fun Q' hq => wpAny_Name (wpAny_loadName_local (v := .ref t) rfl rfl hns3 rfl hq)) ?_
  intro V s₄ hV k4 hview
  have raw4 : RawD s₄.heap t es ep := hraw.but (wr := []) (fun b o _ e => kGet k4 _ _ e) (by simp)
  refine ⟨V, t, es, ep, [L, N], fun i h => ∃ mm, h.Ns L mm ∧ mm "source" = some (.ref src) ∧ mm "new_callers" = some (.ref N) ∧ DObj prog w h N (xs.take i) ∧ (∀ b o, s.heap.get? b = some o → h.get? b = some o),
    rfl, hview, raw4, notOld ht.some, ?_, ?_, ?_, ?_, ?_⟩
  · intro b hb
    rcases List.mem_cons.mp hb with q | q
    · rw [q]; obtain ⟨o, e⟩ := nsEx hns3; exact ⟨o, kGet k4 _ _ e⟩
    · rw [List.mem_singleton.mp q]; obtain ⟨o, e⟩ := d3.some; exact ⟨o, kGet k4 _ _ e⟩
  · intro s₅ k5
    have k35 := kTrans k4 k5
    exact ⟨_, hns3.keeps (kGet k35), rfl, rfl, d3.but (wr := []) (fun b o _ e => kGet k35 _ _ e) (by simp), fun b o e => kGet k35 _ _ (k13 b o e)⟩
  · rintro i g g' ⟨mm, a1, a2, a3, a4, a5⟩ hk _
    have hL4 : ∃ o, s₄.heap.get? L = some o := let ⟨o, e⟩ := nsEx hns3; ⟨o, kGet k4 _ _ e⟩
    have hN4 : ∃ o, s₄.heap.get? N = some o := let ⟨o, e⟩ := d3.some; ⟨o, kGet k4 _ _ e⟩
    refine ⟨mm, a1.at fun o e => hk _ o hL4 e, a2, a3, ?_, fun b o e => hk b o ⟨o, kGet k4 _ _ (k13 b o e)⟩ (a5 b o e)⟩
    obtain ⟨o, es', ep', q, r⟩ := a4
    exact ⟨o, es', ep', hk _ o hN4 q, r⟩
  · rintro i s₅ hi hr5 ⟨mm, a1, a2, a3, a4, a5⟩
    have hix : i < xs.length := by omega
    obtain ⟨e1, e2⟩ := hent i hi hix
    rw [e1, e2]
    refine st_loc (env := envF (stm 1) L D.ac cd) a1 fun s₆ k6 b1 => st_loc (env := envF (stm 1) L D.ac cd) b1 fun s₇ k7 c1 => ?_
    have k57 := KeepsBut.trans k6 k7
    have c4 := a4.but k57.get (by intro hm; exact nNL (List.mem_singleton.mp hm))
    have c5 := oldKeep a5 k57.get hLs
    refine wpAny_execs_cons (wpAny_Assign_Subscript ?_ (by with_unfolding_all rfl))
    refine wpAny_Name (wpAny_loadName_local (v := xs[i].2.2) rfl rfl c1 rfl (wpAny_Name (wpAny_loadName_local (v := .ref N) rfl rfl c1 a3 (wpAny_Name (wpAny_loadName_local (v := .ref xs[i].2.1) rfl rfl c1 rfl ?_)))))
    have key : IsTupleKey (mixK prog w) s₇.heap xs[i].1 xs[i].2.1 := htk.keeps c5 _ (List.getElem_mem hix)
    refine st_dict hu' c4 ((htk.keeps c5).take i) key (by simp; omega) fun s₈ k8 d8 => ?_
    refine wpAny_execs_nil ⟨rfl, ⟨_, nsBut c1 k8.get (fun hm => nNL (List.mem_singleton.mp hm).symm), a2, a3, ?_, ?_⟩, ?_⟩
    · rw [storedH_new (atKey_take ht.nodup hix)] at d8
      rw [List.take_succ, List.getElem?_eq_getElem hix]
      exact d8
    · exact keep2 c5 fun b o hb e => k8.get b o (fun q => hb (by rw [List.mem_singleton.mp q]; simp)) e
    · exact KeepsBut.trans (k57.mono inL) (k8.mono (by simp))
  · rintro s₅ ⟨mm, a1, a2, a3, a4, a5⟩ sm5
    rw [hsz, List.take_length] at a4
    dsimp only
    refine wpAny_execs_cons (for_items hA' ?_)
    have s5 := hs.but (wr := []) (fun b o _ e => a5 b o e) (by simp)
    obtain ⟨es2, ep2, hraw2, hsz2, hent2⟩ := s5.raw
    refine d_items hsS hraw2 (fun Q' hq => wpAny_Name (wpAny_loadName_local (v := .ref src) rfl rfl a1 a2 hq)) ?_
    intro V2 s₆ hV2 k6 hview2
    have raw6 : RawD s₆.heap src es2 ep2 := hraw2.but (wr := []) (fun b o _ e => kGet k6 _ _ e) (by simp)
    have hL6 : ∃ o, s₆.heap.get? L = some o := let ⟨o, e⟩ := nsEx a1; ⟨o, kGet k6 _ _ e⟩
    have hN6 : ∃ o, s₆.heap.get? N = some o := let ⟨o, e⟩ := a4.some; ⟨o, kGet k6 _ _ e⟩
    refine ⟨V2, src, es2, ep2, [L, N], fun i h => ∃ mm ys, h.Ns L mm ∧ mm "new_callers" = some (.ref N) ∧ DObj prog w h N ys ∧ (i = 0 → ys = xs) ∧ (i ≠ 0 → Bump xs k a' ys) ∧ (∀ b o, s.heap.get? b = some o → h.get? b = some o),
      rfl, hview2, raw6, notOld hs.some, ?_, ?_, ?_, ?_, ?_⟩
    · intro b hb
      rcases List.mem_cons.mp hb with q | q
      · rw [q]; exact hL6
      · rw [List.mem_singleton.mp q]; exact hN6
    · intro s₇ k7
      have k57 := kTrans k6 k7
      exact ⟨mm, xs, a1.keeps (kGet k57), a3, a4.but (wr := []) (fun b o _ e => kGet k57 _ _ e) (by simp), fun _ => rfl, fun q => absurd rfl q, fun b o e => kGet k57 _ _ (a5 b o e)⟩
    · rintro i g g' ⟨mm, ys, b1, b2, b3, b4, b5, b6⟩ hk hk2
      have b6' : ∀ b o, s.heap.get? b = some o → g'.get? b = some o := fun b o e => hk b o ⟨o, kGet k6 _ _ (a5 b o e)⟩ (b6 b o e)
      refine ⟨mm, ys, b1.at fun o e => hk _ o hL6 e, b2, ?_, b4, b5, b6'⟩
      obtain ⟨o, es', ep', q, r⟩ := b3
      exact ⟨o, es', ep', hk _ o hN6 q, r⟩
    · rintro i s₇ hi hr7 ⟨mm, ys, b1, b2, b3, b4, b5, b6⟩
      have hi0 : i = 0 := by have : es2.size = 1 := hsz2; omega
      subst hi0
      obtain rfl := b4 rfl
      obtain ⟨e1, e2⟩ := hent2 0 hi (by simp)
      rw [e1, e2]
      refine st_loc (env := envF (stm 1) L D.ac cd) b1 fun s₈ k8 c1 => st_loc (env := envF (stm 1) L D.ac cd) c1 fun s₉ k9 d1 => ?_
      have k79 := KeepsBut.trans k8 k9
      have d3 := b3.but k79.get (by intro hm; exact nNL (List.mem_singleton.mp hm))
      have d6 := oldKeep b6 k79.get hLs
      have X9 := X.keeps d6
      have hkey : ∀ {g : Heap}, (∀ b o, s.heap.get? b = some o → g.get? b = some o) → IsTupleKey (mixK prog w) g k a' := fun hg => hsk.keeps hg (k, a', .int 1 u) (List.mem_singleton.mpr rfl)
      have fin : ∀ (s₁₀ : Shared) (zs : List (TK × Addr × Value)), KeepsBut [N] s₉ s₁₀ → DObj prog w s₁₀.heap N zs → Bump ys k a' zs →
          wpAny (model prog w) B (execs [] (envF (stm 1) L D.ac cd)) (fun f s₅ => f = .next ∧ (∃ mm ys₁, s₅.heap.Ns L mm ∧ mm "new_callers" = some (.ref N) ∧ DObj prog w s₅.heap N ys₁ ∧ (0 + 1 = 0 → ys₁ = ys) ∧ (0 + 1 ≠ 0 → Bump ys k a' ys₁) ∧ (∀ b o, s.heap.get? b = some o → s₅.heap.get? b = some o)) ∧ KeepsBut [L, N] s₇ s₅) (fun _ _ => False) s₁₀ := by
        intro s₁₀ zs k10 dz bz
        refine wpAny_execs_nil ⟨rfl, ⟨_, zs, nsBut d1 k10.get (fun hm => nNL (List.mem_singleton.mp hm).symm), b2, dz, fun q => absurd q (by decide), fun _ => bz, ?_⟩, ?_⟩
        · exact keep2 d6 fun b o hb e => k10.get b o (fun q => hb (by rw [List.mem_singleton.mp q]; simp)) e
        · exact KeepsBut.trans (k79.mono inL) (k10.mono (by simp))
      refine wpAny_execs_cons (wpAny_If (wpAny_isTrue_Compare1 ?_ (by with_unfolding_all rfl)))
      refine wpAny_Name (wpAny_loadName_local (v := .ref a') rfl rfl d1 rfl (wpAny_Name (wpAny_loadName_local (v := .ref N) rfl rfl d1 b2 ?_)))
      refine wpAny_in_heap (knd := tupK prog w) hu' (hkey d6) nS (d3.full (htk.keeps d6)) (wpAny_truthy_bool ?_)
      generalize hs9 : ({ s₉ with toks := s₉.toks + (tupK prog w).draws k } : Shared) = s₉'
      have k9' : Keeps s₉ s₉' := by rw [← hs9]; exact kTok _ _
      have d1' := d1.keeps (kGet k9')
      have d3' := d3.but (wr := []) (fun b o _ e => kGet k9' b o e) (by simp)
      have d6' : ∀ b o, s.heap.get? b = some o → s₉'.heap.get? b = some o := fun b o e => kGet k9' _ _ (d6 b o e)
      cases hat : atKey ys k with
      | none =>
        show wpAny _ _ (execs _ _) _ _ _
        refine wpAny_execs_cons (wpAny_Assign_Subscript ?_ (by with_unfolding_all rfl))
        refine wpAny_Name (wpAny_loadName_local (v := .int 1 u) rfl rfl d1' rfl (wpAny_Name (wpAny_loadName_local (v := .ref N) rfl rfl d1' b2 (wpAny_Name (wpAny_loadName_local (v := .ref a') rfl rfl d1' rfl ?_)))))
        refine st_dict hu' d3' (htk.keeps d6') (hkey d6') (by omega) fun s₁₀ k10 dz => ?_
        rw [storedH_new hat] at dz
        refine wpAny_execs_nil (fin s₁₀ _ (KeepsBut.trans (Mine.Keeps.but k9') k10) dz (.inl ⟨hat, u, rfl⟩))
      | some pr =>
        obtain ⟨a₀, val⟩ := pr
        have hmem : ∃ x ∈ ys, x.2.2 = val := by
          unfold atKey at hat
          cases hf : ys.find? (fun x => decide (x.1 = k)) with
          | none => rw [hf] at hat; cases hat
          | some x =>
            rw [hf] at hat
            injection hat with hat
            exact ⟨x, List.mem_of_find?_eq_some hf, congrArg Prod.snd hat⟩
        obtain ⟨x, hx, rfl⟩ := hmem
        obtain ⟨vv, tv, ev⟩ := hv x hx
        rw [ev] at hat
        show wpAny _ _ (execs _ _) _ _ _
        refine wpAny_execs_cons (wpAny_If (isTrue_plain ?_ (by with_unfolding_all rfl)))
        refine callN (nmB (X.keeps d6') X.bisi (cB (sp_cons (wpAny_Name (wpAny_loadName_local (v := .int 1 u) rfl rfl d1' rfl (sp_cons (nmB (X.keeps d6') X.btup (sp_nil ?_))))))))
        refine PySem.IsiPair.int_tuple (wpAny_truthy_bool ?_)
        generalize hs10 : ({ s₉' with toks := s₉'.toks + 1 } : Shared) = s₁₀
        have k10 : Keeps s₉' s₁₀ := by rw [← hs10]; exact kTok _ _
        have f1 := d1'.keeps (kGet k10)
        have f3 := d3'.but (wr := []) (fun b o _ e => kGet k10 b o e) (by simp)
        have f6 : ∀ b o, s.heap.get? b = some o → s₁₀.heap.get? b = some o := fun b o e => kGet k10 _ _ (d6' b o e)
        show wpAny _ _ (execs _ _) _ _ _
        refine wpAny_execs_cons (wpAny_AugAssign_SubscriptAny ?_ (by intros; with_unfolding_all rfl))
        refine wpAny_Name (wpAny_loadName_local (v := .ref N) rfl rfl f1 b2 (wpAny_Name (wpAny_loadName_local (v := .ref a') rfl rfl f1 rfl ?_)))
        refine wpAny_getItem_heap (knd := tupK prog w) hu' (hkey f6) (f3.full (htk.keeps f6)) hat ?_
        generalize hs11 : ({ s₁₀ with toks := s₁₀.toks + (tupK prog w).draws k } : Shared) = s₁₁
        have k11 : Keeps s₁₀ s₁₁ := by rw [← hs11]; exact kTok _ _
        have g1 := f1.keeps (kGet k11)
        refine wpAny_Name (wpAny_loadName_local (v := .int 1 u) rfl rfl g1 rfl ?_)
        refine PyProof.Rows.iadd_int ?_
        generalize htn : s₁₁.toks = tn
        generalize hs12 : ({ s₁₁ with toks := tn + 1 } : Shared) = s₁₂
        have k12 : Keeps s₁₁ s₁₂ := by rw [← hs12]; exact kTok _ _
        have k1 : Keeps s₁₀ s₁₂ := kTrans k11 k12
        have h3 := f3.but (wr := []) (fun b o _ e => kGet k1 b o e) (by simp)
        have h6 : ∀ b o, s.heap.get? b = some o → s₁₂.heap.get? b = some o := fun b o e => kGet k1 _ _ (f6 b o e)
        refine st_dict hu' h3 (htk.keeps h6) (hkey h6) (by omega) fun s₁₃ k13' dz => ?_
        rw [storedH_old hat] at dz
        refine wpAny_execs_nil (wpAny_execs_nil (fin s₁₃ _ (KeepsBut.trans (Mine.Keeps.but (kTrans k9' (kTrans k10 k1))) k13') dz (.inr ⟨a₀, vv, tv, tn, hat, rfl⟩)))
    · rintro s₇ ⟨mm, ys, b1, b2, b3, b4, b5, b6⟩ sm7
      have e1 : es2.size = 1 := hsz2
      have hb := b5 (by rw [e1]; decide)
      dsimp only
      refine wpAny_execs_cons (wpAny_Return_some (wpAny_Name (wpAny_loadName_local (v := .ref N) rfl rfl b1 b2 ?_)))
      refine h N s₇ ys (keepsOf (sameTrans (KeepsBut.same (Mine.Keeps.but (wr := []) (kTrans k01 kN))) (sameTrans (KeepsBut.same k3) (sameTrans (KeepsBut.same (Mine.Keeps.but (wr := []) k4)) (sameTrans sm5 (sameTrans (KeepsBut.same (Mine.Keeps.but (wr := []) k6)) sm7))))) b6) hNs nS b3 ?_ hb
      intro y hy
      rcases hb with ⟨_, u', rfl⟩ | ⟨_, _, _, _, _, rfl⟩
      · rcases List.mem_append.mp hy with q | q
        · exact htk.keeps b6 y q
        · rw [List.mem_singleton.mp q]
          exact hsk.keeps b6 (k, a', .int 1 u) (List.mem_singleton.mpr rfl)
      · obtain ⟨z, hzm, rfl⟩ := List.mem_map.mp hy
        have := htk.keeps b6 z hzm
        unfold putAt
        split
        · exact this
        · exact this
end
end Mine

namespace Mine

section
variable {prog : Program} {w : World} {A : Around} {E : Value → Shared → Prop} {s : Shared} {env : Env} {D : Ad} {mg mb : Str → Option Value}

theorem val_item {it d : Addr} {i ep : Nat} {es : Array DictEntry} {Q : Option Value → Shared → Prop} (hit : s.heap.IsValIter it d i es.size ep)
    (hm : RawD s.heap d es ep) (hx : i < es.size)
    (hQ : ∀ h', h'.IsValIter it d (i + 1) es.size ep → Heap.SameBut it s.heap h' → Q (some es[i].val) { s with heap := h' }) :
    wpAny (model prog w) A (pyNext (.ref it)) Q E s := by
  obtain ⟨o, ho, hc, hd⟩ := id hit
  obtain ⟨od, hod, hcd, hdd⟩ := id hm
  unfold pyNext
  refine wpAny_bind (wpAny_attempt (wpAny_callSpecial?_slot (name := Str.ofString "__next__") hit.typeIs F.slot_dict_valueiterator_next
    (wpAny_call_entry F.slot_dict_valueiterator_next hit.typeIs F.entry_dict_valueiterator_next ?_ (F.args_dict_valueiterator_next_1 _))))
  refine wpAny_bind (wpAny_pure (wpAny_bind (wpAny_bind ?_)))
  first | refine wpAny_bind (wpAny_typeNameOfWhole_valiter hit.typeIs (wpAny_pure ?_)) | refine wpAny_bind (wpAny_typeNameOf_valiter hit.typeIs (wpAny_pure ?_))
  refine wpAny_bind (wpAny_fieldsOf ho hd ?_)
  have hown : Builtin.Dict_items.ownsTuple "dict_valueiterator" = false := by decide
  simp only [hown, Bool.false_eq_true, if_false]
  show wpAny _ _ (if (Value.ref d == Value.none) = true then _ else _) _ _ s
  rw [if_neg (show ¬ ((Value.ref d == Value.none) = true) from Bool.false_ne_true)]
  refine wpAny_bind (wpAny_pure (wpAny_bind (wpAny_dictEntries hod hdd ?_)))
  rw [if_neg (by simp)]
  refine wpAny_bind (wpAny_pure (wpAny_bind (wpAny_dictEpoch hod hdd ?_)))
  rw [if_neg (by simp)]
  refine wpAny_pure ?_
  simp only [show ¬ ((i : Int) < 0) from by omega, if_false, Int.toNat_natCast, Array.getElem?_eq_getElem hx]
  refine wpAny_bind ?_
  first | refine wpAny_bind (wpAny_typeNameOfWhole_valiter hit.typeIs (wpAny_pure ?_)) | refine wpAny_bind (wpAny_typeNameOf_valiter hit.typeIs (wpAny_pure ?_))
  refine wpAny_bind (wpAny_isOneOf_valiter hit.typeIs ?_)
  show wpAny _ _ (setField (.ref it) 1 (rawInt ((i : Int) + 1)) >>= _) _ _ s
  refine wpAny_bind (wpAny_setField ho hd (by simp) ?_)
  have hit' : (s.heap.update it (Obj.mapFields (·.setIfInBounds 1 (rawInt ((i : Int) + 1))))).IsValIter it d (i + 1) es.size ep :=
    ⟨_, Heap.get?_update_self _ ho (Obj.isFreed_of_fields (Obj.data_mapFields hd _)), (Obj.cls_mapFields ..).trans hc, by rw [Obj.data_mapFields hd]; simp [rawInt]⟩
  refine wpAny_bind (wpAny_holding ?_)
  refine wpAny_bind (wpAny_isOneOf_valiter (s := { s with heap := s.heap.update it (Obj.mapFields (·.setIfInBounds 1 (rawInt ((i : Int) + 1)))) }) hit'.typeIs ?_)
  refine wpAny_bind (wpAny_isOneOf_valiter (s := { s with heap := s.heap.update it (Obj.mapFields (·.setIfInBounds 1 (rawInt ((i : Int) + 1)))) }) hit'.typeIs ?_)
  show wpAny _ _ (pure es[i].val) _ _ _
  exact wpAny_pure (wpAny_pure ⟨_, rfl, wpAny_pure (hQ _ hit' (Heap.SameBut.update ..))⟩)

theorem val_end {it d : Addr} {i ep : Nat} {es : Array DictEntry} {Q : Option Value → Shared → Prop} (hh : A.handled = none) (hit : s.heap.IsValIter it d i es.size ep)
    (hm : RawD s.heap d es ep) (hx : es.size ≤ i) (hQ : ∀ h', Heap.ExtBut it s.heap h' → Q none { s with heap := h' }) : wpAny (model prog w) A (pyNext (.ref it)) Q E s := by
  obtain ⟨o, ho, hc, hd⟩ := id hit
  obtain ⟨od, hod, hcd, hdd⟩ := id hm
  unfold pyNext
  refine wpAny_bind (wpAny_attempt (wpAny_callSpecial?_slot (name := Str.ofString "__next__") hit.typeIs F.slot_dict_valueiterator_next
    (wpAny_call_entry F.slot_dict_valueiterator_next hit.typeIs F.entry_dict_valueiterator_next ?_ (F.args_dict_valueiterator_next_1 _))))
  refine wpAny_bind (wpAny_pure (wpAny_bind (wpAny_bind ?_)))
  first | refine wpAny_bind (wpAny_typeNameOfWhole_valiter hit.typeIs (wpAny_pure ?_)) | refine wpAny_bind (wpAny_typeNameOf_valiter hit.typeIs (wpAny_pure ?_))
  refine wpAny_bind (wpAny_fieldsOf ho hd ?_)
  have hown : Builtin.Dict_items.ownsTuple "dict_valueiterator" = false := by decide
  simp only [hown, Bool.false_eq_true, if_false]
  show wpAny _ _ (if (Value.ref d == Value.none) = true then _ else _) _ _ s
  rw [if_neg (show ¬ ((Value.ref d == Value.none) = true) from Bool.false_ne_true)]
  refine wpAny_bind (wpAny_pure (wpAny_bind (wpAny_dictEntries hod hdd ?_)))
  rw [if_neg (by simp)]
  refine wpAny_bind (wpAny_pure (wpAny_bind (wpAny_dictEpoch hod hdd ?_)))
  rw [if_neg (by simp)]
  refine wpAny_pure ?_
  simp only [show ¬ ((i : Int) < 0) from by omega, if_false, Int.toNat_natCast, Array.getElem?_eq_none hx]
  refine wpAny_bind ?_
  first | refine wpAny_bind (wpAny_typeNameOfWhole_valiter hit.typeIs (wpAny_pure ?_)) | refine wpAny_bind (wpAny_typeNameOf_valiter hit.typeIs (wpAny_pure ?_))
  show wpAny _ _ (setField (.ref it) 0 .none >>= _) _ _ s
  refine wpAny_bind (wpAny_setField ho hd (by simp) ?_)
  show wpAny _ _ (newExc (.type "StopIteration") [] >>= _) _ _ _
  refine wpAny_bind ?_
  simp only [newExc, newTuple]
  refine wpAny_bind (wpAny_newObj_type ?_ (by size_fits))
  refine wpAny_bind (m := firstArgMember _ _) (wpAny_of_eq (a := Value.none) (by first | rfl | (simp only [firstArgMember]; rfl)) ?_)
  refine wpAny_newObj_type ?_ (by size_fits)
  simp only [raiseNew]
  refine wpAny_bind (wpAny_handled ?_)
  rw [show A.in1.handled = none from hh]
  refine wpAny_bind (wpAny_pure (wpAny_throw ?_))
  refine wpAny_bind (wpAny_isInstance (T := "StopIteration") (b := true) ⟨_, Heap.get?_push_size _ rfl, rfl⟩ isSubtype_stop ?_)
  exact wpAny_pure (hQ _ (((Heap.SameBut.update ..).extBut.push _).push _))

theorem src_values {v d : Addr} {es : Array DictEntry} {ep : Nat} (hA : A.handled = none) (hv : s.heap.IsValuesView v d) (hm : RawD s.heap d es ep) :
    Src prog w A (.ref v) s es.size (fun i x => ∃ hi : i < es.size, x = es[i].val) [d] := by
  intro Q E h
  obtain ⟨ov, hov, hcv, hdv⟩ := id hv
  obtain ⟨o, ho, hc, hdat⟩ := id hm
  have hdl : d < s.heap.objs.size := Heap.lt_size ho
  have hne : d ≠ s.heap.objs.size := Nat.ne_of_lt hdl
  refine wpAny_pyIter_slot hv.typeIs F.slot_dict_values_iter (wpAny_call_entry F.slot_dict_values_iter hv.typeIs F.entry_dict_values_iter ?_ (F.args_dict_values_iter_1 _))
  unfold Builtin.«dict_values.__iter__»
  refine wpAny_bind (wpAny_pure (wpAny_bind ?_))
  unfold Builtin.Dict_items.dictOf
  refine wpAny_bind (wpAny_field hov hdv (x := .ref d) rfl (wpAny_pure (wpAny_bind ?_)))
  unfold Builtin.Dict_items.newIterator
  refine wpAny_bind (wpAny_dictEntries ho hdat (wpAny_bind (wpAny_dictEpoch ho hdat ?_)))
  have hown : Builtin.Dict_items.ownsTuple "dict_valueiterator" = false := by decide
  simp only [hown, Bool.false_eq_true, if_false]
  refine wpAny_newObj_type (wpAny_pure ⟨_, rfl, "dict_valueiterator", _, ⟨_, Heap.get?_push_size _ rfl, rfl⟩, F.slot_dict_valueiterator_next.lookup, ?_⟩)
  have W : Walks prog w A s.heap.objs.size [s.heap.objs.size, d] [s.heap.objs.size] es.size (fun i x => ∃ hi : i < es.size, x = es[i].val) (fun i h => h.IsValIter s.heap.objs.size d i es.size ep ∧ RawD h d es ep) :=
    { sub := fun b hb => by simp at hb; simp [hb]
      frame := fun _ _ _ st hk => ⟨st.1.at fun o e => hk _ (by simp) o e, let ⟨o, e, r⟩ := st.2; ⟨o, hk d (by simp) o e, r⟩⟩
      item := fun i s Q E hi st hQ => by
        refine val_item st.1 st.2 hi fun h' hit' hs' => ?_
        exact hQ _ h' s.toks ⟨hi, rfl⟩ ⟨hit', let ⟨o, e, r⟩ := st.2; ⟨o, hs'.extBut _ o hne e, r⟩⟩ fun b o hb e => hs'.extBut b o (fun h => hb (by simp [h])) e
      done := fun s Q E st hQ => val_end hA st.1 st.2 (Nat.le_refl _) fun h' he' => hQ h' s.toks fun b o hb e => he' b o (fun h => hb (by simp [h])) e
      self := fun _ _ _ _ st hQ => wpAny_pyIter_valiter st.1 hQ }
  refine h _ _ _ _ W ?_ ?_ ?_ (Nat.le_refl _) (fun _ _ st => let ⟨o, ho, _⟩ := st.1; ⟨o, ho⟩) (kPush s _ s.toks)
  · refine ⟨⟨_, Heap.get?_push_size _ rfl, rfl, ?_⟩, o, Heap.get?_push_of_some _ ho, hc, hdat⟩
    simp [rawInt]
  · intro b hb
    rcases List.mem_cons.mp hb with rfl | hb
    · simp [Heap.size_push]
    · rw [List.mem_singleton.mp hb]
      show d < (s.heap.push _).objs.size
      rw [Heap.size_push]; exact Nat.lt_succ_of_lt hdl
  · intro b hb
    rcases List.mem_cons.mp hb with rfl | hb
    · exact .inl rfl
    · exact .inr hb

/-- the sum of the counts -/
def valI : Value → Int
  | .int v _ => v
  | _ => 0
def sumV (xs : List (TK × Addr × Value)) : Int := (xs.map fun x => valI x.2.2).sum

theorem count_call {t : Addr} {xs : List (TK × Addr × Value)} {Q : Value → Shared → Prop} (X : ModOk D mg mb s.heap) (hA : A.handled = none) (hd : A.depth < recursionLimit)
    (htS : (t == sysModules) = false) (ht : DObj prog w s.heap t xs) (hv : ∀ x ∈ xs, ∃ v t, x.2.2 = .int v t)
    (h : ∀ s' u, Keeps s s' → Q (.int (sumV xs) u) s') :
    wpAny (model prog w) A (call (.ref D.cc) [.ref t]) Q E s := by
  refine callFn [("callers", .ref t)] X.fcc X.lim hd (fun _ _ _ => rfl) rfl ?_
  intro L cd s₁ hL k01 F C
  have hns : s₁.heap.Ns L (bindL (envF (stm 2) L D.cc cd).kindOf [("callers", .ref t)] fun _ => none) := F.ns
  have hA' : (A.deeper (envF (stm 2) L D.cc cd)).handled = none := hA
  have hLs : ∀ x ∈ [L], s.heap.objs.size ≤ x := fun x hx => by rw [List.mem_singleton.mp hx]; exact Nat.le_of_eq hL.symm
  generalize hB : A.deeper (envF (stm 2) L D.cc cd) = B at hA' ⊢
  with_unfolding_all refine wpAny_execs_cons ?_
  with_unfolding_all refine wpAny_Assign_Name ?_ ?_
  case refine_2 => with_unfolding_all rfl
  refine wpAny_Constant_int (st_loc (env := envF (stm 2) L D.cc cd) (hns.keeps (kGet (kTok s₁ _))) fun s₂ k2 hns2 => ?_)
  have k02 : ∀ b o, s.heap.get? b = some o → s₂.heap.get? b = some o := oldKeep (fun x o e => kGet k01 _ _ e) k2.get hLs
  have t2 := ht.but (wr := []) (fun b o _ e => k02 b o e) (by simp)
  obtain ⟨es, ep, hraw, hsz, hent⟩ := t2.raw
  dsimp only
  refine wpAny_execs_cons (for_rule ?_)
  refine d_values htS hraw (fun Q' hq => wpAny_Name (wpAny_loadName_local (v := .ref t) rfl rfl hns2 rfl hq)) ?_
  intro V s₃ hV k3 hview
  have raw3 : RawD s₃.heap t es ep := hraw.but (wr := []) (fun b o _ e => kGet k3 _ _ e) (by simp)
  have tL : t ≠ L := by
    obtain ⟨o, e⟩ := ht.some
    rw [hL]; exact Nat.ne_of_lt (Heap.lt_size e)
  refine ⟨_, _, [t], [L], fun I i h => ∃ mm u, h.Ns L mm ∧ mm "nc" = some (.int (sumV (xs.take i)) u) ∧ @LT.lt Nat _ L I ∧ (∀ b o, s.heap.get? b = some o → h.get? b = some o), src_values hA' hview raw3, ?_, ?_, ?_, ?_, ?_⟩
  · intro x hx
    rw [List.mem_singleton.mp hx]
    refine ⟨fun hm => tL (List.mem_singleton.mp hm).symm, ?_⟩
    obtain ⟨o, e⟩ := nsEx hns2; exact ⟨o, kGet k3 _ _ e⟩
  · intro I s₄ hI k4
    have k24 := kTrans k3 k4
    exact ⟨_, _, hns2.keeps (kGet k24), rfl, ltNew (let ⟨o, e⟩ := nsEx hns2; ⟨o, kGet k3 _ _ e⟩) hI, fun b o e => kGet k24 _ _ (k02 b o e)⟩
  · rintro I i g g' ⟨mm, u, a1, a2, a3, a4⟩ hk hI
    refine ⟨mm, u, nsOne a1 hk a3, a2, a3, oldOne a4 hk ?_⟩
    have h1 : s.heap.objs.size = L := hL.symm
    omega
  · rintro I i v s₄ hi ⟨hi', rfl⟩ hI hIe ⟨mm, u, a1, a2, a3, a4⟩
    have hix : i < xs.length := by omega
    obtain ⟨e1, e2⟩ := hent i hi' hix
    obtain ⟨v, tv, ev⟩ := hv xs[i] (List.getElem_mem hix)
    rw [e2, ev]
    refine wpAny_assign_Name (st_loc (env := envF (stm 2) L D.cc cd) a1 fun s₅ k5 b1 => ?_)
    refine wpAny_execs_cons (wpAny_AugAssign_Name ?_)
    refine wpAny_loadName_local (v := .int (sumV (xs.take i)) u) rfl rfl b1 a2 ?_
    refine wpAny_Name (wpAny_loadName_local (v := .int v tv) rfl rfl b1 rfl ?_)
    refine PyProof.Rows.iadd_int (st_loc (env := envF (stm 2) L D.cc cd) (b1.keeps (kGet (kTok s₅ _))) fun s₆ k6 c1 => ?_)
    have k46 : KeepsBut [L] s₄ s₆ := KeepsBut.trans k5 (KeepsBut.trans (Mine.Keeps.but (kTok s₅ _)) k6)
    refine wpAny_execs_nil ⟨rfl, ⟨_, s₅.toks, c1, ?_, a3, oldKeep a4 k46.get hLs⟩, k46⟩
    have e : sumV (xs.take (i + 1)) = sumV (xs.take i) + v := by
      unfold sumV
      rw [List.take_succ, List.getElem?_eq_getElem hix, Option.toList_some, List.map_append, List.sum_append, List.map_cons, List.map_nil, ev]
      simp [valI]
    rw [e]
    exact if_pos rfl
  · rintro I s₄ hI ⟨mm, u, a1, a2, a3, a4⟩ sm4
    rw [hsz, List.take_length] at a2
    dsimp only
    refine wpAny_execs_cons (wpAny_Return_some (wpAny_Name (wpAny_loadName_local (v := .int (sumV xs) u) rfl rfl a1 a2 ?_)))
    exact h s₄ u (keepsOf (sameTrans (KeepsBut.same (Mine.Keeps.but (wr := []) (kTrans k01 (kTok s₁ _)))) (sameTrans (KeepsBut.same k2) (sameTrans (KeepsBut.same (Mine.Keeps.but (wr := []) k3)) sm4))) a4)
end
end Mine

namespace Mine

/-! sorted of lists of bytes -/
def natsB (l : List UInt8) : List Nat := l.map UInt8.toNat
theorem natsB_inj : ∀ {a b : List UInt8}, natsB a = natsB b → a = b
  | [], [], _ => rfl
  | [], _ :: _, h => by simp [natsB] at h
  | _ :: _, [], h => by simp [natsB] at h
  | x :: a, y :: b, h => by
    simp only [natsB, List.map_cons, List.cons.injEq] at h
    rw [UInt8.toNat_inj.mp h.1, natsB_inj h.2]
theorem order_lt : ∀ a b : List UInt8, (Builtin.Bytes.order a b == .lt) = decide (natsB a < natsB b)
  | [], [] => by simp [Builtin.Bytes.order, natsB]
  | [], y :: b => by simp [Builtin.Bytes.order, natsB]
  | x :: a, [] => by simp [Builtin.Bytes.order, natsB]
  | x :: a, y :: b => by
    have ih := order_lt a b
    simp only [Builtin.Bytes.order, natsB, List.map_cons]
    by_cases h1 : x < y
    · have : x.toNat < y.toNat := UInt8.lt_iff_toNat_lt.mp h1
      simp [h1, List.cons_lt_cons_iff, this]
    · by_cases h2 : x > y
      · have h3 : y.toNat < x.toNat := UInt8.lt_iff_toNat_lt.mp h2
        have h4 : ¬ x.toNat < y.toNat := by omega
        have h5 : ¬ x.toNat = y.toNat := by omega
        simp [h1, h2, List.cons_lt_cons_iff, h4, h5]
      · have : x = y := UInt8.le_antisymm (UInt8.not_lt.mp h2) (UInt8.not_lt.mp h1)
        subst this
        simp only [UInt8.lt_irrefl, if_false, gt_iff_lt, List.cons_lt_cons_iff, Nat.lt_irrefl, true_and, false_or]
        exact ih
@[reducible] def bytesKind : PyProof.Rows.KeyKind where
  α := List Nat
  blt a b := decide (a < b)
  irrefl a := by simpa using List.lt_irrefl a
  trans a b c h1 h2 := by simp only [decide_eq_true_eq] at *; exact List.lt_trans h1 h2
  negTrans a b c h := by
    simp only [decide_eq_true_eq] at *
    by_cases hab : a < b
    · exact .inl hab
    · exact .inr (List.lt_of_le_of_lt (List.not_lt.mp hab) h)
  total a b h1 h2 := by simp only [decide_eq_false_iff_not] at *; exact List.le_antisymm (List.not_lt.mp h2) (List.not_lt.mp h1)
  keyOf v := match v with | .bytes b _ => some (natsB b.toList) | _ => none
  dflt := []

theorem bslot_lt : Slot "bytes" (cmpInfo .Lt).2.1 "bytes.__lt__" :=
  .of (owner := "bytes") (n := "__lt__") (by rw [typeLookup_type, builtinLookup_eq_fast]; kernel_rfl) (by decide +kernel) (by decide +kernel) (by decide +kernel)
    (by first | exact .inl (by decide +kernel) | exact .inr (by decide +kernel)) (by rw [isSubtype_type]; kernel_rfl)
theorem bentry_lt : entryFor table "bytes.__lt__" = some Builtin.«bytes.__lt__» := entryFor_of_tree (by kernel_rfl)
theorem bargs_lt (a b : Value) : argsOk "bytes.__lt__" ⟨[a, b], []⟩ := by unfold argsOk; kernel_rfl
section
variable {prog : Program} {w : World} {A : Around} {E : Value → Shared → Prop} {s : Shared}
theorem call_blt {a b : Array UInt8} {t u : Tok} {Q : Value → Shared → Prop} (h : Q (.bool (decide (natsB a.toList < natsB b.toList))) s) :
    wpAny (model prog w) A (call (.builtin "bytes.__lt__") [.bytes a t, .bytes b u]) Q E s := by
  refine wpAny_call_entry bslot_lt (PySem.W.typeIs_bytes s a t) bentry_lt ?_ (bargs_lt _ _)
  show wpAny _ _ (isInstance (.bytes b u) (.type "bytes") >>= fun r => _) _ _ s
  refine wpAny_bind (wpAny_isInstance (PySem.W.typeIs_bytes s b u) F.sub_bytes_bytes ?_)
  refine wpAny_pure ⟨_, rfl, ?_⟩
  rw [← order_lt] at h
  exact h
theorem oneLt_b {a b : Array UInt8} {t u : Tok} {Q : Bool → Shared → Prop} (h : Q (decide (natsB a.toList < natsB b.toList)) s) : wpAny (model prog w) A (oneLt' true (.bytes a t) (.bytes b u)) Q E s := by
  rw [oneLt'_eq]
  simp only [if_true]
  refine wpAny_bind (wpAny_cRoomFor_byValue rfl ?_)
  refine wpAny_bind (wpAny_callSpecialIfBound?_slot (PySem.W.typeIs_bytes s a t) bslot_lt (call_blt ?_))
  exact wpAny_truthy_bool h
end
theorem bytesKind_oneLt : bytesKind.OneLt := by
  intro prog w A E s x y a b Q ha hb h
  cases x <;> simp only [bytesKind, reduceCtorEq, Option.some.injEq] at ha
  cases y <;> simp only [bytesKind, reduceCtorEq, Option.some.injEq] at hb
  cases ha; cases hb
  exact oneLt_b h
end Mine

namespace Mine

section
variable {prog : Program} {w : World} {A : Around} {E : Value → Shared → Prop} {s : Shared}

theorem src_bytes {b : Array UInt8} {t : Tok} (hA : A.handled = none) :
    Src prog w A (.bytes b t) s b.size (fun i v => ∃ c u, b[i]? = some c ∧ v = .int (c.toNat : Int) u) [] := by
  intro Q E h
  refine KBw.pyIter_bytes ?_
  refine h _ _ _ _ (KBw.walks hA s.heap.objs.size b t) ?_ ?_ ?_ (Nat.le_refl _) (fun _ _ st => let ⟨o, ho, _⟩ := st; ⟨o, ho⟩) (kPush s _ s.toks)
  · exact ⟨_, Heap.get?_push_size _ rfl, rfl, rfl⟩
  · intro x hx
    rw [List.mem_singleton.mp hx]
    simp [Heap.size_push]
  · intro x hx
    exact .inl (List.mem_singleton.mp hx)

theorem hint_bytes {b : Array UInt8} {t : Tok} {Q : Bool → Shared → Prop} (hlen : b.size ≤ 2 ^ 24)
    (h : ∀ c tk, Q c { s with toks := tk }) : wpAny (model prog w) A (Builtin.List.listLengthHint (.bytes b t)) Q E s := by
  unfold Builtin.List.listLengthHint
  refine wpAny_bind (wpAny_specialOf (PySem.W.typeIs_bytes s b t) FB.slot_bytes_len.lookup ?_)
  generalize hid : ("bytes.__len__" : String) = id0
  wp_delta
  rw [show splitId id0 = some ("bytes", "__len__") from by subst hid; decide +kernel]
  subst hid
  refine wpAny_bind (wpAny_isInstance (T := "bytes") (b := true) (PySem.W.typeIs_bytes s b t) F.sub_bytes_bytes ?_)
  refine wpAny_ite_split (fun hab => absurd hab (by decide)) (fun _ => ?_)
  refine wpAny_ite_split (fun _ => ?_) (fun hab => absurd (by decide +kernel) hab)
  refine wpAny_bind (wpAny_typeOf (PySem.W.typeIs_bytes s b t) ?_)
  exact wpAny_pure (h false s.toks)

theorem ext_bytes {R : Result → Shared → Prop} {b : Array UInt8} {t : Tok} (hh : A.handled = none) (hlen : b.size ≤ 2 ^ 24) (S : Addr) (res : Value) (c₀ : Nat) (hS : s.heap.get? S = some { cls := .type "list", data := .seq #[] c₀ })
    (hR : ∀ h' tk acc' c', (∀ b o, b ≠ S → s.heap.get? b = some o → h'.get? b = some o) → h'.get? S = some { cls := .type "list", dict := none, data := .seq acc' c', slots := #[] } →
      ItemsOf (fun i v => ∃ c u, b[i]? = some c ∧ v = .int (c.toNat : Int) u) acc' b.size → R (.ok (.ret res)) { s with heap := h', toks := tk }) :
    wpAny (model prog w) A.in1 (Builtin.List.listExtendWith (.ref S) (.bytes b t) res)
      (fun fin s' => match fin with | .done f => R (.ok f) s' | .again c' => c'.quiet = true ∧ codeAny (model prog w) A c' R s') (fun e s' => R (.error e) s') s := by
  have hSlt : S < s.heap.objs.size := Heap.lt_size hS
  have hSI : S ≠ s.heap.objs.size := Nat.ne_of_lt hSlt
  have hSf : S ∉ [s.heap.objs.size] := fun hm => hSI (List.mem_singleton.mp hm)
  have W := (KBw.walks (prog := prog) (w := w) (A := A.in1) hh s.heap.objs.size b t).toS
  have key : ∀ (h : Heap) (c₁ tk : Nat), KBw.IsBytesIter h s.heap.objs.size b t 0 → (∀ b o, b ≠ S → s.heap.get? b = some o → h.get? b = some o) →
      h.get? S = some { cls := .type "list", data := .seq #[] c₁ } → codeAny (model prog w) A (.builtin "list.extend.loop" ⟨[.ref S, .ref s.heap.objs.size, res], []⟩) R { s with heap := h, toks := tk } := by
    intro h c₁ tk hit hk hS₁
    refine codeAny_extend_loopS W (by rw [sizeLine_eq]; omega) S hSf res b.size 0 _ #[] c₁ rfl (Nat.zero_le _) hit hS₁ (ItemsOf.nil _) fun s' acc' c' hm hS' hacc => ?_
    rw [Moved.eq_with hm]
    refine hR s'.heap s'.toks acc' c' (fun b o hb e => hm.heap b o (fun hmem => ?_) (hk b o hb e)) hS' hacc
    rcases List.mem_cons.mp hmem with e' | hmem
    · exact hb e'
    · exact absurd (Heap.lt_size e) (by rw [List.mem_singleton.mp hmem]; exact Nat.lt_irrefl _)
  unfold Builtin.List.listExtendWith
  refine wpAny_bind (wpAny_typeOf (PySem.W.typeIs_bytes s b t) ?_)
  have h1 : Builtin.List.listSameRef (.ref S) (.bytes b t) = false := rfl
  have h2 : (Value.type "bytes" == Value.type "list") = false := by decide
  have h3 : (Value.type "bytes" == Value.type "tuple") = false := by decide
  simp only [h1, h2, h3, Bool.or_false, Bool.false_eq_true, if_false]
  refine wpAny_bind (KBw.pyIter_bytes ?_)
  have hit₁ : KBw.IsBytesIter (s.heap.push { cls := .type "bytes_iterator", data := .fields #[.bytes b t, .int 0 0] }) s.heap.objs.size b t 0 := ⟨_, Heap.get?_push_size _ rfl, rfl, rfl⟩
  have hS₁ := Heap.get?_push_of_some { cls := .type "bytes_iterator", data := .fields #[.bytes b t, .int 0 0] } hS
  refine wpAny_bind (wpAny_holding (hint_bytes hlen fun c tk => ?_))
  refine wpAny_ite_split (fun _ => ?_) (fun _ => wpAny_pure ⟨plainId_quiet F.plain_extend_loop _, key _ c₀ _ hit₁ (fun b o _ e => Heap.get?_push_of_some _ e) hS₁⟩)
  refine wpAny_bind (wpAny_rule ?_)
  refine wpAny_bind ?_
  show wpAny _ _ (updateSeq S (·.push .none) >>= fun _ => updateSeq S (·.pop)) _ _ _
  refine wpAny_bind (wpAny_updateSeq hS₁ rfl ?_)
  have hS₂ := Heap.get?_update_self (Obj.mapSeq (·.push Value.none)) hS₁ rfl
  refine wpAny_updateSeq (hz := by seq_fits) hS₂ rfl ?_
  have hS₃ := Heap.get?_update_self (Obj.mapSeq (·.pop)) hS₂ rfl
  refine wpAny_pure ⟨plainId_quiet F.plain_extend_loop _, key _ _ _ ?_ (fun b o hb e => ?_) hS₃⟩
  · obtain ⟨o, ho, r⟩ := hit₁
    exact ⟨o, (Heap.get?_update_other _ _ hSI).trans ((Heap.get?_update_other _ _ hSI).trans ho), r⟩
  · exact (Heap.get?_update_other _ _ (Ne.symm hb)).trans ((Heap.get?_update_other _ _ (Ne.symm hb)).trans (Heap.get?_push_of_some _ e))

theorem init_bytes {R : Result → Shared → Prop} {b : Array UInt8} {t : Tok} (hh : A.handled = none) (hlen : b.size ≤ 2 ^ 24) (S : Addr) (hS : s.heap.get? S = some { cls := .type "list", data := .seq #[] })
    (hR : ∀ h' tk acc' c', (∀ b o, b ≠ S → s.heap.get? b = some o → h'.get? b = some o) → h'.get? S = some { cls := .type "list", dict := none, data := .seq acc' c', slots := #[] } →
      ItemsOf (fun i v => ∃ c u, b[i]? = some c ∧ v = .int (c.toNat : Int) u) acc' b.size → R (.ok (.ret .none)) { s with heap := h', toks := tk }) :
    wpAny (model prog w) A.in1 (Builtin.«list.__init__» ⟨[.ref S, .bytes b t], []⟩)
      (fun fin s' => match fin with | .done f => R (.ok f) s' | .again c' => c'.quiet = true ∧ codeAny (model prog w) A c' R s') (fun e s' => R (.error e) s') s := by
  show wpAny _ _ (do let old ← Builtin.List.listItems (.ref S); Builtin.List.listUpdate (.ref S) (fun _ => #[]); letGo old.toList.reverse; Builtin.List.listExtendWith (.ref S) (.bytes b t) .none) _ _ s
  refine wpAny_bind ?_
  unfold Builtin.List.listItems
  refine wpAny_bind (wpAny_seqItems hS rfl (wpAny_pure ?_))
  show wpAny _ _ (updateSeq S (fun _ => #[]) >>= fun _ => letGo (#[] : Array Value).toList.reverse >>= fun _ => Builtin.List.listExtendWith (.ref S) (.bytes b t) .none) _ _ s
  refine wpAny_bind (wpAny_updateSeq hS rfl ?_)
  have hS₂ := Heap.get?_update_self (Obj.mapSeq (fun _ => (#[] : Array Value))) hS rfl
  have oth : ∀ b o, b ≠ S → s.heap.get? b = some o → (s.heap.update S (Obj.mapSeq (fun _ => (#[] : Array Value)))).get? b = some o :=
    fun b o hb e => (Heap.get?_update_other _ _ (Ne.symm hb)).trans e
  refine wpAny_bind (wpAny_letGo ?_)
  refine ext_bytes hh hlen S .none _ hS₂ fun h' tk acc' c' hk hS' hacc => ?_
  exact hR h' tk acc' c' (fun b o hb e => hk b o hb (oth b o hb e)) hS' hacc

theorem intsOf (f : Nat → Int) : ∀ (vs : List Value) (k : Nat), (∀ (j : Nat) (v : Value), vs[j]? = some v → ∃ t, v = Value.int (f (k + j)) t) → IntsAre vs ((List.range' k vs.length).map f)
  | [], _, _ => .nil
  | v :: vs, k, h => by
    obtain ⟨t, rfl⟩ := h 0 v rfl
    rw [List.length_cons, List.range'_succ, List.map_cons]
    refine .cons _ t (intsOf f vs (k + 1) fun j x hx => ?_)
    have := h (j + 1) x (by simpa using hx)
    rwa [show k + 1 + j = k + (j + 1) from by omega]
/-- ints of items -/
theorem intsOf_items {P : Nat → Value → Prop} {acc : Array Value} {n : Nat} (f : Nat → Int) (h : ItemsOf P acc n) (hf : ∀ i v, P i v → i < n → ∃ t, v = .int (f i) t) : IntsAre acc.toList ((List.range n).map f) := by
  have e := intsOf f acc.toList 0 (by
    intro j v hj
    have hj' : acc[j]? = some v := by rw [← Array.getElem?_toList]; exact hj
    rw [Nat.zero_add]
    refine hf j v (h.2 j v hj') ?_
    have := (Array.getElem?_eq_some_iff.mp hj').1
    rw [← h.1]; exact this)
  rwa [Array.length_toList, h.1, ← List.range_eq_range'] at e

theorem list_bytes {b : Array UInt8} {t : Tok} {Q : Value → Shared → Prop} (hh : A.handled = none) (hlen : b.size ≤ 2 ^ 24)
    (h : ∀ R s' vs, Keeps s s' → s.heap.get? R = none → PlainL s'.heap R (List.toArray vs) → IntsAre vs (b.toList.map fun c => (c.toNat : Int)) → Q (.ref R) s') :
    wpAny (model prog w) A (call (.type "list") [.bytes b t]) Q E s := by
  refine callType_codes (Q₁ := fun obj s₁ => obj = .ref s.heap.objs.size ∧ s₁ = { s with heap := s.heap.push { cls := .type "list", data := .seq #[] } }) F.called_list (F.typeCall_list_1 _) F.entry_list_init
    (code_list_new _ ⟨rfl, rfl⟩) fun obj s₁ h₁ => ?_
  obtain ⟨rfl, rfl⟩ := h₁
  have hS : (s.heap.push { cls := .type "list", data := .seq #[] }).get? s.heap.objs.size = some { cls := .type "list", data := .seq #[] } := Heap.get?_push_size _ rfl
  refine ⟨⟨_, hS, rfl⟩, F.args_list_init_2 _ _, init_bytes (A := A.in1) hh hlen _ hS fun h' tk acc' c' hk hS' hacc => ?_⟩
  refine ⟨rfl, h _ { s with heap := h', toks := tk } acc'.toList (kMk s h' tk fun b o e => hk b o (Nat.ne_of_lt (Heap.lt_size e)) (Heap.get?_push_of_some _ e)) (noneAt (Nat.le_refl _)) ⟨_, _, hS', rfl, rfl, rfl⟩ ?_⟩
  have e := intsOf_items (fun i => ((b[i]?.getD 0).toNat : Int)) hacc (by
    rintro i v ⟨c, u, hc, rfl⟩ _
    exact ⟨u, by rw [hc]; rfl⟩)
  have e2 : (List.range b.size).map (fun i => ((b[i]?.getD 0).toNat : Int)) = b.toList.map fun c => (c.toNat : Int) := by
    refine List.ext_getElem (by simp) fun j h1 h2 => ?_
    have : j < b.size := by simpa using h1
    simp [this]
  rw [← e2]; exact e
theorem plOf {h : Heap} {a : Addr} {its : Array Value} (x : h.PlainList a its) : PlainL h a its := let ⟨n, e⟩ := x; ⟨_, n, e, rfl, rfl, rfl⟩
theorem list_range {r : Addr} {a b : Int} {u v t : Tok} {Q : Value → Shared → Prop} (c : Int) (n : Nat) (hh : A.handled = none) (hr : IsRange s.heap r a b c t u v) (hsmall : Builtin.Range.small a b c = true)
    (hn : Builtin.Range.rangeSize a b c = n) (hlen : n ≤ 2 ^ 24)
    (h : ∀ R s' vs, Keeps s s' → s.heap.get? R = none → s'.heap.PlainList R (List.toArray vs) → IntsAre vs ((List.range n).map fun (i : Nat) => a + (i : Int) * c) → Q (.ref R) s') :
    wpAny (model prog w) A (call (.type "list") [.ref r]) Q E s := by
  refine call_list_range hh hr hsmall hn hlen fun h' tk acc' c' hk hS' hacc => ?_
  exact h _ { s with heap := h', toks := tk } acc'.toList (kMk s h' tk hk) (noneAt (Nat.le_refl _)) ⟨_, hS'⟩ (intsOf_items _ hacc fun i v ⟨t, e⟩ _ => ⟨t, e⟩)
end
end Mine

namespace Mine

def bytesOf : Value → List UInt8
  | .bytes b _ => b.toList
  | _ => []
theorem BL.all : ∀ {vs : List Value} {ls : List (List UInt8)}, BL vs ls → ∀ v, v ∈ vs → ∃ l t, v = .bytes (List.toArray l) t := by
  intro vs ls h v hv
  obtain ⟨j, hj, e⟩ := List.getElem_of_mem hv
  obtain ⟨l, t, _, e2⟩ := BL.get h j v (by rw [List.getElem?_eq_getElem hj, e])
  exact ⟨l, t, e2⟩
theorem BL.maps {vs : List Value} {ls : List (List UInt8)} (h : BL vs ls) : vs.map bytesOf = ls := by
  refine List.ext_getElem (by simpa using BL.len h) fun j h1 h2 => ?_
  have hj : j < vs.length := by simpa using h1
  obtain ⟨l, t, e1, e2⟩ := BL.get h j vs[j] (List.getElem?_eq_getElem hj)
  rw [List.getElem_map, e2]
  rw [List.getElem?_eq_getElem h2] at e1
  injection e1 with e1
  rw [e1]; rfl
theorem BL.of : ∀ (vs : List Value), (∀ v, v ∈ vs → ∃ l t, v = .bytes (List.toArray l) t) → BL vs (vs.map bytesOf)
  | [], _ => .nil
  | v :: vs, h => by
    obtain ⟨l, t, rfl⟩ := h v (List.mem_cons_self ..)
    exact .cons ⟨t, rfl⟩ (BL.of vs fun u hu => h u (List.mem_cons_of_mem _ hu))
theorem BL.keysOf {vs : List Value} {ls : List (List UInt8)} (h : BL vs ls) : PyProof.Rows.KeysOf bytesKind (pairsOf vs) := by
  intro p hp
  rw [pairsOf_toList] at hp
  obtain ⟨l, t, e⟩ := BL.all h _ (mem_zip_self hp).2
  exact ⟨natsB l, by rw [e]⟩
theorem mapM_firstB : ∀ (vs : List Value), (∀ v, v ∈ vs → ∃ l t, v = .bytes (List.toArray l) t) → vs.mapM firstOfTuple' = pure (vs.map fun _ => none)
  | [], _ => by simp
  | v :: vs, h => by
    obtain ⟨l, t, rfl⟩ := h v (List.mem_cons_self ..)
    rw [List.mapM_cons, show firstOfTuple' (.bytes l.toArray t) = pure none from rfl, mapM_firstB vs fun u hu => h u (List.mem_cons_of_mem _ hu)]; simp
theorem mapM_typeB : ∀ (vs : List Value), (∀ v, v ∈ vs → ∃ l t, v = .bytes (List.toArray l) t) → vs.mapM typeOf = pure (vs.map fun _ => Value.type "bytes")
  | [], _ => by simp
  | v :: vs, h => by
    obtain ⟨l, t, rfl⟩ := h v (List.mem_cons_self ..)
    rw [List.mapM_cons, mapM_typeB vs fun u hu => h u (List.mem_cons_of_mem _ hu)]
    show (pure (Value.type "bytes") >>= fun b => pure _ >>= fun bs => pure (b :: bs)) = _
    simp
theorem keyKindB {v₁ v₂ : Value} {vs : List Value} {ls : List (List UInt8)} (h : BL (v₁ :: v₂ :: vs) ls) : keyKind' (v₁ :: v₂ :: vs).toArray = pure oneType' := by
  rw [keyKind'_eq, List.mapM_toArray, mapM_firstB _ (BL.all h)]
  simp only [map_pure, pure_bind]
  rw [if_neg (by simp), if_neg (by simp)]
  rw [oneTypeOnly'_eq, List.mapM_toArray, mapM_typeB _ (BL.all h)]
  simp only [map_pure, pure_bind]
  have hall : ((List.map (fun _ => Value.type "bytes") (v₁ :: v₂ :: vs)).toArray.all fun x => x == Value.type "bytes") = true := by
    simp only [List.all_toArray, List.all_map, List.all_eq_true]
    intro _ _
    rfl
  have h0 : (List.map (fun _ => Value.type "bytes") (v₁ :: v₂ :: vs)).toArray[0]? = some (Value.type "bytes") := by simp
  rw [h0]
  simp only [hall, if_true, pure_bind, Option.isSome_some]
/-- in order -/
def inOrder (ls : List (List UInt8)) : Prop := ls.Pairwise fun a b => ¬ natsB b < natsB a
theorem sort_out {vs : List Value} {ls : List (List UInt8)} (hb : BL vs ls) {xs : Array Keyed} (hp : xs.Perm (pairsOf vs)) (hs : SortedToK bytesKind xs (pairsOf vs).size) :
    ∃ ms, BL (xs.map (·.2)).toList ms ∧ ms.Perm ls ∧ inOrder ms := by
  have hl : xs.toList.Perm (vs.zip vs) := by rw [← pairsOf_toList]; exact Array.perm_iff_toList_perm.mp hp
  have hmem : ∀ p, p ∈ xs.toList → p.1 = p.2 ∧ p.1 ∈ vs := fun p hp' => mem_zip_self (hl.mem_iff.mp hp')
  refine ⟨xs.toList.map (fun p => bytesOf p.1), ?_, ?_, ?_⟩
  · have e : (xs.map (·.2)).toList = xs.toList.map (·.1) := by
      rw [Array.toList_map]; exact List.map_congr_left fun p hp' => (hmem p hp').1.symm
    rw [e]
    have h1 := BL.of (xs.toList.map (·.1)) (by
      intro v hv
      obtain ⟨p, hp', rfl⟩ := List.mem_map.mp hv
      exact BL.all hb _ (hmem p hp').2)
    rwa [List.map_map] at h1
  · have h1 := hl.map (fun p => bytesOf p.1)
    have e2 : (vs.zip vs).map (fun p => bytesOf p.1) = ls := by
      have : (vs.zip vs).map (fun p => bytesOf p.1) = ((vs.zip vs).map Prod.fst).map bytesOf := by rw [List.map_map]; rfl
      rw [this, List.map_fst_zip (Nat.le_refl _), BL.maps hb]
    rwa [e2] at h1
  · unfold inOrder
    rw [List.pairwise_iff_getElem]
    intro i j hi hj hij
    have hi' : i < xs.size := by simpa using hi
    have hj' : j < xs.size := by simpa using hj
    have h1 := hs i j (Nat.le_of_lt hij) (by rw [← hp.size_eq]; exact hj')
    obtain ⟨x, t, ex⟩ := BL.all hb _ (hmem xs[i] (by simp)).2
    obtain ⟨y, u, ey⟩ := BL.all hb _ (hmem xs[j] (by simp)).2
    have kk : ∀ (k : Nat) (hk : k < xs.size) (l : List UInt8) (t : Tok), xs[k].1 = .bytes l.toArray t → PyProof.Rows.KK bytesKind xs k = natsB l := by
      intro k hk l t e
      unfold PyProof.Rows.KK
      rw [Array.getElem?_eq_getElem hk]
      show ((bytesKind.keyOf xs[k].1).getD _) = _
      rw [e]; rfl
    rw [kk i hi' x t ex, kk j hj' y u ey] at h1
    change decide (natsB y < natsB x) = false at h1
    simp only [List.getElem_map, Array.getElem_toList]
    rw [show bytesOf xs[i].1 = x by rw [ex]; rfl, show bytesOf xs[j].1 = y by rw [ey]; rfl]
    exact of_decide_eq_false h1
theorem order_unique : ∀ {ls ms : List (List UInt8)}, ls.Perm ms → inOrder ls → inOrder ms → ls = ms := by
  intro ls ms hp h1 h2
  refine List.Perm.eq_of_pairwise (le := fun a b => ¬ natsB b < natsB a) ?_ h1 h2 hp
  intro a b _ _ q1 q2
  exact natsB_inj (List.le_antisymm (List.not_lt.mp q1) (List.not_lt.mp q2))

section
variable {prog : Program} {w : World} {A : Around} {E : Value → Shared → Prop} {s : Shared}
theorem sort_bl {l : Addr} {vs : List Value} {ls : List (List UInt8)} {Q : Value → Shared → Prop} (hl : s.heap.IsList l vs.toArray) (hb : BL vs ls) (h64 : vs.length < 64)
    (h : ∀ R s' ws ms, Keeps s s' → s.heap.get? R = none → PlainL s'.heap R (List.toArray ws) → BL ws ms → ms.Perm ls → inOrder ms → Q (.ref R) s') : wpAny (model prog w) A (call (.builtin "sorted") [.ref l]) Q E s := by
  refine sortedK bytesKind_oneLt hl (BL.keysOf hb) (fun v₁ v₂ rest e => keyKindB (by rw [← e]; exact hb)) h64 fun st' hp hs => ?_
  obtain ⟨ms, h1, h2, h3⟩ := sort_out hb hp hs
  obtain ⟨e, he⟩ := sortedAll_at s.heap vs ((arrOf st').map (·.2))
  refine h _ _ ((arrOf st').map (·.2)).toList ms (kMk s _ s.toks fun b o q => sortedAll_old q) (noneAt (Nat.le_succ _)) ⟨_, _, he, rfl, rfl, rfl⟩ h1 h2 h3
theorem eqAtB {b c : Array UInt8} {t u : Tok} (A : Around) (s : Shared) : SeqAt.EqAt A s (.bytes b t) (.bytes c u) (b.toList == c.toList) := fun prog w E Q h => by
  refine eqBool_bytes ?_
  rw [show decide (b.toList = c.toList) = (b.toList == c.toList) by rw [Bool.eq_iff_iff]; simp]
  exact h
theorem all_eq {ls ms : List (List UInt8)} (hl : ls.length = ms.length) : ((List.range ls.length).all fun j => (ls.getD j [] == ms.getD j [])) = (ls == ms) := by
  rw [Bool.eq_iff_iff]
  simp only [List.all_eq_true, List.mem_range, beq_iff_eq]
  constructor
  · intro h
    refine List.ext_getElem hl fun j h1 h2 => ?_
    have := h j h1
    simpa [h1, h2] using this
  · intro h j _
    rw [h]
theorem ne_bl {l b : Addr} {vs ws : List Value} {ls ms : List (List UInt8)} {Q : Value → Shared → Prop} (hl : s.heap.IsList l vs.toArray) (hb : s.heap.IsList b ws.toArray) (h1 : BL vs ls) (h2 : BL ws ms)
    (hsz : ls.length = ms.length) (hu : A.units < cLine) (h : Q (.bool (ls != ms)) s) : wpAny (model prog w) A (compareOp .NotEq (.ref l) (.ref b)) Q E s := by
  have hz : vs.toArray.size = ws.toArray.size := by simp [BL.len h1, BL.len h2, hsz]
  have r := SeqAt.RcNeAt.lists (A := A) (e := fun j => (ls.getD j [] == ms.getD j [])) hl hb hz hu (by
    intro j g1 g2
    have g1' : j < vs.length := by simpa using g1
    have g2' : j < ws.length := by simpa using g2
    obtain ⟨x, t, ex, ev⟩ := BL.get h1 j vs[j] (List.getElem?_eq_getElem g1')
    obtain ⟨y, u, ey, ew⟩ := BL.get h2 j ws[j] (List.getElem?_eq_getElem g2')
    have e1 : vs.toArray[j] = vs[j] := by simp
    have e2 : ws.toArray[j] = ws[j] := by simp
    rw [e1, e2, ev, ew, List.getD_eq_getElem?_getD, List.getD_eq_getElem?_getD, ex, ey]
    exact eqAtB _ _)
  have e : vs.toArray.size = ls.length := by simp [BL.len h1]
  rw [e, all_eq hsz] at r
  exact r prog w E Q h
theorem in_bl {l : Addr} {vs : List Value} {ls : List (List UInt8)} {x : List UInt8} {t : Tok} {Q : Value → Shared → Prop} (hl : s.heap.IsList l vs.toArray) (h1 : BL vs ls)
    (h : Q (.bool (ls.contains x)) s) : wpAny (model prog w) A (compareOp .In (.bytes x.toArray t) (.ref l)) Q E s := by
  refine SeqAt.in_listAt (fun v => bytesOf v == x) hl ?_ ?_
  · intro y hy
    obtain ⟨l, t', rfl⟩ := BL.all h1 y (by simpa using hy)
    exact eqAtB _ _
  · have e : (vs.toArray.any fun v => bytesOf v == x) = ls.contains x := by
      rw [← BL.maps h1, List.any_toArray, List.contains_eq_any_beq, List.any_map]
      congr 1
      funext v
      exact BEq.comm
    rw [e]; exact h

theorem sum_il {l : Addr} {vs : List Value} {ns : List Int} {Q : Value → Shared → Prop} (hh : A.handled = none) (hl : s.heap.IsList l vs.toArray) (hi : IntsAre vs ns)
    (h : ∀ s' t, Keeps s s' → Q (.int ns.sum t) s') : wpAny (model prog w) A (call (.builtin "sum") [.ref l]) Q E s := by
  obtain ⟨xs, hx⟩ := hi.allInts.items
  have hl' : s.heap.IsList l (intItems xs) := hx ▸ hl
  refine sum_intListG hh hl' fun h' tk t' hk => ?_
  have e1 : ns = xs.toList.map (·.1) := by
    rw [← nums_intItems, ← hx]
    exact (show numsOf vs.toArray.toList = ns from hi.numsOf).symm
  have e2 : preSum (numAt xs) xs.size = ns.sum := by
    rw [preSum_eq, List.take_of_length_le (by simp), e1]
  rw [e2]
  exact h _ t' (kMk s h' tk hk)
/-- bytes(list of ints) -/
theorem bytes_il {l : Addr} {vs : List Value} {bs : List UInt8} {Q : Value → Shared → Prop} (hh : A.handled = none) (hl : s.heap.IsList l vs.toArray) (hi : IntsAre vs (bs.map fun c => (c.toNat : Int))) (hz : vs.length ≤ 1000)
    (h : ∀ s' t, Keeps s s' → Q (.bytes bs.toArray t) s') : wpAny (model prog w) A (call (.type "bytes") [.ref l]) Q E s := by
  refine call_bytes_ints hl hi ?_ (by simp [sizeLine]; omega) hh fun h' t k hk => ?_
  · intro n hn
    obtain ⟨c, _, rfl⟩ := List.mem_map.mp hn
    have := c.toNat_lt
    omega
  · have e : byteArr (bs.map fun c => (c.toNat : Int)) = bs.toArray := by
      unfold byteArr
      rw [List.map_map]
      congr 1
      conv => rhs; rw [← List.map_id bs]
      congr 1
      funext c
      simp
    rw [e]
    exact h _ t (kMk s h' k hk)
end
section
variable {prog : Program} {w : World} {A : Around} {E : Value → Shared → Prop} {s : Shared} {env : Env}
/-- l.pop(i) -/
theorem r_pop {o e : Expr} {apos pos : Pos} {Q : Value → Shared → Prop}
    (h : wpAny (model prog w) A (eval o env) (fun ov s₁ => ∃ l, ov = .ref l ∧ (∃ its, s₁.heap.PlainList l its) ∧ wpAny (model prog w) A (eval e env) (fun iv s₂ => ∃ its k t y, iv = .int k t ∧ s₂.heap.PlainList l its ∧ its.size ≤ 1000 ∧ 0 ≤ k ∧ k < its.size ∧ its[k.toNat]? = some y ∧
      ∀ s₃, KeepsBut [l] s₂ s₃ → s₃.heap.PlainList l (its.eraseIdxIfInBounds k.toNat) → Q y s₃) E s₁) E s)
    (hbase : attributeBase o "pop" env (eval o env) = eval o env := by rfl) (hline : (apos.endLine == pos.line) = true := by rfl) (he : starEach [e] env = [(false, eval e env)] := by rfl) :
    wpAny (model prog w) A (eval (.Call (.Attribute o "pop" apos) [e] [] pos) env) Q E s := by
  refine wpAny_Call_method_late hbase (by rw [he]; rfl) hline rfl (wpAny_mono h (fun ov s₁ h₁ => ?_) fun _ _ e => e)
  obtain ⟨l, rfl, ⟨its, hl⟩, h₁⟩ := h₁
  refine ⟨"list", "list.pop", F.plainAttrs_list, PySem.F.slot_list_pop, PySem.F.type_list_pop, hl.isList.typeIs, fun a ea => ?_, ?_⟩
  · cases ea
    obtain ⟨n, e1⟩ := hl
    exact ⟨_, e1, rfl⟩
  · refine cB (first := [.ref l]) (sp_cons (wpAny_mono h₁ (fun v s₂ h₂ => sp_nil ?_) fun _ _ e => e) he) (by rw [he]; rfl)
    obtain ⟨its, k, t, y, rfl, ⟨n, hl2⟩, hz, h0, h1, hy, hQ⟩ := h₂
    have hfit : Builtin.List.listFitsIndex k = true := by
      simp only [Builtin.List.listFitsIndex, Bool.and_eq_true, decide_eq_true_eq]; omega
    have hseq : seqIndex? k its.size = some k.toNat := by
      have hn : ¬ k < 0 := by omega
      simp [seqIndex?, hn, h0, h1]
    refine call_meets PySem.F.slot_list_pop ⟨_, hl2, rfl⟩ PySem.F.entry_list_pop (PySem.F.args_list_pop_2 _ _) (MeetsSeq.list_pop_at l its n k t k.toNat y hfit hseq hy (by simp [sizeLine]; omega)) ⟨hl2, ?_⟩
    refine hQ _ ⟨_, s₂.toks, rfl, fun b o hb e => ?_⟩ ⟨_, get?_update_seq hl2 _⟩
    exact (Heap.get?_update_other _ _ (fun q => hb (List.mem_singleton.mpr q.symm))).trans e
end
end Mine

namespace Mine

section
variable {prog : Program} {w : World} {A : Around} {E : Value → Shared → Prop} {s : Shared} {env : Env}

/-- a tuple of a text, an int and a text -/
theorem key_tup {a b : Str} {e : Expr} {ka kb : Nat} {pa pb pos : Pos} {k : Nat} {Q : Value → Shared → Prop}
    (h : wpAny (model prog w) A (eval e env) (fun v s₁ => ∃ i t, v = .int i t ∧ ∀ T s₂, Keeps s₁ s₂ → s₁.heap.get? T = none → IsTupleKey (mixK prog w) s₂.heap [.inl a, .inr i, .inl b] T → Q (.ref T) s₂) E { s with toks := s.toks + 1 })
    (he : starEach [e, .Constant (.str b) kb pb] env = (false, eval e env) :: starEach [.Constant (.str b) kb pb] env := by rfl) :
    wpAny (model prog w) A (eval (.Tuple [.Constant (.str a) ka pa, e, .Constant (.str b) kb pb] k pos) env) Q E s := by
  refine PySem.wpAny_Tuple ?_
  refine sp_cons (wpAny_Constant_str ?_)
  refine sp_cons (wpAny_mono h (fun v s₁ h₁ => ?_) fun _ _ e => e) he
  refine sp_cons (wpAny_Constant_str (sp_nil ⟨by simp [sizeLine], ?_⟩))
  obtain ⟨i, t, rfl, hQ⟩ := h₁
  refine hQ _ _ (kPush s₁ _ (s₁.toks + 1)) (noneAt (Nat.le_refl _)) ⟨_, _, _, Heap.get?_push_size _ rfl, rfl, rfl, ?_⟩
  refine .cons ?_ (.cons ?_ (.cons ?_ .nil))
  · simp [mixK, isMix, Value.isStrOf]
  · simp [mixK, isMix, Value.isInt]
  · simp [mixK, isMix, Value.isStrOf]

/-- a dict of one pair whose key is a tuple -/
theorem d_one {ke ve : Expr} {pos : Pos} {Q : Value → Shared → Prop} (hu : A.units < cLine)
    (h : ∀ s₀, Keeps s s₀ → wpAny (model prog w) A (eval ke env) (fun kv s₁ => wpAny (model prog w) A (eval ve env) (fun vv s₂ => Keeps s₀ s₂ ∧ ∃ T k, kv = .ref T ∧ IsTupleKey (mixK prog w) s₂.heap k T ∧
      ∀ D s₃, Keeps s s₃ → s.heap.objs.size ≤ D → DObj prog w s₃.heap D [(k, T, vv)] → KeysAt prog w s₃.heap [(k, T, vv)] → Q (.ref D) s₃) E s₁) E s₀) :
    wpAny (model prog w) A (eval (.Dict [some ke] [ve] pos) env) Q E s := by
  refine wpAny_Dict_any rfl rfl (by simp) (by simp) ?_
  refine evalPairs_cons (wpAny_mono (h _ (kPush s _ s.toks)) (fun kv s₁ h₁ => ?_) fun _ _ e => e)
  refine wpAny_bind (wpAny_mono h₁ (fun vv s₂ h₂ => wpAny_bind (wpAny_standAt (wpAny_pure (evalPairs_nil ?_)))) fun _ _ e => e)
  obtain ⟨k₂, T, k, rfl, hk, hQ⟩ := h₂
  have hD : s₂.heap.get? s.heap.objs.size = some { cls := .type "dict", data := .dict #[] } := kGet k₂ _ _ (Heap.get?_push_size _ rfl)
  have d0 : DObj prog w s₂.heap s.heap.objs.size [] := ⟨_, #[], 0, hD, ⟨rfl, rfl, rfl⟩, rfl, rfl, List.nodup_nil⟩
  have k02 : ∀ b o, s.heap.get? b = some o → s₂.heap.get? b = some o := fun b o e => kGet k₂ _ _ (Heap.get?_push_of_some _ e)
  unfold storeAll
  rw [List.forIn_cons]
  have hkd : KeysAt prog w s₂.heap [] := fun _ hx => by simp at hx
  refine wpAny_bind (wpAny_bind (wpAny_dictSet_heap (knd := tupK prog w) hu hk (d0.full hkd) (fun h' hd hs => wpAny_pure ?_) (by simp)))
  show wpAny _ _ (forIn [] PUnit.unit _) _ _ _
  rw [List.forIn_nil]
  refine wpAny_pure ?_
  rw [storedH_new rfl] at hd
  obtain ⟨d1, d2⟩ := DObj.of hd
  obtain ⟨g₂, t₂, rfl, _⟩ := id k₂
  refine hQ _ _ ⟨h', _, rfl, fun b o e => ?_⟩ (Nat.le_refl _) d1 d2
  exact hs.extBut b o (fun q => by rw [q] at e; exact absurd (Heap.lt_size e) (Nat.lt_irrefl _)) (k02 b o e)

/-- a comprehension of one clause, stored at once -/
theorem comp_asg {elt iter : Expr} {x y : Str} {px py : Pos} {ifs : List Expr} {scope : Scope} {pos spos : Pos} {Q : Flow → Shared → Prop} (cl : List (Str × Addr)) (p : Value → Bool) (F : Value → Value → Prop) {m : Str → Option Value}
    (hns : s.heap.Ns env.locals m)
    (hsw : swapsWith (.ListComp elt [⟨.Name x px, iter, ifs, 0⟩] scope pos) (some (.Name y py)) spos.line env = pure true)
    (hclos : closureFor scope env = pure cl) (hcell : ∀ y ∈ scope.names, y.2 ≠ .cell) (hkind : scope.kind = .function)
    (hnames : ∀ y ∈ scope.names, y.2 = .local → scope.names.lookup y.1 = some .local) (hx : scope.names.lookup x = some .local)
    (hy : env.kindOf y = some .local) (hk : env.scope.kind = .function)
    (h : wpAny (model prog w) A (eval iter env) (fun xv s₁ => Keeps s s₁ ∧ ∃ n P own, Src prog w A xv s₁ n P own ∧ n ≤ sizeLine ∧
      (∀ C i v s₃ m₃ E', P i v → s₃.heap.Ns C m₃ → m₃ x = some v → (∀ b o, s.heap.get? b = some o → s₃.heap.get? b = some o) →
        wpAny (model prog w) A (forIn ifs true fun c r => if r = true then do let ok ← isTrue c (compEnvC scope cl C env) (eval c (compEnvC scope cl C env)); pure (ForInStep.yield ok) else pure (ForInStep.yield r))
          (fun ok s₄ => ok = p v ∧ Keeps s₃ s₄) E' s₃) ∧
      (∀ C i v s₃ m₃ E', P i v → p v = true → s₃.heap.Ns C m₃ → m₃ x = some v → (∀ b o, s.heap.get? b = some o → s₃.heap.get? b = some o) →
        wpAny (model prog w) A (eval elt (compEnvC scope cl C env)) (fun y s₄ => F v y ∧ Keeps s₃ s₄) E' s₃) ∧
      (∀ D s' ys (vs : List Value), KeepsBut [env.locals] s s' → s.heap.get? D = none → PlainL s'.heap D ys → vs.length = n → (∀ j v, vs[j]? = some v → P j v) → Paired F (vs.filter p) ys.toList →
        s'.heap.Ns env.locals (fun z => if z = y then some (.ref D) else m z) → Q .next s')) E s)
    (hs : ∀ x, foldedSetIterable iter env x = pure x := by intro _; rfl) :
    wpAny (model prog w) A (exec (.Assign [.Name y py] (.ListComp elt [⟨.Name x px, iter, ifs, 0⟩] scope pos) spos) env) Q E s := by
  refine wpAny_Assign_ListComp_free p F hsw hclos hcell hkind hnames hx hy (by rw [hk]; rfl) (wpAny_mono h (fun xv s₁ h₁ => ?_) fun _ _ e => e) hs
  obtain ⟨k₁, n, P, own, hsrc, hn, htest, helt, hQ⟩ := h₁
  refine hsrc _ _ ?_
  intro I fp St s₂ W hst hfp _ hI _ k₂
  have k₁₂ := kTrans k₁ k₂
  have hLI : env.locals ∉ [I] := fun hm => by
    obtain ⟨o, e⟩ := nsEx hns
    rw [List.mem_singleton.mp hm] at e
    exact absurd (Heap.lt_size (kGet k₁ _ o e)) (Nat.not_lt.mpr hI)
  have up : ∀ (g : Heap), (∀ b o, b ∉ [I] → s₂.heap.get? b = some o → g.get? b = some o) → ∀ b o, s.heap.get? b = some o → g.get? b = some o := by
    intro g hg b o e
    refine hg b o (fun hb => ?_) (kGet k₁₂ b o e)
    rw [List.mem_singleton.mp hb] at e
    exact absurd (Heap.lt_size (kGet k₁ _ o e)) (Nat.not_lt.mpr hI)
  refine ⟨I, fp, [I], n, P, St, m, rfl, W, hn, hst, hfp, hLI, hns.keeps (kGet k₁₂), ⟨?_, ?_⟩, ?_⟩
  · intro C i v s₃ m₃ E' _ hP hns hm hk _
    exact htest C i v s₃ m₃ E' hP hns hm (up _ hk)
  · intro C i v s₃ m₃ E' _ hP hp hns hm hk _
    exact helt C i v s₃ m₃ E' hP hp hns hm (up _ hk)
  · intro D h' tk ys vs hD _ hl hlen hP hF hns' hk
    have k₁₂' := k₁₂
    obtain ⟨g₂, t₂, rfl, _⟩ := k₁₂
    refine hQ D _ ys vs ⟨h', tk, rfl, fun b o hb e => ?_⟩ ?_ (let ⟨n, e⟩ := hl; ⟨_, n, e, rfl, rfl, rfl⟩) hlen hP hF hns'
    · refine hk b o (fun q => hb (List.mem_singleton.mpr q)) (fun hm => ?_) (kGet k₁₂' _ _ e)
      rw [List.mem_singleton.mp hm] at e
      exact absurd (Heap.lt_size (kGet k₁ _ o e)) (Nat.not_lt.mpr hI)
    · cases e : s.heap.get? D with
      | none => rfl
      | some o => rw [kGet k₁₂' _ _ e] at hD; cases hD
end

/-- the statements of the law -/
def lw (i : Nat) : Stmt := (bdOf (stm 9)).getD i (.Pass ⟨0, 0, 0, 0⟩)
theorem lw_all : bdOf (stm 9) = [lw 0, lw 1, lw 2, lw 3, lw 4, lw 5, lw 6, lw 7, lw 8, lw 9, lw 10, lw 11, lw 12, lw 13, lw 14, lw 15] := rfl
end Mine

namespace Mine

def bs (m : Nat) : List UInt8 := (List.range m).map Nat.toUInt8
def allO (m : Nat) : List (List UInt8) := ords 4 (bs m)
def upsO (m : Nat) : List (List UInt8) := (allO m).filter fun b => turnsB b true
def downsO (m : Nat) : List (List UInt8) := (allO m).filter fun b => turnsB b false

theorem paired_eq : ∀ {a b : List Value}, Paired (fun v y => v = y) a b → b = a
  | _, _, .nil => rfl
  | _, _, .cons h r => by rw [paired_eq r, h]
theorem BL.filt (q : List UInt8 → Bool) {vs : List Value} {ls : List (List UInt8)} (h : BL vs ls) : BL (vs.filter fun v => q (bytesOf v)) (ls.filter q) := by
  induction h with
  | nil => exact .nil
  | @cons v l vs ls h1 _ ih =>
    obtain ⟨t, rfl⟩ := h1
    rw [List.filter_cons, List.filter_cons]
    show BL (if q l = true then _ else _) _
    split
    · exact .cons ⟨t, rfl⟩ ih
    · exact ih
section
variable {prog : Program} {w : World} {A : Around} {E : Value → Shared → Prop} {s : Shared} {D : Ad} {mg mb : Str → Option Value} {L la : Addr} {cd : Value} {mm : Str → Option Value} {Q : Flow → Shared → Prop}

theorem ex0 {l : Addr} {vs : List Value} {ns : List Int} {v0 : Option Value} (X : ModOk D mg mb s.heap) (hA : A.handled = none) (hl : s.heap.IsList l vs.toArray) (hi : IntsAre vs ns) (hns : s.heap.Ns L mm) (hm : mm "script" = some (.ref l))
    (hc : s.heap.IsCell (L + 1) v0) (h : ∀ s' u, KeepsBut [L + 1] s s' → s'.heap.IsCell (L + 1) (some (.int (1 + ns.sum.fmod 5) u)) → Q .next s') :
    wpAny (model prog w) A (exec (lw 0) (envF (stm 9) L la cd)) Q E s := by
  with_unfolding_all refine wpAny_Assign_Name ?_ ?_
  case refine_2 => with_unfolding_all rfl
  refine wpAny_BinOp (wpAny_Constant_int (wpAny_BinOp ?_))
  refine callN (nmB X X.bsum (cB (sp_cons (wpAny_Name (wpAny_loadName_local (v := .ref l) rfl rfl hns hm (sp_nil ?_))))))
  refine sum_il hA hl hi fun s₁ t k1 => wpAny_Constant_int (mod_int' (by decide) (add_int ?_))
  refine st_cell (c := L + 1) (hc.keeps (kGet (kTrans (kTok s _) (kTrans k1 (kTok s₁ _))))) fun s₂ k2 c2 => ?_
  exact h s₂ _ (KeepsBut.trans (Mine.Keeps.but (kTrans (kTok s _) (kTrans k1 (kTok s₁ _)))) k2) c2

theorem ex1 {m : Nat} {u : Tok} (X : ModOk D mg mb s.heap) (hA : A.handled = none) (hd : A.depth + 4 < recursionLimit) (hu : A.units + 22 < cLine) (hns : s.heap.Ns L mm)
    (hc : s.heap.IsCell (L + 1) (some (.int m u))) (hm5 : m ≤ 5)
    (h : ∀ R s' vs, KeepsBut [L] s s' → s.heap.get? R = none → PlainL s'.heap R (List.toArray vs) → BL vs (allO m) → s'.heap.Ns L (fun y => if y = "orders" then some (.ref R) else mm y) → Q .next s') :
    wpAny (model prog w) A (exec (lw 1) (envF (stm 9) L la cd)) Q E s := by
  with_unfolding_all refine wpAny_Assign_Name ?_ ?_
  case refine_2 => with_unfolding_all rfl
  refine callN (nmG X X.glo (cF (st := stm 6) (sp_cons ?_)))
  refine callN (nmB X X.bbyt (cT (sp_cons ?_)))
  refine callN (nmB X X.bran (cT (sp_cons (wpAny_Name (wpAny_loadName_cell rfl rfl rfl hc (sp_nil (r_range1 ?_)))))))
  intro r s₁ u1 v1 k1 hr
  refine sp_nil (bytes_range hA hr (by omega) fun s₂ t k2 => sp_nil ?_)
  have k02 := kTrans k1 k2
  have X2 := X.keeps (kGet k02)
  refine ⟨X2.flo, ?_⟩
  refine orders_call (prog := prog) (w := w) (D := D) (mg := mg) (mb := mb) 4 (b := bs m) X2 hA hd (by omega) (by simp [bs]; omega) (by omega) fun R s₃ vs k3 hR hl hb => ?_
  have k03 := kTrans k02 k3
  refine st_loc (env := envF (stm 9) L la cd) (hns.keeps (kGet k03)) fun s₄ k4 n4 => ?_
  have hRs := noneBack (kGet k02) hR
  have nRL : R ≠ L := neNew (nsEx hns) hRs
  exact h R s₄ vs (KeepsBut.trans (Mine.Keeps.but k03) k4) hRs (Mine.PlainL.but hl k4.get (by intro hm; exact nRL (List.mem_singleton.mp hm))) hb n4

theorem ex2 {R : Addr} {vs : List Value} {bls : List (List UInt8)} (X : ModOk D mg mb s.heap) (hA : A.handled = none) (hd : A.depth < recursionLimit) (hu : A.units + 22 < cLine) (hns : s.heap.Ns L mm)
    (hm : mm "orders" = some (.ref R)) (hl : PlainL s.heap R vs.toArray) (hb : BL vs bls) (hz : bls.length ≤ 720) (h8 : ∀ b ∈ bls, b.length ≤ 8)
    (h : ∀ U s' ws, KeepsBut [L] s s' → s.heap.get? U = none → PlainL s'.heap U (List.toArray ws) → BL ws (bls.filter fun b => turnsB b true) → s'.heap.Ns L (fun y => if y = "ups" then some (.ref U) else mm y) → Q .next s') :
    wpAny (model prog w) A (exec (lw 2) (envF (stm 9) L la cd)) Q E s := by
  with_unfolding_all refine comp_asg (y := "ups") (x := "order") [] (fun v => turnsB (bytesOf v) true) (fun v y => v = y) (m := mm) hns (by with_unfolding_all rfl) (by with_unfolding_all rfl) (by decide) (by with_unfolding_all rfl) (by decide) (by with_unfolding_all rfl) (by with_unfolding_all rfl) (by with_unfolding_all rfl) ?_ ?_
  case refine_2 => intro _; with_unfolding_all rfl
  refine wpAny_Name (wpAny_loadName_local (v := .ref R) rfl rfl hns hm ?_)
  refine ⟨kRefl _, _, _, _, src_list hA hl.isList, by simp [sizeLine, BL.len hb]; omega, ?_, ?_, ?_⟩
  · intro C i v s₃ m₃ E' hP hn3 hx hk
    obtain ⟨b, t, hb', rfl⟩ := BL.get hb i v (by simpa using hP)
    have X3 := X.keeps hk
    refine wpAny_tests_one (isTrue_plain ?_ (by with_unfolding_all rfl))
    refine callN (nmG X3 X3.glt (cF (st := stm 7) (sp_cons (wpAny_Name (wpAny_loadName_local (v := .bytes b.toArray t) rfl rfl hn3 hx (sp_cons (wpAny_Constant_bool (sp_nil ⟨X3.flt, ?_⟩))))))))
    refine turns_call X3 hA hd (by omega) (h8 b (List.mem_of_getElem? hb')) fun s₄ k4 => wpAny_truthy_bool ⟨rfl, k4⟩
  · intro C i v s₃ m₃ E' hP hp hn3 hx hk
    exact wpAny_Name (wpAny_loadName_local rfl rfl hn3 hx ⟨rfl, kRefl _⟩)
  · intro U s' ys vs2 k hU hlU hlen hP2 hF hn'
    have evs : vs2 = vs := same_vals (by simpa using hlen) hP2
    subst evs
    have e := paired_eq hF
    have ey : ys = ys.toList.toArray := by simp
    rw [ey] at hlU
    refine h U s' ys.toList k hU hlU ?_ hn'
    rw [e]
    exact BL.filt (fun b => turnsB b true) hb

theorem ex3 {R : Addr} {vs : List Value} {bls : List (List UInt8)} (X : ModOk D mg mb s.heap) (hA : A.handled = none) (hd : A.depth < recursionLimit) (hu : A.units + 22 < cLine) (hns : s.heap.Ns L mm)
    (hm : mm "orders" = some (.ref R)) (hl : PlainL s.heap R vs.toArray) (hb : BL vs bls) (hz : bls.length ≤ 720) (h8 : ∀ b ∈ bls, b.length ≤ 8)
    (h : ∀ U s' ws, KeepsBut [L] s s' → s.heap.get? U = none → PlainL s'.heap U (List.toArray ws) → BL ws (bls.filter fun b => turnsB b false) → s'.heap.Ns L (fun y => if y = "downs" then some (.ref U) else mm y) → Q .next s') :
    wpAny (model prog w) A (exec (lw 3) (envF (stm 9) L la cd)) Q E s := by
  with_unfolding_all refine comp_asg (y := "downs") (x := "order") [] (fun v => turnsB (bytesOf v) false) (fun v y => v = y) (m := mm) hns (by with_unfolding_all rfl) (by with_unfolding_all rfl) (by decide) (by with_unfolding_all rfl) (by decide) (by with_unfolding_all rfl) (by with_unfolding_all rfl) (by with_unfolding_all rfl) ?_ ?_
  case refine_2 => intro _; with_unfolding_all rfl
  refine wpAny_Name (wpAny_loadName_local (v := .ref R) rfl rfl hns hm ?_)
  refine ⟨kRefl _, _, _, _, src_list hA hl.isList, by simp [sizeLine, BL.len hb]; omega, ?_, ?_, ?_⟩
  · intro C i v s₃ m₃ E' hP hn3 hx hk
    obtain ⟨b, t, hb', rfl⟩ := BL.get hb i v (by simpa using hP)
    have X3 := X.keeps hk
    refine wpAny_tests_one (isTrue_plain ?_ (by with_unfolding_all rfl))
    refine callN (nmG X3 X3.glt (cF (st := stm 7) (sp_cons (wpAny_Name (wpAny_loadName_local (v := .bytes b.toArray t) rfl rfl hn3 hx (sp_cons (wpAny_Constant_bool (sp_nil ⟨X3.flt, ?_⟩))))))))
    refine turns_call X3 hA hd (by omega) (h8 b (List.mem_of_getElem? hb')) fun s₄ k4 => wpAny_truthy_bool ⟨rfl, k4⟩
  · intro C i v s₃ m₃ E' hP hp hn3 hx hk
    exact wpAny_Name (wpAny_loadName_local rfl rfl hn3 hx ⟨rfl, kRefl _⟩)
  · intro U s' ys vs2 k hU hlU hlen hP2 hF hn'
    have evs : vs2 = vs := same_vals (by simpa using hlen) hP2
    subst evs
    have e := paired_eq hF
    have ey : ys = ys.toList.toArray := by simp
    rw [ey] at hlU
    refine h U s' ys.toList k hU hlU ?_ hn'
    rw [e]
    exact BL.filt (fun b => turnsB b false) hb

end
end Mine

namespace Mine

def T5 (m : Nat) : Int := ([1, 1, 2, 5, 16] : List Int).getD (m - 1) 0
def compl (m : Nat) (b : List UInt8) : List UInt8 := b.map fun c => (m - 1 - c.toNat).toUInt8
theorem five (m : Nat) (h1 : 1 ≤ m) (h5 : m ≤ 5) (t1 t2 t3 t4 t5 : Tok) : ∃ tk, ([Value.int 1 t1, .int 1 t2, .int 2 t3, .int 5 t4, .int 16 t5].toArray)[((m : Int) - 1).toNat]? = some (Value.int (T5 m) tk) := by
  have : m = 1 ∨ m = 2 ∨ m = 3 ∨ m = 4 ∨ m = 5 := by omega
  rcases this with rfl | rfl | rfl | rfl | rfl
  · exact ⟨t1, rfl⟩
  · exact ⟨t2, rfl⟩
  · exact ⟨t3, rfl⟩
  · exact ⟨t4, rfl⟩
  · exact ⟨t5, rfl⟩

theorem paired_get {F : Value → Value → Prop} : ∀ {a b : List Value}, Paired F a b → ∀ (j : Nat) (y : Value), b[j]? = some y → ∃ v, a[j]? = some v ∧ F v y
  | _, _, .nil, j, y, e => by simp at e
  | _, _, .cons h r, 0, y, e => by
    simp only [List.getElem?_cons_zero, Option.some.injEq] at e
    subst e
    exact ⟨_, rfl, h⟩
  | _, _, .cons h r, j + 1, y, e => paired_get r j y (by simpa using e)
theorem compl_ints {m : Nat} {b : List UInt8} {vs ys : List Value} (hb : ∀ c ∈ b, c.toNat + 1 ≤ m) (hm : m ≤ 5) (hlen : vs.length = b.length) (hP : ∀ (j : Nat) (v : Value), vs[j]? = some v → ∃ (c : UInt8) (u : Tok), b.toArray[j]? = some c ∧ v = Value.int (c.toNat : Int) u)
    (hF : Paired (fun v y => ∃ c : UInt8, ∃ t t', v = .int (c.toNat : Int) t ∧ y = .int ((m : Int) - 1 - (c.toNat : Int)) t') vs ys) : IntsAre ys ((compl m b).map fun c => (c.toNat : Int)) := by
  have hl : ys.length = b.length := by rw [← PySem.Paired.length hF, hlen]
  have e := intsOf (fun j => (((compl m b).getD j 0).toNat : Int)) ys 0 (by
    intro j y hj
    rw [Nat.zero_add]
    obtain ⟨v, hv, c, t, t', rfl, rfl⟩ := paired_get hF j y hj
    obtain ⟨c', u, hc', e⟩ := hP j _ hv
    have hcc : c' = c := by
      injection e with e1
      exact UInt8.toNat_inj.mp (by omega)
    subst hcc
    have hbj : b[j]? = some c' := by simpa using hc'
    have hjl : j < b.length := (List.getElem?_eq_some_iff.mp hbj).1
    have hm1 := hb c' (List.mem_of_getElem? hbj)
    refine ⟨t', ?_⟩
    have hg : (compl m b).getD j 0 = (m - 1 - c'.toNat).toUInt8 := by
      unfold compl
      rw [List.getD_eq_getElem?_getD, List.getElem?_map, hbj]; rfl
    rw [hg]
    have : ((m - 1 - c'.toNat).toUInt8).toNat = m - 1 - c'.toNat := by
      show (m - 1 - c'.toNat) % 256 = _
      exact Nat.mod_eq_of_lt (by omega)
    rw [this]
    congr 1
    omega)
  have e2 : (List.range' 0 ys.length).map (fun j => (((compl m b).getD j 0).toNat : Int)) = (compl m b).map fun c => (c.toNat : Int) := by
    rw [hl]
    refine List.ext_getElem (by simp [compl]) fun j g1 g2 => ?_
    have : j < (compl m b).length := by simpa using g2
    simp [this]
  rw [e2] at e
  exact e

section
variable {prog : Program} {w : World} {A : Around} {E : Value → Shared → Prop} {s : Shared} {D : Ad} {mg mb : Str → Option Value} {L la : Addr} {cd : Value} {mm : Str → Option Value} {Q : Flow → Shared → Prop}

theorem ex4 {U Dn : Addr} {wu wd : List Value} {m : Nat} {u : Tok} (X : ModOk D mg mb s.heap) (hns : s.heap.Ns L mm) (hU : mm "ups" = some (.ref U)) (hD : mm "downs" = some (.ref Dn)) (lU : PlainL s.heap U wu.toArray) (lD : PlainL s.heap Dn wd.toArray)
    (hc : s.heap.IsCell (L + 1) (some (.int m u))) (h1 : 1 ≤ m) (h5 : m ≤ 5) (e1 : (wu.length : Int) = T5 m) (e2 : wd.length = wu.length) (hz : wu.length ≤ 720)
    (h : ∀ s', Keeps s s' → Q .next s') : wpAny (model prog w) A (exec (lw 4) (envF (stm 9) L la cd)) Q E s := by
  with_unfolding_all refine wpAny_If ?_
  with_unfolding_all refine wpAny_isTrue_BoolOp ?_
  refine wpAny_allTrue_Or_cons (wpAny_isTrue_Compare1 ?_ (by with_unfolding_all rfl))
  refine callN (nmB X X.blen (cB (sp_cons (wpAny_Name (wpAny_loadName_local (v := .ref U) rfl rfl hns hU (sp_nil ?_))))))
  refine len_list lU.isList (by simp; omega) ?_
  refine sub_list ?_
  refine r_list (sp_cons (wpAny_Constant_int (sp_cons (wpAny_Constant_int (sp_cons (wpAny_Constant_int (sp_cons (wpAny_Constant_int (sp_cons (wpAny_Constant_int (sp_nil ⟨by simp [sizeLine], ?_⟩)))))))))))
  intro G s₂ k2 hG hlG
  generalize hs1 : ({ heap := s.heap, gens := s.gens, drawn := s.drawn, toks := s.toks + 1 + 1 + 1 + 1 + 1 + 1 + 1, os := s.os } : Shared) = s₁ at k2 hG
  have k01 : Keeps s s₁ := by rw [← hs1]; exact kTok s _
  have k02 := kTrans k01 k2
  refine wpAny_BinOp (wpAny_Name (wpAny_loadName_cell rfl rfl rfl (hc.keeps (kGet k02)) (wpAny_Constant_int (sub_int ?_))))
  obtain ⟨tk, he⟩ := five m h1 h5 (s.toks + 1 + 1) (s.toks + 1 + 1 + 1) (s.toks + 1 + 1 + 1 + 1) (s.toks + 1 + 1 + 1 + 1 + 1) (s.toks + 1 + 1 + 1 + 1 + 1 + 1)
  refine ⟨G, _, _, _, _, rfl, rfl, hlG.isList, by omega, by omega, he, ?_⟩
  refine ne_int (wpAny_truthy_bool ?_)
  have k03 : Keeps s { s₂ with toks := s₂.toks + 1 + 1 } := kTrans k02 (kTok s₂ _)
  have b1 : ((wu.toArray.size : Int) != T5 m) = false := by simp [e1]
  rw [b1]
  show wpAny _ _ (allTrue _ _ _) _ _ _
  refine wpAny_allTrue_Or_cons (wpAny_isTrue_Compare1 ?_ (by with_unfolding_all rfl))
  have X3 := X.keeps (kGet k02)
  have n3 := hns.keeps (kGet k02)
  refine callN (nmB X3 X3.blen (cB (sp_cons (wpAny_Name (wpAny_loadName_local (v := .ref Dn) rfl rfl n3 hD (sp_nil ?_))))))
  refine len_list (lD.keeps (kGet k02)).isList (by simp; omega) ?_
  refine callN (nmB X3 X3.blen (cB (sp_cons (wpAny_Name (wpAny_loadName_local (v := .ref U) rfl rfl n3 hU (sp_nil ?_))))))
  refine len_list (lU.keeps (kGet k02)).isList (by simp; omega) ?_
  refine ne_int (wpAny_truthy_bool ?_)
  have b2 : ((wd.toArray.size : Int) != (wu.toArray.size : Int)) = false := by simp [e2]
  rw [b2]
  show wpAny _ _ (allTrue _ _ _) _ _ _
  refine wpAny_allTrue_Or_nil ?_
  show wpAny _ _ (execs _ _) _ _ _
  refine wpAny_execs_nil (h _ (kTrans k02 (kTok s₂ _)))

theorem ex5 {U Dn : Addr} {wu wd : List Value} {m : Nat} {u : Tok} {uls dls : List (List UInt8)} (X : ModOk D mg mb s.heap) (hA : A.handled = none) (hu : A.units + 22 < cLine) (hns : s.heap.Ns L mm) (hU : mm "ups" = some (.ref U)) (hD : mm "downs" = some (.ref Dn)) (lU : PlainL s.heap U wu.toArray) (lD : PlainL s.heap Dn wd.toArray)
    (hc : s.heap.IsCell (L + 1) (some (.int m u))) (h1 : 1 ≤ m) (h5 : m ≤ 5) (bu : BL wu uls) (bd : BL wd dls) (hz : uls.length < 64) (hz2 : dls.length < 64) (h8 : ∀ b ∈ uls, b.length ≤ 8 ∧ ∀ c ∈ b, c.toNat + 1 ≤ m) (hp : (uls.map (compl m)).Perm dls)
    (h : ∀ s', Keeps s s' → Q .next s') : wpAny (model prog w) A (exec (lw 5) (envF (stm 9) L la cd)) Q E s := by
  with_unfolding_all refine wpAny_If ?_
  with_unfolding_all refine wpAny_isTrue_Compare1 ?_ ?_
  case refine_2 => with_unfolding_all rfl
  refine callN (nmB X X.bsor (cB (sp_cons ?_)))
  refine comp_rule [("many", L + 1)] (fun _ => true) (fun v y => ∃ l t t', v = .bytes (List.toArray l) t ∧ y = .bytes (compl m l).toArray t') rfl (by decide) rfl (by decide) rfl ?_
  refine wpAny_Name (wpAny_loadName_local (v := .ref U) rfl rfl hns hU ?_)
  refine ⟨kRefl _, _, _, _, src_list hA lU.isList, by simp [sizeLine, BL.len bu]; omega, ?_, ?_, ?_⟩
  · intro C i v s₃ m₃ E' _ _ _ _
    exact wpAny_tests_nil ⟨rfl, kRefl _⟩
  · intro C i v s₃ m₃ E' hP _ hn3 hx hk
    obtain ⟨b, t, hb', rfl⟩ := BL.get bu i v (by simpa using hP)
    have hb8 := h8 b (List.mem_of_getElem? hb')
    have X3 := X.keeps hk
    have c3 := hc.keeps hk
    refine callN (nmB X3 X3.bbyt (cT (sp_cons ?_)))
    refine comp_rule [("many", L + 1)] (fun _ => true) (fun v y => ∃ c : UInt8, ∃ t t', v = .int (c.toNat : Int) t ∧ y = .int ((m : Int) - 1 - (c.toNat : Int)) t') rfl (by decide) rfl (by decide) rfl ?_
    refine wpAny_Name (wpAny_loadName_local (v := .bytes b.toArray t) rfl rfl hn3 hx ?_)
    refine ⟨kRefl _, _, _, _, src_bytes hA, by simp [sizeLine]; omega, ?_, ?_, ?_⟩
    · intro C' i' v' s₄ m₄ E'' _ _ _ _
      exact wpAny_tests_nil ⟨rfl, kRefl _⟩
    · rintro C' i' v' s₄ m₄ E'' ⟨c, t4, hc4, rfl⟩ _ hn4 hx4 hk4
      refine wpAny_BinOp (wpAny_BinOp (wpAny_Name (wpAny_loadName_cell rfl rfl rfl (c3.keeps hk4) (wpAny_Constant_int (sub_int (wpAny_Name (wpAny_loadName_local rfl rfl hn4 hx4 (sub_int ?_))))))))
      exact ⟨⟨c, _, _, rfl, rfl⟩, kTok _ _⟩
    · intro B s₄ ys vs2 k4 hB hlB hlen hP2 hF
      rw [filter_true] at hF
      have ei := compl_ints hb8.2 h5 (by simpa using hlen) hP2 hF
      have eyy : ys = ys.toList.toArray := by simp
      rw [eyy] at hlB
      refine sp_nil (bytes_il hA hlB.isList ei ?_ fun s₅ t5 k5 => ⟨⟨b, t, t5, rfl, rfl⟩, kTrans k4 k5⟩)
      rw [← PySem.Paired.length hF, hlen]
      simp; omega
  · intro S s₄ ys vs2 k4 hS hlS hlen hP2 hF
    rw [filter_true] at hF
    have evs : vs2 = wu := same_vals (by simpa using hlen) hP2
    subst evs
    have hb := pairMap hF bu (g := compl m) (by
      rintro v y l t ⟨l', t1, t2, e, rfl⟩ e2
      rw [e] at e2
      injection e2 with e3 _
      have e4 : l' = l := by simpa using congrArg Array.toList e3
      exact ⟨t2, by rw [e4]⟩)
    have ey : ys = ys.toList.toArray := by simp
    rw [ey] at hlS
    refine sp_nil (sort_bl hlS.isList hb (by rw [BL.len hb]; simpa using hz) ?_)
    intro R1 s₅ ws1 ms1 k5 hR1 hl1 hb1 hp1 ho1
    have k05 := kTrans k4 k5
    have X5 := X.keeps (kGet k05)
    refine callN (nmB X5 X5.bsor (cB (sp_cons (wpAny_Name (wpAny_loadName_local (v := .ref Dn) rfl rfl (hns.keeps (kGet k05)) hD (sp_nil ?_))))))
    refine sort_bl (lD.keeps (kGet k05)).isList bd (by rw [BL.len bd]; exact hz2) ?_
    intro R2 s₆ ws2 ms2 k6 hR2 hl2 hb2 hp2 ho2
    have em : ms1 = ms2 := order_unique (hp1.trans (hp.trans hp2.symm)) ho1 ho2
    subst em
    refine ne_bl (hl1.keeps (kGet k6)).isList hl2.isList hb1 hb2 rfl (by omega) (wpAny_truthy_bool ?_)
    rw [show (ms1 != ms1) = false from by simp]
    show wpAny _ _ (execs _ _) _ _ _
    exact wpAny_execs_nil (h _ (kTrans k05 k6))
end
end Mine

namespace Mine

def keyO (o : Int) : TK := [.inl "first", .inr o, .inl "down"]
theorem keyO_inj {a b : Int} (h : keyO a = keyO b) : a = b := by
  simp only [keyO, List.cons.injEq, Sum.inr.injEq, and_true, true_and] at h
  exact h
/-- the count at a key -/
def look (xs : List (TK × Addr × Value)) (k : TK) : Int := (((atKey xs k).map fun p => valI p.2).getD 0)
def cntO (os : List UInt8) (o : Int) : Int := ((os.filter fun c => decide ((c.toNat : Int) = o)).length : Int)
structure Good (xs : List (TK × Addr × Value)) (os : List UInt8) : Prop where
  isI : ∀ x ∈ xs, ∃ v t, x.2.2 = .int v t
  cnt : ∀ o, look xs (keyO o) = cntO os o
  tot : sumV xs = os.length
  ln : xs.length ≤ os.length

theorem atKey_cons (x : TK × Addr × Value) (xs : List (TK × Addr × Value)) (k : TK) : atKey (x :: xs) k = if x.1 = k then some x.2 else atKey xs k := by
  unfold atKey
  rw [List.find?_cons]
  by_cases h : x.1 = k <;> simp [h]
theorem atKey_snoc (k : TK) (y : TK × Addr × Value) : ∀ xs : List (TK × Addr × Value), atKey (xs ++ [y]) k = match atKey xs k with | some p => some p | none => if y.1 = k then some y.2 else none
  | [] => by rw [List.nil_append, atKey_cons]; rfl
  | x :: xs => by
    rw [List.cons_append, atKey_cons, atKey_cons, atKey_snoc k y xs]
    by_cases h : x.1 = k <;> simp [h]
theorem atKey_put (k k' : TK) (v : Value) : ∀ xs : List (TK × Addr × Value), atKey (xs.map (putAt k v)) k' = if k = k' then (atKey xs k').map (fun p => (p.1, v)) else atKey xs k'
  | [] => by simp [atKey]
  | x :: xs => by
    have ih := atKey_put k k' v xs
    rw [List.map_cons, atKey_cons, atKey_cons]
    unfold putAt
    by_cases h : x.1 = k
    · rw [if_pos h]
      by_cases h2 : k = k'
      · subst h2; simp [h]
      · have : ¬ x.1 = k' := fun e => h2 (h.symm.trans e)
        rw [if_neg this]
        rw [show List.map (fun x => if x.1 = k then (x.1, x.2.1, v) else x) xs = xs.map (putAt k v) from rfl, ih, if_neg h2, if_neg h2, if_neg this]
    · rw [if_neg h]
      by_cases h3 : x.1 = k'
      · rw [if_pos h3]
        have : ¬ k = k' := fun e => h (h3.trans e.symm)
        simp [h3, this]
      · rw [if_neg h3]
        rw [show List.map (fun x => if x.1 = k then (x.1, x.2.1, v) else x) xs = xs.map (putAt k v) from rfl, ih, if_neg h3]
theorem sum_put (k : TK) (v : Int) (t : Tok) : ∀ xs : List (TK × Addr × Value), (xs.map (·.1)).Nodup → (∃ p, atKey xs k = some p) → sumV (xs.map (putAt k (.int v t))) = sumV xs - look xs k + v
  | [], _, ⟨p, h⟩ => by simp [atKey] at h
  | x :: xs, hn, ⟨p, h⟩ => by
    rw [List.map_cons, List.nodup_cons] at hn
    rw [atKey_cons] at h
    have e1 : sumV (List.map (putAt k (.int v t)) (x :: xs)) = valI (putAt k (.int v t) x).2.2 + sumV (xs.map (putAt k (.int v t))) := by simp [sumV]
    have e2 : sumV (x :: xs) = valI x.2.2 + sumV xs := by simp [sumV]
    rw [e1, e2]
    by_cases hk : x.1 = k
    · have e3 : xs.map (putAt k (.int v t)) = xs := by
        conv => rhs; rw [← List.map_id xs]
        refine List.map_congr_left fun y hy => ?_
        unfold putAt
        rw [if_neg (fun e => hn.1 (List.mem_map.mpr ⟨y, hy, e.trans hk.symm⟩))]; rfl
      have e4 : look (x :: xs) k = valI x.2.2 := by unfold look; rw [atKey_cons, if_pos hk]; rfl
      rw [e3, e4]
      unfold putAt
      rw [if_pos hk]
      simp only [valI]
      omega
    · rw [if_neg hk] at h
      have ih := sum_put k v t xs hn.2 ⟨p, h⟩
      have e4 : look (x :: xs) k = look xs k := by unfold look; rw [atKey_cons, if_neg hk]
      rw [ih, e4]
      unfold putAt
      rw [if_neg hk]
      omega
theorem Good.nil : Good [] [] := ⟨fun _ h => by simp at h, fun o => rfl, rfl, Nat.le_refl _⟩
theorem cntO_snoc (os : List UInt8) (c : UInt8) (o : Int) : cntO (os ++ [c]) o = cntO os o + if (c.toNat : Int) = o then 1 else 0 := by
  unfold cntO
  rw [List.filter_append, List.length_append]
  by_cases h : (c.toNat : Int) = o <;> simp [h]
theorem Good.bump {xs ys : List (TK × Addr × Value)} {os : List UInt8} {c : UInt8} {a : Addr} (g : Good xs os) (hn : (xs.map (·.1)).Nodup) (b : Bump xs (keyO c.toNat) a ys) : Good ys (os ++ [c]) := by
  rcases b with ⟨hat, u, rfl⟩ | ⟨a₀, v, t, t', hat, rfl⟩
  · have hl : look xs (keyO c.toNat) = 0 := by unfold look; rw [hat]; rfl
    refine ⟨?_, ?_, ?_, ?_⟩
    · intro x hx
      rcases List.mem_append.mp hx with q | q
      · exact g.isI x q
      · rw [List.mem_singleton.mp q]; exact ⟨1, u, rfl⟩
    · intro o
      rw [cntO_snoc, ← g.cnt o]
      unfold look
      rw [atKey_snoc]
      by_cases h : (c.toNat : Int) = o
      · subst h
        rw [hat, if_pos rfl]
        simp [valI]
      · have hk : ¬ keyO c.toNat = keyO o := fun e => h (keyO_inj e)
        rw [if_neg h]
        cases atKey xs (keyO o) with
        | none => simp [hk]
        | some p => simp
    · have : sumV (xs ++ [(keyO c.toNat, a, Value.int 1 u)]) = sumV xs + 1 := by simp [sumV, valI]
      rw [this, g.tot]
      simp
    · have := g.ln
      simp; omega
  · have hl : look xs (keyO c.toNat) = v := by unfold look; rw [hat]; rfl
    refine ⟨?_, ?_, ?_, ?_⟩
    · intro x hx
      obtain ⟨z, hz, rfl⟩ := List.mem_map.mp hx
      unfold putAt
      split
      · exact ⟨_, _, rfl⟩
      · exact g.isI z hz
    · intro o
      rw [cntO_snoc, ← g.cnt o]
      unfold look
      rw [atKey_put]
      by_cases h : (c.toNat : Int) = o
      · subst h
        rw [if_pos rfl, if_pos rfl, hat]
        simp [valI]
      · have hk : ¬ keyO c.toNat = keyO o := fun e => h (keyO_inj e)
        rw [if_neg hk, if_neg h]
        omega
    · rw [sum_put _ _ _ _ hn ⟨_, hat⟩, hl, g.tot]
      simp
      omega
    · have := g.ln
      simp; omega
end Mine

namespace Mine

def firsts (ls : List (List UInt8)) : List UInt8 := ls.map fun b => b.getD 0 0
section
variable (L : Nat)
theorem a0_1 : L ∉ [L + 1] := by simp
theorem a0_2 : L ∉ [L + 2] := by simp
theorem a0_3 : L ∉ [L + 3] := by simp
theorem a0_23 : L ∉ [L + 2, L + 3] := by simp
theorem a1_0 : L + 1 ∉ [L] := by simp
theorem a1_2 : L + 1 ∉ [L + 2] := by simp
theorem a1_3 : L + 1 ∉ [L + 3] := by simp
theorem a1_23 : L + 1 ∉ [L + 2, L + 3] := by simp
theorem a1_02 : L + 1 ∉ [L, L + 2] := by simp
theorem a2_0 : L + 2 ∉ [L] := by simp
theorem a2_1 : L + 2 ∉ [L + 1] := by simp
theorem a2_3 : L + 2 ∉ [L + 3] := by simp
theorem a3_0 : L + 3 ∉ [L] := by simp
theorem a3_1 : L + 3 ∉ [L + 1] := by simp
theorem a3_02 : L + 3 ∉ [L, L + 2] := by simp
theorem ge0 : ∀ x ∈ [L], L ≤ x := by simp
theorem ge1 : ∀ x ∈ [L + 1], L ≤ x := by simp
theorem ge2 : ∀ x ∈ [L + 2], L ≤ x := by simp
theorem ge3 : ∀ x ∈ [L + 3], L ≤ x := by simp
theorem ge23 : ∀ x ∈ [L + 2, L + 3], L ≤ x := by simp
theorem ge02 : ∀ x ∈ [L, L + 2], L ≤ x := by simp
end
/-- not among the frame's -/
structure NotW (L R : Addr) : Prop where
  w0 : R ∉ [L]
  w2 : R ∉ [L + 2]
  w3 : R ∉ [L + 3]
  w23 : R ∉ [L + 2, L + 3]
  w02 : R ∉ [L, L + 2]
theorem notW {h : Heap} {L R : Addr} {mm : Str → Option Value} {v2 v3 : Option Value} (hn : h.Ns L mm) (h2 : h.IsCell (L + 2) v2) (h3 : h.IsCell (L + 3) v3) (hR : h.get? R = none) : NotW L R := by
  have n0 := neNew (nsEx hn) hR
  have n2 := neNew (cellEx h2) hR
  have n3 := neNew (cellEx h3) hR
  constructor <;> intro hm <;> simp only [List.mem_cons, List.not_mem_nil, or_false] at hm
  · exact n0 hm
  · exact n2 hm
  · exact n3 hm
  · rcases hm with q | q
    · exact n2 q
    · exact n3 q
  · rcases hm with q | q
    · exact n0 q
    · exact n2 q

section
variable {prog : Program} {w : World} {A : Around} {E : Value → Shared → Prop} {s : Shared} {D : Ad} {mg mb : Str → Option Value} {L la : Addr} {cd : Value} {mm : Str → Option Value} {Q : Flow → Shared → Prop}

theorem cellNe {h : Heap} {c N : Addr} {v : Option Value} (hc : h.IsCell c v) (hN : h.get? N = none) : N ≠ c := neNew (cellEx hc) hN
theorem keysBut {h h' : Heap} {xs : List (TK × Addr × Value)} {wr : List Addr} (x : KeysAt prog w h xs) (hk : ∀ b o, b ∉ wr → h.get? b = some o → h'.get? b = some o) (hn : ∀ y ∈ xs, y.2.1 ∉ wr) : KeysAt prog w h' xs := fun y hy => by
  obtain ⟨o, items, n, a, r⟩ := x y hy
  exact ⟨o, items, n, hk _ _ (hn y hy) a, r⟩
theorem Bump.addr {xs ys : List (TK × Addr × Value)} {k : TK} {a : Addr} (b : Bump xs k a ys) : ∀ y ∈ ys, y.2.1 = a ∨ ∃ x ∈ xs, x.2.1 = y.2.1 := by
  intro y hy
  rcases b with ⟨_, u, rfl⟩ | ⟨_, _, _, _, _, rfl⟩
  · rcases List.mem_append.mp hy with q | q
    · exact .inr ⟨y, q, rfl⟩
    · rw [List.mem_singleton.mp q]; exact .inl rfl
  · obtain ⟨z, hz, rfl⟩ := List.mem_map.mp hy
    refine .inr ⟨z, hz, ?_⟩
    unfold putAt
    split <;> rfl

theorem ex6 {v0 : Option Value} (hc : s.heap.IsCell (L + 3) v0) (h : ∀ N s', KeepsBut [L + 3] s s' → s.heap.objs.size ≤ N → DObj prog w s'.heap N [] → s'.heap.IsCell (L + 3) (some (.ref N)) → Q .next s') :
    wpAny (model prog w) A (exec (lw 6) (envF (stm 9) L la cd)) Q E s := by
  with_unfolding_all refine wpAny_Assign_Name ?_ ?_
  case refine_2 => with_unfolding_all rfl
  refine wpAny_Dict_empty ?_
  have kN : Keeps s { s with heap := s.heap.push { cls := .type "dict", data := .dict #[] } } := kPush s _ s.toks
  have dN : DObj prog w (s.heap.push { cls := .type "dict", data := .dict #[] }) s.heap.objs.size [] := ⟨_, #[], 0, Heap.get?_push_size _ rfl, ⟨rfl, rfl, rfl⟩, rfl, rfl, List.nodup_nil⟩
  refine st_cell (c := L + 3) (hc.keeps (kGet kN)) fun s₂ k2 c2 => ?_
  refine h s.heap.objs.size s₂ (KeepsBut.trans (Mine.Keeps.but kN) k2) (Nat.le_refl _) (dN.but k2.get (fun hm => ?_)) c2
  exact cellNe hc (noneAt (Nat.le_refl _)) (List.mem_singleton.mp hm)

theorem ex7 {Dn N0 : Addr} {wd : List Value} {dls : List (List UInt8)} {v0 : Option Value} (X : ModOk D mg mb s.heap) (hA : A.handled = none) (hd : A.depth < recursionLimit) (hu : A.units + 22 < cLine) (hns : s.heap.Ns L mm)
    (hD : mm "downs" = some (.ref Dn)) (lD : PlainL s.heap Dn wd.toArray) (bd : BL wd dls) (h8 : ∀ b ∈ dls, 1 ≤ b.length ∧ b.length ≤ 8) (hz : dls.length ≤ 100)
    (hco : s.heap.IsCell (L + 2) v0) (hcc : s.heap.IsCell (L + 3) (some (.ref N0))) (d0 : DObj prog w s.heap N0 []) (hN0 : (N0 == sysModules) = false)
    (hX : ∀ g : Heap, (∀ b o, b ∉ [L + 2, L + 3] → s.heap.get? b = some o → g.get? b = some o) → ModOk D mg mb g)
    (nD : Dn ∉ [L + 2, L + 3]) (nN : NotW L N0)
    (h : ∀ s' N xs v', KeepsBut [L + 2, L + 3] s s' → s'.heap.IsCell (L + 2) v' → s'.heap.IsCell (L + 3) (some (.ref N)) → (N == sysModules) = false → NotW L N → (∀ y ∈ xs, NotW L y.2.1) → DObj prog w s'.heap N xs → KeysAt prog w s'.heap xs → Good xs (firsts dls) → Q .next s') :
    wpAny (model prog w) A (exec (lw 7) (envF (stm 9) L la cd)) Q E s := by
  with_unfolding_all refine for_rule ?_ ?_ ?_
  case refine_2 => intro _; with_unfolding_all rfl
  case refine_3 => intro _ _; with_unfolding_all rfl
  refine wpAny_Name (wpAny_loadName_local (v := .ref Dn) rfl rfl hns hD ?_)
  refine ⟨_, _, [Dn], [L + 2, L + 3], fun I j h => ∃ N xs v', h.IsCell (L + 2) v' ∧ h.IsCell (L + 3) (some (.ref N)) ∧ (N == sysModules) = false ∧ DObj prog w h N xs ∧ KeysAt prog w h xs ∧ Good xs (firsts (dls.take j)) ∧
    NotW L N ∧ (∀ y ∈ xs, NotW L y.2.1) ∧ N ≠ I ∧ (∀ y ∈ xs, y.2.1 ≠ I) ∧ @LT.lt Nat _ (L + 2) I ∧ @LT.lt Nat _ (L + 3) I ∧ (∀ b o, b ∉ [L + 2, L + 3] → s.heap.get? b = some o → h.get? b = some o), Src.lt (src_list hA lD.isList), ?_, ?_, ?_, ?_, ?_⟩
  · intro x hx
    refine ⟨fun hm => nD ?_, ?_⟩
    · rw [← List.mem_singleton.mp hm]; exact hx
    · rcases List.mem_cons.mp hx with q | q
      · rw [q]; exact cellEx hco
      · rw [List.mem_singleton.mp q]; exact cellEx hcc
  · intro I s₂ hI k2
    refine ⟨N0, [], v0, hco.keeps (kGet k2), hcc.keeps (kGet k2), hN0, d0.but (wr := []) (fun b o _ e => kGet k2 _ _ e) (by simp), fun _ hx => by simp at hx, Good.nil, nN, fun _ hx => by simp at hx, ?_, fun _ hx => by simp at hx, ltNew (cellEx hco) hI, ltNew (cellEx hcc) hI, fun b o _ e => kGet k2 _ _ e⟩
    exact Nat.ne_of_lt (ltNew d0.some hI)
  · rintro I j g g' ⟨N, xs, v', a1, a2, a3, a4, a5, a6, a7, a8, a9, a10, a11, a12, a13⟩ hk hI
    have hk1 : ∀ b o, b ∉ [I] → g.get? b = some o → g'.get? b = some o := fun b o hb e => hk b o (fun q => hb (List.mem_singleton.mpr q)) e
    refine ⟨N, xs, v', cellOne a1 hk a11, cellOne a2 hk a12, a3, a4.but hk1 (fun hm => a9 (List.mem_singleton.mp hm)), keysBut a5 hk1 (fun y hy hm => a10 y hy (List.mem_singleton.mp hm)), a6, a7, a8, a9, a10, a11, a12, fun b o hb e => ?_⟩
    exact hk b o (Nat.ne_of_lt (Nat.lt_of_lt_of_le (Heap.lt_size e) hI)) (a13 b o hb e)
  · rintro I j v s₂ hj ⟨_, hP⟩ hI hIe ⟨N, xs, v', a1, a2, a3, a4, a5, a6, a7, a8, a9, a10, a11, a12, a13⟩
    obtain ⟨b, t, hb', rfl⟩ := BL.get bd j v (by simpa using hP)
    have hb8 := h8 b (List.mem_of_getElem? hb')
    have i2 : ∀ b ∈ [L + 2], b ∈ [L + 2, L + 3] := fun x hx => List.mem_cons.mpr (.inl (List.mem_singleton.mp hx))
    have i3 : ∀ b ∈ [L + 3], b ∈ [L + 2, L + 3] := fun x hx => List.mem_cons.mpr (.inr hx)
    refine wpAny_assign_Name (st_cell (c := L + 2) a1 fun s₃ k3 b1 => ?_)
    have k3' := k3.mono i2
    have b2 := cellBut a2 k3.get (fun hm => (fun e => absurd (Nat.add_left_cancel e) (by decide)) (List.mem_singleton.mp hm))
    have b4 := a4.but k3'.get a7.w23
    have b5 := keysBut a5 k3'.get fun y hy => (a8 y hy).w23
    have nsL := nsBut (nsBut hns a13 (a0_23 L)) k3'.get (a0_23 L)
    have X3 := hX s₃.heap fun b o hb e => k3'.get b o hb (a13 b o hb e)
    have hu1 : A.units < cLine := by omega
    refine wpAny_execs_cons (wpAny_Assign_Name ?_ (by with_unfolding_all rfl))
    refine callN (nmG X3 X3.gac (cF (st := stm 1) (sp_cons (wpAny_Name (wpAny_loadName_cell rfl rfl rfl b2 (sp_cons ?_))))))
    with_reducible refine d_one hu1 ?_
    intro s₄ k4
    refine key_tup (sub_bytes (l := b) (by omega) (wpAny_Name (wpAny_loadName_cell rfl rfl rfl (b1.keeps (kGet (kTrans k4 (kTok s₄ _)))) (wpAny_Constant_int ⟨_, _, _, rfl, rfl, by omega, by omega, fun t5 => ?_⟩))))
    refine ⟨_, _, rfl, fun T s₅ k5 hT hTk => ?_⟩
    have k45 : Keeps s₄ s₅ := kTrans (kTok s₄ _) k5
    refine wpAny_Constant_int ⟨kTrans k45 (kTok s₅ _), T, keyO (b.getD 0 0).toNat, rfl, hTk, ?_⟩
    intro G s₆ k6 hG dG kG
    have k36 := k6
    have hT3 : s₃.heap.get? T = none := noneBack (kGet (kTrans k4 (kTok s₄ _))) hT
    have hG3 : s₃.heap.get? G = none := noneAt hG
    have X6 := X3.keeps (kGet k36)
    refine sp_nil ⟨X6.fac, ?_⟩
    have hxl : xs.length ≤ 100 := by
      have := a6.ln
      have : (firsts (dls.take j)).length ≤ dls.length := by simp only [firsts, List.length_map, List.length_take]; omega
      have := a6.ln
      omega
    refine add_call X6 hA hd (by omega) a3 (newSys X3 hG) (b4.but (wr := []) (fun b o _ e => kGet k36 _ _ e) (by simp)) (b5.keeps (kGet k36)) dG kG a6.isI hxl ?_
    intro N' s₇ ys k7 hN' sN' dN' kN' bmp
    have k37 := kTrans k36 k7
    have hN3 : s₃.heap.get? N' = none := noneBack (kGet k36) hN'
    refine st_cell (c := L + 3) (b2.keeps (kGet k37)) fun s₈ k8 e2 => ?_
    have k8' := k8.mono i3
    have notC : ∀ {a : Addr}, s₃.heap.get? a = none → NotW L a := fun ha => notW nsL b1 b2 ha
    have I3 : ∃ o, s₃.heap.get? I = some o := let ⟨o, e⟩ := hIe; ⟨o, k3.get _ _ (fun hm => Nat.ne_of_gt a11 (List.mem_singleton.mp hm)) e⟩
    have ky : ∀ y ∈ ys, NotW L y.2.1 ∧ y.2.1 ≠ I := fun y hy => by
      rcases bmp.addr y hy with q | ⟨x, hx, q⟩
      · rw [q]; exact ⟨notC hT3, neNew I3 hT3⟩
      · rw [← q]; exact ⟨a8 x hx, a10 x hx⟩
    have kAll : KeepsBut [L + 2, L + 3] s₂ s₈ := KeepsBut.trans k3' (KeepsBut.trans (Mine.Keeps.but k37) k8')
    refine wpAny_execs_nil ⟨rfl, ⟨N', ys, _, cellBut (b1.keeps (kGet k37)) k8.get (fun hm => (fun e => absurd (Nat.add_left_cancel e) (by decide)) (List.mem_singleton.mp hm)), e2, sN', dN'.but k8'.get (notC hN3).w23, keysBut kN' k8'.get (fun y hy => (ky y hy).1.w23), ?_, notC hN3, fun y hy => (ky y hy).1, neNew I3 hN3, fun y hy => (ky y hy).2, a11, a12, fun b o hb e => kAll.get b o hb (a13 b o hb e)⟩, kAll⟩
    have ef : firsts (dls.take (j + 1)) = firsts (dls.take j) ++ [b.getD 0 0] := by
      unfold firsts
      rw [List.take_succ, hb']
      simp
    rw [ef]
    exact a6.bump b4.nodup bmp
  · rintro I s₂ hI ⟨N, xs, v', a1, a2, a3, a4, a5, a6, a7, a8, a9, a10, a11, a12, a13⟩ sm
    have e : dls.take wd.toArray.size = dls := List.take_of_length_le (by simp [BL.len bd])
    rw [e] at a6
    exact h s₂ N xs v' (keepsButOf sm a13) a1 a2 a3 a7 a8 a4 a5 a6
end
end Mine

namespace Mine

section
variable {prog : Program} {w : World} {A : Around} {E : Value → Shared → Prop} {s : Shared} {env : Env}
/-- d.get(key, default) -/
theorem r_get {o ke de : Expr} {apos pos : Pos} {Q : Value → Shared → Prop} (hu : A.units + 1 < cLine)
    (h : wpAny (model prog w) A (eval o env) (fun ov s₀ => ∃ d, ov = .ref d ∧ (d == sysModules) = false ∧ (∃ xs, DObj prog w s₀.heap d xs) ∧ wpAny (model prog w) A (eval ke env) (fun kv s₁ => wpAny (model prog w) A (eval de env) (fun dv s₂ => ∃ T k xs, kv = .ref T ∧
      IsTupleKey (mixK prog w) s₂.heap k T ∧ DObj prog w s₂.heap d xs ∧ KeysAt prog w s₂.heap xs ∧ ∀ s₃, Keeps s₂ s₃ → Q (((atKey xs k).map (·.2)).getD dv) s₃) E s₁) E s₀) E s)
    (hbase : attributeBase o "get" env (eval o env) = eval o env := by rfl) (hline : (apos.endLine == pos.line) = true := by rfl)
    (he : starEach [ke, de] env = (false, eval ke env) :: starEach [de] env := by rfl) (he2 : starEach [de] env = [(false, eval de env)] := by rfl) :
    wpAny (model prog w) A (eval (.Call (.Attribute o "get" apos) [ke, de] [] pos) env) Q E s := by
  refine wpAny_Call_method_late hbase (by rw [he, he2]; rfl) hline rfl (wpAny_mono h (fun ov s₁ h₁ => ?_) fun _ _ e => e)
  obtain ⟨d, rfl, hS, ⟨xs, hx⟩, h₁⟩ := h₁
  refine ⟨"dict", "dict.get", F.plainAttrs_dict, F.slot_dict_get, F.type_dict_get, ?_, ?_, ?_⟩
  · obtain ⟨o, es, ep, a, b, _⟩ := hx
    exact ⟨o, a, b.1⟩
  · intro b e
    cases e
    obtain ⟨o, es, ep, a, b, _⟩ := hx
    exact ⟨o, a, b.2.1⟩
  · refine cB (first := [.ref d]) (sp_cons (wpAny_mono h₁ (fun kv s₂ h₂ => sp_cons (wpAny_mono h₂ (fun dv s₃ h₃ => sp_nil ?_) fun _ _ e => e) ?_) fun _ _ e => e) ?_) (by rw [he, he2]; rfl)
    · obtain ⟨T, k, ys, rfl, hk, hy, hyk, hQ⟩ := h₃
      refine call_meetsIn F.slot_dict_get (hy.full hyk).typeIs F.entry_dict_get (F.args_dict_get_3 _ _ _) (meetsH_dict_get_default (tupK prog w) d T hS dv) ⟨hu, k, ys, hk, hy.full hyk, ?_⟩
      exact hQ _ (kTok s₃ _)
    · rw [he2]; rfl
    · exact he
end

section
variable {prog : Program} {w : World} {A : Around} {E : Value → Shared → Prop} {s : Shared} {D : Ad} {mg mb : Str → Option Value} {L la : Addr} {cd : Value} {mm : Str → Option Value} {Q : Flow → Shared → Prop}

theorem ex8 {m : Nat} {u : Tok} (X : ModOk D mg mb s.heap) (hA : A.handled = none) (hd : A.depth < recursionLimit) (hns : s.heap.Ns L mm) (hc : s.heap.IsCell (L + 1) (some (.int m u))) (h1 : 1 ≤ m) (h5 : m ≤ 5)
    (h : ∀ R s' vs, KeepsBut [L] s s' → s.heap.get? R = none → PlainL s'.heap R (List.toArray vs) → IntsAre vs (rowL (m - 1)) → s'.heap.Ns L (fun y => if y = "row" then some (.ref R) else mm y) → Q .next s') :
    wpAny (model prog w) A (exec (lw 8) (envF (stm 9) L la cd)) Q E s := by
  with_unfolding_all refine wpAny_Assign_Name ?_ ?_
  case refine_2 => with_unfolding_all rfl
  refine callN (nmG X X.glr (cF (st := stm 8) (sp_cons (wpAny_Name (wpAny_loadName_cell rfl rfl rfl hc (sp_nil ⟨X.flr, ?_⟩))))))
  refine row_call X hA hd h1 (by omega) fun R s₁ vs k1 hR hl hi => ?_
  refine st_loc (env := envF (stm 9) L la cd) (hns.keeps (kGet k1)) fun s₂ k2 n2 => ?_
  have nRL : R ≠ L := neNew (nsEx hns) hR
  exact h R s₂ vs (KeepsBut.trans (Mine.Keeps.but k1) k2) hR (Mine.PlainL.but hl k2.get (by intro hm; exact nRL (List.mem_singleton.mp hm))) hi n2

theorem ex9 {N R : Addr} {xs : List (TK × Addr × Value)} {os : List UInt8} {wr : List Value} {m : Nat} {u : Tok} {ns : List Int} (X : ModOk D mg mb s.heap) (hA : A.handled = none) (hd : A.depth < recursionLimit) (hu : A.units + 100 < cLine) (hns : s.heap.Ns L mm)
    (hR : mm "row" = some (.ref R)) (lR : PlainL s.heap R wr.toArray) (iR : IntsAre wr ns) (hcm : s.heap.IsCell (L + 1) (some (.int m u))) (h5 : m ≤ 5)
    (hcc : s.heap.IsCell (L + 3) (some (.ref N))) (hN : (N == sysModules) = false) (dN : DObj prog w s.heap N xs) (kN : KeysAt prog w s.heap xs) (g : Good xs os)
    (e1 : (List.range m).map (fun (i : Nat) => cntO os (i : Int)) = ns) (e2 : (os.length : Int) = ns.sum)
    (h : ∀ s', Keeps s s' → Q .next s') : wpAny (model prog w) A (exec (lw 9) (envF (stm 9) L la cd)) Q E s := by
  with_unfolding_all refine wpAny_If ?_
  with_unfolding_all refine wpAny_isTrue_BoolOp ?_
  refine wpAny_allTrue_Or_cons (wpAny_isTrue_Compare1 ?_ (by with_unfolding_all rfl))
  refine comp_rule [("calls", L + 3)] (fun _ => true) (fun v y => ∃ i t t', v = .int i t ∧ y = .int (look xs (keyO i)) t') rfl (by decide) rfl (by decide) rfl ?_
  refine callN (nmB X X.bran (cT (sp_cons (wpAny_Name (wpAny_loadName_cell rfl rfl rfl hcm (sp_nil (r_range1 ?_)))))))
  intro r s₁ u1 v1 k1 hr
  refine ⟨k1, _, _, _, src_range hA hr (by decide) (by decide) (by omega) (by omega), by simp [sizeLine]; omega, ?_, ?_, ?_⟩
  · intro C i v s₃ m₃ E' _ _ _ _
    exact wpAny_tests_nil ⟨rfl, kRefl _⟩
  · rintro C i v s₃ m₃ E' ⟨t3, rfl⟩ _ hn3 hx hk
    have c3 := hcc.keeps hk
    have d3 := dN.but (wr := []) (fun b o _ e => hk b o e) (by simp)
    have kk3 := kN.keeps hk
    refine r_get (by omega) (wpAny_Name (wpAny_loadName_cell rfl rfl rfl c3 ⟨N, rfl, hN, ⟨xs, d3⟩, ?_⟩))
    refine key_tup (wpAny_Name (wpAny_loadName_local rfl rfl (hn3.keeps (kGet (kTok s₃ _))) hx ?_))
    refine ⟨_, _, rfl, fun T s₅ k5 hT hTk => ?_⟩
    have k35 : Keeps s₃ s₅ := kTrans (kTok s₃ _) k5
    refine wpAny_Constant_int ⟨T, keyO (0 + (i : Int)), xs, rfl, hTk, d3.but (wr := []) (fun b o _ e => kGet (kTrans k35 (kTok s₅ _)) _ _ e) (by simp), kk3.keeps (kGet (kTrans k35 (kTok s₅ _))), fun s₆ k6 => ⟨?_, kTrans k35 (kTrans (kTok s₅ _) k6)⟩⟩
    cases ha : atKey xs (keyO (0 + (i : Int))) with
    | none =>
      refine ⟨_, _, s₅.toks, rfl, ?_⟩
      unfold look
      rw [ha]; rfl
    | some p =>
      have : ∃ v t, p.2 = .int v t := by
        unfold atKey at ha
        cases hf : xs.find? (fun x => decide (x.1 = keyO (0 + (i : Int)))) with
        | none => rw [hf] at ha; cases ha
        | some x =>
          rw [hf] at ha
          injection ha with ha
          rw [← ha]
          exact g.isI x (List.mem_of_find?_eq_some hf)
      obtain ⟨v, t, ev⟩ := this
      refine ⟨_, _, t, rfl, ?_⟩
      unfold look
      rw [ha]
      show p.2 = _
      simp [ev, valI]
  · intro G s₂ ys vs2 k2 hG hlG hlen hP2 hF
    rw [filter_true] at hF
    have ei : IntsAre ys.toList ns := by
      rw [← e1]
      have hl : ys.toList.length = m := by
        rw [← PySem.Paired.length hF, hlen]; simp
      have e := intsOf (fun j => cntO os (j : Int)) ys.toList 0 (by
        intro j y hj
        obtain ⟨v, hv, i, t, t', rfl, rfl⟩ := paired_get hF j y hj
        obtain ⟨t2, e⟩ := hP2 j _ hv
        injection e with e3
        refine ⟨t', ?_⟩
        rw [g.cnt i, e3]
        congr 2 <;> omega)
      rw [hl, ← List.range_eq_range'] at e
      exact e
    have eyy : ys = ys.toList.toArray := by simp
    rw [eyy] at hlG
    have n2 := hns.keeps (kGet k2)
    have X2 := X.keeps (kGet k2)
    refine wpAny_Name (wpAny_loadName_local (v := .ref R) rfl rfl n2 hR ?_)
    refine ne_intsK hlG.isList ei (lR.keeps (kGet k2)).isList iR (by omega) (wpAny_truthy_bool ?_)
    rw [show (!decide (ns = ns)) = false from by simp]
    show wpAny _ _ (allTrue _ _ _) _ _ _
    refine wpAny_allTrue_Or_cons (wpAny_isTrue_Compare1 ?_ (by with_unfolding_all rfl))
    refine callN (nmG X2 X2.gcc (cF (st := stm 2) (sp_cons (wpAny_Name (wpAny_loadName_cell rfl rfl rfl (hcc.keeps (kGet k2)) (sp_nil ⟨X2.fcc, ?_⟩))))))
    refine count_call X2 hA hd hN (dN.but (wr := []) (fun b o _ e => kGet k2 _ _ e) (by simp)) g.isI fun s₃ u3 k3 => ?_
    have k03 := kTrans k2 k3
    have X3 := X.keeps (kGet k03)
    refine callN (nmB X3 X3.bsum (cB (sp_cons (wpAny_Name (wpAny_loadName_local (v := .ref R) rfl rfl (hns.keeps (kGet k03)) hR (sp_nil ?_))))))
    refine sum_il hA (lR.keeps (kGet k03)).isList iR fun s₄ u4 k4 => ?_
    refine ne_int (wpAny_truthy_bool ?_)
    have b2 : (sumV xs != ns.sum) = false := by rw [g.tot, e2]; simp
    rw [b2]
    show wpAny _ _ (allTrue _ _ _) _ _ _
    refine wpAny_allTrue_Or_nil ?_
    show wpAny _ _ (execs _ _) _ _ _
    exact wpAny_execs_nil (h _ (kTrans k03 k4))
end
end Mine

namespace Mine

theorem pick_mem {items : Array Value} {lo hi st : Option Int} {j : Nat} {v : Value} (h : (slicePick items lo hi st)[j]? = some v) : ∃ k : Nat, items[k]? = some v := by
  unfold slicePick at h
  have h2 : v ∈ (sliceRange (sliceBounds lo hi st items.size).1 (sliceBounds lo hi st items.size).2.1 (sliceBounds lo hi st items.size).2.2).filterMap (items[·]?) := by
    have := Array.mem_of_getElem? h
    simpa using this
  obtain ⟨k, _, hk⟩ := List.mem_filterMap.mp h2
  exact ⟨k, hk⟩
section
variable {prog : Program} {w : World} {A : Around} {E : Value → Shared → Prop} {s : Shared} {D : Ad} {mg mb : Str → Option Value} {L la : Addr} {cd : Value} {mm : Str → Option Value} {Q : Flow → Shared → Prop}

theorem ex10 {R : Addr} {vs : List Value} {bls : List (List UInt8)} {m : Nat} {u : Tok} {v0 : Option Value} (hA : A.handled = none) (hd : A.depth < recursionLimit) (hu : A.units + 100 < cLine) (hns : s.heap.Ns L mm)
    (hm : mm "orders" = some (.ref R)) (hl : PlainL s.heap R vs.toArray) (hb : BL vs bls) (hz : bls.length ≤ 720) (h1 : 1 ≤ m) (h5 : m ≤ 5) (h8 : ∀ b ∈ bls, b.length = m)
    (hcm : s.heap.IsCell (L + 1) (some (.int m u))) (hco : s.heap.IsCell (L + 2) v0)
    (hX : ∀ g : Heap, (∀ b o, b ∉ [L, L + 2] → s.heap.get? b = some o → g.get? b = some o) → ModOk D mg mb g)
    (hrev : ∀ b ∈ bls, turnsB b.reverse (((m : Int).fmod 2) == 1) = turnsB b true)
    (h : ∀ s' mm' v', KeepsBut [L, L + 2] s s' → s'.heap.Ns L mm' → (∀ x : Str, x ≠ ("turned" : Str) → mm' x = mm x) → s'.heap.IsCell (L + 2) v' → Q .next s') :
    wpN (model prog w) A (exec (lw 10) (envF (stm 9) L la cd)) Q E s := by
  have X : ModOk D mg mb s.heap := hX s.heap fun b o _ e => e
  with_unfolding_all refine forN ?_ ?_ ?_
  case refine_2 => intro _; with_unfolding_all rfl
  case refine_3 => intro _ _; with_unfolding_all rfl
  refine sub_slice (wpAny_Name (wpAny_loadName_local (v := .ref R) rfl rfl hns hm (r_slice (evalPart_none_step (evalPart_none_step (evalPart_some_step (wpAny_Constant_int ?_))))))) (fun o i => [o, i]) (by intro _ _; with_unfolding_all rfl)
  intro Sl s₁ k1 hsl
  have k01 : Keeps s s₁ := kTrans (kTok s _) k1
  refine ⟨R, Sl, _, _, _, _, none, none, some 5, rfl, rfl, (hl.keeps (kGet k01)).isList, hsl, .none, .none, .int _ _, by decide, by simp [sizeLine, BL.len hb]; omega, ?_⟩
  intro P s₂ k2 hP hlP
  have k02 := kTrans k01 k2
  have hPs : s.heap.get? P = none := noneBack (kGet k01) hP
  have neCell : ¬ (L + 2 = L) := fun e => absurd e (Nat.ne_of_gt (Nat.lt_add_of_pos_right (by decide)))
  have nPL : L ≠ P := (neNew (nsEx hns) hPs).symm
  have nPC : L + 2 ≠ P := (cellNe hco hPs).symm
  refine ⟨_, _, [P], [L, L + 2], fun I j h => ∃ mm' v', h.Ns L mm' ∧ (∀ x : Str, x ≠ ("turned" : Str) → mm' x = mm x) ∧ h.IsCell (L + 2) v' ∧ @LT.lt Nat _ L I ∧ @LT.lt Nat _ (L + 2) I ∧ (∀ b o, b ∉ [L, L + 2] → s.heap.get? b = some o → h.get? b = some o), Src.lt (src_list hA hlP.isList), ?_, ?_, ?_, ?_, ?_⟩
  · intro x hx
    rcases List.mem_cons.mp hx with q | q
    · rw [q]
      exact ⟨fun hm => nPL (List.mem_singleton.mp hm), let ⟨o, e⟩ := nsEx hns; ⟨o, kGet k02 _ _ e⟩⟩
    · rw [List.mem_singleton.mp q]
      exact ⟨fun hm => nPC (List.mem_singleton.mp hm), let ⟨o, e⟩ := cellEx hco; ⟨o, kGet k02 _ _ e⟩⟩
  · intro I s₃ hI k3
    have k03 := kTrans k02 k3
    exact ⟨mm, v0, hns.keeps (kGet k03), fun _ _ => rfl, hco.keeps (kGet k03), ltNew (let ⟨o, e⟩ := nsEx hns; ⟨o, kGet k02 _ _ e⟩) hI, ltNew (let ⟨o, e⟩ := cellEx hco; ⟨o, kGet k02 _ _ e⟩) hI, fun b o _ e => kGet k03 _ _ e⟩
  · rintro I j g g' ⟨mm', v', a1, a2, a3, a4, a5, a6⟩ hk hI
    exact ⟨mm', v', nsOne a1 hk a4, a2, cellOne a3 hk a5, a4, a5, fun b o hb e => hk b o (Nat.ne_of_lt (ltNew' k02 e hI)) (a6 b o hb e)⟩
  · rintro I j v s₃ hj ⟨_, hPv⟩ hI hIe ⟨mm', v', a1, a2, a3, a4, a5, a6⟩
    obtain ⟨kk, hkk⟩ := pick_mem hPv
    obtain ⟨b, t, hb', rfl⟩ := BL.get hb kk v (by simpa using hkk)
    have hbm := List.mem_of_getElem? hb'
    have hbl := h8 b hbm
    have i1 : ∀ b ∈ [L], b ∈ [L, L + 2] := fun x hx => List.mem_cons.mpr (.inl (List.mem_singleton.mp hx))
    have i2 : ∀ b ∈ [L + 2], b ∈ [L, L + 2] := fun x hx => List.mem_cons.mpr (.inr hx)
    have nm1 : L + 1 ∉ [L, L + 2] := fun hm => by
      rcases List.mem_cons.mp hm with q | q
      · exact absurd q (Nat.ne_of_gt (Nat.lt_add_of_pos_right (by decide)))
      · exact absurd (Nat.add_left_cancel (List.mem_singleton.mp q)) (by decide)
    refine wpAny_assign_Name (st_cell (c := L + 2) a3 fun s₄ k4 b3 => ?_)
    have k4' := k4.mono i2
    have b1 := nsBut a1 k4.get (fun hm => neCell (List.mem_singleton.mp hm).symm)
    have b6 : ∀ z o, z ∉ [L, L + 2] → s.heap.get? z = some o → s₄.heap.get? z = some o := fun z o hz e => k4'.get z o hz (a6 z o hz e)
    have X4 := hX s₄.heap b6
    have c4 := cellBut hcm b6 nm1
    refine execsN_cons (assignN ?_ (by with_unfolding_all rfl))
    refine callNN (nmG X4 X4.gbs (cFN (st := stm 4) (sp_cons (wpAny_Name (wpAny_loadName_cell rfl rfl rfl b3 (sp_cons (wpAny_Name (wpAny_loadName_cell rfl rfl rfl c4 (sp_nil ⟨X4.fbs, ?_⟩)))))))))
    refine swap_call X4 hA hd h1 (by omega) hbl fun s₅ t5 k5 => ?_
    refine st_loc (env := envF (stm 9) L la cd) (b1.keeps (kGet k5)) fun s₆ k6 d1 => ?_
    have k6' := k6.mono i1
    have k46 : KeepsBut [L, L + 2] s₄ s₆ := KeepsBut.trans (Mine.Keeps.but k5) k6'
    have d3 := cellBut (b3.keeps (kGet k5)) k6.get (fun hm => neCell (List.mem_singleton.mp hm))
    have d6 : ∀ z o, z ∉ [L, L + 2] → s.heap.get? z = some o → s₆.heap.get? z = some o := fun z o hz e => k46.get z o hz (b6 z o hz e)
    have X6 := hX s₆.heap d6
    have c6 := cellBut hcm d6 nm1
    refine execsN_any (wpAny_If (wpAny_isTrue_BoolOp (wpAny_allTrue_Or_cons (wpAny_isTrue_Compare1 ?_ (by with_unfolding_all rfl)))))
    refine wpAny_Name (wpAny_loadName_local (v := .bytes b.reverse.toArray t5) rfl rfl d1 rfl ?_)
    refine callN (nmB X6 X6.bbyt (cT (sp_cons ?_)))
    refine sub_slice (callN (nmB X6 X6.blis (cT (sp_cons (wpAny_Name (wpAny_loadName_cell rfl rfl rfl d3 (sp_nil (list_bytes hA (by simp; omega) ?_)))))))) (fun o i => [o, i]) (by intro _ _; with_unfolding_all rfl)
    intro G s₇ ws k7 hG hlG hiG
    refine r_slice (evalPart_none_step (evalPart_none_step (evalPart_some_step (wpAny_UnaryOp (wpAny_Constant_int (neg_int ?_))))))
    intro Sl2 s₈ k8 hsl2
    have k78 : Keeps s₇ s₈ := kTrans (kTok s₇ (s₇.toks + 1 + 1)) k8
    have hwl : ws.length = m := by rw [hiG.length]; simp [hbl]
    refine ⟨G, Sl2, _, _, _, _, none, none, some (-1), rfl, rfl, (hlG.keeps (kGet k78)).isList, hsl2, .none, .none, .int _ _, by decide, by simp [sizeLine]; omega, ?_⟩
    intro G2 s₉ k9 hG2 hlG2
    rw [krv_pick] at hlG2
    have ir : IntsAre (ws.toArray.toList.reverse) (b.reverse.map fun c => (c.toNat : Int)) := by
      rw [List.map_reverse]
      simpa using hiG.reverse
    refine sp_nil (bytes_il hA hlG2.isList ir (by simp; omega) fun s₁₀ t10 k10 => ?_)
    have k6t : Keeps s₆ s₁₀ := kTrans k7 (kTrans k78 (kTrans k9 k10))
    refine ne_bytes (wpAny_truthy_bool ?_)
    rw [show (b.reverse.toArray.toList != b.reverse.toArray.toList) = false from by simp]
    show wpAny _ _ (allTrue _ _ _) _ _ _
    refine wpAny_allTrue_Or_cons (wpAny_isTrue_Compare1 ?_ (by with_unfolding_all rfl))
    have X10 := X6.keeps (kGet k6t)
    have n10 := d1.keeps (kGet k6t)
    have c10 := c6.keeps (kGet k6t)
    refine callN (nmG X10 X10.glt (cF (st := stm 7) (sp_cons (wpAny_Name (wpAny_loadName_local (v := .bytes b.reverse.toArray t5) rfl rfl n10 rfl (sp_cons ?_))))))
    refine wpAny_Compare1 ?_ (by with_unfolding_all rfl)
    refine wpAny_BinOp (wpAny_Name (wpAny_loadName_cell rfl rfl rfl c10 (wpAny_Constant_int (mod_int' (by decide) (wpAny_Constant_int (wpAny_eq_int (sp_nil ⟨X10.flt, ?_⟩)))))))
    refine turns_call X10 hA hd (by omega) (by simp; omega) fun s₁₁ k11 => ?_
    have k6u : Keeps s₆ s₁₁ := kTrans k6t (kTrans (kTok s₁₀ _) k11)
    have X11 := X6.keeps (kGet k6u)
    refine callN (nmG X11 X11.glt (cF (st := stm 7) (sp_cons (wpAny_Name (wpAny_loadName_cell rfl rfl rfl (d3.keeps (kGet k6u)) (sp_cons (wpAny_Constant_bool (sp_nil ⟨X11.flt, ?_⟩))))))))
    refine turns_call X11 hA hd (by omega) (by omega) fun s₁₂ k12 => ?_
    have k6v : Keeps s₆ s₁₂ := kTrans k6u k12
    refine ne_bool (wpAny_truthy_bool ?_)
    rw [hrev b hbm]
    rw [show (turnsB b true != turnsB b true) = false from by simp]
    show wpAny _ _ (allTrue _ _ _) _ _ _
    refine wpAny_allTrue_Or_nil ?_
    show wpAny _ _ (execs _ _) _ _ _
    have kAll : KeepsBut [L, L + 2] s₃ s₁₂ := KeepsBut.trans k4' (KeepsBut.trans k46 (Mine.Keeps.but k6v))
    refine wpAny_execs_nil (wpN_any (wpAny_execs_nil ⟨rfl, ⟨_, _, d1.keeps (kGet k6v), ?_, d3.keeps (kGet k6v), a4, a5, fun z o hz e => kAll.get z o hz (a6 z o hz e)⟩, kAll⟩))
    intro x hx
    show (if x = ("turned" : Str) then _ else mm' x) = mm x
    rw [if_neg hx]; exact a2 x hx
  · rintro I s₃ hI ⟨mm', v', a1, a2, a3, a4, a5, a6⟩ sm3
    exact h s₃ mm' v' (keepsButOf (sameTrans (KeepsBut.same (Mine.Keeps.but (wr := []) k02)) sm3) a6) a1 a2 a3
end
end Mine

namespace Mine

def upI (m : Nat) : List Int := (List.range m).map fun (i : Nat) => 0 + (i : Int) * 1
def stepD (st : List Int × List Int) (x : Int) : List Int × List Int := (st.1.eraseIdx (x.fmod st.1.length).toNat, st.2 ++ [st.1.getD (x.fmod st.1.length).toNat 0])
def drawn (m : Nat) (xs : List Int) : List Int × List Int := xs.foldl stepD (upI m, [])
theorem foldD_len : ∀ (xs : List Int) (l d : List Int), xs.length ≤ l.length → (xs.foldl stepD (l, d)).1.length = l.length - xs.length ∧ (xs.foldl stepD (l, d)).2.length = d.length + xs.length
  | [], l, d, _ => by simp
  | x :: xs, l, d, h => by
    have hl : 0 < l.length := by simp at h; omega
    have h0 : 0 ≤ x.fmod l.length := Int.fmod_nonneg_of_pos x (by omega)
    have h1 : x.fmod l.length < l.length := Int.fmod_lt_of_pos x (by omega)
    have hk : (x.fmod l.length).toNat < l.length := by omega
    have e : (l.eraseIdx (x.fmod l.length).toNat).length = l.length - 1 := List.length_eraseIdx_of_lt hk
    have ih := foldD_len xs (l.eraseIdx (x.fmod l.length).toNat) (d ++ [l.getD (x.fmod l.length).toNat 0]) (by rw [e]; simp at h; omega)
    rw [List.foldl_cons]
    refine ⟨?_, ?_⟩
    · rw [show stepD (l, d) x = (l.eraseIdx (x.fmod l.length).toNat, d ++ [l.getD (x.fmod l.length).toNat 0]) from rfl, ih.1, e]; simp; omega
    · rw [show stepD (l, d) x = (l.eraseIdx (x.fmod l.length).toNat, d ++ [l.getD (x.fmod l.length).toNat 0]) from rfl, ih.2]; simp; omega
theorem IntsAre.erase {vs : List Value} {ns : List Int} (h : IntsAre vs ns) : ∀ k, IntsAre (vs.eraseIdx k) (ns.eraseIdx k) := by
  induction h with
  | nil => intro k; simp; exact .nil
  | @cons n t vs ns h ih =>
    intro k
    cases k with
    | zero => simpa using h
    | succ k => simpa using IntsAre.cons n t (ih k)

section
variable {prog : Program} {w : World} {A : Around} {E : Value → Shared → Prop} {s : Shared} {D : Ad} {mg mb : Str → Option Value} {L la : Addr} {cd : Value} {mm : Str → Option Value} {Q : Flow → Shared → Prop}

theorem mul_zero5 {l : Addr} {t u : Tok} {Q : Value → Shared → Prop} (hl : s.heap.get? l = some { cls := .type "list", dict := none, data := .seq #[.int 0 t] 0, slots := #[] })
    (h : ∀ R s', Keeps s s' → s.heap.get? R = none → PlainL s'.heap R [.int 0 t, .int 0 t, .int 0 t, .int 0 t, .int 0 t].toArray → Q (.ref R) s') :
    wpAny (model prog w) A (binaryOp .Mult (.ref l) (.int 5 u)) Q E s :=
  wpAny_binaryOp_repeat_ref (T := "list") (U := "int") (by decide) ⟨_, hl, rfl⟩ (fun s' => typeIs_int s' 5 u) noFill_list_mul F.fills_int_mul F.slot_int_rmul repeat_list F.slot_int_index.lookup
    (call_meets F.slot_int_rmul (typeIs_int s 5 u) F.entry_int_rmul (F.args_int_rmul_2 _ _) (int___rmul___int_list 5 u l #[.int 0 t] 0)
      ⟨hl, rfl, ⟨_, hl, rfl⟩, call_meets F.slot_list_mul ⟨_, hl, rfl⟩ F.entry_list_mul (F.args_list_mul_2 _ _)
        (AutoListH.list___mul___list_int_3 l #[.int 0 t] 0 5 u (by decide) (show ¬ ((1 : Nat) * 5 > (2 ^ 63 - 1) / 8) from by decide) (show ¬ Builtin.List.listTooLong ((1 : Nat) * 5) = true from by decide))
        ⟨hl, h _ _ (kPush s _ s.toks) (noneAt (Nat.le_refl _)) ⟨_, _, Heap.get?_push_size _ rfl, rfl, rfl, rfl⟩⟩⟩)

theorem ex11 {m : Nat} {u : Tok} (X : ModOk D mg mb s.heap) (hA : A.handled = none) (hns : s.heap.Ns L mm) (hcm : s.heap.IsCell (L + 1) (some (.int m u))) (h1 : 1 ≤ m) (h5 : m ≤ 5)
    (h : ∀ F G s' vl, KeepsBut [L] s s' → s.heap.get? F = none → s.heap.get? G = none → F ≠ G → s'.heap.PlainList F (List.toArray vl) → IntsAre vl (upI m) → PlainL s'.heap G #[] →
      s'.heap.Ns L (fun y => if y = "left" then some (.ref F) else if y = "drawn" then some (.ref G) else mm y) → Q .next s') :
    wpAny (model prog w) A (exec (lw 11) (envF (stm 9) L la cd)) Q E s := by
  with_unfolding_all refine Assign_Tuple_swapped (names := ["left", "drawn"]) ?_ ?_ ?_
  case refine_2 => with_unfolding_all rfl
  case refine_3 => with_unfolding_all rfl
  refine PySem.wpAny_Tuple (sp_cons ?_)
  refine callN (nmB X X.blis (cT (sp_cons (callN (nmB X X.bran (cT (sp_cons (wpAny_Name (wpAny_loadName_cell rfl rfl rfl hcm (sp_nil (r_range1 ?_)))))))))))
  intro r s₁ u1 v1 k1 hr
  have hsz : Builtin.Range.rangeSize 0 (m : Int) 1 = (m : Int) := by rw [rangeSize_one]; split <;> omega
  refine sp_nil (list_range 1 m hA hr (small_one (by decide) (by decide) (by omega) (by omega)) hsz (by omega) ?_)
  intro F s₂ vl k2 hF hlF hiF
  have k02 := kTrans k1 k2
  have hFs := noneBack (kGet k1) hF
  refine sp_cons (r_list (sp_nil ⟨by simp [sizeLine], ?_⟩))
  intro G s₃ k3 hG hlG
  have k03 := kTrans k02 k3
  have hGs := noneBack (kGet k02) hG
  have nFG : F ≠ G := (neNew (Mine.PlainL.some (plOf hlF)) hG).symm
  refine sp_nil ⟨by simp [sizeLine], ?_⟩
  refine unpackItems_tuple (items := #[.ref F, .ref G]) hA ⟨_, Heap.get?_push_size _ rfl, rfl, _, rfl⟩ fun h' hx => ?_
  have k3' : Keeps s₃ { s₃ with heap := h' } := kMk s₃ h' s₃.toks fun b o e => hx b o (by
    show b ≠ (s₃.heap.push _).objs.size
    rw [Heap.size_push]; exact Nat.ne_of_lt (Nat.lt_succ_of_lt (Heap.lt_size e))) (Heap.get?_push_of_some _ e)
  have k0h := kTrans k03 k3'
  show wpAny _ _ (assignInOrder [bindName _ "drawn", bindName _ "left"] [.ref G, .ref F]) _ _ _
  refine assignInOrder_cons (bindName_ (st_loc (env := envF (stm 9) L la cd) (hns.keeps (kGet k0h)) fun s₅ k5 n5 => ?_))
  refine assignInOrder_cons (bindName_ (st_loc (env := envF (stm 9) L la cd) n5 fun s₆ k6 n6 => ?_))
  refine assignInOrder_nil ?_
  have nF : F ∉ [L] := fun hm => neNew (nsEx hns) hFs (List.mem_singleton.mp hm)
  have nG : G ∉ [L] := fun hm => neNew (nsEx hns) hGs (List.mem_singleton.mp hm)
  have k56 := KeepsBut.trans k5 k6
  refine h F G s₆ vl (KeepsBut.trans (Mine.Keeps.but k0h) k56) hFs hGs nFG ?_ hiF ?_ n6
  · obtain ⟨n, e⟩ := hlF
    exact ⟨n, k56.get _ _ nF (kGet (kTrans k3 k3') _ _ e)⟩
  · exact Mine.PlainL.but (hlG.keeps (kGet k3')) k56.get nG
end
end Mine

namespace Mine

def feed (m : Nat) (ns : List Int) : List Int := (ns ++ [0, 0, 0, 0, 0]).take m
theorem feed_len {m : Nat} (ns : List Int) (h : m ≤ 5) : (feed m ns).length = m := by simp [feed]; omega
theorem erase_toArray {α : Type} (l : List α) (k : Nat) (hk : k < l.length) : l.toArray.eraseIdxIfInBounds k = (l.eraseIdx k).toArray := by
  unfold Array.eraseIdxIfInBounds
  rw [dif_pos (by simpa using hk)]
  simp
theorem upI_len (m : Nat) : (upI m).length = m := by simp [upI]

section
variable {prog : Program} {w : World} {A : Around} {E : Value → Shared → Prop} {s : Shared} {D : Ad} {mg mb : Str → Option Value} {L la : Addr} {cd : Value} {mm : Str → Option Value} {Q : Flow → Shared → Prop}

theorem islKeep {h h' : Heap} {a : Addr} {its : Array Value} (x : h.IsList a its) (hk : ∀ b o, h.get? b = some o → h'.get? b = some o) : h'.IsList a its := let ⟨o, e, r⟩ := x; ⟨o, hk _ _ e, r⟩
/-- two lists glued, the first any list -/
theorem r_add_isl {l b : Addr} {vs ws : List Value} {Q : Value → Shared → Prop} (hl : s.heap.IsList l vs.toArray) (hb : PlainL s.heap b ws.toArray) (hsz : vs.length + ws.length ≤ sizeLine)
    (h : ∀ D s', Keeps s s' → s.heap.get? D = none → PlainL s'.heap D (vs ++ ws).toArray → Q (.ref D) s') : wpAny (model prog w) A (binaryOp .Add (.ref l) (.ref b)) Q E s := by
  obtain ⟨⟨c1, d1, x1, y1⟩, e1, h1, n, h3⟩ := hl
  obtain ⟨⟨c2, d2, x2, y2⟩, m, e2, g1, g2, g3⟩ := hb
  simp only at h1 h3
  subst h1 h3 g1 g2 g3
  refine concat_meets ⟨_, e1, rfl⟩ ⟨_, e2, rfl⟩ noFill_list_add seq_list_add PySem.F.slot_list_add PySem.F.entry_list_add (PySem.F.args_list_add_2 _ _) (list_addW l b vs.toArray ws.toArray n m d1 none y1 y2 (by simpa using hsz)) ⟨e1, e2, ?_⟩
  have e : vs.toArray ++ ws.toArray = (vs ++ ws).toArray := by simp
  rw [e]
  exact h _ _ (kPush s _ s.toks) (noneAt (Nat.le_refl _)) (PlainL.new _ _)

theorem ex12 {m : Nat} {u : Tok} {l F G : Addr} {vs vl : List Value} {ns : List Int} (hA : A.handled = none) (hns : s.heap.Ns L mm) (hcm : s.heap.IsCell (L + 1) (some (.int m u))) (h1 : 1 ≤ m) (h5 : m ≤ 5)
    (hsc : mm "script" = some (.ref l)) (hl : s.heap.IsList l vs.toArray) (hi : IntsAre vs ns) (hz : vs.length ≤ 63)
    (hF : mm "left" = some (.ref F)) (hG : mm "drawn" = some (.ref G)) (hFG : F ≠ G) (lF : s.heap.PlainList F vl.toArray) (iF : IntsAre vl (upI m)) (lG : PlainL s.heap G #[]) (nF : F ≠ L) (nG : G ≠ L)
    (hX : ∀ g : Heap, (∀ b o, b ∉ [L, F, G] → s.heap.get? b = some o → g.get? b = some o) → ModOk D mg mb g)
    (h : ∀ s' mm' vd, KeepsBut [L, F, G] s s' → s'.heap.Ns L mm' → (∀ x : Str, x ≠ ("number" : Str) → mm' x = mm x) → PlainL s'.heap G (List.toArray vd) → IntsAre vd (drawn m (feed m ns)).2 → Q .next s') :
    wpAny (model prog w) A (exec (lw 12) (envF (stm 9) L la cd)) Q E s := by
  have X : ModOk D mg mb s.heap := hX s.heap fun b o _ e => e
  with_unfolding_all refine for_rule ?_ ?_ ?_
  case refine_2 => intro _; with_unfolding_all rfl
  case refine_3 => intro _ _; with_unfolding_all rfl
  refine sub_slice (wpAny_BinOp (wpAny_Name (wpAny_loadName_local (v := .ref l) rfl rfl hns hsc (wpAny_BinOp (wpAny_List (sp_cons (wpAny_Constant_int (sp_nil ⟨by simp [sizeLine], ?_⟩)))))))) (fun o i => [i, o]) (by intro _ _; with_unfolding_all rfl)
  refine wpAny_Constant_int (mul_zero5 (Heap.get?_push_size _ rfl) ?_)
  intro Z s₁ k1 hZ hlZ
  have k01 : Keeps s s₁ := kTrans (kPush s _ _) k1
  refine r_add_isl (islKeep hl (kGet k01)) hlZ (by simp [sizeLine]; omega) ?_
  intro Z2 s₂ k2 hZ2 hlZ2
  have k02 := kTrans k01 k2
  refine r_slice (evalPart_none_step (evalPart_some_step (wpAny_Name (wpAny_loadName_cell rfl rfl rfl (hcm.keeps (kGet k02)) (evalPart_none_step ?_)))))
  intro Sl s₃ k3 hsl
  have k03 := kTrans k02 k3
  refine ⟨Z2, Sl, _, _, _, _, none, some m, none, rfl, rfl, (hlZ2.keeps (kGet k3)).isList, hsl, .none, .int _ _, .none, by decide, by simp [sizeLine]; omega, ?_⟩
  intro P s₄ k4 hP hlP
  have k04 := kTrans k03 k4
  have hPs : s.heap.get? P = none := noneBack (kGet k03) hP
  have iP : IntsAre (slicePick (vs ++ [Value.int 0 s.toks, .int 0 s.toks, .int 0 s.toks, .int 0 s.toks, .int 0 s.toks]).toArray none (some (m : Int)) none).toList (feed m ns) := by
    have iZ : IntsAre (vs ++ [Value.int 0 s.toks, .int 0 s.toks, .int 0 s.toks, .int 0 s.toks, .int 0 s.toks]) (ns ++ [0, 0, 0, 0, 0]) := hi.append (.cons 0 s.toks (.cons 0 s.toks (.cons 0 s.toks (.cons 0 s.toks (.cons 0 s.toks .nil)))))
    have := kmk_upto (y := (m : Int)) iZ (by omega)
    simpa [feed] using this
  generalize hps : slicePick (vs ++ [Value.int 0 s.toks, .int 0 s.toks, .int 0 s.toks, .int 0 s.toks, .int 0 s.toks]).toArray none (some (m : Int)) none = ps at hlP iP
  have psl : ps.size = m := by
    have := iP.length
    rw [feed_len ns h5] at this
    simpa using this
  have lG' := lG
  have nPx : ∀ {a : Addr}, (∃ o, s.heap.get? a = some o) → a ≠ P := fun ha => (neNew ha hPs).symm
  have eL := nsEx hns
  have eF : ∃ o, s.heap.get? F = some o := Mine.PlainL.some (plOf lF)
  have eG : ∃ o, s.heap.get? G = some o := Mine.PlainL.some lG
  have up4 : ∀ {a : Addr}, (∃ o, s.heap.get? a = some o) → ∃ o, s₄.heap.get? a = some o := fun ⟨o, e⟩ => ⟨o, kGet k04 _ _ e⟩
  refine ⟨_, _, [P], [L, F, G], fun I j h => ∃ mm' wl wd, h.Ns L mm' ∧ (∀ x : Str, x ≠ ("number" : Str) → mm' x = mm x) ∧ h.PlainList F (List.toArray wl) ∧ IntsAre wl ((feed m ns).take j |>.foldl stepD (upI m, [])).1 ∧ PlainL h G (List.toArray wd) ∧ IntsAre wd ((feed m ns).take j |>.foldl stepD (upI m, [])).2 ∧
    @LT.lt Nat _ L I ∧ @LT.lt Nat _ F I ∧ @LT.lt Nat _ G I ∧ (∀ b o, b ∉ [L, F, G] → s.heap.get? b = some o → h.get? b = some o), Src.lt (src_list hA hlP.isList), ?_, ?_, ?_, ?_, ?_⟩
  · intro x hx
    have : ∃ o, s.heap.get? x = some o := by
      rcases List.mem_cons.mp hx with q | q
      · rw [q]; exact eL
      · rcases List.mem_cons.mp q with q | q
        · rw [q]; exact eF
        · rw [List.mem_singleton.mp q]; exact eG
    exact ⟨fun hm => nPx this (List.mem_singleton.mp hm), up4 this⟩
  · intro I s₅ hI k5
    have k05 := kTrans k04 k5
    refine ⟨mm, vl, [], hns.keeps (kGet k05), fun _ _ => rfl, let ⟨n, e⟩ := lF; ⟨n, kGet k05 _ _ e⟩, iF, lG.keeps (kGet k05), .nil, ltNew (up4 eL) hI, ltNew (up4 eF) hI, ltNew (up4 eG) hI, fun b o _ e => kGet k05 _ _ e⟩
  · rintro I j g g' ⟨mm', wl, wd, a1, a2, a3, a4, a5, a6, a7, a8, a9, a10⟩ hk hI
    exact ⟨mm', wl, wd, nsOne a1 hk a7, a2, let ⟨n, e⟩ := a3; ⟨n, hk _ _ (Nat.ne_of_lt a8) e⟩, a4, plOne a5 hk (Nat.ne_of_lt a9), a6, a7, a8, a9, fun b o hb e => hk b o (Nat.ne_of_lt (ltNew' k04 e hI)) (a10 b o hb e)⟩
  · rintro I j v s₅ hj ⟨_, hPv⟩ hI hIe ⟨mm', wl, wd, a1, a2, a3, a4, a5, a6, a7, a8, a9, a10⟩
    have hjm : j < m := by omega
    obtain ⟨x, tx, hx, rfl⟩ := Mine.IntsAre.at iP j v (by simpa using hPv)
    generalize hst : ((feed m ns).take j).foldl stepD (upI m, []) = st at a4 a6
    have hlen := foldD_len ((feed m ns).take j) (upI m) [] (by simp [upI_len, feed_len ns h5]; omega)
    rw [hst] at hlen
    have hjl : ((feed m ns).take j).length = j := by simp [feed_len ns h5]; omega
    rw [hjl, upI_len] at hlen
    have hst2 : ((feed m ns).take (j + 1)).foldl stepD (upI m, []) = stepD st x := by
      rw [List.take_succ, hx]
      simp [List.foldl_append, hst]
    have i1 : ∀ b ∈ [L], b ∈ [L, F, G] := fun x hx => List.mem_cons.mpr (.inl (List.mem_singleton.mp hx))
    have i2 : ∀ b ∈ [F], b ∈ [L, F, G] := fun x hx => by rw [List.mem_singleton.mp hx]; simp
    have i3 : ∀ b ∈ [G], b ∈ [L, F, G] := fun x hx => by rw [List.mem_singleton.mp hx]; simp
    refine wpAny_assign_Name (st_loc (env := envF (stm 9) L la cd) a1 fun s₆ k6 b1 => ?_)
    have b3 : s₆.heap.PlainList F wl.toArray := let ⟨n, e⟩ := a3; ⟨n, k6.get _ _ (fun hm => nF (List.mem_singleton.mp hm)) e⟩
    have b5 := Mine.PlainL.but a5 k6.get (fun hm => nG (List.mem_singleton.mp hm))
    have b10 : ∀ z o, z ∉ [L, F, G] → s.heap.get? z = some o → s₆.heap.get? z = some o := fun z o hz e => (k6.mono i1).get z o hz (a10 z o hz e)
    have X6 := hX s₆.heap b10
    have cG : mm' "drawn" = some (.ref G) := (a2 "drawn" (by decide)).trans hG
    have cF' : mm' "left" = some (.ref F) := (a2 "left" (by decide)).trans hF
    have hwl : wl.length = m - j := by rw [a4.length, hlen.1]
    have hwd : wd.length = j := by rw [a6.length, hlen.2]; simp
    refine wpAny_execs_cons (r_append (wpAny_Name (wpAny_loadName_local (v := .ref G) rfl rfl b1 cG ⟨G, rfl, ⟨_, b5⟩, ?_⟩)))
    refine r_pop (wpAny_Name (wpAny_loadName_local (v := .ref F) rfl rfl b1 cF' ⟨F, rfl, ⟨_, b3⟩, ?_⟩))
    refine wpAny_BinOp (wpAny_Name (wpAny_loadName_local (v := .int x tx) rfl rfl b1 rfl ?_))
    refine callN (nmB X6 X6.blen (cB (sp_cons (wpAny_Name (wpAny_loadName_local (v := .ref F) rfl rfl b1 cF' (sp_nil (len_list (plOf b3).isList (by simp; omega) ?_)))))))
    have hpos : (0 : Int) < (wl.toArray.size : Int) := by simp; omega
    refine mod_int' (Int.ne_of_gt hpos) ?_
    have q0 : 0 ≤ x.fmod (wl.toArray.size : Int) := Int.fmod_nonneg_of_pos x hpos
    have q1 : x.fmod (wl.toArray.size : Int) < (wl.toArray.size : Int) := Int.fmod_lt_of_pos x hpos
    have es : (wl.toArray.size : Int) = (st.1.length : Int) := by rw [List.size_toArray, a4.length]
    have hk : (x.fmod (wl.toArray.size : Int)).toNat < wl.length := by
      have : (wl.toArray.size : Int) = (wl.length : Int) := by simp
      omega
    obtain ⟨y, ty, hy, ey⟩ := Mine.IntsAre.at a4 _ wl[(x.fmod (wl.toArray.size : Int)).toNat] (List.getElem?_eq_getElem hk)
    refine ⟨_, _, _, .int y ty, rfl, b3, by simp; omega, q0, q1, by rw [← ey]; simp [hk], ?_⟩
    intro s₇ k7 l7
    have k7' : KeepsBut [F] s₆ s₇ := KeepsBut.trans (Mine.Keeps.but (kTok s₆ _)) k7
    have c5 := Mine.PlainL.but b5 k7'.get (fun hm => hFG (List.mem_singleton.mp hm).symm)
    have c1 := nsBut b1 k7'.get (fun hm => nF (List.mem_singleton.mp hm).symm)
    refine ⟨_, c5, by simp [sizeLine]; omega, ?_⟩
    intro s₈ k8 l8
    have kAll : KeepsBut [L, F, G] s₅ s₈ := KeepsBut.trans (k6.mono i1) (KeepsBut.trans (k7'.mono i2) (k8.mono i3))
    refine wpAny_execs_nil ⟨rfl, ⟨_, wl.eraseIdx (x.fmod (wl.toArray.size : Int)).toNat, wd ++ [.int y ty], nsBut c1 k8.get (fun hm => nG (List.mem_singleton.mp hm).symm), ?_, ?_, ?_, ?_, ?_, a7, a8, a9, fun z o hz e => kAll.get z o hz (a10 z o hz e)⟩, kAll⟩
    · intro z hz
      show (if z = ("number" : Str) then _ else mm' z) = mm z
      rw [if_neg hz]; exact a2 z hz
    · obtain ⟨n, e⟩ := l7
      refine ⟨n, ?_⟩
      have ee : (wl.toArray.eraseIdxIfInBounds (x.fmod (wl.toArray.size : Int)).toNat) = (wl.eraseIdx (x.fmod (wl.toArray.size : Int)).toNat).toArray := erase_toArray _ _ hk
      rw [← ee]
      exact k8.get _ _ (fun hm => hFG (List.mem_singleton.mp hm)) e
    · rw [hst2]
      show IntsAre _ (st.1.eraseIdx (x.fmod st.1.length).toNat)
      rw [← es]
      exact Mine.IntsAre.erase a4 _
    · simpa using l8
    · rw [hst2]
      show IntsAre _ (st.2 ++ [st.1.getD (x.fmod st.1.length).toNat 0])
      rw [← es, List.getD_eq_getElem?_getD, hy]
      exact Mine.IntsAre.snoc a6 y ty
  · rintro I s₅ hI ⟨mm', wl, wd, a1, a2, a3, a4, a5, a6, a7, a8, a9, a10⟩ sm5
    have e : (feed m ns).take ps.size = feed m ns := by rw [psl]; exact List.take_of_length_le (by rw [feed_len ns h5]; omega)
    rw [e] at a6
    exact h s₅ mm' wd (keepsButOf (sameTrans (KeepsBut.same (Mine.Keeps.but (wr := []) k04)) sm5) a10) a1 a2 a5 a6
end
end Mine

namespace Mine

def fallQ (b : List UInt8) (k : Int) : Bool := decide ((b.getD k.toNat 0).toNat < (b.getD (k - 1).toNat 0).toNat)
def fallsI (m : Nat) (b : List UInt8) : List Int := ((List.range (m - 1)).map fun (j : Nat) => 1 + (j : Int)).filter (fallQ b)
def evensI (m : Nat) : List Int := (List.range ((m - 1) / 2)).map fun (i : Nat) => 2 + (i : Int) * 2
def oddsI (m : Nat) : List Int := (List.range (m / 2)).map fun (i : Nat) => 1 + (i : Int) * 2
theorem IntsAre.filt (q : Int → Bool) {vs : List Value} {ns : List Int} (h : IntsAre vs ns) : IntsAre (vs.filter fun v => q (valI v)) (ns.filter q) := by
  induction h with
  | nil => exact .nil
  | @cons n t vs ns h ih =>
    rw [List.filter_cons, List.filter_cons]
    show IntsAre (if q n = true then _ else _) _
    split
    · exact .cons n t ih
    · exact ih

section
variable {prog : Program} {w : World} {A : Around} {E : Value → Shared → Prop} {s : Shared} {D : Ad} {mg mb : Str → Option Value} {L la : Addr} {cd : Value} {mm : Str → Option Value} {Q : Flow → Shared → Prop}

theorem ex13 {G : Addr} {wd : List Value} {b : List UInt8} {v0 : Option Value} (X : ModOk D mg mb s.heap) (hA : A.handled = none) (hns : s.heap.Ns L mm) (hG : mm "drawn" = some (.ref G)) (lG : PlainL s.heap G wd.toArray)
    (iG : IntsAre wd (b.map fun c => (c.toNat : Int))) (hz : b.length ≤ 8) (hco : s.heap.IsCell (L + 2) v0)
    (h : ∀ s' t, KeepsBut [L + 2] s s' → s'.heap.IsCell (L + 2) (some (.bytes b.toArray t)) → Q .next s') : wpAny (model prog w) A (exec (lw 13) (envF (stm 9) L la cd)) Q E s := by
  with_unfolding_all refine wpAny_Assign_Name ?_ ?_
  case refine_2 => with_unfolding_all rfl
  refine callN (nmB X X.bbyt (cT (sp_cons (wpAny_Name (wpAny_loadName_local (v := .ref G) rfl rfl hns hG (sp_nil ?_))))))
  refine bytes_il hA lG.isList iG (by rw [iG.length]; simp; omega) fun s₁ t k1 => ?_
  refine st_cell (c := L + 2) (hco.keeps (kGet k1)) fun s₂ k2 c2 => ?_
  exact h s₂ t (KeepsBut.trans (Mine.Keeps.but k1) k2) c2

theorem ex14 {m : Nat} {u t : Tok} {b : List UInt8} (X : ModOk D mg mb s.heap) (hA : A.handled = none) (hns : s.heap.Ns L mm) (hcm : s.heap.IsCell (L + 1) (some (.int m u))) (h1 : 1 ≤ m) (h5 : m ≤ 5)
    (hco : s.heap.IsCell (L + 2) (some (.bytes b.toArray t))) (hb : b.length = m)
    (h : ∀ R s' vs, KeepsBut [L] s s' → s.heap.get? R = none → PlainL s'.heap R (List.toArray vs) → IntsAre vs (fallsI m b) → s'.heap.Ns L (fun y => if y = "falls" then some (.ref R) else mm y) → Q .next s') :
    wpAny (model prog w) A (exec (lw 14) (envF (stm 9) L la cd)) Q E s := by
  with_unfolding_all refine comp_asg (y := "falls") (x := "k") [("order", L + 2)] (fun v => fallQ b (valI v)) (fun v y => v = y) (m := mm) hns (by with_unfolding_all rfl) (by with_unfolding_all rfl) (by decide) (by with_unfolding_all rfl) (by decide) (by with_unfolding_all rfl) (by with_unfolding_all rfl) (by with_unfolding_all rfl) ?_ ?_
  case refine_2 => intro _; with_unfolding_all rfl
  refine callN (nmB X X.bran (cT (sp_cons (wpAny_Constant_int (sp_cons (wpAny_Name (wpAny_loadName_cell rfl rfl rfl hcm (sp_nil (call_range_2 ?_)))))))))
  refine ⟨⟨_, _, rfl, fun _ _ e => Heap.get?_push_of_some _ e⟩, _, _, _, Src.lt (src_range hA (IsRange.new ..) (by decide) (by decide) (by omega) (by omega)), by simp [sizeLine]; omega, ?_, ?_, ?_⟩
  · rintro C i v s₃ m₃ E' ⟨hi, t3, rfl⟩ hn3 hx hk
    have hi' : i + 1 < b.length := by omega
    have c3 := hco.keeps hk
    refine wpAny_tests_one (wpAny_isTrue_Compare1 ?_ (by with_unfolding_all rfl))
    refine sub_bytes (l := b) (by omega) (wpAny_Name (wpAny_loadName_cell rfl rfl rfl c3 (wpAny_BinOp (wpAny_Name (wpAny_loadName_local rfl rfl hn3 hx (wpAny_Constant_int (sub_int ⟨_, _, _, rfl, rfl, by omega, by omega, fun t6 => ?_⟩)))))))
    refine sub_bytes (l := b) (by omega) (wpAny_Name (wpAny_loadName_cell rfl rfl rfl c3 (wpAny_Name (wpAny_loadName_local rfl rfl hn3 hx ⟨_, _, _, rfl, rfl, by omega, by omega, fun t5 => ?_⟩))))
    refine gt_int (wpAny_truthy_bool ⟨?_, kTok _ _⟩)
    show _ = fallQ b (1 + (i : Int))
    unfold fallQ
    simp
  · intro C i v s₃ m₃ E' hP hp hn3 hx hk
    exact wpAny_Name (wpAny_loadName_local rfl rfl hn3 hx ⟨rfl, kRefl _⟩)
  · intro R s' ys vs2 k hR hlR hlen hP2 hF hn'
    have e := paired_eq hF
    have ey : ys = ys.toList.toArray := by simp
    rw [ey] at hlR
    refine h R s' ys.toList k hR hlR ?_ hn'
    rw [e]
    refine IntsAre.filt (fallQ b) ?_
    have e1 := intsOf (fun j => 1 + (j : Int)) vs2 0 (by
      intro j v hj
      obtain ⟨_, t, e⟩ := hP2 j v hj
      exact ⟨t, by rw [e]; simp⟩)
    rw [hlen, ← List.range_eq_range'] at e1
    have e2 : ((m : Int) - 1).toNat = m - 1 := by omega
    rw [e2] at e1
    exact e1

theorem rs_even {m : Nat} (h1 : 1 ≤ m) (h5 : m ≤ 5) : Builtin.Range.rangeSize 2 (m : Int) 2 = (((m - 1) / 2 : Nat) : Int) := by
  have : m = 1 ∨ m = 2 ∨ m = 3 ∨ m = 4 ∨ m = 5 := by omega
  rcases this with rfl | rfl | rfl | rfl | rfl <;> rfl
theorem rs_odd {m : Nat} (h1 : 1 ≤ m) (h5 : m ≤ 5) : Builtin.Range.rangeSize 1 (m : Int) 2 = ((m / 2 : Nat) : Int) := by
  have : m = 1 ∨ m = 2 ∨ m = 3 ∨ m = 4 ∨ m = 5 := by omega
  rcases this with rfl | rfl | rfl | rfl | rfl <;> rfl
theorem small2 {a : Int} {m : Nat} (ha : a = 1 ∨ a = 2) (h1 : 1 ≤ m) (h5 : m ≤ 5) : Builtin.Range.small a (m : Int) 2 = true := by
  have : m = 1 ∨ m = 2 ∨ m = 3 ∨ m = 4 ∨ m = 5 := by omega
  rcases ha with rfl | rfl <;> rcases this with rfl | rfl | rfl | rfl | rfl <;> decide

theorem ex15 {m : Nat} {u t : Tok} {b : List UInt8} {U Dn R : Addr} {wu wd wf : List Value} {uls dls : List (List UInt8)} (X : ModOk D mg mb s.heap) (hA : A.handled = none) (hu : A.units + 100 < cLine) (hns : s.heap.Ns L mm) (hcm : s.heap.IsCell (L + 1) (some (.int m u))) (h1 : 1 ≤ m) (h5 : m ≤ 5)
    (hU : mm "ups" = some (.ref U)) (hD : mm "downs" = some (.ref Dn)) (hR : mm "falls" = some (.ref R)) (lU : PlainL s.heap U wu.toArray) (lD : PlainL s.heap Dn wd.toArray) (lR : PlainL s.heap R wf.toArray) (bu : BL wu uls) (bd : BL wd dls) (iR : IntsAre wf (fallsI m b))
    (hco : s.heap.IsCell (L + 2) (some (.bytes b.toArray t)))
    (e1 : uls.contains b = decide (fallsI m b = evensI m)) (e2 : dls.contains b = decide (fallsI m b = oddsI m))
    (h : ∀ s', Keeps s s' → Q (.ret (.bool true)) s') : wpAny (model prog w) A (exec (lw 15) (envF (stm 9) L la cd)) Q E s := by
  with_unfolding_all refine wpAny_Return_some ?_
  with_unfolding_all refine BoolOp_and ?_
  refine wpAny_Compare1 ?_ (by with_unfolding_all rfl)
  refine wpAny_Compare1 ?_ (by with_unfolding_all rfl)
  refine wpAny_Name (wpAny_loadName_cell rfl rfl rfl hco (wpAny_Name (wpAny_loadName_local (v := .ref U) rfl rfl hns hU ?_)))
  refine in_bl lU.isList bu ?_
  refine wpAny_Compare1 ?_ (by with_unfolding_all rfl)
  refine wpAny_Name (wpAny_loadName_local (v := .ref R) rfl rfl hns hR ?_)
  refine callN (nmB X X.blis (cT (sp_cons ?_)))
  refine callN (nmB X X.bran (cT (sp_cons (wpAny_Constant_int (sp_cons (wpAny_Name (wpAny_loadName_cell rfl rfl rfl hcm (sp_cons (wpAny_Constant_int (sp_nil ?_))))))))))
  refine call_range_3 (by decide) ?_ (by exact Or.inl (PyProof.noPylong_small (by omega)))
  have k1 : Keeps s { s with toks := s.toks + 1 + 1 } := kTok s _
  refine sp_nil (list_range 2 ((m - 1) / 2) hA (IsRange.new ..) (small2 (.inr rfl) h1 h5) (rs_even h1 h5) (by omega) ?_)
  intro Z s₂ vz k2 hZ lZ iZ
  have k02 : Keeps s s₂ := kTrans (kPush s _ _) k2
  refine eq_intsK (lR.keeps (kGet k02)).isList iR (plOf lZ).isList iZ (by omega) ?_
  rw [e1]
  refine eq_bool ?_
  rw [show (decide (fallsI m b = evensI m) == decide (fallsI m b = (List.range ((m - 1) / 2)).map fun (i : Nat) => 2 + (i : Int) * 2)) = true from by rw [beq_iff_eq, Bool.eq_iff_iff, decide_eq_true_iff, decide_eq_true_iff]; rfl]
  refine wpAny_truthy_bool ?_
  show wpAny _ _ (eval _ _) _ _ _
  refine BoolOp_one ?_
  have X2 := X.keeps (kGet k02)
  have n2 := hns.keeps (kGet k02)
  have c2 := hco.keeps (kGet k02)
  have cm2 := hcm.keeps (kGet k02)
  refine wpAny_Compare1 ?_ (by with_unfolding_all rfl)
  refine wpAny_Compare1 ?_ (by with_unfolding_all rfl)
  refine wpAny_Name (wpAny_loadName_cell rfl rfl rfl c2 (wpAny_Name (wpAny_loadName_local (v := .ref Dn) rfl rfl n2 hD ?_)))
  refine in_bl (lD.keeps (kGet k02)).isList bd ?_
  refine wpAny_Compare1 ?_ (by with_unfolding_all rfl)
  refine wpAny_Name (wpAny_loadName_local (v := .ref R) rfl rfl n2 hR ?_)
  refine callN (nmB X2 X2.blis (cT (sp_cons ?_)))
  refine callN (nmB X2 X2.bran (cT (sp_cons (wpAny_Constant_int (sp_cons (wpAny_Name (wpAny_loadName_cell rfl rfl rfl cm2 (sp_cons (wpAny_Constant_int (sp_nil ?_))))))))))
  refine call_range_3 (by decide) ?_ (by exact Or.inl (PyProof.noPylong_small (by omega)))
  refine sp_nil (list_range 2 (m / 2) hA (IsRange.new ..) (small2 (.inl rfl) h1 h5) (rs_odd h1 h5) (by omega) ?_)
  intro Z' s₄ vz' k4 hZ' lZ' iZ'
  have k24 : Keeps s₂ s₄ := kTrans (kPush s₂ _ _) k4
  have k04 := kTrans k02 k24
  refine eq_intsK (lR.keeps (kGet k04)).isList iR (plOf lZ').isList iZ' (by omega) ?_
  rw [e2]
  refine eq_bool ?_
  rw [show (decide (fallsI m b = oddsI m) == decide (fallsI m b = (List.range (m / 2)).map fun (i : Nat) => 1 + (i : Int) * 2)) = true from by rw [beq_iff_eq, Bool.eq_iff_iff, decide_eq_true_iff, decide_eq_true_iff]; rfl]
  exact h s₄ k04
end
end Mine

namespace Mine

def outs : Nat → List Int → List Int → List (List Int)
  | 0, _, d => [d]
  | n + 1, l, d => (List.range l.length).flatMap fun k => outs n (l.eraseIdx k) (d ++ [l.getD k 0])
theorem outs_mem : ∀ (xs l d : List Int), xs.length ≤ l.length → (xs.foldl stepD (l, d)).2 ∈ outs xs.length l d
  | [], l, d, _ => by simp [outs]
  | x :: xs, l, d, h => by
    have hl : 0 < l.length := by simp at h; omega
    have h0 : 0 ≤ x.fmod l.length := Int.fmod_nonneg_of_pos x (by omega)
    have h1 : x.fmod l.length < l.length := Int.fmod_lt_of_pos x (by omega)
    have hk : (x.fmod l.length).toNat < l.length := by omega
    have e : (l.eraseIdx (x.fmod l.length).toNat).length = l.length - 1 := List.length_eraseIdx_of_lt hk
    rw [List.foldl_cons, List.length_cons, outs, List.mem_flatMap]
    exact ⟨(x.fmod l.length).toNat, List.mem_range.mpr hk, outs_mem xs _ _ (by rw [e]; simp at h; omega)⟩

def bOf (d : List Int) : List UInt8 := d.map fun k => k.toNat.toUInt8
def okDraw (m : Nat) (ups downs : List (List UInt8)) (d : List Int) : Bool :=
  ((bOf d).map (fun c => (c.toNat : Int)) == d) && ((bOf d).length == m) && (ups.contains (bOf d) == decide (fallsI m (bOf d) = evensI m)) && (downs.contains (bOf d) == decide (fallsI m (bOf d) = oddsI m))
def okAll (m : Nat) : Bool :=
  let all := allO m
  let ups := all.filter fun b => turnsB b true
  let downs := all.filter fun b => turnsB b false
  decide (all.length ≤ 720) && (all.all fun b => b.length == m) && decide ((ups.length : Int) = T5 m) && (downs.length == ups.length) && decide (ups.length < 64) && (ups.all fun b => b.all fun c => decide (c.toNat + 1 ≤ m)) &&
  ((ups.map (compl m)).isPerm downs) && decide ((List.range m).map (fun (i : Nat) => cntO (firsts downs) (i : Int)) = rowL (m - 1)) && decide (((firsts downs).length : Int) = (rowL (m - 1)).sum) &&
  (all.all fun b => turnsB b.reverse (((m : Int).fmod 2) == 1) == turnsB b true) && ((outs m (upI m) []).all fun d => okDraw m ups downs d)
theorem ok1 : okAll 1 = true := by decide +kernel
theorem ok2 : okAll 2 = true := by decide +kernel
theorem ok3 : okAll 3 = true := by decide +kernel
theorem ok4 : okAll 4 = true := by decide +kernel
theorem ok5 : okAll 5 = true := by decide +kernel
theorem ok_all {m : Nat} (h1 : 1 ≤ m) (h5 : m ≤ 5) : okAll m = true := by
  have : m = 1 ∨ m = 2 ∨ m = 3 ∨ m = 4 ∨ m = 5 := by omega
  rcases this with rfl | rfl | rfl | rfl | rfl
  · exact ok1
  · exact ok2
  · exact ok3
  · exact ok4
  · exact ok5
structure Plain (m : Nat) : Prop where
  pz : (allO m).length ≤ 720
  pl : ∀ b ∈ allO m, b.length = m
  pu : ((upsO m).length : Int) = T5 m
  pd : (downsO m).length = (upsO m).length
  p64 : (upsO m).length < 64
  pc : ∀ b ∈ upsO m, ∀ c ∈ b, c.toNat + 1 ≤ m
  pp : ((upsO m).map (compl m)).Perm (downsO m)
  pr : (List.range m).map (fun (i : Nat) => cntO (firsts (downsO m)) (i : Int)) = rowL (m - 1)
  ps : ((firsts (downsO m)).length : Int) = (rowL (m - 1)).sum
  pv : ∀ b ∈ allO m, turnsB b.reverse (((m : Int).fmod 2) == 1) = turnsB b true
  po : ∀ d ∈ outs m (upI m) [], (bOf d).map (fun c => (c.toNat : Int)) = d ∧ (bOf d).length = m ∧ (upsO m).contains (bOf d) = decide (fallsI m (bOf d) = evensI m) ∧ (downsO m).contains (bOf d) = decide (fallsI m (bOf d) = oddsI m)
theorem plain {m : Nat} (h1 : 1 ≤ m) (h5 : m ≤ 5) : Plain m := by
  have h := ok_all h1 h5
  unfold okAll at h
  simp only [Bool.and_eq_true, decide_eq_true_eq, List.all_eq_true, beq_iff_eq, okDraw] at h
  obtain ⟨⟨⟨⟨⟨⟨⟨⟨⟨⟨a1, a2⟩, a3⟩, a4⟩, a5⟩, a6⟩, a7⟩, a8⟩, a9⟩, a10⟩, a11⟩ := h
  exact ⟨a1, a2, a3, a4, a5, a6, List.isPerm_iff.mp a7, a8, a9, a10, fun d hd => ⟨(a11 d hd).1.1.1, (a11 d hd).1.1.2, (a11 d hd).1.2, (a11 d hd).2⟩⟩
end Mine

namespace Mine

section
variable {prog : Program} {w : World} {A : Around} {E : Value → Shared → Prop} {s : Shared} {D : Ad} {mg mb : Str → Option Value}

theorem law_call {la l : Addr} {vs : List Value} {ns : List Int} {Q : Value → Shared → Prop} (X : ModOk D mg mb s.heap) (fl : FnOk s.heap la (stm 9)) (hA : A.handled = none) (hd : A.depth + 6 < recursionLimit) (hu : A.units + 110 < cLine)
    (hl : s.heap.IsList l vs.toArray) (hi : IntsAre vs ns) (hz : vs.length ≤ 63) (h : ∀ s', Keeps s s' → Q (.bool true) s') : wpN (model prog w) A (call (.ref la) [.ref l]) Q E s := by
  refine callFnN [("script", .ref l)] fl X.lim (by omega) (fun _ _ _ => rfl) rfl ?_
  intro L cd s₁ hL k01 F C
  have old1 : ∀ b o, s.heap.get? b = some o → s₁.heap.get? b = some o := kGet k01
  have n1 : s₁.heap.Ns L (bindL (envF (stm 9) L la cd).kindOf [("script", .ref l)] fun _ => none) := F.ns
  have sc : (bindL (envF (stm 9) L la cd).kindOf [("script", .ref l)] fun _ => none) "script" = some (.ref l) := rfl
  have m1 : s₁.heap.IsCell (L + 1) none := C.cell "many" _ rfl
  have o1 : s₁.heap.IsCell (L + 2) none := C.cell "order" _ rfl
  have q1 : s₁.heap.IsCell (L + 3) none := C.cell "calls" _ rfl
  generalize (bindL (envF (stm 9) L la cd).kindOf [("script", .ref l)] fun _ => none) = mm0 at n1 sc
  have hA' : (A.deeper (envF (stm 9) L la cd)).handled = none := hA
  have hu' : (A.deeper (envF (stm 9) L la cd)).units + 100 < cLine := by show A.units + 3 + 100 < cLine; omega
  have hd' : (A.deeper (envF (stm 9) L la cd)).depth + 4 < recursionLimit := by show A.depth + 1 + 4 < _; omega
  generalize hB : A.deeper (envF (stm 9) L la cd) = B at hA' hu' hd' ⊢
  have hs : s.heap.objs.size = L := hL.symm
  have geS : ∀ {w : List Addr}, (∀ x ∈ w, L ≤ x) → ∀ x ∈ w, s.heap.objs.size ≤ x := fun hw x hx => by rw [hs]; exact hw x hx
  have oldIn : ∀ {w : List Addr}, (∀ x ∈ w, L ≤ x) → ∀ b o, s.heap.get? b = some o → b ∉ w := fun hw b o e hm => absurd (Heap.lt_size e) (Nat.not_lt.mpr (geS hw b hm))
  rw [lw_all]
  clear F C
  -- many
  refine execsN_any (ex0 (X.keeps old1) hA' (islKeep hl old1) hi n1 sc m1 fun s₂ u k2 m2 => ?_)
  show wpN _ _ (execs _ _) _ _ _
  obtain ⟨m, em, h1, h5⟩ : ∃ m : Nat, 1 + ns.sum.fmod 5 = (m : Int) ∧ 1 ≤ m ∧ m ≤ 5 := by
    have g0 : 0 ≤ ns.sum.fmod 5 := Int.fmod_nonneg_of_pos _ (by decide)
    have g1 : ns.sum.fmod 5 < 5 := Int.fmod_lt_of_pos _ (by decide)
    exact ⟨(1 + ns.sum.fmod 5).toNat, by omega, by omega, by omega⟩
  rw [em] at m2
  have P := plain h1 h5
  have n2 := nsBut n1 k2.get (a0_1 L)
  have o2 := cellBut o1 k2.get (a2_1 L)
  have q2 := cellBut q1 k2.get (a3_1 L)
  have old2 := oldKeep old1 k2.get (geS (ge1 L))
  -- orders
  refine execsN_any (ex1 (X.keeps old2) hA' hd' (by omega) n2 m2 h5 fun R s₃ v0 k3 hR l3 b3 n3 => ?_)
  show wpN _ _ (execs _ _) _ _ _
  have wR := notW n2 o2 q2 hR
  have m3 := cellBut m2 k3.get (a1_0 L)
  have o3 := cellBut o2 k3.get (a2_0 L)
  have q3 := cellBut q2 k3.get (a3_0 L)
  have old3 := oldKeep old2 k3.get (geS (ge0 L))
  have h8 : ∀ b ∈ allO m, b.length ≤ 8 := fun b hb => by rw [P.pl b hb]; omega
  -- ups
  refine execsN_any (ex2 (X.keeps old3) hA' (by omega) (by omega) n3 rfl l3 b3 P.pz h8 fun U s₄ wu k4 hU l4 b4 n4 => ?_)
  show wpN _ _ (execs _ _) _ _ _
  have wU := notW n3 o3 q3 hU
  have m4 := cellBut m3 k4.get (a1_0 L)
  have o4 := cellBut o3 k4.get (a2_0 L)
  have q4 := cellBut q3 k4.get (a3_0 L)
  have old4 := oldKeep old3 k4.get (geS (ge0 L))
  have lR4 := Mine.PlainL.but l3 k4.get wR.w0
  -- downs
  refine execsN_any (ex3 (X.keeps old4) hA' (by omega) (by omega) n4 rfl lR4 b3 P.pz h8 fun Dn s₅ wd k5 hDn l5 b5 n5 => ?_)
  show wpN _ _ (execs _ _) _ _ _
  have wD := notW n4 o4 q4 hDn
  have m5 := cellBut m4 k5.get (a1_0 L)
  have o5 := cellBut o4 k5.get (a2_0 L)
  have q5 := cellBut q4 k5.get (a3_0 L)
  have old5 := oldKeep old4 k5.get (geS (ge0 L))
  have lR5 := Mine.PlainL.but lR4 k5.get wR.w0
  have lU5 := Mine.PlainL.but l4 k5.get wU.w0
  have zu : wu.length = (upsO m).length := BL.len b4
  have zd : wd.length = (downsO m).length := BL.len b5
  have p64 := P.p64
  have pd := P.pd
  have d64 : (downsO m).length < 64 := by omega
  have d100 : (downsO m).length ≤ 100 := by omega
  -- the counts
  refine execsN_any (ex4 (X.keeps old5) n5 rfl rfl lU5 l5 m5 h1 h5 (by rw [zu]; exact P.pu) (by omega) (by omega) fun s₆ k6 => ?_)
  show wpN _ _ (execs _ _) _ _ _
  -- what it lacks
  refine execsN_any (ex5 (X.keeps fun b o e => kGet k6 _ _ (old5 b o e)) hA' (by omega) (n5.keeps (kGet k6)) rfl rfl (lU5.keeps (kGet k6)) (l5.keeps (kGet k6)) (m5.keeps (kGet k6)) h1 h5 b4 b5 P.p64 d64
    (fun b hb => ⟨h8 b (List.mem_filter.mp hb).1, P.pc b hb⟩) P.pp fun s₇ k7 => ?_)
  show wpN _ _ (execs _ _) _ _ _
  have k57 := kTrans k6 k7
  have n7 := n5.keeps (kGet k57)
  have m7 := m5.keeps (kGet k57)
  have o7 := o5.keeps (kGet k57)
  have q7 := q5.keeps (kGet k57)
  have old7 : ∀ b o, s.heap.get? b = some o → s₇.heap.get? b = some o := fun b o e => kGet k57 _ _ (old5 b o e)
  -- calls
  refine execsN_any (ex6 q7 fun N0 s₈ k8 hN0 d8 q8 => ?_)
  show wpN _ _ (execs _ _) _ _ _
  have wN := notW n7 o7 q7 (noneAt hN0)
  have n8 := nsBut n7 k8.get (a0_3 L)
  have m8 := cellBut m7 k8.get (a1_3 L)
  have o8 := cellBut o7 k8.get (a2_3 L)
  have old8 := oldKeep old7 k8.get (geS (ge3 L))
  have lR8 := Mine.PlainL.but (lR5.keeps (kGet k57)) k8.get wR.w3
  have lU8 := Mine.PlainL.but (lU5.keeps (kGet k57)) k8.get wU.w3
  have lD8 := Mine.PlainL.but (l5.keeps (kGet k57)) k8.get wD.w3
  refine execsN_any (ex7 (X.keeps old8) hA' (by omega) (by omega) n8 rfl lD8 b5 (fun b hb => ⟨by rw [P.pl b (List.mem_filter.mp hb).1]; exact h1, h8 b (List.mem_filter.mp hb).1⟩) d100 o8 q8 d8 (newSys (X.keeps old7) hN0)
    (fun g hg => X.keeps fun b o e => hg b o (oldIn (ge23 L) b o e) (old8 b o e)) wD.w23 wN fun s₉ N xs v9 k9 o9 q9 sN wN9 wx dN kN gd => ?_)
  show wpN _ _ (execs _ _) _ _ _
  have n9 := nsBut n8 k9.get (a0_23 L)
  have m9 := cellBut m8 k9.get (a1_23 L)
  have old9 := oldKeep old8 k9.get (geS (ge23 L))
  have lR9 := Mine.PlainL.but lR8 k9.get wR.w23
  have lU9 := Mine.PlainL.but lU8 k9.get wU.w23
  have lD9 := Mine.PlainL.but lD8 k9.get wD.w23
  -- row
  refine execsN_any (ex8 (X.keeps old9) hA' (by omega) n9 m9 h1 h5 fun Rr s₁₀ wr k10 hRr l10 i10 n10 => ?_)
  show wpN _ _ (execs _ _) _ _ _
  have m10 := cellBut m9 k10.get (a1_0 L)
  have o10 := cellBut o9 k10.get (a2_0 L)
  have q10 := cellBut q9 k10.get (a3_0 L)
  have old10 := oldKeep old9 k10.get (geS (ge0 L))
  have lR10 := Mine.PlainL.but lR9 k10.get wR.w0
  have lU10 := Mine.PlainL.but lU9 k10.get wU.w0
  have lD10 := Mine.PlainL.but lD9 k10.get wD.w0
  have dN10 := dN.but k10.get wN9.w0
  have kN10 := keysBut kN k10.get fun y hy => (wx y hy).w0
  refine execsN_any (ex9 (X.keeps old10) hA' (by omega) (by omega) n10 rfl l10 i10 m10 h5 q10 sN dN10 kN10 gd P.pr P.ps fun s₁₁ k11 => ?_)
  show wpN _ _ (execs _ _) _ _ _
  have n11 := n10.keeps (kGet k11)
  have m11 := m10.keeps (kGet k11)
  have o11 := o10.keeps (kGet k11)
  have old11 : ∀ b o, s.heap.get? b = some o → s₁₁.heap.get? b = some o := fun b o e => kGet k11 _ _ (old10 b o e)
  have lR11 := lR10.keeps (kGet k11)
  have lU11 := lU10.keeps (kGet k11)
  have lD11 := lD10.keeps (kGet k11)
  -- turned about
  refine execsN_cons (ex10 hA' (by omega) (by omega) n11 rfl lR11 b3 P.pz h1 h5 P.pl m11 o11 (fun g hg => X.keeps fun b o e => hg b o (oldIn (ge02 L) b o e) (old11 b o e)) P.pv fun s₁₂ mm12 v12 k12 n12 e12 o12 => ?_)
  show wpN _ _ (execs _ _) _ _ _
  have m12 := cellBut m11 k12.get (a1_02 L)
  have old12 := oldKeep old11 k12.get (geS (ge02 L))
  have lU12 := Mine.PlainL.but lU11 k12.get wU.w02
  have lD12 := Mine.PlainL.but lD11 k12.get wD.w02
  have sc12 : mm12 "script" = some (.ref l) := (e12 _ (by decide)).trans sc
  have u12 : mm12 "ups" = some (.ref U) := (e12 _ (by decide)).trans rfl
  have d12 : mm12 "downs" = some (.ref Dn) := (e12 _ (by decide)).trans rfl
  -- left and drawn
  refine execsN_any (ex11 (X.keeps old12) hA' n12 m12 h1 h5 fun F G s₁₃ vl k13 hF hG nFG lF iF lG n13 => ?_)
  show wpN _ _ (execs _ _) _ _ _
  have m13 := cellBut m12 k13.get (a1_0 L)
  have o13 := cellBut o12 k13.get (a2_0 L)
  have old13 := oldKeep old12 k13.get (geS (ge0 L))
  have lU13 := Mine.PlainL.but lU12 k13.get wU.w0
  have lD13 := Mine.PlainL.but lD12 k13.get wD.w0
  have fL : F ≠ L := neNew (nsEx n12) hF
  have gL : G ≠ L := neNew (nsEx n12) hG
  have exs : ∀ {a : Addr}, (∃ o, s₁₂.heap.get? a = some o) → a ∉ [L] → a ∉ [L, F, G] := fun ha h0 hm => by
    simp only [List.mem_cons, List.not_mem_nil, or_false] at hm
    rcases hm with q | q | q
    · exact h0 (List.mem_singleton.mpr q)
    · exact neNew ha hF q.symm
    · exact neNew ha hG q.symm
  have oldFG : ∀ b o, s.heap.get? b = some o → b ∉ [L, F, G] := fun b o e => exs ⟨o, old12 b o e⟩ (oldIn (ge0 L) b o e)
  -- the draws
  refine execsN_any (ex12 hA' n13 m13 h1 h5 sc12 (islKeep hl old13) hi hz rfl rfl nFG lF iF lG fL gL (fun g hg => X.keeps fun b o e => hg b o (oldFG b o e) (old13 b o e)) fun s₁₄ mm14 vd k14 n14 e14 lG14 iG14 => ?_)
  show wpN _ _ (execs _ _) _ _ _
  have m14 := cellBut m13 k14.get (exs (cellEx m12) (a1_0 L))
  have o14 := cellBut o13 k14.get (exs (cellEx o12) (a2_0 L))
  have old14 : ∀ b o, s.heap.get? b = some o → s₁₄.heap.get? b = some o := fun b o e => k14.get b o (oldFG b o e) (old13 b o e)
  have lU14 := Mine.PlainL.but lU13 k14.get (exs (Mine.PlainL.some lU12) wU.w0)
  have lD14 := Mine.PlainL.but lD13 k14.get (exs (Mine.PlainL.some lD12) wD.w0)
  have g14 : mm14 "drawn" = some (.ref G) := (e14 _ (by decide)).trans rfl
  have u14 : mm14 "ups" = some (.ref U) := (e14 _ (by decide)).trans u12
  have d14 : mm14 "downs" = some (.ref Dn) := (e14 _ (by decide)).trans d12
  have hmem : (drawn m (feed m ns)).2 ∈ outs m (upI m) [] := by
    have := outs_mem (feed m ns) (upI m) [] (by rw [feed_len ns h5, upI_len]; exact Nat.le_refl _)
    rw [feed_len ns h5] at this
    exact this
  obtain ⟨p1, p2, p3, p4⟩ := P.po _ hmem
  generalize (drawn m (feed m ns)).2 = dr at iG14 p1 p2 p3 p4
  rw [← p1] at iG14
  -- the drawn order
  refine execsN_any (ex13 (X.keeps old14) hA' n14 g14 lG14 iG14 (by omega) o14 fun s₁₅ t15 k15 o15 => ?_)
  show wpN _ _ (execs _ _) _ _ _
  have n15 := nsBut n14 k15.get (a0_2 L)
  have m15 := cellBut m14 k15.get (a1_2 L)
  have old15 := oldKeep old14 k15.get (geS (ge2 L))
  have lU15 := Mine.PlainL.but lU14 k15.get wU.w2
  have lD15 := Mine.PlainL.but lD14 k15.get wD.w2
  -- its falls
  refine execsN_any (ex14 (X.keeps old15) hA' n15 m15 h1 h5 o15 p2 fun Rf s₁₆ vf k16 hRf l16 i16 n16 => ?_)
  show wpN _ _ (execs _ _) _ _ _
  have m16 := cellBut m15 k16.get (a1_0 L)
  have o16 := cellBut o15 k16.get (a2_0 L)
  have old16 := oldKeep old15 k16.get (geS (ge0 L))
  have lU16 := Mine.PlainL.but lU15 k16.get wU.w0
  have lD16 := Mine.PlainL.but lD15 k16.get wD.w0
  refine execsN_any (ex15 (X.keeps old16) hA' (by omega) n16 m16 h1 h5 u14 d14 rfl lU16 lD16 l16 b4 b5 i16 o16 p3 p4 fun s₁₇ k17 => ?_)
  refine h s₁₇ (keepsOf ?_ fun b o e => kGet k17 _ _ (old16 b o e))
  have sm := fun {a b : Shared} {w : List Addr} (k : KeepsBut w a b) => KeepsBut.same k
  have sk := fun {a b : Shared} (k : Keeps a b) => KeepsBut.same (Mine.Keeps.but (wr := []) k)
  exact sameTrans (sk k01) (sameTrans (sm k2) (sameTrans (sm k3) (sameTrans (sm k4) (sameTrans (sm k5) (sameTrans (sk k57) (sameTrans (sm k8) (sameTrans (sm k9) (sameTrans (sm k10) (sameTrans (sk k11) (sameTrans (sm k12) (sameTrans (sm k13) (sameTrans (sm k14) (sameTrans (sm k15) (sameTrans (sm k16) (sk k17)))))))))))))))
end
end Mine

namespace Mine

theorem caller_nice : Nice (⟨.builtin "claim.caller" {}, none, none, [], none⟩ : Ctx) := ⟨by decide +kernel, fun x hx => by cases hx⟩
theorem ends_n {prog : Program} {w : World} {t : Sem Fin} {s : Shared} {R : Result → Shared → Prop} (hreg : s.asleep)
    (h : wpN (model prog w) callerA t (fun fin s' => ∃ f, fin = .done f ∧ (R (.ok f) s' ∧ leftWithCleanup s'.gens = false)) (fun e s' => R (.error e) s' ∧ leftWithCleanup s'.gens = false) s) :
    ∃ n r s' s'', runN (denote table) prog w n s ⟨t, .builtin "claim.caller" {}, default, []⟩ = .halted (outcomeOf r) s' ∧
      schedN (denote table) prog w n (.single s ⟨t, .builtin "claim.caller" {}, default, []⟩) = .halted (outcomeOf r) s' ∧ s'.forget = s''.forget ∧ R r s'' := by
  have hw : Sem.wp (model prog w) ⟨.builtin "claim.caller" {}, none, none, [], none⟩ t (Sem.finPost (model prog w) ⟨.builtin "claim.caller" {}, none, none, [], none⟩ fun r s' => R r s' ∧ leftWithCleanup s'.gens = false)
      (fun e _ s' => R (.error e) s' ∧ leftWithCleanup s'.gens = false) default s := by
    refine Sem.wp_mono _ _ t (fun fin p' s' h' => ?_) (fun _ _ _ h' => h') default s (h _ default caller_in caller_nice)
    obtain ⟨f, rfl, hf⟩ := h'
    exact hf
  obtain ⟨n, r, s₁, s₂, hs, hn, hfo, hR⟩ := wp_halts_full (M := model prog w) (R := R) hreg hw
  exact ⟨n, r, s₂, s₁, hn, hs, hfo, hR⟩
theorem from_n {c : ClaimW} {tree : List Value → Sem Fin} {w : World} {s : Shared} {free : Addr → Prop} {gens : Prop} {kept : Heap → Prop} (hz : s.asleep) (hgens : s.gens = #[])
    (hspec : ∀ args, c.pre args = true → WData.layableAll args = true → ∀ ord : List DictEntry → List DictEntry, (∀ l, (ord l).Perm l) →
      ∃ vs s₁, layAllW c.records (classAt s.heap) w.params ord args s = some (vs, s₁) ∧
        wpN (model c.prog w) callerA (tree vs) (fun fin s' => ∃ f, fin = .done f ∧ (c.Ends s args vs s₁ (.ok f) s' ∧ s'.os = s.os ∧ AllBare s'.gens ∧ kept s'.heap))
          (fun e s' => c.Ends s args vs s₁ (.error e) s' ∧ s'.os = s.os ∧ AllBare s'.gens ∧ kept s'.heap) s₁) :
    c.CallFrom (fun vs => ⟨tree vs, .builtin "claim.caller" {}, default, []⟩) w free gens kept s := by
  intro args hpre hlay ord hord
  obtain ⟨vs, s₁, hlaid, hcode⟩ := hspec args hpre hlay ord hord
  have hal := layAllW_rest _ _ _ hlaid
  obtain ⟨k, r, s', s'', hrun, hsched, hfo, hcase, hos, hkp⟩ := ends_n (prog := c.prog) (w := w) (t := tree vs) (s := s₁) (R := fun r s' => c.Ends s args vs s₁ r s' ∧ s'.os = s.os ∧ kept s'.heap)
    (Shared.asleep_of_life hal.2.2.2 hz)
    (wpN_mono hcode (by rintro fin s' ⟨f, e, h1, h2, h3, h4⟩; exact ⟨f, e, ⟨h1, h2, h4⟩, leftWithCleanup_false_of_bare h3⟩) (by rintro e s' ⟨h1, h2, h3, h4⟩; exact ⟨⟨h1, h2, h4⟩, leftWithCleanup_false_of_bare h3⟩))
  obtain ⟨eh, _, _, eo, _⟩ := Shared.forget_eq hfo
  replace hcase := hcase.congr eh
  replace hkp : kept s'.heap := eh ▸ hkp
  rw [← eo] at hos
  have hlife : s'.heap.life = s.heap.life := (runN_life _ _ _ hrun).trans hal.2.2.2
  refine ⟨vs, s₁, hlaid, k, _, s', hsched, ?_, (fun _ i x hx => by rw [hgens] at hx; simp at hx), hkp, by rw [hlife], Shared.rest_eq hos⟩
  rcases hcase with ⟨v, rfl, d1, d2, d3, d4, d5⟩ | ⟨e, ob, cls, rfl, d1, d2, d3, d4, d5⟩
  · exact .inl ⟨v, rfl, d1, d2, d3, fun b o y _ => d4 b o y, d5⟩
  · exact .inr ⟨e, ob, cls, rfl, d1, d2, d3, d4, fun b o y _ => d5 b o y⟩

/-- what a walk under the watch has to show -/
abbrev WalkB (q : Program) (loose : List Str) (XP : (Str → Option Value) → Heap → Prop) (YP : World → Heap → Prop) (r : RowW) (d : DefRec) : Prop :=
  ∀ (w : World) (s₀ s₁ : Shared) (mg mb : Str → Option Value), Ground q loose r.records XP w s₀ mg mb s₁.heap → YP w s₁.heap → ∀ (a : Addr) (o : Obj) (pm cd doc dV kV : Value), s₁.heap.get? a = some o →
    o.data = .func { docDef d.name d.params d.body d.scope pm cd doc with defaults := dV, kwdefaults := kV } → s₁.heap.CodeRec cd d.name → mg d.name = some (.ref a) → s₁.gens = #[] →
    ∀ (args : List WData) (vals : List Value) (as : List Addr), r.claim.pre args = true → WData.layableAll args = true → ReadsAllW r.records (classAt s₀.heap) s₁.heap vals args as → WellAll w.params s₁.heap vals args → (∀ a ∈ as, (a == sysModules) = false) →
      wpN (model r.prog w) callerA (PySem.call (.ref a) vals) (fun v s' => GoodWG r.claim (classAt s₀.heap) (ExcName.means s₀.heap) args s₁ (.ok (.ret v)) s')
        (fun e s' => GoodWG r.claim (classAt s₀.heap) (ExcName.means s₀.heap) args s₁ (.error e) s') s₁
end Mine
namespace Mine.PySem.W
/-- the head under the watch: the same shape as the library's, so that its line finds it -/
theorem holds_open {r : OpenRow} {q : Program} {loose : List Str} {Xt : Shared → Bool} {XP : (Str → Option Value) → Heap → Prop} {α : Type} {Yf : Shared → α} {Ya : World → α} {YP : World → Heap → Prop} {d : DefRec} {kwd : List (Str × Expr)} {N : Nat}
    (left : LeftO r.prog q loose Xt Yf Ya N) (hY : ∀ w s, Yf s = Ya w → YP w s.heap) (hYk : ∀ w h h', YP w h → (∀ b o, h.get? b = some o → h'.get? b = some o) → YP w h')
    (hX : ∀ s, Xt s = true → XP (s.heap.nsMap mainGlobals) s.heap) (hXk : ∀ mg h h', XP mg h → (∀ b o, h.get? b = some o → h'.get? b = some o) → XP mg h')
    (hdef : defOf q r.name = some (d, kwd)) (hp : r.prog.theDef r.name = some (d.params, d.body, d.scope)) (hk : kwWritten? d.params.kwonlyargs d.params.kw_defaults = some kwd) (hRf : ∀ s, Xt s = true → RecFacts r.records s.heap) (hwr : (!r.writes || r.records.isEmpty) = true)
    (k1 : r.wellSaid = true) (ok : (chainsOk q && opensWell r.prog && (frees r.toRowW && r.within.isEmpty)) = true) (hb : r.prog.bare) (hw : r.toRowW.promised)
    (call : WalkB q loose XP YP r.toRowW d) : r.Holds := by
  refine ⟨k1, hw, ?_⟩
  obtain ⟨ok, k5⟩ := Bool.and_eq_true_iff.mp ok
  obtain ⟨hch, o1⟩ := Bool.and_eq_true_iff.mp ok
  obtain ⟨k5, k6⟩ := Bool.and_eq_true_iff.mp k5
  obtain ⟨hsame, hu, ha, hap, hm⟩ := frees_parts k5
  refine ⟨⟨hb, o1, by show r.makers.map _ = []; rw [hm]; rfl⟩, hw.witness, fun w => ⟨(left.behind hX hch w).1, fun s' hs' => ?_⟩⟩
  obtain ⟨s₀, hf, hg0, s, hT, hz, hgens, hg, G00, y⟩ := (left.behind (XP := fun mg h => XP mg h ∧ RecFacts r.records h) (fun s hs => ⟨hX s hs, hRf s hs⟩) hch w).2 s' hs'
  have G0 : Ground q loose [] XP w s (s.heap.nsMap mainGlobals) (s.heap.nsMap builtinsNs) s.heap := ⟨G00.T, G00.B, G00.D, G00.TE, G00.TD, G00.W, G00.X.1, G00.cls, G00.has, G00.apart, G00.once, G00.K⟩
  have RF := G00.X.2
  have hT' := hT
  refine ⟨s₀, hf, hg0, s, hT, ?_, RF.1, RF.2.1, ?_⟩
  · intro n hn
    obtain rfl : n = r.name := by split at hn <;> simp_all
    exact pinned_of_view hg G0 hdef hp hk
  have hgens : s.gens = #[] := Array.eq_empty_of_size_eq_zero (beq_iff_eq.mp hgens)
  have G : Ground q loose r.records XP w s _ _ s.heap := RF.ground G0
  refine from_n (c := r.toRowW.claim) (tree := fun vs => do match ← nsGet mainNs r.name with
      | some f => do ret (← PySem.call f vs)
      | none => unsupported "claim.caller:no-such-global") hz hgens fun args hpre hlay ord hord => ?_
  obtain ⟨⟨vs, s₁⟩, hlaid⟩ := Option.isSome_iff_exists.mp (layAllW_isSome (P := w.params) (ord := ord) G.has args r.args s (pre_splitW hpre).1)
  have keeps := layAllW_keeps _ _ _ hlaid
  have hal := layAllW_rest _ _ _ hlaid
  obtain ⟨as, hrd, hin, hold⟩ := reads_layAllW hord _ _ _ hlaid hlay s₁.heap (fun _ _ e => e)
  have L : Laid r.records w s s₁ args vs as := ⟨⟨ord, hord, hlaid⟩, hrd, hin, hold, keeps, hal.1.trans hgens, hal.2.2.1⟩
  have G₁ := G.keeps hXk keeps
  obtain ⟨a, o, pm, cd, doc, dV, kV, h1, h2, h3, h4, h5⟩ := G₁.fn hdef
  have h := call w s s₁ _ _ G₁ (hYk _ _ _ (hY w s y) keeps) a o pm cd doc dV kV h2 h3 h4 (defOf_name hdef ▸ h1) L.gens args vs as hpre hlay L.reads L.well (L.low G.low)
  have hi := ident_freeW hu ha hap
  have hwi : r.toRowW.claim.within = [] := List.isEmpty_iff.mp k6
  refine ⟨vs, s₁, hlaid, wpN_bindA (wpAny_nsGet G₁.T.g ?_)⟩
  rw [h1]
  refine wpN_bind (wpN_mono h (fun v s' g => wpN_any (wpAny_pure ⟨_, rfl, ?_⟩)) fun e s' g => ?_)
  · have z := g.laid (c := r.toRowW.claim) hsame hwi hi L
    exact ⟨z.1, z.2.1, z.2.2, fun q => ⟨namesKept_of hT' hg r.keeps keeps g.2.1.old, noTable hwr q⟩⟩
  · have z := g.laid (c := r.toRowW.claim) hsame hwi hi L
    exact ⟨z.1, z.2.1, z.2.2, fun q => ⟨namesKept_of hT' hg r.keeps keeps g.2.1.old, noTable hwr q⟩⟩
end Mine.PySem.W

namespace Mine
theorem p_post (args ds : List WData) : PySem.Challenge.rw_gl0001_01.row.toRowW.claim.post args (WData.bool true) ds = true := by kernel_rfl
def posOf : Stmt → Pos
  | .FunctionDef _ _ _ _ _ _ _ _ _ p => p
  | _ => ⟨0, 0, 0, 0⟩
def recOf (st : Stmt) : DefRec := ⟨nmOf st, prOf st, bdOf st, scOf st, posOf st⟩
section
variable {q : Program} {loose : List Str} {mean : ExcName → Option Value} {mg mb : Str → Option Value} {h : Heap}
theorem fnAt (T : Top q loose mean mg mb h) (i : Nat) (st : Stmt) (e : (recsOf q)[i]? = some (recOf st)) : ∃ a, FnOk h a st ∧ mg (nmOf st) = some (.ref a) := by
  obtain ⟨a, o, pm, cd, doc, h1, h2, h3, h4⟩ := T.fn _ (List.mem_of_getElem? e)
  exact ⟨a, ⟨o, pm, cd, doc, h2, h3, h4⟩, h1⟩
def noName (q : Program) (loose : List Str) (x : Str) : Bool :=
  !(startupNames.contains x) && !(loose.contains x) && !(((recsOf q).map (·.name)).contains x) && !(((litsOf q).map (·.1)).contains x) && !(((clssOf q loose).map (·.name)).contains x) && !(x == "__name__")
theorem bltAt (T : Top q loose mean mg mb h) {x : Str} {v : Value} (e : noName q loose x = true) (hb : bootBuiltins x = some v) : mg x = none ∧ mb x = some v := by
  unfold noName at e
  simp only [Bool.and_eq_true, Bool.not_eq_true', List.contains_eq_mem, decide_eq_false_iff_not, beq_eq_false_iff_ne] at e
  obtain ⟨⟨⟨⟨⟨a1, a2⟩, a3⟩, a4⟩, a5⟩, a6⟩ := e
  exact ⟨T.free x a1 a2 a3 a4 a5, (T.builtins x a6).trans hb⟩
end
set_option maxHeartbeats 8000000 in
theorem wk : PySem.Challenge.rw_gl0001_01.Holds := by
  w_on; o_law; k_head; (case hw => w_witness2)
  intro w s₀ s₁ mg mb G Y a o pm cd doc dV kV ho hdd hcd hmg hg args vals as hpre hlay hrd hwl hlo
  have T := G.T
  clear Y hdd ho hcd
  obtain ⟨ac, fac, gac⟩ := fnAt T 0 (stm 1) (by kernel_rfl)
  obtain ⟨cc, fcc, gcc⟩ := fnAt T 1 (stm 2) (by kernel_rfl)
  obtain ⟨bs, fbs, gbs⟩ := fnAt T 2 (stm 4) (by kernel_rfl)
  obtain ⟨lo, flo, glo⟩ := fnAt T 3 (stm 6) (by kernel_rfl)
  obtain ⟨lt, flt, glt⟩ := fnAt T 4 (stm 7) (by kernel_rfl)
  obtain ⟨lr, flr, glr⟩ := fnAt T 5 (stm 8) (by kernel_rfl)
  obtain ⟨la, fla, gla⟩ := fnAt T 6 (stm 9) (by kernel_rfl)
  have ea : a = la := by
    have e : mg "law" = some (.ref a) := hmg
    rw [show mg "law" = some (.ref la) from gla] at e
    injection e with e
    injection e with e
    exact e.symm
  subst ea
  have X : ModOk ⟨ac, cc, bs, lo, lt, lr⟩ mg mb s₁.heap :=
    { lim := T.nolimit, g := T.g, b := T.b, fac := fac, fcc := fcc, fbs := fbs, flo := flo, flt := flt, flr := flr, gac := gac, gcc := gcc, gbs := gbs, glo := glo, glt := glt, glr := glr
      bsum := bltAt T (by decide +kernel) (by kernel_rfl), blen := bltAt T (by decide +kernel) (by kernel_rfl), bsor := bltAt T (by decide +kernel) (by kernel_rfl), bisi := bltAt T (by decide +kernel) (by kernel_rfl)
      bran := bltAt T (by decide +kernel) (by kernel_rfl), bbyt := bltAt T (by decide +kernel) (by kernel_rfl), blis := bltAt T (by decide +kernel) (by kernel_rfl), btup := bltAt T (by decide +kernel) (by kernel_rfl), bbya := bltAt T (by decide +kernel) (by kernel_rfl) }
  clear G T hmg gac gcc gbs glo glt glr gla fac fcc fbs flo flt flr
  wrow_args hpre hlay hrd hwl hlo
  rename_i w5 _ _ _ _ _ _ _ w2 w1 _ hL _ _ _ hI _ hc1 _
  refine law_call X fla rfl (by decide) (by decide) hL hI (by rw [hI.length]; omega) fun s' k => ?_
  obtain ⟨h', tk, rfl, kp⟩ := k
  exact GoodW.toG ⟨.inl ⟨.bool true, .bool true, [], rfl, fun _ => rfl, .bool true, p_post _ _, fun _ => ⟨List.nodup_nil, fun _ hx => by cases hx⟩⟩, kp, rfl, hg⟩
end Mine


theorem PySem.Challenge.cw_gl0001_01_holds : PySem.Challenge.rw_gl0001_01.Holds := by
  exact Mine.wk
