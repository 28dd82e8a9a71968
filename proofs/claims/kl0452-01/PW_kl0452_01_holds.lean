import PyProof.Rows.All
import Wide.All
import OpenK.AllK
import Wide.FinOn
import PyProof.NoPylong
import PyProof.Rows.TupMore
import PySem.Challenge.RW_kl0452_01
open PySem PySem.W PyProof.Rows
set_option Elab.async false
set_option maxRecDepth 100000
set_option maxHeartbeats 0
set_option linter.all false
namespace Mine
section
local macro_rules | `(tactic| refine $_) => `(tactic| assumption)
/-- says nothing: k_head leaves the definitions of the heap's written part and of the view here -/
theorem hd0 (_ : (OpenLaw.row PySem.Challenge.rw_kl0452_01).Holds) : (OpenLaw.row PySem.Challenge.rw_kl0452_01).Holds := by k_head
end
/-- the heap's written part, and the two objects of the zone UTC -/
noncomputable def hd.heap_39 : Params → Frag := fun P => by
  refine' (fun (x : Frag) (_ : x = List.cons (nat_lit 49, { cls := Value.type "datetime.timedelta", data := Data.fields #[Value.int 0 0, Value.int 0 0, Value.int 0 0] }) (List.cons (nat_lit 50, { cls := Value.type "datetime.timezone", data := Data.fields #[Value.ref 49, Value.none] }) (hd0.heap_1 P))) => x) _ ?h
  case h => delta hd0.heap_1; exact rfl
noncomputable abbrev hd.view_39 : Program := hd0.view_1
noncomputable section KDefss
noncomputable abbrev LS : List Str := looseW hd.view_39
      [Str.ofString "_EPOCH_ORD", Str.ofString "DAYS", Str.ofString "MONTHS", Str.ofString "MONTHS_LOWER",
        Str.ofString "time2netscape", Str.ofString "UTC_ZONES", Str.ofString "TIMEZONE_RE", Str.ofString "_monthnames",
        Str.ofString "_daynames", Str.ofString "_timezones", Str.ofString "_DAYS_IN_MONTH",
        Str.ofString "_DAYS_BEFORE_MONTH", Str.ofString "_DI400Y", Str.ofString "_DI100Y", Str.ofString "_DI4Y"]
abbrev PG : Program := PySem.Challenge.rw_kl0452_01.row.toRowW.prog
/-- a def of the text, called from any def: its answer is the value R -/
def ClaimV (w : World) (mean : ExcName → Option Value) (mg mb : Str → Option Value) (f : Addr) (dd : Nat) (pre : List (Addr × Obj) → Prop) (vs : List Value) (R : Tok → Value) : Prop :=
  ∀ (news : List (Addr × Obj)) (dp un : Nat) (gd : Option (List Code)) (cn : Str) (cs : Scope) (a : Addr) (ccd : Value) (cl : List (Str × Addr)) (outer : List Env) (A₀ : Around) (base h₀ : Heap) (L : Addr) (m : Str → Option Value) (s : Shared) (Q E : Value → Shared → Prop),
    Below A₀ base outer h₀ → Fr h₀ L s.heap m → (hd.heap_39 w.params).In h₀ → News h₀ L s.heap news → Top hd.view_39 LS mean mg mb h₀ → cs.kind = .function →
    pre news → dp + dd < recursionLimit → un + 8 * dd < cLine →
    (∀ (t : Tok) (h' : Heap) (tk' : Nat), Fr h₀ L h' m → News h₀ L h' news → Q (R t) { s with heap := h', toks := tk' }) →
    wpAny (model PySem.Challenge.rw_kl0452_01.row.toRowW.prog w) (ktrTop dp un gd cn cs L a ccd cl outer) (call (.ref f) vs) Q E s
/-- a def of the text, called from any def: its answer is a new object R -/
def ClaimO (w : World) (mean : ExcName → Option Value) (mg mb : Str → Option Value) (f : Addr) (dd : Nat) (pre : List (Addr × Obj) → Prop) (vs : List Value) (R : (Nat → Tok) → Obj) : Prop :=
  ∀ (news : List (Addr × Obj)) (dp un : Nat) (gd : Option (List Code)) (cn : Str) (cs : Scope) (a : Addr) (ccd : Value) (cl : List (Str × Addr)) (outer : List Env) (A₀ : Around) (base h₀ : Heap) (L : Addr) (m : Str → Option Value) (s : Shared) (Q E : Value → Shared → Prop),
    Below A₀ base outer h₀ → Fr h₀ L s.heap m → (hd.heap_39 w.params).In h₀ → News h₀ L s.heap news → Top hd.view_39 LS mean mg mb h₀ → cs.kind = .function →
    pre news → dp + dd < recursionLimit → un + 8 * dd < cLine →
    (∀ (τ : Nat → Tok) (x : Addr) (h' : Heap) (tk' : Nat), Fr h₀ L h' m → News h₀ L h' ((x, R τ) :: news) → (∀ p ∈ news, p.1 < x) → Q (.ref x) { s with heap := h', toks := tk' }) →
    wpAny (model PySem.Challenge.rw_kl0452_01.row.toRowW.prog w) (ktrTop dp un gd cn cs L a ccd cl outer) (call (.ref f) vs) Q E s
theorem ClaimV.use {w : World} {mean : ExcName → Option Value} {mg mb : Str → Option Value} {f : Addr} {dd : Nat} {pre : List (Addr × Obj) → Prop} {vs : List Value} {R : Tok → Value}
    {news : List (Addr × Obj)} {dp un : Nat} {gd : Option (List Code)} {cn : Str} {cs : Scope} {a : Addr} {ccd : Value} {cl : List (Str × Addr)} {outer : List Env} {A₀ : Around} {base h₀ : Heap} {L : Addr} {m : Str → Option Value} {s : Shared} {Q E : Value → Shared → Prop}
    (C : ClaimV w mean mg mb f dd pre vs R) (k1 : Below A₀ base outer h₀) (k2 : Fr h₀ L s.heap m) (k3 : (hd.heap_39 w.params).In h₀) (k4 : News h₀ L s.heap news) (k5 : Top hd.view_39 LS mean mg mb h₀) (kK : cs.kind = .function)
    (kp : pre news) (kd : dp + dd < recursionLimit) (ku : un + 8 * dd < cLine)
    (kR : ∀ (t : Tok) (h' : Heap) (tk' : Nat), Fr h₀ L h' m → News h₀ L h' news → Q (R t) { s with heap := h', toks := tk' }) :
    wpAny (model PySem.Challenge.rw_kl0452_01.row.toRowW.prog w) (ktrTop dp un gd cn cs L a ccd cl outer) (call (.ref f) vs) Q E s := C news dp un gd cn cs a ccd cl outer A₀ base h₀ L m s Q E k1 k2 k3 k4 k5 kK kp kd ku kR
theorem ClaimO.use {w : World} {mean : ExcName → Option Value} {mg mb : Str → Option Value} {f : Addr} {dd : Nat} {pre : List (Addr × Obj) → Prop} {vs : List Value} {R : (Nat → Tok) → Obj}
    {news : List (Addr × Obj)} {dp un : Nat} {gd : Option (List Code)} {cn : Str} {cs : Scope} {a : Addr} {ccd : Value} {cl : List (Str × Addr)} {outer : List Env} {A₀ : Around} {base h₀ : Heap} {L : Addr} {m : Str → Option Value} {s : Shared} {Q E : Value → Shared → Prop}
    (C : ClaimO w mean mg mb f dd pre vs R) (k1 : Below A₀ base outer h₀) (k2 : Fr h₀ L s.heap m) (k3 : (hd.heap_39 w.params).In h₀) (k4 : News h₀ L s.heap news) (k5 : Top hd.view_39 LS mean mg mb h₀) (kK : cs.kind = .function)
    (kp : pre news) (kd : dp + dd < recursionLimit) (ku : un + 8 * dd < cLine)
    (kR : ∀ (τ : Nat → Tok) (x : Addr) (h' : Heap) (tk' : Nat), Fr h₀ L h' m → News h₀ L h' ((x, R τ) :: news) → (∀ p ∈ news, p.1 < x) → Q (.ref x) { s with heap := h', toks := tk' }) :
    wpAny (model PySem.Challenge.rw_kl0452_01.row.toRowW.prog w) (ktrTop dp un gd cn cs L a ccd cl outer) (call (.ref f) vs) Q E s := C news dp un gd cn cs a ccd cl outer A₀ base h₀ L m s Q E k1 k2 k3 k4 k5 kK kp kd ku kR

theorem StrsAre_get : ∀ {vs : List Value} {ss : List Str}, StrsAre vs ss → ∀ (i : Nat) (n : Str), ss[i]? = some n → ∃ t, vs[i]? = some (.str n t)
  | _, _, .nil, i, n, h => by simp at h
  | _, _, .cons x t r, 0, n, h => by
    simp only [List.getElem?_cons_zero, Option.some.injEq] at h
    subst h
    exact ⟨t, rfl⟩
  | _, _, .cons x t r, i + 1, n, h => by
    simp only [List.getElem?_cons_succ] at h ⊢
    exact StrsAre_get r i n h
theorem getD_some {α : Type} {l : List α} {k : Nat} {d : α} (h : k < l.length) : l[k]? = some (l.getD k d) := by
  simp [List.getD, h]
section
variable {prog : Program} {w : World} {A : Around} {E : Value → Shared → Prop} {s : Shared} {h₀ : Heap} {L a : Addr} {m : Str → Option Value} {K : Frag} {value slice : Expr} {k : Int} {u : Tok} {Q : Value → Shared → Prop}
theorem glob_nums {ns : List Int} (X : K.In h₀) (e : KTD.datLooks (fun b => K.lookup b) (.nums ns) (.ref a) = true) (F : Fr h₀ L s.heap m) (h0 : 0 ≤ k) (hk : k < ns.length) (hl : ns.length ≤ 1000)
    (h : ∀ t, Q (.int (ns.getD k.toNat 0) t) s)
    (hs : subscripted slice false (.ref a) (.int k u) = operate [.ref a, .int k u] (getItem (.ref a) (.int k u)) := by with_unfolding_all rfl) :
    wpAny (model prog w) A (subscriptTail value slice (.ref a) (.int k u)) Q E s := by
  obtain ⟨vs, hL, hi⟩ := (kt_nums_in X e).keep (fun b o r => F.keep b o r)
  obtain ⟨t, ht⟩ := hi.get k.toNat _ (getD_some (d := 0) (by lia))
  exact tail_any hL.typeIs slot_list_getitem.lookup (wpAny_getItem_list hL h0 (by lia) (by simpa using ht) (h t)) hs
theorem glob_words {ss : List Str} (X : K.In h₀) (e : KTD.datLooks (fun b => K.lookup b) (.words ss) (.ref a) = true) (F : Fr h₀ L s.heap m) (h0 : 0 ≤ k) (hk : k < ss.length) (hl : ss.length ≤ 1000)
    (h : ∀ t, Q (.str (ss.getD k.toNat Str.empty) t) s)
    (hs : subscripted slice false (.ref a) (.int k u) = operate [.ref a, .int k u] (getItem (.ref a) (.int k u)) := by with_unfolding_all rfl) :
    wpAny (model prog w) A (subscriptTail value slice (.ref a) (.int k u)) Q E s := by
  obtain ⟨vs, hL, hi⟩ := (kt_words_in X e).keep (fun b o r => F.keep b o r)
  obtain ⟨t, ht⟩ := StrsAre_get hi k.toNat _ (getD_some (d := Str.empty) (by lia))
  exact tail_any hL.typeIs slot_list_getitem.lookup (wpAny_getItem_list hL h0 (by lia) (by simpa using ht) (h t)) hs
theorem nameG_B {M : Model} {A : Around} {E : Value → Shared → Prop} {s : Shared} {h₀ : Heap} {L : Addr} {m : Str → Option Value} {env : Env} {K : Frag} {mg mb : Str → Option Value} {p : Program} {loose : List Str} {x : Str} {pos : Pos} {v : Value} {Q : Value → Shared → Prop} (F : Fr h₀ L s.heap m) (X : K.In h₀) (T : TopRead p loose mg mb h₀)
    (e : nsIn K mainGlobals x = some none) (hv : bootBuiltins x = some v) (hn : x ≠ "__name__") (h : Q v s) (hg : env.globals = mainGlobals) (hb : env.builtins = builtinsNs) (hk : env.scope.kind = .function) (hx : env.kindOf x = some .globalImplicit) (hd : (x == ("__debug__" : Str)) = false) :
    wpAny M A (eval (.Name x pos) env) Q E s :=
  Calls.Name_function_global hk hx (Calls.loadGlobal_builtin (env := env) (by rw [hg]; exact T.g.keeps F.keep) (mg_none_of X T.g e) (by rw [hb]; exact T.b.keeps F.keep) ((T.builtins x hn).trans hv) h) hd
end

section
variable {prog : Program} {w : World} {A : Around} {E : Value → Shared → Prop} {s₁ : Shared} {h₀ : Heap} {L : Addr} {m : Str → Option Value} {news : List (Addr × Obj)}
theorem paired_nil {F : Value → Value → Prop} {ys : List Value} (h : Paired F [] ys) : ys = [] := by cases h; rfl
/-- a comprehension with one test over a tuple of ints, of which no item passes -/
theorem comp_nothing {env : Env} {elt c : Expr} {x : Str} {scope : Scope} {Q : Value → Shared → Prop} {l : Addr} {vs : List Value} {ns : List Int}
    (hh : A.handled = none) (hl : IsTup s₁.heap l vs.toArray) (hi : IntsAre vs ns) (hn : ns.length ≤ 100) (F : Fr h₀ L s₁.heap m) (N : News h₀ L s₁.heap news)
    (g : ∀ C (a : Int) (t : Tok) (s₃ : Shared) m₃ E', s₃.heap.Ns (compEnv scope C env).locals m₃ → m₃ x = some (.int a t) → (∀ b o, s₁.heap.get? b = some o → s₃.heap.get? b = some o) →
      wpAny (model prog w) A (isTrue c (compEnv scope C env) (eval c (compEnv scope C env))) (fun ok s₄ => ok = false ∧ Keeps s₃ s₄) E' s₃)
    (fin : ∀ D k h' tk, Fr h₀ L h' m → News h₀ L h' ((D, ({ cls := .type "list", data := .seq #[] k } : Obj)) :: news) → Q (.ref D) { s₁ with heap := h', toks := tk }) :
    wpAny (model prog w) A (pyIter (.ref l)) (CompPost prog w A env scope x [c] elt Q) E s₁ := by
  have hlt : l < s₁.heap.objs.size := by obtain ⟨_, e, _⟩ := hl; exact Heap.lt_size e
  have hls : s₁.heap.IsTuple l vs.toArray := hl
  have hsz : vs.toArray.size ≤ 100 := by rw [List.size_toArray, hi.length]; exact hn
  refine wpAny_pyIter_tuple hls ?_
  have old : ∀ (h' : Heap), (∀ b o', b ∉ [s₁.heap.objs.size] → (s₁.heap.push { cls := .type "tuple_iterator", data := .fields #[.ref l, .int 0 0] }).get? b = some o' → h'.get? b = some o') → ∀ b o', s₁.heap.get? b = some o' → h'.get? b = some o' :=
    fun h' hk b o' e => hk b o' (not_iter_of_old e) (Heap.get?_push_of_some _ e)
  refine ⟨fun _ => false, fun _ _ => True, s₁.heap.objs.size, [s₁.heap.objs.size, l], [s₁.heap.objs.size], vs.toArray.size, _, _, rfl, Walks.tuple hh _ l (Nat.ne_of_lt hlt) vs.toArray, (by rw [PySem.sizeLine_eq]; lia),
    ⟨⟨_, Heap.get?_push_size _ rfl, rfl, rfl⟩, hls.at fun o e => Heap.get?_push_of_some _ e⟩, ?_, ⟨?_, ?_⟩, ?_⟩
  · intro b hb
    show b < (s₁.heap.push _).objs.size
    rw [Heap.size_push]
    rcases List.mem_cons.mp hb with rfl | hb
    · exact Nat.lt_succ_self _
    · rw [List.mem_singleton.mp hb]; exact Nat.lt_succ_of_lt hlt
  · intro C i v s₃ m₃ E' hP hns hm hk _
    obtain ⟨a, t, rfl, _⟩ := IntsAre.at hi i v (by simpa using hP)
    simp only [List.forIn_cons, List.forIn_nil, if_true, bind_assoc, pure_bind]
    exact wpAny_bind (wpAny_mono (g C a t s₃ m₃ E' hns hm (old _ hk)) (fun ok s₄ h₄ => wpAny_pure h₄) fun _ _ e => e)
  · intro C i v s₃ m₃ E' _ hp
    cases hp
  · intro D h' tk ys vs' hnew _ hpl _ _ hF hk
    have e : vs'.filter (fun _ => false) = [] := by simp
    rw [e] at hF
    have e2 := paired_nil hF
    obtain ⟨k, hD⟩ := hpl
    have e3 : ys = #[] := by
      obtain ⟨l⟩ := ys
      simp only at e2
      rw [e2]
    subst e3
    have hfr : h₀.get? D = none := by
      cases e : h₀.get? D with
      | none => rfl
      | some o' => rw [Heap.get?_push_of_some _ (F.keep _ _ e)] at hnew; cases hnew
    have F' := F.keeps (old h' hk)
    exact fin D k h' tk F' (News.more F' (N.grown (old h' hk)) hD (fun es n q => by cases q) hfr)
end

section
variable {prog : Program} {w : World} {A₀ A : Around} {s : Shared} {base h₀ : Heap} {L : Addr} {m : Str → Option Value} {env : Env} {news : List (Addr × Obj)} {K : Frag} {p : Program} {loose : List Str} {mean : ExcName → Option Value} {mg mb : Str → Option Value}
    {R : Result → Shared → Prop} {name qual : Str} {params : Arguments} {body : List Stmt} {scope : Scope} {dV kV doc pm cdv ct oc : Value} {an od : Option Addr} {osl : Array (Option Value)} {f : Addr} {args : Args} {binds : List (Str × Value)}
/-- a def with a try of its own, called from the law's frame, which may have cells -/
theorem code_tryX (B : Below A₀ base [] h₀) (F : Fr h₀ L s.heap m) (X₀ : K.In h₀) (N : News h₀ L s.heap news) (T : Top p loose mean mg mb h₀) (hA : A.frames = some [env]) (hf : env.frame = some L) (hke : env.scope.kind = .function)
    (ho : K.lookup f = some ⟨oc, od, .func (fnOf name qual params body scope dV kV doc pm an cdv ct), osl⟩) (hcd : codeIn K cdv qual = true) (hroom : A.depth < recursionLimit)
    (hbind : BindsTo s (fnOf name qual params body scope dV kV doc pm an cdv ct) args binds) (hloc : ∀ y ∈ binds, scope.names.lookup y.1 = some .local)
    (h : ∀ g L' h₁, Fr h₀ L g m → Fr g L' h₁ (fun y => binds.reverse.lookup y) → News g L' h₁ news → Below A base [env] g → K.In g → Top p loose mean mg mb g → KtsDicts ([env].filterMap (·.frame)) g →
      wpAny (model prog w) (A.deeper (envOf qual scope L' f cdv)) (execs body (envOf qual scope L' f cdv))
        (fun fl s' => LeaveS0 ([env].filterMap (·.frame)) h₀ L m g R (match fl with | .ret v => v | _ => .none) s')
        (fun e s' => wpAny (model prog w) (A.deeper (envOf qual scope L' f cdv)) (leaving (envOf qual scope L' f cdv) e) (fun _ s'' => R (.error e) s'') (fun e' s'' => R (.error e') s'') s')
        { s with heap := h₁, toks := s.toks + binds.length })
    (hco : scope.isCoroutine = false) (hgen : scope.isGenerator = false) (hk : scope.kind = .function)
    (hcell : ∀ x ∈ scope.names, x.2 ≠ .cell) : codeAny (model prog w) A (.call (.ref f) args) R s := by
  have X := X₀.keeps F.keep
  have hfs : [env].filterMap (·.frame) = [L] := by simp [hf]
  obtain ⟨FG, BG, st, _⟩ := groundX (R := R) B F N hA hf hke
  obtain ⟨oL, es, ep, hLg, hLd, hLk, hLf⟩ := FG.ns
  refine codeAny_call_def (fd := fnOf name qual params body scope dV kV doc pm an cdv ct) (body := body) (binds := binds) hroom (X _ _ ho) rfl (T.nolimit.keeps F.keep) (codeRec_of X hcd) rfl hbind hcell hloc (fun h₁ hns hk₁ => ?_) hco hgen hk
  refine wpAny_mono (h _ s.heap.objs.size h₁ FG ⟨hns, fun b o e => hk₁ b o (of_hideAll _ e), Nat.le_of_eq (hideAll_size _ _)⟩
    (fun p hp => ⟨hk₁ _ _ (N p hp).1, Nat.ne_of_lt (Heap.lt_size (N p hp).1), hideAll_none _ (List.mem_map_of_mem hp)⟩) BG (X₀.keeps st) (T.keeps st)
    (fun b hb => by rw [hfs] at hb; rw [List.mem_singleton.mp hb]; exact ⟨oL, es, ep, hLg, hLd⟩)) (fun fl s' hl => ?_) fun _ _ y => y
  obtain ⟨g', L', m', news', T', F', N', k⟩ := hl
  rw [hfs] at T'
  have nL₀ : h₀.get? L = none := kts_self F
  obtain ⟨sl, hs⟩ := T'.up hLg
  refine k ⟨⟨_, es, ep, F'.keep _ _ hs, hLd, hLk, hLf⟩, fun b o e => F'.keep b o (T'.other b o (st b o e) fun q => ?_), F.above⟩ fun p hp => ⟨(N' p hp).1, fun q => ?_, ?_⟩
  · rw [List.mem_singleton.mp q, nL₀] at e
    cases e
  · have := (N' p hp).2.2; rw [q, hs] at this; cases this
  · cases q : h₀.get? p.1 with
    | none => rfl
    | some o =>
      obtain ⟨sl', hs'⟩ := T'.up (st _ _ q)
      have := (N' p hp).2.2
      rw [hs'] at this
      cases this
end
/-- ClaimV for calls out of the law's own frame alone -/
def ClaimT (w : World) (mean : ExcName → Option Value) (mg mb : Str → Option Value) (f : Addr) (dd : Nat) (vs : List Value) (R : Tok → Value) : Prop :=
  ∀ (news : List (Addr × Obj)) (dp un : Nat) (gd : Option (List Code)) (cn : Str) (cs : Scope) (a : Addr) (ccd : Value) (cl : List (Str × Addr)) (A₀ : Around) (h₀ : Heap) (L : Addr) (m : Str → Option Value) (s : Shared) (Q E : Value → Shared → Prop),
    Below A₀ h₀ [] h₀ → Fr h₀ L s.heap m → (hd.heap_39 w.params).In h₀ → News h₀ L s.heap news → Top hd.view_39 LS mean mg mb h₀ → cs.kind = .function →
    dp + dd < recursionLimit → un + 8 * dd < cLine →
    (∀ (t : Tok) (h' : Heap) (tk' : Nat), Fr h₀ L h' m → News h₀ L h' news → Q (R t) { s with heap := h', toks := tk' }) →
    wpAny (model PySem.Challenge.rw_kl0452_01.row.toRowW.prog w) (ktrTop dp un gd cn cs L a ccd cl []) (call (.ref f) vs) Q E s
theorem ClaimT.use {w : World} {mean : ExcName → Option Value} {mg mb : Str → Option Value} {f : Addr} {dd : Nat} {vs : List Value} {R : Tok → Value}
    {news : List (Addr × Obj)} {dp un : Nat} {gd : Option (List Code)} {cn : Str} {cs : Scope} {a : Addr} {ccd : Value} {cl : List (Str × Addr)} {A₀ : Around} {h₀ : Heap} {L : Addr} {m : Str → Option Value} {s : Shared} {Q E : Value → Shared → Prop}
    (C : ClaimT w mean mg mb f dd vs R) (k1 : Below A₀ h₀ [] h₀) (k2 : Fr h₀ L s.heap m) (k3 : (hd.heap_39 w.params).In h₀) (k4 : News h₀ L s.heap news) (k5 : Top hd.view_39 LS mean mg mb h₀) (kK : cs.kind = .function)
    (kd : dp + dd < recursionLimit) (ku : un + 8 * dd < cLine)
    (kR : ∀ (t : Tok) (h' : Heap) (tk' : Nat), Fr h₀ L h' m → News h₀ L h' news → Q (R t) { s with heap := h', toks := tk' }) :
    wpAny (model PySem.Challenge.rw_kl0452_01.row.toRowW.prog w) (ktrTop dp un gd cn cs L a ccd cl []) (call (.ref f) vs) Q E s := C news dp un gd cn cs a ccd cl A₀ h₀ L m s Q E k1 k2 k3 k4 k5 kK kd ku kR
end KDefss
noncomputable section KFs
section
open PyProof.Rows.LCt PyProof.Rows.LCg PySem.Calls
variable {prog : Program} {w : World} {A : Around} {E : Value → Shared → Prop} {s s₁ : Shared} {h₀ : Heap} {L : Addr} {m : Str → Option Value} {env : Env}
def TurnEnd (b : Bool) (h₀ : Heap) (L : Addr) (m : Str → Option Value) (s : Shared) (all : List (Addr × Obj)) (ok : Bool) (s' : Shared) : Prop := ok = b ∧ ∃ h' tk', s' = { s with heap := h', toks := tk' } ∧ Fr h₀ L h' m ∧ News h₀ L h' all
def ItemEnd (v : Value) (h₀ : Heap) (L : Addr) (m : Str → Option Value) (s : Shared) (all : List (Addr × Obj)) (v' : Value) (s' : Shared) : Prop := v' = v ∧ ∃ h' tk', s' = { s with heap := h', toks := tk' } ∧ Fr h₀ L h' m ∧ News h₀ L h' all
theorem TurnEnd.mk {b ok : Bool} {all all' : List (Addr × Obj)} {h' : Heap} {tk : Nat} (e : ok = b) (F : Fr h₀ L h' m) (N : News h₀ L h' all') (sub : ∀ q ∈ all, q ∈ all') : TurnEnd b h₀ L m s all ok { s with heap := h', toks := tk } := ⟨e, h', tk, rfl, F, fun q hq => N q (sub q hq)⟩
theorem ItemEnd.mk {v v' : Value} {all all' : List (Addr × Obj)} {h' : Heap} {tk : Nat} (e : v' = v) (F : Fr h₀ L h' m) (N : News h₀ L h' all') (sub : ∀ q ∈ all, q ∈ all') : ItemEnd v h₀ L m s all v' { s with heap := h', toks := tk } := ⟨e, h', tk, rfl, F, fun q hq => N q (sub q hq)⟩
section
variable {ct elt : Expr} {x : Str} {scope : Scope} {cl : List (Str × Addr)} {S : List (Addr × Obj) → Prop} {P : Nat → Value → Prop} {Fin : List Value → List (Addr × Obj) → Prop} {news : List (Addr × Obj)} {p : Int → Bool} {all : List Int}
def TurnOf (prog : Program) (w : World) (A : Around) (h₀ : Heap) (L : Addr) (m : Str → Option Value) (env : Env) (ct : Expr) (x : Str) (scope : Scope) (cl : List (Str × Addr)) (news : List (Addr × Obj)) (p : Int → Bool) (all : List Int) : Prop :=
  ∀ (s : Shared) (a : Int) (t : Tok) (I C D : Addr) (oI oC : Obj) (ys : List Value) (m₂ : Str → Option Value) (h : Heap) (tk : Nat) (E' : Value → Shared → Prop), a ∈ all → NsObj oC m₂ → m₂ x = some (.int a t) → Fr h₀ L h m → News h₀ L h ((I, oI) :: (C, oC) :: (D, lst ys) :: news) → Off3 I C D news → ((@Ne Nat I C) ∧ (@Ne Nat I D) ∧ (@Ne Nat C D)) →
    wpAny (model prog w) A (isTrue ct (compEnvC scope cl C env) (eval ct (compEnvC scope cl C env))) (TurnEnd (p a) h₀ L m { s with heap := h, toks := tk } ((I, oI) :: (C, oC) :: (D, lst ys) :: news)) E' { s with heap := h, toks := tk }
def ItemOf (prog : Program) (w : World) (A : Around) (h₀ : Heap) (L : Addr) (m : Str → Option Value) (env : Env) (elt : Expr) (x : Str) (scope : Scope) (cl : List (Str × Addr)) (news : List (Addr × Obj)) : Prop :=
  ∀ (s : Shared) (a : Int) (t : Tok) (I C D : Addr) (oI oC : Obj) (ys : List Value) (m₂ : Str → Option Value) (h : Heap) (tk : Nat) (E' : Value → Shared → Prop), NsObj oC m₂ → m₂ x = some (.int a t) → Fr h₀ L h m → News h₀ L h ((I, oI) :: (C, oC) :: (D, lst ys) :: news) → Off3 I C D news → ((@Ne Nat I C) ∧ (@Ne Nat I D) ∧ (@Ne Nat C D)) →
    wpAny (model prog w) A (eval elt (compEnvC scope cl C env)) (ItemEnd (.int a t) h₀ L m { s with heap := h, toks := tk } ((I, oI) :: (C, oC) :: (D, lst ys) :: news)) E' { s with heap := h, toks := tk }
theorem comp_filter (hS : S news) (hP : ∀ i v, i < all.length → P i v → ∃ a t, v = .int a t ∧ all[i]? = some a)
    (turn : TurnOf prog w A h₀ L m env ct x scope cl news p all) (item : ItemOf prog w A h₀ L m env elt x scope cl news)
    (fin : ∀ zs, IntsAre zs (all.filter p) → Fin zs news) (k : Nat) : ∀ (i : Nat) (ys : List Value), i + k = all.length → IntsAre ys ((all.take i).filter p) → CompRestT prog w A h₀ L m env ct elt x scope cl s S P Fin k i ys news := by
  induction k with
  | zero =>
    intro i ys hk hy
    refine CompRestT.zero (fin ys ?_)
    rw [List.take_of_length_le (by lia)] at hy
    exact hy
  | succ k ih =>
    intro i ys hk hy
    refine CompRestT.succ ?_
    intro v I oI C oC D m₂ h tk E' hv hC hx F N off ne
    obtain ⟨a, t, rfl, ha⟩ := hP i v (by lia) hv
    have hmem : a ∈ all := List.mem_of_getElem? ha
    have htake : all.take (i + 1) = all.take i ++ [a] := by rw [List.take_add_one, ha]; rfl
    refine wpAny_mono (turn s a t I C D oI oC ys m₂ h tk E' hmem hC hx F N off ne) (fun ok s' hT => ?_) fun _ _ x => x
    obtain ⟨rfl, h', tk', rfl, F', N'⟩ := hT
    cases hp : p a with
    | true =>
      rw [if_pos rfl]
      refine wpAny_mono (item s a t I C D oI oC ys m₂ h' tk' E' hC hx F' N' off ne) (fun v s' hI => ?_) fun _ _ x => x
      obtain ⟨rfl, h'', tk'', rfl, F'', N''⟩ := hI
      refine ⟨h'', tk'', news, rfl, F'', N'', off, hS, ih (i + 1) _ (by lia) ?_⟩
      rw [htake, List.filter_append]
      refine hy.append ?_
      rw [List.filter_cons, hp]
      exact .cons a t .nil
    | false =>
      rw [if_neg (by decide)]
      refine ⟨h', tk', news, rfl, F', N', off, hS, ih (i + 1) _ (by lia) ?_⟩
      rw [htake, List.filter_append, List.filter_cons, hp]
      simpa using hy
end
section
variable {ct elt : Expr} {x : Str} {scope : Scope} {cl : List (Str × Addr)} {Fin : Shared → List Value → List (Addr × Obj) → Prop} {news : List (Addr × Obj)} {p : Int → Bool}
def rangeL (a b : Int) : List Int := (List.range (b - a).toNat).map fun i : Nat => a + (i : Int)
theorem comp_range {r : Addr} {a b : Int} {t u v : Tok} (hh : A.handled = none) (F : Fr h₀ L s₁.heap m) (N : News h₀ L s₁.heap news) (hr : IsRange s₁.heap r a b 1 t u v) (h1 : -1000 ≤ a) (h2 : b ≤ 1000) (hab : a < b)
    (turn : TurnOf prog w A h₀ L m env ct x scope cl news p (rangeL a b)) (item : ItemOf prog w A h₀ L m env elt x scope cl news)
    (fin : ∀ g zs, IntsAre zs ((rangeL a b).filter p) → Fin { s₁ with heap := g } zs news) : CompSrcT prog w A h₀ L m env ct elt x scope cl Fin (.ref r) s₁ := by
  have hl : (rangeL a b).length = (b - a).toNat := by unfold rangeL; simp
  refine CompSrcT.range (n := (b - a).toNat) hh F N hr ?_ ?_ (by rw [PySem.sizeLine_eq]; lia) fun g => ?_
  · have hsz : Builtin.Range.rangeSize a b 1 = b - a := by
      unfold Builtin.Range.rangeSize
      rw [if_pos (by decide)]
      split <;> lia
    unfold Builtin.Range.small
    simp [Builtin.Range.rangeFitsLong, hsz]
    lia
  · unfold Builtin.Range.rangeSize
    rw [if_pos (by decide)]
    split <;> lia
  · refine comp_filter (all := rangeL a b) trivial ?_ turn item (fin g) (b - a).toNat 0 [] (by lia) .nil
    intro i v hi hv
    obtain ⟨t, rfl⟩ := hv
    refine ⟨_, t, rfl, ?_⟩
    unfold rangeL
    rw [List.getElem?_map, List.getElem?_range (by lia)]
    rfl
theorem comp_list {ax : Addr} {its : Array Value} {k : Nat} {all : List Int} (hh : A.handled = none) (F : Fr h₀ L s₁.heap m) (N : News h₀ L s₁.heap news) (hm : (ax, ({ cls := .type "list", data := .seq its k } : Obj)) ∈ news) (hi : IntsAre its.toList all) (hsz : all.length ≤ 1000)
    (turn : TurnOf prog w A h₀ L m env ct x scope cl news p all) (item : ItemOf prog w A h₀ L m env elt x scope cl news)
    (fin : ∀ g zs, IntsAre zs (all.filter p) → Fin { s₁ with heap := g } zs news) : CompSrcT prog w A h₀ L m env ct elt x scope cl Fin (.ref ax) s₁ := by
  have hl : its.size = all.length := by rw [← Array.length_toList]; exact hi.length
  refine CompSrcT.ledger hh F N hm (by rw [PySem.sizeLine_eq]; lia) fun g => ?_
  refine comp_filter (all := all) (.inr ⟨_, hm, rfl, _, rfl⟩) ?_ turn item (fin g) its.size 0 [] (by lia) .nil
  intro i v _ hv
  obtain ⟨a, t, e, ha⟩ := hi.at i v (by rw [← hv]; exact Array.getElem?_toList ..)
  exact ⟨a, t, e, ha⟩
end
theorem mem_rangeL {x a b : Int} (h : x ∈ rangeL a b) : a ≤ x ∧ x < b := by
  unfold rangeL at h
  obtain ⟨i, hi, rfl⟩ := List.mem_map.mp h
  have := List.mem_range.mp hi
  lia
theorem mem4 {x a b c d : Int} (h : x ∈ [a, b, c, d]) : x = a ∨ x = b ∨ x = c ∨ x = d := by simpa using h
theorem filt_len {p : Int → Bool} {a b : Int} (h : b - a ≤ 1000) : ((rangeL a b).filter p).length ≤ 1000 := by
  refine Nat.le_trans (List.length_filter_le _ _) ?_
  unfold rangeL
  simp
  omega
theorem mem_r13 {x : Int} (h : x ∈ rangeL 1 13) : 1 ≤ x ∧ x ≤ 12 := by have := mem_rangeL h; lia
theorem mem_f13 {x : Int} {p : Int → Bool} (h : x ∈ (rangeL 1 13).filter p) : 1 ≤ x ∧ x ≤ 12 := mem_r13 (List.mem_filter.mp h).1
theorem years_mem {x r c : Int} (h : x ∈ [1969 + r + c * 100, 1969 + r + c * 100 + 100, 1969 + r + c * 100 + 200, 1969 + r + c * 100 + 300]) (r0 : 0 ≤ r) (r1 : r ≤ 99) (c0 : 0 ≤ c) (c1 : c ≤ 99) : 1 ≤ x ∧ x ≤ 100000 := by
  have := mem4 h
  lia
theorem ne_lists {a b : Addr} {i j : Nat} {xs ys : List Value} {ns ms : List Int} {Q : Value → Shared → Prop} (N : News h₀ L s.heap news) (ha : (a, ({ cls := .type "list", data := .seq xs.toArray i } : Obj)) ∈ news) (hb : (b, ({ cls := .type "list", data := .seq ys.toArray j } : Obj)) ∈ news) (hx : IntsAre xs ns) (hy : IntsAre ys ms) (e : ns = ms) (hu : A.units + 64 < cLine) (h : Q (.bool false) s) :
    wpAny (model prog w) A (compareOp .NotEq (.ref a) (.ref b)) Q E s :=
  by
  subst e
  exact ke_ne_ints (N.isList ha) (N.isList hb) hx hy hu (by simpa using h)
end
end KFs
noncomputable section EVs
/-- what is known of a value, its tokens and its address apart -/
inductive Sh where
  | int (n : Int)
  | str (x : Str)
  | bool (b : Bool)
  | val (v : Value)
  | obj (O : (Nat → Tok) → Obj)
  | tup (l : List Int)
  | lsi (l : List Int)
  | lss (l : List Str)
def Sh.is : Sh → Value → List (Addr × Obj) → Prop
  | .int n, v, _ => ∃ t, v = .int n t
  | .str x, v, _ => ∃ t, v = .str x t
  | .bool b, v, _ => v = .bool b
  | .val u, v, _ => v = u
  | .obj O, v, ne => ∃ a τ, v = .ref a ∧ (a, O τ) ∈ ne
  | .tup l, v, ne => ∃ a vs, v = .ref a ∧ (a, ({ cls := .type "tuple", data := .seq vs.toArray } : Obj)) ∈ ne ∧ IntsAre vs l
  | .lsi l, v, ne => ∃ a vs k, v = .ref a ∧ (a, ({ cls := .type "list", data := .seq vs.toArray k } : Obj)) ∈ ne ∧ IntsAre vs l
  | .lss l, v, ne => ∃ a vs k, v = .ref a ∧ (a, ({ cls := .type "list", data := .seq vs.toArray k } : Obj)) ∈ ne ∧ StrsAre vs l
/-- a shape that a list or a tuple bears, or none -/
def Sh.firm : Sh → Bool
  | .obj _ => false
  | _ => true
def Ext (a b : List (Addr × Obj)) : Prop := ∀ p ∈ a, p ∈ b
theorem Ext.refl {a : List (Addr × Obj)} : Ext a a := fun _ h => h
theorem Ext.trans {a b c : List (Addr × Obj)} (h : Ext a b) (k : Ext b c) : Ext a c := fun p x => k p (h p x)
theorem Ext.cons {a : List (Addr × Obj)} {x : Addr × Obj} : Ext a (x :: a) := fun _ h => List.mem_cons_of_mem _ h
theorem Sh.more {V : Sh} {v : Value} {a b : List (Addr × Obj)} (h : V.is v a) (k : Ext a b) : V.is v b := by
  cases V with
  | obj O => obtain ⟨x, τ, e, hm⟩ := h; exact ⟨x, τ, e, k _ hm⟩
  | tup l => obtain ⟨x, vs, e, hm, hi⟩ := h; exact ⟨x, vs, e, k _ hm, hi⟩
  | lsi l => obtain ⟨x, vs, j, e, hm, hi⟩ := h; exact ⟨x, vs, j, e, k _ hm, hi⟩
  | lss l => obtain ⟨x, vs, j, e, hm, hi⟩ := h; exact ⟨x, vs, j, e, k _ hm, hi⟩
  | _ => exact h
noncomputable def IsAll : List Sh → List Value → List (Addr × Obj) → Prop
  | [], vs, _ => vs = []
  | V :: Vs, vs, ne => ∃ v ws, vs = v :: ws ∧ V.is v ne ∧ IsAll Vs ws ne
/-- an activation: where the code runs -/
structure EC where
  w : World
  mean : ExcName → Option Value
  mg : Str → Option Value
  mb : Str → Option Value
  dp : Nat
  un : Nat
  gd : Option (List Code)
  cn : Str
  cs : Scope
  L : Addr
  a : Addr
  ccd : Value
  cl : List (Str × Addr)
  outer : List Env
  A₀ : Around
  base : Heap
  h₀ : Heap
namespace EC
abbrev env (C : EC) : Env := envX C.cn C.cs C.L C.a C.ccd C.cl
abbrev A (C : EC) : Around := ktrTop C.dp C.un C.gd C.cn C.cs C.L C.a C.ccd C.cl C.outer
end EC
structure OkC (C : EC) (room : Nat) : Prop where
  below : Below C.A₀ C.base C.outer C.h₀
  hin : (hd.heap_39 C.w.params).In C.h₀
  top : Top hd.view_39 LS C.mean C.mg C.mb C.h₀
  kind : C.cs.kind = .function
  d : C.dp + room < recursionLimit
  u : C.un + 8 * room < cLine
/-- what is known of the names -/
inductive Kn where
  | ex (m : Str → Option Value) (news : List (Addr × Obj))
  | rho (ρ : List (Str × Sh))
  | law (cl : List (Str × Addr)) (ρ κ : List (Str × Sh))
  | comp (cl : List (Str × Addr)) (κ : List (Str × Sh)) (c : Addr) (z : Str) (n : Int)
/-- what stands in the cells -/
def CellsAt (cl : List (Str × Addr)) (κ : List (Str × Sh)) (ne : List (Addr × Obj)) : Prop :=
  ∀ x c, cl.lookup x = some c → ∃ o u, (c, o) ∈ ne ∧ o.data = .cell u ∧ ∀ V, κ.lookup x = some V → V.firm = true ∧ ∃ v, u = some v ∧ V.is v ne
theorem CellsAt.more {cl : List (Str × Addr)} {κ : List (Str × Sh)} {a b : List (Addr × Obj)} (h : CellsAt cl κ a) (k : Ext a b) : CellsAt cl κ b := fun x c e => by
  obtain ⟨o, u, hm, hd, hV⟩ := h x c e
  exact ⟨o, u, k _ hm, hd, fun V e => by obtain ⟨hf, v, e1, e2⟩ := hV V e; exact ⟨hf, v, e1, Sh.more e2 k⟩⟩
def Kn.is : Kn → (Str → Option Value) → List (Addr × Obj) → Prop
  | .ex m news, m', ne => m' = m ∧ Ext news ne
  | .rho ρ, m', ne => ∀ x V, ρ.lookup x = some V → ∃ v, m' x = some v ∧ V.is v ne
  | .law cl ρ κ, m', ne => (∀ x V, ρ.lookup x = some V → V.firm = true ∧ ∃ v, m' x = some v ∧ V.is v ne) ∧ CellsAt cl κ ne
  | .comp cl κ c z n, _, ne => CellsAt cl κ ne ∧ ∃ oC m₂ t, (c, oC) ∈ ne ∧ LCg.NsObj oC m₂ ∧ m₂ z = some (.int n t)
theorem Kn.more {K : Kn} {m : Str → Option Value} {a b : List (Addr × Obj)} (h : K.is m a) (k : Ext a b) : K.is m b := by
  cases K with
  | ex m' news => exact ⟨h.1, h.2.trans k⟩
  | rho ρ =>
    intro x V e
    obtain ⟨v, e1, e2⟩ := h x V e
    exact ⟨v, e1, Sh.more e2 k⟩
  | law cl ρ κ =>
    exact ⟨fun x V e => by obtain ⟨hf, v, e1, e2⟩ := h.1 x V e; exact ⟨hf, v, e1, Sh.more e2 k⟩, h.2.more k⟩
  | comp cl κ c z n =>
    obtain ⟨h1, oC, m₂, t, hm, hn, hx⟩ := h
    exact ⟨h1.more k, oC, m₂, t, k _ hm, hn, hx⟩
theorem Kn.put {ρ : List (Str × Sh)} {m : Str → Option Value} {ne : List (Addr × Obj)} {x : Str} {V : Sh} {v : Value} (h : (Kn.rho ρ).is m ne) (hv : V.is v ne) : (Kn.rho ((x, V) :: ρ)).is (fun y => if y = x then some v else m y) ne := by
  intro y W e
  rw [List.lookup_cons] at e
  by_cases hy : y = x
  · subst hy
    simp only [beq_self_eq_true, if_true, Option.some.injEq] at e
    subst e
    exact ⟨v, if_pos rfl, hv⟩
  · rw [beq_eq_false_iff_ne.mpr hy] at e
    obtain ⟨u, e1, e2⟩ := h y W e
    exact ⟨u, (if_neg hy).trans e1, e2⟩
/-- the expression's value, run in C where K is known -/
def EvG (C : EC) (En : Env) (K : Kn) (e : Expr) (V : Sh) : Prop :=
  ∀ (E Q : Value → Shared → Prop) (s : Shared) (m : Str → Option Value) (news : List (Addr × Obj)), K.is m news → Fr C.h₀ C.L s.heap m → News C.h₀ C.L s.heap news →
    (∀ (v : Value) (h' : Heap) (k : Nat) (ne : List (Addr × Obj)), Ext news ne → V.is v ne → Fr C.h₀ C.L h' m → News C.h₀ C.L h' ne → Q v { s with heap := h', toks := k }) →
    wpAny (model PG C.w) C.A (eval e En) Q E s
abbrev EvT (C : EC) (K : Kn) (e : Expr) (V : Sh) : Prop := EvG C C.env K e V
/-- .. which is a new object -/
def EvNG (C : EC) (En : Env) (K : Kn) (e : Expr) (O : (Nat → Tok) → Obj) : Prop :=
  ∀ (E Q : Value → Shared → Prop) (s : Shared) (m : Str → Option Value) (news : List (Addr × Obj)), K.is m news → Fr C.h₀ C.L s.heap m → News C.h₀ C.L s.heap news →
    (∀ (a : Addr) (τ : Nat → Tok) (h' : Heap) (k : Nat), (∀ p ∈ news, p.1 < a) → Fr C.h₀ C.L h' m → News C.h₀ C.L h' ((a, O τ) :: news) → Q (.ref a) { s with heap := h', toks := k }) →
    wpAny (model PG C.w) C.A (eval e En) Q E s
abbrev EvN (C : EC) (K : Kn) (e : Expr) (O : (Nat → Tok) → Obj) : Prop := EvNG C C.env K e O
/-- the test's answer -/
def TrG (C : EC) (En : Env) (K : Kn) (e : Expr) (b : Bool) : Prop :=
  ∀ (E : Value → Shared → Prop) (Q : Bool → Shared → Prop) (s : Shared) (m : Str → Option Value) (news : List (Addr × Obj)), K.is m news → Fr C.h₀ C.L s.heap m → News C.h₀ C.L s.heap news →
    (∀ (h' : Heap) (k : Nat) (ne : List (Addr × Obj)), Ext news ne → Fr C.h₀ C.L h' m → News C.h₀ C.L h' ne → Q b { s with heap := h', toks := k }) →
    wpAny (model PG C.w) C.A (isTrue e En (eval e En)) Q E s
abbrev TrT (C : EC) (K : Kn) (e : Expr) (b : Bool) : Prop := TrG C C.env K e b
/-- the answer of a chain of and, or -/
def ChG (C : EC) (En : Env) (K : Kn) (op : BoolOp) (es : List Expr) (b : Bool) : Prop :=
  ∀ (E : Value → Shared → Prop) (Q : Bool → Shared → Prop) (s : Shared) (m : Str → Option Value) (news : List (Addr × Obj)) (pos : Pos) (whole : Sem Value), K.is m news → Fr C.h₀ C.L s.heap m → News C.h₀ C.L s.heap news →
    (∀ (h' : Heap) (k : Nat) (ne : List (Addr × Obj)), Ext news ne → Fr C.h₀ C.L h' m → News C.h₀ C.L h' ne → Q b { s with heap := h', toks := k }) →
    wpAny (model PG C.w) C.A (isTrue (.BoolOp op es pos) En whole) Q E s
abbrev ChT (C : EC) (K : Kn) (op : BoolOp) (es : List Expr) (b : Bool) : Prop := ChG C C.env K op es b
/-- the arguments' values -/
def EvsG (C : EC) (En : Env) (K : Kn) (es : List Expr) (Vs : List Sh) : Prop :=
  ∀ (E : Value → Shared → Prop) (Q : List Value → Shared → Prop) (s : Shared) (m : Str → Option Value) (news : List (Addr × Obj)) (pos : Pos), K.is m news → Fr C.h₀ C.L s.heap m → News C.h₀ C.L s.heap news →
    (∀ (vs : List Value) (h' : Heap) (k : Nat) (ne : List (Addr × Obj)), Ext news ne → IsAll Vs vs ne → Fr C.h₀ C.L h' m → News C.h₀ C.L h' ne → Q vs { s with heap := h', toks := k }) →
    wpAny (model PG C.w) C.A (spliced (backTo pos (starEach es En))) Q E s
abbrev EvsT (C : EC) (K : Kn) (es : List Expr) (Vs : List Sh) : Prop := EvsG C C.env K es Vs
/-- a def's answer to such arguments -/
def CallT (C : EC) (f : Value) (Vs : List Sh) (V : Sh) : Prop :=
  ∀ (E Q : Value → Shared → Prop) (vs : List Value) (s : Shared) (m : Str → Option Value) (news : List (Addr × Obj)), IsAll Vs vs news → Fr C.h₀ C.L s.heap m → News C.h₀ C.L s.heap news →
    (∀ (v : Value) (h' : Heap) (k : Nat) (ne : List (Addr × Obj)), Ext news ne → V.is v ne → Fr C.h₀ C.L h' m → News C.h₀ C.L h' ne → Q v { s with heap := h', toks := k }) →
    wpAny (model PG C.w) C.A (call f vs) Q E s
inductive An where
  | old (V : Sh)
  | new (O : (Nat → Tok) → Obj)
def An.is : An → Value → List (Addr × Obj) → List (Addr × Obj) → Prop
  | .old V, v, _, ne => V.is v ne
  | .new O, v, ol, ne => ∃ a τ, v = .ref a ∧ (a, O τ) ∈ ne ∧ ∀ p ∈ ol, p.1 < a
/-- the statements' answer -/
def BsT (C : EC) (K : Kn) (body : List Stmt) (R : An) : Prop :=
  ∀ (E : Value → Shared → Prop) (Q : Flow → Shared → Prop) (s : Shared) (m : Str → Option Value) (news : List (Addr × Obj)), K.is m news → Fr C.h₀ C.L s.heap m → News C.h₀ C.L s.heap news →
    (∀ (v : Value) (h' : Heap) (k : Nat) (m' : Str → Option Value) (ne : List (Addr × Obj)), Ext news ne → R.is v news ne → Fr C.h₀ C.L h' m' → News C.h₀ C.L h' ne → Q (.ret v) { s with heap := h', toks := k }) →
    wpAny (model PG C.w) C.A (execs body C.env) Q E s
/-- the statements run through -/
def XsT (C : EC) (K : Kn) (body : List Stmt) (K' : Kn) : Prop :=
  ∀ (E : Value → Shared → Prop) (Q : Flow → Shared → Prop) (s : Shared) (m : Str → Option Value) (news : List (Addr × Obj)), K.is m news → Fr C.h₀ C.L s.heap m → News C.h₀ C.L s.heap news →
    (∀ (h' : Heap) (k : Nat) (m' : Str → Option Value) (ne : List (Addr × Obj)), Ext news ne → K'.is m' ne → Fr C.h₀ C.L h' m' → News C.h₀ C.L h' ne → Q .next { s with heap := h', toks := k }) →
    wpAny (model PG C.w) C.A (execs body C.env) Q E s
/-- one statement runs through -/
def X1T (C : EC) (K : Kn) (st : Stmt) (K' : Kn) : Prop :=
  ∀ (E : Value → Shared → Prop) (Q : Flow → Shared → Prop) (s : Shared) (m : Str → Option Value) (news : List (Addr × Obj)), K.is m news → Fr C.h₀ C.L s.heap m → News C.h₀ C.L s.heap news →
    (∀ (h' : Heap) (k : Nat) (m' : Str → Option Value) (ne : List (Addr × Obj)), Ext news ne → K'.is m' ne → Fr C.h₀ C.L h' m' → News C.h₀ C.L h' ne → Q .next { s with heap := h', toks := k }) →
    wpAny (model PG C.w) C.A (exec st C.env) Q E s
def cmpI : CmpOp → Int → Int → Option Bool
  | .Eq, a, b => some (a == b)
  | .NotEq, a, b => some (a != b)
  | .Lt, a, b => some (decide (a < b))
  | .LtE, a, b => some (decide (a ≤ b))
  | .Gt, a, b => some (decide (a > b))
  | .GtE, a, b => some (decide (a ≥ b))
  | _, _, _ => none
theorem cmpI_ok {prog : Program} {w : World} {A : Around} {E Q : Value → Shared → Prop} {s : Shared} {op : CmpOp} {a b : Int} {t u : Tok} {c : Bool} (h : cmpI op a b = some c) (k : Q (.bool c) s) : wpAny (model prog w) A (compareOp op (.int a t) (.int b u)) Q E s := by
  cases op <;> simp only [cmpI, Option.some.injEq, reduceCtorEq] at h <;> subst h
  · exact eq_int k
  · exact ne_int k
  · exact lt_int k
  · exact le_int k
  · exact gt_int k
  · exact ge_int k
section
variable {C : EC} {En : Env} {K : Kn} {V : Sh} {e l r : Expr} {pos : Pos} {x : Str} {a b n : Int}
theorem ev_nameR {ρ : List (Str × Sh)} (hv : ρ.lookup x = some V)
    (hk : C.cs.kind = .function := by rfl) (hx : C.env.kindOf x = some .local := by rfl) (hd : (x == ("__debug__" : Str)) = false := by decide) : EvT C (.rho ρ) (.Name x pos) V := by
  intro E Q s m ne h F N k
  obtain ⟨v, e1, e2⟩ := h x V hv
  exact nameX_L F e1 (k v s.heap s.toks ne Ext.refl e2 F N) hk hx hd
theorem ev_int {j : Nat} : EvG C En K (.Constant (.int n) j pos) (.int n) := fun E Q s m ne _ F N k => wpAny_Constant_int (k _ s.heap _ ne Ext.refl ⟨_, rfl⟩ F N)
theorem ev_str {j : Nat} : EvG C En K (.Constant (.str x) j pos) (.str x) := fun E Q s m ne _ F N k => PySem.Calls.Constant_str (k _ s.heap _ ne Ext.refl ⟨_, rfl⟩ F N)
theorem ev_none {j : Nat} : EvG C En K (.Constant .none j pos) (.val .none) := fun E Q s m ne _ F N k => wpAny_Constant_none (k _ s.heap s.toks ne Ext.refl rfl F N)
theorem ev_bin {op : Operator} {V1 V2 : Sh} (h1 : EvG C En K l V1) (h2 : EvG C En K r V2)
    (hop : ∀ (E Q : Value → Shared → Prop) (s : Shared) (u v : Value) (ne : List (Addr × Obj)), V1.is u ne → V2.is v ne → (∀ z k, V.is z ne → Q z { s with toks := k }) → wpAny (model PG C.w) C.A (binaryOp op u v) Q E s) : EvG C En K (.BinOp l op r pos) V := by
  intro E Q s m ne hK F N k
  refine wpAny_BinOp (h1 E _ s m ne hK F N fun u h1' k1 ne1 x1 hu F1 N1 => ?_)
  refine h2 E _ _ m ne1 (Kn.more hK x1) F1 N1 fun v h2' k2 ne2 x2 hv F2 N2 => ?_
  exact hop E Q _ u v ne2 (Sh.more hu x2) hv fun z k3 hz => k z h2' k3 ne2 (x1.trans x2) hz F2 N2
theorem ev_add (h1 : EvG C En K l (.int a)) (h2 : EvG C En K r (.int b)) : EvG C En K (.BinOp l .Add r pos) (.int (a + b)) :=
  ev_bin h1 h2 fun E Q s u v ne ⟨t, hu⟩ ⟨t', hv⟩ k => by subst hu; subst hv; exact add_int (k _ _ ⟨_, rfl⟩)
theorem ev_sub (h1 : EvG C En K l (.int a)) (h2 : EvG C En K r (.int b)) : EvG C En K (.BinOp l .Sub r pos) (.int (a - b)) :=
  ev_bin h1 h2 fun E Q s u v ne ⟨t, hu⟩ ⟨t', hv⟩ k => by subst hu; subst hv; exact sub_int (k _ _ ⟨_, rfl⟩)
theorem ev_mul (h1 : EvG C En K l (.int a)) (h2 : EvG C En K r (.int b)) (hm : IntMulOk a b) : EvG C En K (.BinOp l .Mult r pos) (.int (a * b)) :=
  ev_bin h1 h2 fun E Q s u v ne ⟨t, hu⟩ ⟨t', hv⟩ k => by subst hu; subst hv; exact mul_int (k _ _ ⟨_, rfl⟩) hm
theorem ev_mod (h1 : EvG C En K l (.int a)) (h2 : EvG C En K r (.int b)) (hb : b ≠ 0) : EvG C En K (.BinOp l .Mod r pos) (.int (a.fmod b)) :=
  ev_bin h1 h2 fun E Q s u v ne ⟨t, hu⟩ ⟨t', hv⟩ k => by subst hu; subst hv; exact mod_int hb (k _ _ ⟨_, rfl⟩)
theorem ev_div (h1 : EvG C En K l (.int a)) (h2 : EvG C En K r (.int b)) (hb : b ≠ 0 ∧ b.natAbs.log2 < 1000) : EvG C En K (.BinOp l .FloorDiv r pos) (.int (a.fdiv b)) :=
  ev_bin h1 h2 fun E Q s u v ne ⟨t, hu⟩ ⟨t', hv⟩ k => by
    have hlog := hb.2
    subst hu; subst hv; exact floordiv_int hb.1 (k _ _ ⟨_, rfl⟩) (Or.inl (PyProof.noPylong_of_log2 (by lia)))
theorem ev_addB {c : Bool} (h1 : EvG C En K l (.int a)) (h2 : EvG C En K r (.bool c)) : EvG C En K (.BinOp l .Add r pos) (.int (a + if c = true then 1 else 0)) :=
  ev_bin h1 h2 fun E Q s u v ne ⟨t, hu⟩ hv k => by subst hu; subst hv; exact add_int_bool (k _ _ ⟨_, rfl⟩)
theorem ev_cmp {op : CmpOp} {c : Bool} (h1 : EvG C En K l (.int a)) (h2 : EvG C En K r (.int b)) (hc : cmpI op a b = some c) (hm : behindInMarks op r = false) : EvG C En K (.Compare l [op] [r] pos) (.bool c) := by
  intro E Q s m ne hK F N k
  refine wpAny_Compare1 (h1 E _ s m ne hK F N fun u h1' k1 ne1 x1 hu F1 N1 => ?_) hm
  refine h2 E _ _ m ne1 (Kn.more hK x1) F1 N1 fun v h2' k2 ne2 x2 hv F2 N2 => ?_
  obtain ⟨t, rfl⟩ := hu
  obtain ⟨t', rfl⟩ := hv
  exact cmpI_ok hc (k _ _ _ _ (x1.trans x2) rfl F2 N2)
theorem tr_cmp {op : CmpOp} {c : Bool} (h1 : EvG C En K l (.int a)) (h2 : EvG C En K r (.int b)) (hc : cmpI op a b = some c) (hm : behindInMarks op r = false) : TrG C En K (.Compare l [op] [r] pos) c := by
  intro E Q s m ne hK F N k
  refine wpAny_isTrue_Compare1 (h1 E _ s m ne hK F N fun u h1' k1 ne1 x1 hu F1 N1 => ?_) hm
  refine h2 E _ _ m ne1 (Kn.more hK x1) F1 N1 fun v h2' k2 ne2 x2 hv F2 N2 => ?_
  obtain ⟨t, rfl⟩ := hu
  obtain ⟨t', rfl⟩ := hv
  exact cmpI_ok hc (wpAny_truthy_bool (k _ _ _ (x1.trans x2) F2 N2))
theorem tr_chain {op op' : CmpOp} {c c' : Bool} {r' : Expr} {d : Int} (h1 : EvG C En K l (.int a)) (h2 : EvG C En K r (.int b)) (h3 : EvG C En K r' (.int d)) (hc : cmpI op a b = some c) (hc' : cmpI op' b d = some c') (hm : lastMarks [op, op'] [r, r'] = false) :
    TrG C En K (.Compare l [op, op'] [r, r'] pos) (c && c') := by
  intro E Q s m ne hK F N k
  refine isTrue_chain (h1 E _ s m ne hK F N fun u h1' k1 ne1 x1 hu F1 N1 => ?_) hm
  refine test_link (h2 E _ _ m ne1 (Kn.more hK x1) F1 N1 fun v h2' k2 ne2 x2 hv F2 N2 => ?_)
  obtain ⟨t, rfl⟩ := hu
  obtain ⟨t', rfl⟩ := hv
  refine cmpI_ok hc (wpAny_truthy_bool ?_)
  cases c with
  | false => exact k _ _ _ (x1.trans x2) F2 N2
  | true =>
    refine test_last (h3 E _ _ m ne2 (Kn.more hK (x1.trans x2)) F2 N2 fun v h3' k3 ne3 x3 hv F3 N3 => ?_)
    obtain ⟨t3, rfl⟩ := hv
    exact cmpI_ok hc' (wpAny_truthy_bool (k _ _ _ ((x1.trans x2).trans x3) F3 N3))
/-- a bool's test -/
theorem tr_plain {c : Bool} (h : EvG C En K e (.bool c)) (he : ∀ whole : Sem Value, isTrue e En whole = do
          let v ← whole
          standAt (Expr.pos e)
          holding [v] (truthy v)) : TrG C En K e c := by
  intro E Q s m ne hK F N k
  refine isTrue_plain (h E _ s m ne hK F N fun v h' k' ne' x hv F' N' => ?_) (he _)
  cases hv
  exact wpAny_truthy_bool (k _ _ _ x F' N')
theorem tr_not {c : Bool} (h : TrG C En K e c) : TrG C En K (.UnaryOp .Not e pos) (!c) :=
  fun E Q s m ne hK F N k => isTrue_not (h E _ s m ne hK F N k)
theorem ch_and_nil : ChG C En K .And [] true := fun E Q s m ne pos whole _ F N k => isTrue_and_nil (k s.heap s.toks ne Ext.refl F N)
theorem ch_or_nil : ChG C En K .Or [] false := fun E Q s m ne pos whole _ F N k => isTrue_or_nil (k s.heap s.toks ne Ext.refl F N)
theorem ch_and {es : List Expr} {c d : Bool} (h1 : TrG C En K e c) (h2 : c = true → ChG C En K .And es d) : ChG C En K .And (e :: es) (c && d) := by
  intro E Q s m ne pos whole hK F N k
  refine isTrue_and (h1 E _ s m ne hK F N fun h' k' ne1 x1 F1 N1 => ?_)
  cases c with
  | false => exact k _ _ _ x1 F1 N1
  | true => exact h2 rfl E Q _ m ne1 pos whole (Kn.more hK x1) F1 N1 fun h'' k'' ne2 x2 F2 N2 => k _ _ _ (x1.trans x2) F2 N2
theorem ch_or {es : List Expr} {c d : Bool} (h1 : TrG C En K e c) (h2 : c = false → ChG C En K .Or es d) : ChG C En K .Or (e :: es) (c || d) := by
  intro E Q s m ne pos whole hK F N k
  refine isTrue_or (h1 E _ s m ne hK F N fun h' k' ne1 x1 F1 N1 => ?_)
  cases c with
  | true => exact k _ _ _ x1 F1 N1
  | false => exact h2 rfl E Q _ m ne1 pos whole (Kn.more hK x1) F1 N1 fun h'' k'' ne2 x2 F2 N2 => k _ _ _ (x1.trans x2) F2 N2
theorem tr_ch {op : BoolOp} {es : List Expr} {c : Bool} (h : ChG C En K op es c) : TrG C En K (.BoolOp op es pos) c :=
  fun E Q s m ne hK F N k => h E Q s m ne pos _ hK F N k
theorem ev_one {op : BoolOp} (h : EvG C En K e V) : EvG C En K (.BoolOp op [e] pos) V := fun E Q s m ne hK F N k => BoolOp_one (h E Q s m ne hK F N k)
theorem ev_and {e' : Expr} {es : List Expr} {c d : Bool} (h1 : EvG C En K e (.bool c)) (h2 : c = true → EvG C En K (.BoolOp .And (e' :: es) pos) (.bool d)) : EvG C En K (.BoolOp .And (e :: e' :: es) pos) (.bool (c && d)) := by
  intro E Q s m ne hK F N k
  refine BoolOp_and (h1 E _ s m ne hK F N fun v h' k' ne1 x1 hv F1 N1 => ?_)
  cases hv
  refine wpAny_truthy_bool ?_
  cases c with
  | false => exact k _ _ _ _ x1 rfl F1 N1
  | true => exact h2 rfl E Q _ m ne1 (Kn.more hK x1) F1 N1 fun v h'' k'' ne2 x2 hv F2 N2 => k _ _ _ _ (x1.trans x2) hv F2 N2
theorem ev_or {e' : Expr} {es : List Expr} {c d : Bool} (h1 : EvG C En K e (.bool c)) (h2 : c = false → EvG C En K (.BoolOp .Or (e' :: es) pos) (.bool d)) : EvG C En K (.BoolOp .Or (e :: e' :: es) pos) (.bool (c || d)) := by
  intro E Q s m ne hK F N k
  refine BoolOp_or (h1 E _ s m ne hK F N fun v h' k' ne1 x1 hv F1 N1 => ?_)
  cases hv
  refine wpAny_truthy_bool ?_
  cases c with
  | true => exact k _ _ _ _ x1 rfl F1 N1
  | false => exact h2 rfl E Q _ m ne1 (Kn.more hK x1) F1 N1 fun v h'' k'' ne2 x2 hv F2 N2 => k _ _ _ _ (x1.trans x2) hv F2 N2
theorem ev_if {c : Bool} (h : TrG C En K e c) (h1 : c = true → EvG C En K l V) (h2 : c = false → EvG C En K r V) : EvG C En K (.IfExp e l r pos) V := by
  intro E Q s m ne hK F N k
  refine IfExp_ (h E _ s m ne hK F N fun h' k' ne1 x1 F1 N1 => ?_)
  cases c with
  | true => exact h1 rfl E Q _ m ne1 (Kn.more hK x1) F1 N1 fun v h'' k'' ne2 x2 hv F2 N2 => k _ _ _ _ (x1.trans x2) hv F2 N2
  | false => exact h2 rfl E Q _ m ne1 (Kn.more hK x1) F1 N1 fun v h'' k'' ne2 x2 hv F2 N2 => k _ _ _ _ (x1.trans x2) hv F2 N2
theorem IsAll.more {b : List (Addr × Obj)} : ∀ {Vs : List Sh} {vs : List Value} {a : List (Addr × Obj)}, IsAll Vs vs a → Ext a b → IsAll Vs vs b
  | [], _, _, h, _ => h
  | _ :: _, _, _, ⟨v, ws, e, hv, hr⟩, k => ⟨v, ws, e, Sh.more hv k, IsAll.more hr k⟩
theorem evs_nil : EvsG C En K [] [] := fun E Q s m ne pos _ F N k => args_nil (k [] s.heap s.toks ne Ext.refl rfl F N)
theorem evs_cons {es : List Expr} {Vs : List Sh} (h1 : EvG C En K e V) (h2 : EvsG C En K es Vs) (hs : starEach (e :: es) En = (false, eval e En) :: starEach es En) : EvsG C En K (e :: es) (V :: Vs) := by
  intro E Q s m ne pos hK F N k
  refine args_cons (h1 E _ s m ne hK F N fun v h' k' ne1 x1 hv F1 N1 => ?_) hs
  exact h2 E _ _ m ne1 pos (Kn.more hK x1) F1 N1 fun vs h'' k'' ne2 x2 hvs F2 N2 => k _ _ _ _ (x1.trans x2) ⟨v, vs, rfl, Sh.more hv x2, hvs⟩ F2 N2
/-- a call of a def of the text -/
theorem ev_call {room : Nat} {g : Str} {gp : Pos} {f : Addr} {es : List Expr} {Vs : List Sh} (hok : OkC C room)
    (hg : nsIn (hd.heap_39 C.w.params) mainGlobals g = some (some (.ref f))) (hf : keepIn (hd.heap_39 C.w.params) (.ref f) = true) (hargs : EvsT C K (e :: es) Vs) (hc : CallT C (.ref f) Vs V)
    (hx : C.env.kindOf g = some .globalImplicit) (hd : (g == ("__debug__" : Str)) = false)
    (hcall : eval (.Call (.Name g gp) (e :: es) [] pos) C.env = do
          let __do_lift ← eval (.Name g gp) C.env
          callWith pos __do_lift [] (backTo pos (starEach (e :: es) C.env)) (backToKw pos (keywordEach [] C.env)))
    (hs : starEach (e :: es) C.env = (false, eval e C.env) :: starEach es C.env)
    (hb : (List.any (backTo pos (starEach es C.env)) fun x => x.1) = false) : EvT C K (.Call (.Name g gp) (e :: es) [] pos) V := by
  intro E Q s m ne hK F N k
  refine Call_ ?_ hcall
  refine nameX_K F hok.hin (topRead_of hok.top) hg ?_ hok.kind hx hd
  refine callWith_K (hok.hin.keeps F.keep) hf ?_ hs hb
  refine hargs E _ s m ne pos hK F N fun vs h' k' ne1 x1 hvs F1 N1 => ⟨hok.hin.keeps F1.keep, ?_⟩
  exact hc E Q vs _ m ne1 hvs F1 N1 fun v h'' k'' ne2 x2 hv F2 N2 => k _ _ _ _ (x1.trans x2) hv F2 N2

theorem ev_callG {room : Nat} {g : Str} {gp : Pos} {f : Addr} {es : List Expr} {Vs : List Sh} (hok : OkC C room) (hn : EvG C En K (.Name g gp) (.val (.ref f)))
    (hf : keepIn (hd.heap_39 C.w.params) (.ref f) = true) (hargs : EvsG C En K (e :: es) Vs) (hc : CallT C (.ref f) Vs V)
    (hcall : eval (.Call (.Name g gp) (e :: es) [] pos) En = do
          let __do_lift ← eval (.Name g gp) En
          callWith pos __do_lift [] (backTo pos (starEach (e :: es) En)) (backToKw pos (keywordEach [] En)))
    (hs : starEach (e :: es) En = (false, eval e En) :: starEach es En)
    (hb : (List.any (backTo pos (starEach es En)) fun x => x.1) = false) : EvG C En K (.Call (.Name g gp) (e :: es) [] pos) V := by
  intro E Q s m ne hK F N k
  refine Call_ (hn E _ s m ne hK F N fun v h' k' ne1 x1 hv F1 N1 => ?_) hcall
  cases hv
  refine callWith_K (hok.hin.keeps F1.keep) hf ?_ hs hb
  refine hargs E _ _ m ne1 pos (Kn.more hK x1) F1 N1 fun vs h' k' ne2 x2 hvs F2 N2 => ⟨hok.hin.keeps F2.keep, ?_⟩
  exact hc E Q vs _ m ne2 hvs F2 N2 fun v h'' k'' ne3 x3 hv F3 N3 => k _ _ _ _ ((x1.trans x2).trans x3) hv F3 N3
/-- a constant of the text -/
theorem ev_glob {room : Nat} {v : Value} (hok : OkC C room) (hg : nsIn (hd.heap_39 C.w.params) mainGlobals x = some (some v)) (hV : V.is v [])
    (hx : C.env.kindOf x = some .globalImplicit) (hd : (x == ("__debug__" : Str)) = false) : EvT C K (.Name x pos) V := by
  intro E Q s m ne hK F N k
  exact nameX_K F hok.hin (topRead_of hok.top) hg (k v s.heap s.toks ne Ext.refl (Sh.more hV fun _ h => by cases h) F N) hok.kind hx hd
/-- an item of a list of numbers of the text -/
theorem ev_nums {room : Nat} {g : Str} {gp : Pos} {addr : Addr} {ns : List Int} {k : Int} (hok : OkC C room) (hg : nsIn (hd.heap_39 C.w.params) mainGlobals g = some (some (.ref addr)))
    (hx : C.env.kindOf g = some .globalImplicit) (hdb : (g == ("__debug__" : Str)) = false) (hns : KTD.datLooks (fun b => (hd.heap_39 C.w.params).lookup b) (.nums ns) (.ref addr) = true)
    (h : EvT C K e (.int k)) (h0 : 0 ≤ k) (hk : k < ns.length) (hl : ns.length ≤ 1000)
    (hs : ∀ u, subscripted e false (.ref addr) (.int k u) = operate [.ref addr, .int k u] (getItem (.ref addr) (.int k u))) : EvT C K (.Subscript (.Name g gp) e pos) (.int (ns.getD k.toNat 0)) := by
  intro E Q s m ne hK F N kk
  refine Subscript_ (nameX_K F hok.hin (topRead_of hok.top) hg ?_ hok.kind hx hdb)
  refine h E _ s m ne hK F N fun v h' k' ne1 x1 ⟨u, hu⟩ F1 N1 => ?_
  subst hu
  exact glob_nums hok.hin hns F1 h0 hk hl (fun t => kk _ _ _ _ x1 ⟨_, rfl⟩ F1 N1) (hs u)
theorem An.more {R : An} {v : Value} {a b c : List (Addr × Obj)} (h : R.is v b c) (k : Ext a b) : R.is v a c := by
  cases R with
  | old V => exact h
  | new O => obtain ⟨x, τ, e, hm, hl⟩ := h; exact ⟨x, τ, e, hm, fun p hp => hl p (k p hp)⟩
variable {rest : List Stmt} {R : An} {K' K₁ : Kn} {st : Stmt} {ρ : List (Str × Sh)}
theorem bs_ret (h : EvT C K e V) : BsT C K (.Return (some e) pos :: rest) (.old V) := fun E Q s m ne hK F N k =>
  wpAny_execs_cons (wpAny_Return_some (h E _ s m ne hK F N fun v h' k' ne1 x1 hv F1 N1 => k v h' k' m ne1 x1 hv F1 N1))
theorem ev_conv {V' : Sh} (h : EvG C En K e V) (h' : V = V') : EvG C En K e V' := h' ▸ h
theorem tr_conv {c d : Bool} (h : TrG C En K e c) (h' : c = d) : TrG C En K e d := h' ▸ h
theorem bs_retN {O : (Nat → Tok) → Obj} (h : EvN C K e O) : BsT C K (.Return (some e) pos :: rest) (.new O) := fun E Q s m ne hK F N k =>
  wpAny_execs_cons (wpAny_Return_some (h E _ s m ne hK F N fun a τ h' k' hl F1 N1 => k _ h' k' m _ Ext.cons ⟨a, τ, rfl, List.mem_cons_self .., hl⟩ F1 N1))
theorem bs_cons (h1 : X1T C K st K₁) (h2 : BsT C K₁ rest R) : BsT C K (st :: rest) R := fun E Q s m ne hK F N k =>
  wpAny_execs_cons (h1 E _ s m ne hK F N fun h' k' m' ne1 x1 hK1 F1 N1 => h2 E Q _ m' ne1 hK1 F1 N1 fun v h'' k'' m'' ne2 x2 hv F2 N2 => k v h'' k'' m'' ne2 (x1.trans x2) (An.more hv x1) F2 N2)
theorem xs_nil : XsT C K [] K := fun E Q s m ne hK F N k => wpAny_execs_nil (k s.heap s.toks m ne Ext.refl hK F N)
theorem xs_cons (h1 : X1T C K st K₁) (h2 : XsT C K₁ rest K') : XsT C K (st :: rest) K' := fun E Q s m ne hK F N k =>
  wpAny_execs_cons (h1 E _ s m ne hK F N fun h' k' m' ne1 x1 hK1 F1 N1 => h2 E Q _ m' ne1 hK1 F1 N1 fun h'' k'' m'' ne2 x2 hK2 F2 N2 => k h'' k'' m'' ne2 (x1.trans x2) hK2 F2 N2)
theorem x1_assign {xp : Pos} (h : EvT C (.rho ρ) e V) (hsw : swapsWith e (some (.Name x xp)) pos.line C.env = pure false) (hkk : C.cs.kind = .function) (hx : C.env.kindOf x = some .local) :
    X1T C (.rho ρ) (.Assign [.Name x xp] e pos) (.rho ((x, V) :: ρ)) := fun E Q s m ne hK F N k =>
  wpAny_Assign_Name (h E _ s m ne hK F N fun v h' k' ne1 x1 hv F1 N1 => storeX_L F1 N1 (fun h'' F2 N2 => k h'' _ _ ne1 x1 (Kn.put (Kn.more hK x1) hv) F2 N2) hkk hx) hsw
theorem x1_aug {op : Operator} {a b c : Int} {xp : Pos} (hv : ρ.lookup x = some (.int a)) (h : EvT C (.rho ρ) e (.int b))
    (hop : ∀ (E Q : Value → Shared → Prop) (s : Shared) (t u : Tok), (∀ t' k, Q (.int c t') { s with toks := k }) → wpAny (model PG C.w) C.A (inplaceOp op (.int a t) (.int b u)) Q E s)
    (hkk : C.cs.kind = .function) (hx : C.env.kindOf x = some .local) : X1T C (.rho ρ) (.AugAssign (.Name x xp) op e pos) (.rho ((x, .int c) :: ρ)) := by
  intro E Q s m ne hK F N k
  obtain ⟨v, e1, t, rfl⟩ := hK x _ hv
  refine wpAny_AugAssign_Name (wpAny_loadName_local hkk hx F.ns e1 ?_)
  refine h E _ s m ne hK F N fun v h' k' ne1 x1 ⟨u, hu⟩ F1 N1 => ?_
  subst hu
  refine hop E _ _ t u fun t' k'' => ?_
  exact storeX_L F1 N1 (fun h'' F2 N2 => k h'' _ _ ne1 x1 (Kn.put (Kn.more hK x1) ⟨_, rfl⟩) F2 N2) hkk hx
theorem x1_iadd {a b : Int} {xp : Pos} (hv : ρ.lookup x = some (.int a)) (h : EvT C (.rho ρ) e (.int b)) (hkk : C.cs.kind = .function) (hx : C.env.kindOf x = some .local) :
    X1T C (.rho ρ) (.AugAssign (.Name x xp) .Add e pos) (.rho ((x, .int (a + b)) :: ρ)) := x1_aug hv h (fun E Q s t u k => iadd_int (k _ _)) hkk hx
theorem x1_isub {a b : Int} {xp : Pos} (hv : ρ.lookup x = some (.int a)) (h : EvT C (.rho ρ) e (.int b)) (hkk : C.cs.kind = .function) (hx : C.env.kindOf x = some .local) :
    X1T C (.rho ρ) (.AugAssign (.Name x xp) .Sub e pos) (.rho ((x, .int (a - b)) :: ρ)) := x1_aug hv h (fun E Q s t u k => isub_int (k _ _)) hkk hx
theorem x1_assert {msg : Option Expr} (h : TrT C K e true) : X1T C K (.Assert e msg pos) K := by
  intro E Q s m ne hK F N k
  cases msg with
  | none => exact wpAny_Assert_new rfl (h E _ s m ne hK F N fun h' k' ne1 x1 F1 N1 => k h' k' m ne1 x1 (Kn.more hK x1) F1 N1)
  | some msg => exact wpAny_Assert_msg_new rfl (h E _ s m ne hK F N fun h' k' ne1 x1 F1 N1 => k h' k' m ne1 x1 (Kn.more hK x1) F1 N1)
theorem x1_if {thn els : List Stmt} {c : Bool} (h : TrT C K e c) (h1 : c = true → XsT C K thn K') (h2 : c = false → XsT C K els K') : X1T C K (.If e thn els pos) K' := by
  intro E Q s m ne hK F N k
  refine wpAny_If (h E _ s m ne hK F N fun h' k' ne1 x1 F1 N1 => ?_)
  cases c with
  | true => exact h1 rfl E Q _ m ne1 (Kn.more hK x1) F1 N1 fun h'' k'' m' ne2 x2 hK2 F2 N2 => k h'' k'' m' ne2 (x1.trans x2) hK2 F2 N2
  | false => exact h2 rfl E Q _ m ne1 (Kn.more hK x1) F1 N1 fun h'' k'' m' ne2 x2 hK2 F2 N2 => k h'' k'' m' ne2 (x1.trans x2) hK2 F2 N2
theorem bs_if {thn : List Stmt} {c : Bool} (h : TrT C K e c) (h1 : c = true → BsT C K thn R) (h2 : c = false → BsT C K rest R) : BsT C K (.If e thn [] pos :: rest) R := by
  intro E Q s m ne hK F N k
  refine wpAny_execs_cons (wpAny_If (h E _ s m ne hK F N fun h' k' ne1 x1 F1 N1 => ?_))
  cases c with
  | true => exact h1 rfl E _ _ m ne1 (Kn.more hK x1) F1 N1 fun v h'' k'' m' ne2 x2 hv F2 N2 => k v h'' k'' m' ne2 (x1.trans x2) (An.more hv x1) F2 N2
  | false => exact wpAny_execs_nil (h2 rfl E _ _ m ne1 (Kn.more hK x1) F1 N1 fun v h'' k'' m' ne2 x2 hv F2 N2 => k v h'' k'' m' ne2 (x1.trans x2) (An.more hv x1) F2 N2)
theorem x1_ifT {thn els : List Stmt} (h : TrT C K e true) (h1 : XsT C K thn K') : X1T C K (.If e thn els pos) K' := x1_if h (fun _ => h1) fun h => by cases h
theorem x1_ifF {thn els : List Stmt} (h : TrT C K e false) (h1 : XsT C K els K') : X1T C K (.If e thn els pos) K' := x1_if h (fun h => by cases h) fun _ => h1
theorem bs_ifT {thn : List Stmt} (h : TrT C K e true) (h1 : BsT C K thn R) : BsT C K (.If e thn [] pos :: rest) R := bs_if h (fun _ => h1) fun h => by cases h
theorem bs_ifF {thn : List Stmt} (h : TrT C K e false) (h1 : BsT C K rest R) : BsT C K (.If e thn [] pos :: rest) R := bs_if h (fun h => by cases h) fun _ => h1
theorem ev_rshift {c : Int} (h1 : EvG C En K l (.int a)) (h2 : EvG C En K r (.int 5)) (ha : 0 ≤ a) (hc : a.fdiv (2 ^ Int.toNat 5) = c) : EvG C En K (.BinOp l .RShift r pos) (.int c) :=
  ev_bin h1 h2 fun E Q s u v ne ⟨t, hu⟩ ⟨t', hv⟩ k => by subst hu; subst hv; subst hc; exact rshift_int (by decide) (k _ _ ⟨_, rfl⟩)
theorem tr_cmpB {c d : Bool} (h1 : EvG C En K l (.bool c)) (h2 : EvG C En K r (.bool d)) (hm : behindInMarks .Eq r = false) : TrG C En K (.Compare l [.Eq] [r] pos) (c == d) := by
  intro E Q s m ne hK F N k
  refine wpAny_isTrue_Compare1 (h1 E _ s m ne hK F N fun u h1' k1 ne1 x1 hu F1 N1 => ?_) hm
  refine h2 E _ _ m ne1 (Kn.more hK x1) F1 N1 fun v h2' k2 ne2 x2 hv F2 N2 => ?_
  cases hu
  cases hv
  exact eq_bool (wpAny_truthy_bool (k _ _ _ (x1.trans x2) F2 N2))
/-- a tuple of three numbers, new -/
theorem ev_tup3 {es : List Expr} {a b c : Int} {j : Nat} (h : EvsG C En K es [.int a, .int b, .int c]) : EvNG C En K (.Tuple es j pos) (fun τ => { cls := .type "tuple", data := .seq #[.int a (τ 0), .int b (τ 1), .int c (τ 2)] 0 }) := by
  intro E Q s m ne hK F N k
  refine Tuple_ (h E _ s m ne pos hK F N fun vs h' k' ne1 x1 hvs F1 N1 => ?_)
  obtain ⟨_, _, e0, ⟨t0, f0⟩, _, _, e1, ⟨t1, f1⟩, _, _, e2, ⟨t2, f2⟩, en⟩ := hvs
  subst en; subst e2; subst f2; subst e1; subst f1; subst e0; subst f0
  refine kup_newTuple F1 N1 (fun D h'' F2 N2 l2 => ?_) (by rw [PySem.sizeLine_eq]; simp)
  refine k D (fun i => [t0, t1, t2].getD i 0) h'' _ (fun p hp => l2 p (x1 p hp)) F2 fun p hp => ?_
  rcases List.mem_cons.mp hp with rfl | hp
  · exact N2 _ (List.mem_cons_self ..)
  · exact N2 p (List.mem_cons_of_mem _ (x1 p hp))
/-- two names take what divmod gives -/
theorem x1_divmod {room : Nat} {x y : Str} {xp yp tp gp cp : Pos} {j : Nat} {e1 e2 : Expr} {a b q r : Int} (hok : OkC C room) (h1 : EvT C (.rho ρ) e1 (.int a)) (h2 : EvT C (.rho ρ) e2 (.int b)) (hq : a.fdiv b = q) (hr : a.fmod b = r)
    (hb : 0 < b ∧ b < 2 ^ 28) (ha1 : -(2 ^ 28) < a) (ha2 : a < 2 ^ 28) (hx : C.env.kindOf x = some .local) (hy : C.env.kindOf y = some .local)
    (hg : C.env.kindOf "divmod" = some .globalImplicit) (hn : nsIn (hd.heap_39 C.w.params) mainGlobals "divmod" = some none)
    (hs1 : starEach [e1, e2] C.env = (false, eval e1 C.env) :: starEach [e2] C.env) (hs2 : starEach [e2] C.env = (false, eval e2 C.env) :: starEach [] C.env)
    (hcall : eval (.Call (.Name "divmod" gp) [e1, e2] [] cp) C.env = do
          let __do_lift ← eval (.Name "divmod" gp) C.env
          callWith cp __do_lift [] (backTo cp (starEach [e1, e2] C.env)) (backToKw cp (keywordEach [] C.env)))
    (hb1 : (List.any (backTo cp (starEach [e2] C.env)) fun x => x.1) = false)
    (hw1 : swapsWithSole [.Tuple [.Name x xp, .Name y yp] j tp] (.Call (.Name "divmod" gp) [e1, e2] [] cp) pos.line C.env = pure false)
    (hw2 : swappedStores [.Tuple [.Name x xp, .Name y yp] j tp] (.Call (.Name "divmod" gp) [e1, e2] [] cp) C.env = pure none)
    (hae : (assignEach [.Name x xp, .Name y yp] C.env).map (·.2) = [assign (.Name x xp) C.env, assign (.Name y yp) C.env]) (haf : List.findIdx? (fun x => x.1) (assignEach [.Name x xp, .Name y yp] C.env) = none) :
    X1T C (.rho ρ) (.Assign [.Tuple [.Name x xp, .Name y yp] j tp] (.Call (.Name "divmod" gp) [e1, e2] [] cp) pos) (.rho ((y, .int r) :: (x, .int q) :: ρ)) := by
  intro E Q s m ne hK F N k
  subst hq; subst hr
  refine Assign_Tuple (Call_ (nameX_B F hok.hin (topRead_of hok.top) hn rfl (by decide) ?_ hok.kind hg (by decide)) hcall) hw1 hw2
  refine PyProof.Rows.callWith_builtin1 (args_cons (h1 E _ s m ne hK F N fun u h1' k1 ne1 x1 ⟨t, hu⟩ F1 N1 => ?_) hs1) hs1 hb1
  subst hu
  refine args_cons (h2 E _ _ m ne1 (Kn.more hK x1) F1 N1 fun v h2' k2 ne2 x2 ⟨t', hv⟩ F2 N2 => ?_) hs2
  subst hv
  refine args_nil ?_
  refine divmod_N F2 N2 (by omega) (fun h3' F3 N3 => ?_) (Or.inl (PyProof.noPylong_small (by omega)))
  refine unpackN_ (items := #[.int (a.fdiv b) _, .int (a.fmod b) _]) F3 N3 (News.isTup N3 (List.mem_cons_self ..)) rfl (by
    have := congrArg List.length hae
    simpa using this) haf fun h4' F4 N4 => ?_
  rw [hae]
  refine assignInOrder_cons (PyProof.Rows.assign_Name (storeX_L F4 N4 (fun h5' F5 N5 => ?_) hok.kind hx))
  refine assignInOrder_cons (PyProof.Rows.assign_Name (storeX_L F5 N5 (fun h6' F6 N6 => ?_) hok.kind hy))
  refine assignInOrder_nil (k h6' _ _ _ ((x1.trans x2).trans Ext.cons) ?_ F6 N6)
  exact Kn.put (Kn.put (Kn.more hK ((x1.trans x2).trans Ext.cons)) ⟨_, rfl⟩) ⟨_, rfl⟩
theorem callV {room dd : Nat} {f : Addr} {Vs : List Sh} {pre : List (Addr × Obj) → Prop} (hok : OkC C room) (hd : dd ≤ room)
    (h : ∀ vs ne, IsAll Vs vs ne → ∃ R : Tok → Value, ClaimV C.w C.mean C.mg C.mb f dd pre vs R ∧ pre ne ∧ ∀ t ne', V.is (R t) ne') : CallT C (.ref f) Vs V := by
  intro E Q vs s m ne hvs F N k
  obtain ⟨R, hc, hp, hR⟩ := h vs ne hvs
  have h1 := hok.d
  have h2 := hok.u
  exact hc.use hok.below F hok.hin N hok.top hok.kind hp (by lia) (by lia) fun t h' tk F' N' => k _ h' tk ne Ext.refl (hR t _) F' N'
end
/-- the moving parts of an activation -/
structure Dyn where
  w : World
  mean : ExcName → Option Value
  mg : Str → Option Value
  mb : Str → Option Value
  dp : Nat
  un : Nat
  gd : Option (List Code)
  L : Addr
  outer : List Env
  A₀ : Around
  base : Heap
  h₀ : Heap
@[reducible] def Dyn.at (D : Dyn) (cn : Str) (cs : Scope) (a : Addr) (ccd : Value) (cl : List (Str × Addr)) : EC :=
  ⟨D.w, D.mean, D.mg, D.mb, D.dp, D.un, D.gd, cn, cs, D.L, a, ccd, cl, D.outer, D.A₀, D.base, D.h₀⟩
/-- the arguments at the names -/
noncomputable def Fits : List (Str × Sh) → List (Str × Value) → List (Addr × Obj) → Prop
  | [], _, _ => True
  | (x, V) :: ρ, l, ne => ∃ v r, l = (x, v) :: r ∧ V.is v ne ∧ Fits ρ r ne
theorem fits_is : ∀ {ρ : List (Str × Sh)} {l : List (Str × Value)} {ne : List (Addr × Obj)}, Fits ρ l ne → (Kn.rho ρ).is (fun y => l.lookup y) ne
  | [], _, _, _, _, _, e => by cases e
  | (x, V) :: ρ, l, ne, ⟨v, r, hl, hv, hr⟩, y, W, e => by
    subst hl
    rw [List.lookup_cons] at e
    by_cases hy : y = x
    · subst hy
      simp only [beq_self_eq_true, Option.some.injEq] at e
      subst e
      exact ⟨v, by simp, hv⟩
    · rw [beq_eq_false_iff_ne.mpr hy] at e
      obtain ⟨u, e1, e2⟩ := fits_is hr y W e
      exact ⟨u, by show List.lookup y ((x, v) :: r) = some u; rw [List.lookup_cons, beq_eq_false_iff_ne.mpr hy]; exact e1, e2⟩
theorem claimV_of {w : World} {mean : ExcName → Option Value} {mg mb : Str → Option Value} {f : Addr} {dd : Nat} {vs : List Value} {R : Tok → Value} {V : Sh} {name qual : Str} {params : Arguments} {body : List Stmt} {scope : Scope} {dV kV doc pm cdv ct oc : Value} {an od : Option Addr} {osl : Array (Option Value)} {binds l : List (Str × Value)} {ρ : List (Str × Sh)}
    (ho : (hd.heap_39 w.params).lookup f = some ⟨oc, od, .func (fnOf name qual params body scope dV kV doc pm an cdv ct), osl⟩) (hcd : codeIn (hd.heap_39 w.params) cdv qual = true)
    (hbind : ∀ s, BindsTo s (fnOf name qual params body scope dV kV doc pm an cdv ct) ⟨vs, []⟩ binds) (hloc : ∀ y ∈ binds, scope.names.lookup y.1 = some .local)
    (hco : scope.isCoroutine = false) (hgen : scope.isGenerator = false) (hk : scope.kind = .function) (hcell : ∀ x ∈ scope.names, x.2 ≠ .cell)
    (hl : binds.reverse = l) (hρ : Fits ρ l []) (hdd : 1 ≤ dd)
    (hb : ∀ D : Dyn, OkC (D.at qual scope f cdv []) (dd - 1) → BsT (D.at qual scope f cdv []) (.rho ρ) body (.old V)) (hR : ∀ v ne, V.is v ne → ∃ t, v = R t) :
    ClaimV w mean mg mb f dd (fun _ => True) vs R := by
  intro news dp un gd cn cs a ccd cl outer A₀ base h₀ L m s Q E k1 k2 k3 k4 k5 kK _ kd ku kR
  refine wpAny_call ?_
  refine code_def k1 k2 k3 k4 k5 rfl rfl kK ho hcd (by show dp < recursionLimit; lia) (hbind s) hloc (fun g L' h₁ F' FL N' B' X' T' => ?_) hco hgen hk hcell
  refine hb ⟨w, mean, mg, mb, dp + 1, un + 3, gd, L', envX cn cs L a ccd cl :: outer, ktrTop dp un gd cn cs L a ccd cl outer, base, g⟩ ⟨B', X', T', hk, ?_, ?_⟩ _ _ { s with heap := h₁, toks := s.toks + binds.length } _ news (Kn.more (by rw [hl]; exact fits_is hρ) fun _ h => by cases h) FL N' fun v h' k m' ne x1 hv F2 N2 => ?_
  · show dp + 1 + (dd - 1) < recursionLimit
    lia
  · show un + 3 + 8 * (dd - 1) < cLine
    lia
  · obtain ⟨t, rfl⟩ := hR v ne hv
    refine leaveK_ F2 N2 fun F3 N3 => ?_
    exact kR t h' k F3 fun p hp => N3 p (x1 p hp)
theorem claimO_of {w : World} {mean : ExcName → Option Value} {mg mb : Str → Option Value} {f : Addr} {dd : Nat} {vs : List Value} {O : (Nat → Tok) → Obj} {name qual : Str} {params : Arguments} {body : List Stmt} {scope : Scope} {dV kV doc pm cdv ct oc : Value} {an od : Option Addr} {osl : Array (Option Value)} {binds l : List (Str × Value)} {ρ : List (Str × Sh)}
    (ho : (hd.heap_39 w.params).lookup f = some ⟨oc, od, .func (fnOf name qual params body scope dV kV doc pm an cdv ct), osl⟩) (hcd : codeIn (hd.heap_39 w.params) cdv qual = true)
    (hbind : ∀ s, BindsTo s (fnOf name qual params body scope dV kV doc pm an cdv ct) ⟨vs, []⟩ binds) (hloc : ∀ y ∈ binds, scope.names.lookup y.1 = some .local)
    (hco : scope.isCoroutine = false) (hgen : scope.isGenerator = false) (hk : scope.kind = .function) (hcell : ∀ x ∈ scope.names, x.2 ≠ .cell)
    (hl : binds.reverse = l) (hρ : Fits ρ l []) (hdd : 1 ≤ dd)
    (hb : ∀ D : Dyn, OkC (D.at qual scope f cdv []) (dd - 1) → BsT (D.at qual scope f cdv []) (.rho ρ) body (.new O)) :
    ClaimO w mean mg mb f dd (fun _ => True) vs O := by
  intro news dp un gd cn cs a ccd cl outer A₀ base h₀ L m s Q E k1 k2 k3 k4 k5 kK _ kd ku kR
  refine wpAny_call ?_
  refine code_def k1 k2 k3 k4 k5 rfl rfl kK ho hcd (by show dp < recursionLimit; lia) (hbind s) hloc (fun g L' h₁ F' FL N' B' X' T' => ?_) hco hgen hk hcell
  refine hb ⟨w, mean, mg, mb, dp + 1, un + 3, gd, L', envX cn cs L a ccd cl :: outer, ktrTop dp un gd cn cs L a ccd cl outer, base, g⟩ ⟨B', X', T', hk, ?_, ?_⟩ _ _ { s with heap := h₁, toks := s.toks + binds.length } _ news (Kn.more (by rw [hl]; exact fits_is hρ) fun _ h => by cases h) FL N' fun v h' k m' ne x1 hv F2 N2 => ?_
  · show dp + 1 + (dd - 1) < recursionLimit
    lia
  · show un + 3 + 8 * (dd - 1) < cLine
    lia
  · obtain ⟨x, τ, rfl, hm, hlt⟩ := hv
    refine leaveK_ F2 N2 fun F3 N3 => ?_
    refine kR τ x h' k F3 (fun p hp => ?_) hlt
    rcases List.mem_cons.mp hp with rfl | hp
    · exact N3 _ hm
    · exact N3 p (x1 p hp)
end EVs
noncomputable section D1s
theorem fill_in : True ∨ (∃ P, hd.heap_39 P = [] ∧ PySem.Challenge.rw_kl0452_01.row.toRowW.prog.main.body = []) := by
  k_fill
  exact .inl trivial

def isLeap (y : Int) : Bool := decide (y.fmod 4 = 0) && (decide (y.fmod 100 ≠ 0) || decide (y.fmod 400 = 0))
def dby (y : Int) : Int := (y - 1) * 365 + (y - 1).fdiv 4 - (y - 1).fdiv 100 + (y - 1).fdiv 400
def dim (y m : Int) : Int := if m = 2 ∧ isLeap y = true then 29 else ([-1, 31, 28, 31, 30, 31, 30, 31, 31, 30, 31, 30, 31] : List Int).getD m.toNat 0
def dbm (y m : Int) : Int := ([-1, 0, 31, 59, 90, 120, 151, 181, 212, 243, 273, 304, 334] : List Int).getD m.toNat 0 + if 2 < m ∧ isLeap y = true then 1 else 0
def ymdOrd (y m d : Int) : Int := dby y + dbm y m + d
/-- the two tables by whether the year leaps -/
def dimB (b : Bool) (m : Int) : Int := if m = 2 ∧ b = true then 29 else ([-1, 31, 28, 31, 30, 31, 30, 31, 31, 30, 31, 30, 31] : List Int).getD m.toNat 0
def dbmB (b : Bool) (m : Int) : Int := ([-1, 0, 31, 59, 90, 120, 151, 181, 212, 243, 273, 304, 334] : List Int).getD m.toNat 0 + if 2 < m ∧ b = true then 1 else 0
theorem tab12 {Q : Int → Prop} (h : ∀ n : Fin 13, 1 ≤ n.val → Q ((n.val : Nat) : Int)) : ∀ m : Int, 1 ≤ m → m ≤ 12 → Q m := by
  intro m h1 h2
  obtain ⟨n, rfl⟩ := Int.eq_ofNat_of_zero_le (Int.le_trans (by decide : (0 : Int) ≤ 1) h1)
  exact h ⟨n, Nat.lt_succ_of_le (Int.ofNat_le.mp h2)⟩ (Int.ofNat_le.mp h1)
theorem cases12 {m : Int} (h1 : 1 ≤ m) (h2 : m ≤ 12) : m = 1 ∨ m = 2 ∨ m = 3 ∨ m = 4 ∨ m = 5 ∨ m = 6 ∨ m = 7 ∨ m = 8 ∨ m = 9 ∨ m = 10 ∨ m = 11 ∨ m = 12 := by
  obtain ⟨n, rfl⟩ := Int.eq_ofNat_of_zero_le (Int.le_trans (by decide : (0 : Int) ≤ 1) h1)
  have key : ∀ n : Fin 13, 1 ≤ n.val → (((n.val : Nat) : Int) = 1 ∨ ((n.val : Nat) : Int) = 2 ∨ ((n.val : Nat) : Int) = 3 ∨ ((n.val : Nat) : Int) = 4 ∨ ((n.val : Nat) : Int) = 5 ∨ ((n.val : Nat) : Int) = 6 ∨ ((n.val : Nat) : Int) = 7 ∨ ((n.val : Nat) : Int) = 8 ∨ ((n.val : Nat) : Int) = 9 ∨ ((n.val : Nat) : Int) = 10 ∨ ((n.val : Nat) : Int) = 11 ∨ ((n.val : Nat) : Int) = 12) := by decide
  exact key ⟨n, Nat.lt_succ_of_le (Int.ofNat_le.mp h2)⟩ (Int.ofNat_le.mp h1)
theorem dim_le {y m : Int} (h1 : 1 ≤ m) (h2 : m ≤ 12) : 28 ≤ dim y m ∧ dim y m ≤ 31 := by
  unfold dim
  split
  · decide
  · rcases cases12 h1 h2 with h | h | h | h | h | h | h | h | h | h | h | h <;> subst h <;> decide
theorem is_leap_ok (w : World) (mean : ExcName → Option Value) (mg mb : Str → Option Value) (y : Int) (t : Tok) :
    ClaimV w mean mg mb 163 1 (fun _ => True) [.int y t] (fun _ => .bool (isLeap y)) := by
  refine' claimV_of (V := .bool (isLeap y)) (l := [("year", .int y t)]) (ρ := [("year", .int y)]) ?ho ?hcd ?hbind ?hloc ?hco ?hgen ?hk ?hcell ?hl ?hr ?hdd ?hb ?hR
  case ho => k_is
  case hcd => k_is
  case hbind => exact fun s => BindsTo.of_eq rfl
  case hloc => exact locs rfl
  case hco => exact rfl
  case hgen => exact rfl
  case hk => exact rfl
  case hcell => decide
  case hl => kernel_rfl
  case hr => exact ⟨_, _, rfl, ⟨_, rfl⟩, trivial⟩
  case hdd => decide
  case hR => exact fun v ne h => ⟨0, h⟩
  case hb =>
    intro dyn9 hok
    repeat' (first
      | (with_reducible exact ev_int)
      | ((with_reducible show EvT _ _ (Expr.Name _ _) _); (with_reducible apply ev_nameR); (· with_unfolding_all rfl); (· rfl); (· rfl); (· decide))
      | ((with_reducible show EvT _ _ (Expr.BinOp _ Operator.Add (Expr.BoolOp _ _ _) _) _); (with_reducible apply ev_addB))
      | ((with_reducible show EvT _ _ (Expr.BinOp _ Operator.Add _ _) _); (with_reducible apply ev_add))
      | ((with_reducible show EvT _ _ (Expr.BinOp _ Operator.Sub _ _) _); (with_reducible apply ev_sub))
      | ((with_reducible show EvT _ _ (Expr.BinOp _ Operator.Mult _ _) _); (with_reducible apply ev_mul))
      | ((with_reducible show EvT _ _ (Expr.BinOp _ Operator.Mod _ _) _); (with_reducible apply ev_mod))
      | ((with_reducible show EvT _ _ (Expr.BinOp _ Operator.FloorDiv _ _) _); (with_reducible apply ev_div))
      | ((with_reducible show EvT _ _ (Expr.Compare _ _ _ _) _); (with_reducible apply ev_cmp))
      | ((with_reducible show EvT _ _ (Expr.BoolOp BoolOp.And (_ :: _ :: _) _) _); (with_reducible apply ev_and))
      | ((with_reducible show EvT _ _ (Expr.BoolOp BoolOp.Or (_ :: _ :: _) _) _); (with_reducible apply ev_or))
      | ((with_reducible show EvT _ _ (Expr.BoolOp _ [_] _) _); (with_reducible apply ev_one))
      | ((with_reducible show EvT _ _ (Expr.Call _ _ _ _) _); (with_reducible apply ev_call (room := _) (by assumption)))
      | (with_reducible exact evs_nil)
      | ((with_reducible show EvsT _ _ _ _); (with_reducible apply evs_cons))
      | ((with_reducible show TrT _ _ (Expr.Compare _ [_] [_] _) _); (with_reducible apply tr_cmp))
      | ((with_reducible show TrT _ _ (Expr.Compare _ [_, _] _ _) _); (with_reducible apply tr_chain))
      | ((with_reducible show TrT _ _ (Expr.BoolOp _ _ _) _); (with_reducible apply tr_ch))
      | ((with_reducible show TrT _ _ (Expr.UnaryOp UnaryOp.Not _ _) _); (with_reducible apply tr_not))
      | ((with_reducible show TrT _ _ _ _); (with_reducible apply tr_plain))
      | (with_reducible exact ch_and_nil)
      | (with_reducible exact ch_or_nil)
      | ((with_reducible show ChT _ _ BoolOp.And _ _); (with_reducible apply ch_and))
      | ((with_reducible show ChT _ _ BoolOp.Or _ _); (with_reducible apply ch_or))
      | ((with_reducible apply bs_ret); (with_reducible apply ev_conv))
      | (with_reducible apply bs_if)
      | (with_reducible apply bs_cons)
      | (with_reducible exact xs_nil)
      | (with_reducible apply xs_cons)
      | ((with_reducible apply x1_assert); (with_reducible apply tr_conv))
      | (with_reducible apply x1_assign)
      | ((with_reducible show _ → _); intro _)
      | rfl
      | (with_unfolding_all rfl)
      | exact congrArg Sh.bool (by unfold isLeap; rw [Bool.eq_iff_iff]; simp)
      | assumption
      | decide
      | k_is
      | ((with_reducible show KTD.datLooks _ _ _ = true); kernel_rfl)
      | mul_fits
      | (intro _; with_unfolding_all rfl)
      | lia
      | (simp; lia))
theorem ct_leap {C : EC} {room : Nat} (hok : OkC C room) (hr : 1 ≤ room) (y : Int) : CallT C (.ref 163) [.int y] (.bool (isLeap y)) :=
  callV (pre := fun _ => True) hok hr fun vs ne h => by
    obtain ⟨_, _, e0, ⟨t0, f0⟩, en⟩ := h
    subst en; subst e0; subst f0
    exact ⟨_, is_leap_ok _ _ _ _ y t0 , trivial, fun t' ne' => rfl⟩
theorem dby_ok (w : World) (mean : ExcName → Option Value) (mg mb : Str → Option Value) (y : Int) (t : Tok) (h1 : 1 ≤ y) (h2 : y ≤ 100000) :
    ClaimV w mean mg mb 170 1 (fun _ => True) [.int y t] (fun t => .int (dby y) t) := by
  refine' claimV_of (V := .int (dby y)) (l := [("year", .int y t)]) (ρ := [("year", .int y)]) ?ho ?hcd ?hbind ?hloc ?hco ?hgen ?hk ?hcell ?hl ?hr ?hdd ?hb ?hR
  case ho => k_is
  case hcd => k_is
  case hbind => exact fun s => BindsTo.of_eq rfl
  case hloc => exact locs rfl
  case hco => exact rfl
  case hgen => exact rfl
  case hk => exact rfl
  case hcell => decide
  case hl => kernel_rfl
  case hr => exact ⟨_, _, rfl, ⟨_, rfl⟩, trivial⟩
  case hdd => decide
  case hR => exact fun v ne h => h
  case hb =>
    intro dyn9 hok
    repeat' (first
      | (with_reducible exact ev_int)
      | ((with_reducible show EvT _ _ (Expr.Name _ _) _); (with_reducible apply ev_nameR); (· with_unfolding_all rfl); (· rfl); (· rfl); (· decide))
      | ((with_reducible show EvT _ _ (Expr.BinOp _ Operator.Add (Expr.BoolOp _ _ _) _) _); (with_reducible apply ev_addB))
      | ((with_reducible show EvT _ _ (Expr.BinOp _ Operator.Add _ _) _); (with_reducible apply ev_add))
      | ((with_reducible show EvT _ _ (Expr.BinOp _ Operator.Sub _ _) _); (with_reducible apply ev_sub))
      | ((with_reducible show EvT _ _ (Expr.BinOp _ Operator.Mult _ _) _); (with_reducible apply ev_mul))
      | ((with_reducible show EvT _ _ (Expr.BinOp _ Operator.Mod _ _) _); (with_reducible apply ev_mod))
      | ((with_reducible show EvT _ _ (Expr.BinOp _ Operator.FloorDiv _ _) _); (with_reducible apply ev_div))
      | ((with_reducible show EvT _ _ (Expr.Compare _ _ _ _) _); (with_reducible apply ev_cmp))
      | ((with_reducible show EvT _ _ (Expr.BoolOp BoolOp.And (_ :: _ :: _) _) _); (with_reducible apply ev_and))
      | ((with_reducible show EvT _ _ (Expr.BoolOp BoolOp.Or (_ :: _ :: _) _) _); (with_reducible apply ev_or))
      | ((with_reducible show EvT _ _ (Expr.BoolOp _ [_] _) _); (with_reducible apply ev_one))
      | ((with_reducible show EvT _ _ (Expr.Call _ _ _ _) _); (with_reducible apply ev_call (room := _) (by assumption)))
      | (with_reducible exact evs_nil)
      | ((with_reducible show EvsT _ _ _ _); (with_reducible apply evs_cons))
      | ((with_reducible show TrT _ _ (Expr.Compare _ [_] [_] _) _); (with_reducible apply tr_cmp))
      | ((with_reducible show TrT _ _ (Expr.Compare _ [_, _] _ _) _); (with_reducible apply tr_chain))
      | ((with_reducible show TrT _ _ (Expr.BoolOp _ _ _) _); (with_reducible apply tr_ch))
      | ((with_reducible show TrT _ _ (Expr.UnaryOp UnaryOp.Not _ _) _); (with_reducible apply tr_not))
      | ((with_reducible show TrT _ _ _ _); (with_reducible apply tr_plain))
      | (with_reducible exact ch_and_nil)
      | (with_reducible exact ch_or_nil)
      | ((with_reducible show ChT _ _ BoolOp.And _ _); (with_reducible apply ch_and))
      | ((with_reducible show ChT _ _ BoolOp.Or _ _); (with_reducible apply ch_or))
      | ((with_reducible apply bs_ret); (with_reducible apply ev_conv))
      | (with_reducible apply bs_if)
      | (with_reducible apply bs_cons)
      | (with_reducible exact xs_nil)
      | (with_reducible apply xs_cons)
      | ((with_reducible apply x1_assert); (with_reducible apply tr_conv))
      | (with_reducible apply x1_assign)
      | ((with_reducible show _ → _); intro _)
      | rfl
      | (with_unfolding_all rfl)
      | rfl
      | assumption
      | decide
      | k_is
      | ((with_reducible show KTD.datLooks _ _ _ = true); kernel_rfl)
      | mul_fits
      | (intro _; with_unfolding_all rfl)
      | omega
      | (simp; omega))
theorem ct_dby {C : EC} {room : Nat} (hok : OkC C room) (hr : 1 ≤ room) (y : Int) (hc0 : 1 ≤ y) (hc1 : y ≤ 100000) : CallT C (.ref 170) [.int y] (.int (dby y)) :=
  callV (pre := fun _ => True) hok hr fun vs ne h => by
    obtain ⟨_, _, e0, ⟨t0, f0⟩, en⟩ := h
    subst en; subst e0; subst f0
    exact ⟨_, dby_ok _ _ _ _ y t0 hc0 hc1, trivial, fun t' ne' => ⟨t', rfl⟩⟩
theorem dim_ok (w : World) (mean : ExcName → Option Value) (mg mb : Str → Option Value) (y m : Int) (t u : Tok) (h1 : 1 ≤ m) (h2 : m ≤ 12) :
    ClaimV w mean mg mb 177 2 (fun _ => True) [.int y t, .int m u] (fun t => .int (dim y m) t) := by
  refine' claimV_of (V := .int (dim y m)) (l := [("month", .int m u), ("year", .int y t)]) (ρ := [("month", .int m), ("year", .int y)]) ?ho ?hcd ?hbind ?hloc ?hco ?hgen ?hk ?hcell ?hl ?hr ?hdd ?hb ?hR
  case ho => k_is
  case hcd => k_is
  case hbind => exact fun s => BindsTo.of_eq rfl
  case hloc => exact locs rfl
  case hco => exact rfl
  case hgen => exact rfl
  case hk => exact rfl
  case hcell => decide
  case hl => kernel_rfl
  case hr => exact ⟨_, _, rfl, ⟨_, rfl⟩, ⟨_, _, rfl, ⟨_, rfl⟩, trivial⟩⟩
  case hdd => decide
  case hR => exact fun v ne h => h
  case hb =>
    intro dyn9 hok
    repeat' (first
      | (with_reducible exact ev_int)
      | ((with_reducible show EvT _ _ (Expr.Name _ _) _); (with_reducible apply ev_nameR); (· with_unfolding_all rfl); (· rfl); (· rfl); (· decide))
      | ((with_reducible show EvT _ _ (Expr.Subscript _ _ _) _); (with_reducible apply ev_nums (addr := 150) (ns := [-1, 31, 28, 31, 30, 31, 30, 31, 31, 30, 31, 30, 31]) (room := _) (by assumption)))
      | ((with_reducible show EvT _ _ (Expr.BinOp _ Operator.Add (Expr.BoolOp _ _ _) _) _); (with_reducible apply ev_addB))
      | ((with_reducible show EvT _ _ (Expr.BinOp _ Operator.Add _ _) _); (with_reducible apply ev_add))
      | ((with_reducible show EvT _ _ (Expr.BinOp _ Operator.Sub _ _) _); (with_reducible apply ev_sub))
      | ((with_reducible show EvT _ _ (Expr.BinOp _ Operator.Mult _ _) _); (with_reducible apply ev_mul))
      | ((with_reducible show EvT _ _ (Expr.BinOp _ Operator.Mod _ _) _); (with_reducible apply ev_mod))
      | ((with_reducible show EvT _ _ (Expr.BinOp _ Operator.FloorDiv _ _) _); (with_reducible apply ev_div))
      | ((with_reducible show EvT _ _ (Expr.Compare _ _ _ _) _); (with_reducible apply ev_cmp))
      | ((with_reducible show EvT _ _ (Expr.BoolOp BoolOp.And (_ :: _ :: _) _) _); (with_reducible apply ev_and))
      | ((with_reducible show EvT _ _ (Expr.BoolOp BoolOp.Or (_ :: _ :: _) _) _); (with_reducible apply ev_or))
      | ((with_reducible show EvT _ _ (Expr.BoolOp _ [_] _) _); (with_reducible apply ev_one))
      | ((with_reducible show EvT _ _ (Expr.Call _ _ _ _) _); (with_reducible apply ev_call (room := _) (by assumption)))
      | (with_reducible exact evs_nil)
      | ((with_reducible show EvsT _ _ _ _); (with_reducible apply evs_cons))
      | ((with_reducible show TrT _ _ (Expr.Compare _ [_] [_] _) _); (with_reducible apply tr_cmp))
      | ((with_reducible show TrT _ _ (Expr.Compare _ [_, _] _ _) _); (with_reducible apply tr_chain))
      | ((with_reducible show TrT _ _ (Expr.BoolOp _ _ _) _); (with_reducible apply tr_ch))
      | ((with_reducible show TrT _ _ (Expr.UnaryOp UnaryOp.Not _ _) _); (with_reducible apply tr_not))
      | ((with_reducible show TrT _ _ _ _); (with_reducible apply tr_plain))
      | (with_reducible exact ch_and_nil)
      | (with_reducible exact ch_or_nil)
      | ((with_reducible show ChT _ _ BoolOp.And _ _); (with_reducible apply ch_and))
      | ((with_reducible show ChT _ _ BoolOp.Or _ _); (with_reducible apply ch_or))
      | ((with_reducible apply bs_ret); (with_reducible apply ev_conv))
      | (with_reducible apply bs_if)
      | (with_reducible apply bs_cons)
      | (with_reducible exact xs_nil)
      | (with_reducible apply xs_cons)
      | ((with_reducible apply x1_assert); (with_reducible apply tr_conv))
      | (with_reducible apply x1_assign)
      | ((with_reducible show CallT _ (Value.ref 163) _ _); (with_reducible apply ct_leap (room := _) (by assumption) (by decide)))
      | ((with_reducible show _ → _); intro _)
      | rfl
      | (with_unfolding_all rfl)
      | exact congrArg Sh.int (by (simp_all [dim]; done))
      | assumption
      | decide
      | k_is
      | ((with_reducible show KTD.datLooks _ _ _ = true); kernel_rfl)
      | mul_fits
      | (intro _; with_unfolding_all rfl)
      | lia
      | (simp; lia))
theorem ct_dim {C : EC} {room : Nat} (hok : OkC C room) (hr : 2 ≤ room) (y : Int) (m : Int) (hc0 : 1 ≤ m) (hc1 : m ≤ 12) : CallT C (.ref 177) [.int y, .int m] (.int (dim y m)) :=
  callV (pre := fun _ => True) hok hr fun vs ne h => by
    obtain ⟨_, _, e0, ⟨t0, f0⟩, ⟨_, _, e1, ⟨t1, f1⟩, en⟩⟩ := h
    subst en; subst e1; subst f1; subst e0; subst f0
    exact ⟨_, dim_ok _ _ _ _ y m t0 t1 hc0 hc1, trivial, fun t' ne' => ⟨t', rfl⟩⟩
theorem dbm_ok (w : World) (mean : ExcName → Option Value) (mg mb : Str → Option Value) (y m : Int) (t u : Tok) (h1 : 1 ≤ m) (h2 : m ≤ 12) :
    ClaimV w mean mg mb 184 2 (fun _ => True) [.int y t, .int m u] (fun t => .int (dbm y m) t) := by
  refine' claimV_of (V := .int (dbm y m)) (l := [("month", .int m u), ("year", .int y t)]) (ρ := [("month", .int m), ("year", .int y)]) ?ho ?hcd ?hbind ?hloc ?hco ?hgen ?hk ?hcell ?hl ?hr ?hdd ?hb ?hR
  case ho => k_is
  case hcd => k_is
  case hbind => exact fun s => BindsTo.of_eq rfl
  case hloc => exact locs rfl
  case hco => exact rfl
  case hgen => exact rfl
  case hk => exact rfl
  case hcell => decide
  case hl => kernel_rfl
  case hr => exact ⟨_, _, rfl, ⟨_, rfl⟩, ⟨_, _, rfl, ⟨_, rfl⟩, trivial⟩⟩
  case hdd => decide
  case hR => exact fun v ne h => h
  case hb =>
    intro dyn9 hok
    repeat' (first
      | (with_reducible exact ev_int)
      | ((with_reducible show EvT _ _ (Expr.Name _ _) _); (with_reducible apply ev_nameR); (· with_unfolding_all rfl); (· rfl); (· rfl); (· decide))
      | ((with_reducible show EvT _ _ (Expr.Subscript _ _ _) _); (with_reducible apply ev_nums (addr := 151) (ns := [-1, 0, 31, 59, 90, 120, 151, 181, 212, 243, 273, 304, 334]) (room := _) (by assumption)))
      | ((with_reducible show EvT _ _ (Expr.BinOp _ Operator.Add (Expr.BoolOp _ _ _) _) _); (with_reducible apply ev_addB))
      | ((with_reducible show EvT _ _ (Expr.BinOp _ Operator.Add _ _) _); (with_reducible apply ev_add))
      | ((with_reducible show EvT _ _ (Expr.BinOp _ Operator.Sub _ _) _); (with_reducible apply ev_sub))
      | ((with_reducible show EvT _ _ (Expr.BinOp _ Operator.Mult _ _) _); (with_reducible apply ev_mul))
      | ((with_reducible show EvT _ _ (Expr.BinOp _ Operator.Mod _ _) _); (with_reducible apply ev_mod))
      | ((with_reducible show EvT _ _ (Expr.BinOp _ Operator.FloorDiv _ _) _); (with_reducible apply ev_div))
      | ((with_reducible show EvT _ _ (Expr.Compare _ _ _ _) _); (with_reducible apply ev_cmp))
      | ((with_reducible show EvT _ _ (Expr.BoolOp BoolOp.And (_ :: _ :: _) _) _); (with_reducible apply ev_and))
      | ((with_reducible show EvT _ _ (Expr.BoolOp BoolOp.Or (_ :: _ :: _) _) _); (with_reducible apply ev_or))
      | ((with_reducible show EvT _ _ (Expr.BoolOp _ [_] _) _); (with_reducible apply ev_one))
      | ((with_reducible show EvT _ _ (Expr.Call _ _ _ _) _); (with_reducible apply ev_call (room := _) (by assumption)))
      | (with_reducible exact evs_nil)
      | ((with_reducible show EvsT _ _ _ _); (with_reducible apply evs_cons))
      | ((with_reducible show TrT _ _ (Expr.Compare _ [_] [_] _) _); (with_reducible apply tr_cmp))
      | ((with_reducible show TrT _ _ (Expr.Compare _ [_, _] _ _) _); (with_reducible apply tr_chain))
      | ((with_reducible show TrT _ _ (Expr.BoolOp _ _ _) _); (with_reducible apply tr_ch))
      | ((with_reducible show TrT _ _ (Expr.UnaryOp UnaryOp.Not _ _) _); (with_reducible apply tr_not))
      | ((with_reducible show TrT _ _ _ _); (with_reducible apply tr_plain))
      | (with_reducible exact ch_and_nil)
      | (with_reducible exact ch_or_nil)
      | ((with_reducible show ChT _ _ BoolOp.And _ _); (with_reducible apply ch_and))
      | ((with_reducible show ChT _ _ BoolOp.Or _ _); (with_reducible apply ch_or))
      | ((with_reducible apply bs_ret); (with_reducible apply ev_conv))
      | (with_reducible apply bs_if)
      | (with_reducible apply bs_cons)
      | (with_reducible exact xs_nil)
      | (with_reducible apply xs_cons)
      | ((with_reducible apply x1_assert); (with_reducible apply tr_conv))
      | (with_reducible apply x1_assign)
      | ((with_reducible show CallT _ (Value.ref 163) _ _); (with_reducible apply ct_leap (room := _) (by assumption) (by decide)))
      | ((with_reducible show _ → _); intro _)
      | rfl
      | (with_unfolding_all rfl)
      | exact congrArg Sh.int (by first | (simp_all [dbm]; done) | (simp_all [dbm]; lia))
      | assumption
      | decide
      | k_is
      | ((with_reducible show KTD.datLooks _ _ _ = true); kernel_rfl)
      | mul_fits
      | (intro _; with_unfolding_all rfl)
      | lia
      | (simp; lia))
theorem ct_dbm {C : EC} {room : Nat} (hok : OkC C room) (hr : 2 ≤ room) (y : Int) (m : Int) (hc0 : 1 ≤ m) (hc1 : m ≤ 12) : CallT C (.ref 184) [.int y, .int m] (.int (dbm y m)) :=
  callV (pre := fun _ => True) hok hr fun vs ne h => by
    obtain ⟨_, _, e0, ⟨t0, f0⟩, ⟨_, _, e1, ⟨t1, f1⟩, en⟩⟩ := h
    subst en; subst e1; subst f1; subst e0; subst f0
    exact ⟨_, dbm_ok _ _ _ _ y m t0 t1 hc0 hc1, trivial, fun t' ne' => ⟨t', rfl⟩⟩
theorem ymd_ok (w : World) (mean : ExcName → Option Value) (mg mb : Str → Option Value) (y m d : Int) (t u v : Tok) (hy1 : 1 ≤ y) (hy2 : y ≤ 100000) (h1 : 1 ≤ m) (h2 : m ≤ 12) (h3 : 1 ≤ d) (h4 : d ≤ dim y m) :
    ClaimV w mean mg mb 191 4 (fun _ => True) [.int y t, .int m u, .int d v] (fun t => .int (ymdOrd y m d) t) := by
  refine' claimV_of (V := .int (ymdOrd y m d)) (l := [("day", .int d v), ("month", .int m u), ("year", .int y t)]) (ρ := [("day", .int d), ("month", .int m), ("year", .int y)]) ?ho ?hcd ?hbind ?hloc ?hco ?hgen ?hk ?hcell ?hl ?hr ?hdd ?hb ?hR
  case ho => k_is
  case hcd => k_is
  case hbind => exact fun s => BindsTo.of_eq rfl
  case hloc => exact locs rfl
  case hco => exact rfl
  case hgen => exact rfl
  case hk => exact rfl
  case hcell => decide
  case hl => kernel_rfl
  case hr => exact ⟨_, _, rfl, ⟨_, rfl⟩, ⟨_, _, rfl, ⟨_, rfl⟩, ⟨_, _, rfl, ⟨_, rfl⟩, trivial⟩⟩⟩
  case hdd => decide
  case hR => exact fun v ne h => h
  case hb =>
    intro dyn9 hok
    have hdm := @dim_le y m h1 h2
    repeat' (first
      | (with_reducible exact ev_int)
      | ((with_reducible show EvT _ _ (Expr.Name _ _) _); (with_reducible apply ev_nameR); (· with_unfolding_all rfl); (· rfl); (· rfl); (· decide))
      | ((with_reducible show EvT _ _ (Expr.BinOp _ Operator.Add (Expr.BoolOp _ _ _) _) _); (with_reducible apply ev_addB))
      | ((with_reducible show EvT _ _ (Expr.BinOp _ Operator.Add _ _) _); (with_reducible apply ev_add))
      | ((with_reducible show EvT _ _ (Expr.BinOp _ Operator.Sub _ _) _); (with_reducible apply ev_sub))
      | ((with_reducible show EvT _ _ (Expr.BinOp _ Operator.Mult _ _) _); (with_reducible apply ev_mul))
      | ((with_reducible show EvT _ _ (Expr.BinOp _ Operator.Mod _ _) _); (with_reducible apply ev_mod))
      | ((with_reducible show EvT _ _ (Expr.BinOp _ Operator.FloorDiv _ _) _); (with_reducible apply ev_div))
      | ((with_reducible show EvT _ _ (Expr.Compare _ _ _ _) _); (with_reducible apply ev_cmp))
      | ((with_reducible show EvT _ _ (Expr.BoolOp BoolOp.And (_ :: _ :: _) _) _); (with_reducible apply ev_and))
      | ((with_reducible show EvT _ _ (Expr.BoolOp BoolOp.Or (_ :: _ :: _) _) _); (with_reducible apply ev_or))
      | ((with_reducible show EvT _ _ (Expr.BoolOp _ [_] _) _); (with_reducible apply ev_one))
      | ((with_reducible show EvT _ _ (Expr.Call _ _ _ _) _); (with_reducible apply ev_call (room := _) (by assumption)))
      | (with_reducible exact evs_nil)
      | ((with_reducible show EvsT _ _ _ _); (with_reducible apply evs_cons))
      | ((with_reducible show TrT _ _ (Expr.Compare _ [_] [_] _) _); (with_reducible apply tr_cmp))
      | ((with_reducible show TrT _ _ (Expr.Compare _ [_, _] _ _) _); (with_reducible apply tr_chain))
      | ((with_reducible show TrT _ _ (Expr.BoolOp _ _ _) _); (with_reducible apply tr_ch))
      | ((with_reducible show TrT _ _ (Expr.UnaryOp UnaryOp.Not _ _) _); (with_reducible apply tr_not))
      | ((with_reducible show TrT _ _ _ _); (with_reducible apply tr_plain))
      | (with_reducible exact ch_and_nil)
      | (with_reducible exact ch_or_nil)
      | ((with_reducible show ChT _ _ BoolOp.And _ _); (with_reducible apply ch_and))
      | ((with_reducible show ChT _ _ BoolOp.Or _ _); (with_reducible apply ch_or))
      | ((with_reducible apply bs_ret); (with_reducible apply ev_conv))
      | (with_reducible apply bs_if)
      | (with_reducible apply bs_cons)
      | (with_reducible exact xs_nil)
      | (with_reducible apply xs_cons)
      | ((with_reducible apply x1_assert); (with_reducible apply tr_conv))
      | (with_reducible apply x1_assign)
      | ((with_reducible show CallT _ (Value.ref 170) _ _); (with_reducible apply ct_dby (room := _) (by assumption) (by decide)))
      | ((with_reducible show CallT _ (Value.ref 177) _ _); (with_reducible apply ct_dim (room := _) (by assumption) (by decide)))
      | ((with_reducible show CallT _ (Value.ref 184) _ _); (with_reducible apply ct_dbm (room := _) (by assumption) (by decide)))
      | ((with_reducible show _ → _); intro _)
      | rfl
      | (with_unfolding_all rfl)
      | rfl
      | assumption
      | decide
      | k_is
      | ((with_reducible show KTD.datLooks _ _ _ = true); kernel_rfl)
      | mul_fits
      | (intro _; with_unfolding_all rfl)
      | lia
      | (simp; lia))
end D1s
noncomputable section KTs
section
variable {prog : Program} {w : World} {A : Around} {E : Value → Shared → Prop} {s : Shared} {h₀ : Heap} {L : Addr} {m : Str → Option Value} {news : List (Addr × Obj)}
theorem applied_upto {sl : Addr} {b n : Nat} {u : Tok} {Q : Int × Int × Nat → Shared → Prop} (hs : s.heap.IsSliceOf sl .none (.int b u) .none) (hb : b ≤ n) (h : Q (0, 1, b) s) :
    wpAny (model prog w) A (Builtin.Slice.sliceApplied (.ref sl) (pure (n : Int))) Q E s := by
  obtain ⟨os, hos, hcs, hds⟩ := id hs
  have e1 : Builtin.Slice.sliceAdjust none (some (b : Int)) 1 (n : Int) = (0, (b : Int)) := by
    unfold Builtin.Slice.sliceAdjust
    have h1 : ¬ ((1 : Int) < 0) := by omega
    have h2 : ¬ ((b : Int) < 0) := by omega
    simp only [h1, h2, if_false]
    congr 1
    omega
  have e2 : Builtin.Slice.slicePlaces 0 (b : Int) 1 = b := by
    unfold Builtin.Slice.slicePlaces
    have h1 : (1 : Int) > 0 := by omega
    simp only [h1, if_true, Int.ediv_one]
    split <;> omega
  unfold Builtin.Slice.sliceApplied Builtin.Slice.sliceFields
  refine wpAny_bind (wpAny_bind (wpAny_field hos hds (x := .none) rfl (wpAny_bind (wpAny_field hos hds (x := .int b u) rfl (wpAny_bind (wpAny_field hos hds (x := .none) rfl (wpAny_pure ?_)))))))
  refine wpAny_bind (slicePart_none ?_)
  show wpAny _ _ (if ((1 : Int) == 0) = true then _ else _) _ _ s
  rw [if_neg (by decide)]
  refine wpAny_bind (slicePart_none (wpAny_bind (slicePart_int (wpAny_bind (wpAny_pure ?_)))))
  show wpAny _ _ (match Builtin.Slice.sliceAdjust none (some (b : Int)) 1 (n : Int) with | (lo, hi) => pure (lo, (1 : Int), Builtin.Slice.slicePlaces lo hi 1)) _ _ s
  rw [e1]
  show wpAny _ _ (pure ((0 : Int), (1 : Int), Builtin.Slice.slicePlaces 0 (b : Int) 1)) _ _ s
  rw [e2]
  exact wpAny_pure h
theorem getItem_tuple_upto {t sl : Addr} {items : Array Value} {b : Nat} {u : Tok} {zs : List Value} {Q : Value → Shared → Prop} (ht : IsTup s.heap t items) (hs : s.heap.IsSliceOf sl .none (.int b u) .none) (hb : b < items.size)
    (ez : ((List.range b).filterMap fun (k : Nat) => items[((0 : Int) + (k : Int) * 1).toNat]?) = zs) (hz : zs.length ≤ 1000)
    (h : Q (.ref s.heap.objs.size) { s with heap := s.heap.push { cls := .type "tuple", data := .seq zs.toArray } }) : wpAny (model prog w) A (getItem (.ref t) (.ref sl)) Q E s := by
  have hdrop : sizeOk (.seq zs.toArray) := by
    show zs.toArray.size ≤ sizeLine
    rw [List.size_toArray, PySem.sizeLine_eq]
    omega
  obtain ⟨os, hos, hcs, hds⟩ := id hs
  have hTs : s.TypeIs (.ref sl) "slice" := ⟨os, hos, hcs⟩
  unfold getItem
  try with_reducible refine wpAny_holding ?_
  first | refine wpAny_bind (wpAny_pure ?_) | skip
  refine wpAny_bind (wpAny_sequenceKey ht.typeIs (by decide) ?_)
  refine wpAny_bind (wpAny_callSpecial?_slot (name := Str.ofString "__getitem__") ht.typeIs slot_tuple_getitem
    (wpAny_call_entry slot_tuple_getitem ht.typeIs entry_tuple_getitem ?_ (args_tuple_getitem _ _)))
  show wpAny _ _ (Builtin.Tuple.tupleItemsOf (.ref t) >>= _) _ _ s
  refine wpAny_bind (tupleItemsOf_ ht ?_)
  refine wpAny_bind (wpAny_typeOf hTs ?_)
  rw [if_pos (by decide)]
  refine wpAny_bind (applied_upto hs (Nat.le_of_lt hb) ?_)
  have hno : ¬ (((0 : Int) == 0 && (1 : Int) == 1 && b == items.size) = true) := by
    have : (b == items.size) = false := by rw [beq_eq_false_iff_ne]; omega
    rw [this]; simp
  show wpAny _ _ (if ((0 : Int) == 0 && (1 : Int) == 1 && b == items.size) = true then _ else _) _ _ s
  rw [if_neg hno, ez]
  first
    | exact wpAny_bind (m := Builtin.Tuple.tupleExact _) (wpAny_newObj_type (wpAny_pure ⟨_, rfl, wpAny_pure h⟩) hdrop)
    | exact wpAny_bind (m := Builtin.Tuple.tupleExact _) (wpAny_newObj_type (wpAny_bind (wpAny_pure (wpAny_pure ⟨_, rfl, wpAny_pure h⟩))) hdrop)
    | exact wpAny_bind (wpAny_bind (m := Builtin.Tuple.tupleExact _) (wpAny_newObj_type (wpAny_pure (wpAny_pure ⟨_, rfl, wpAny_pure h⟩)) hdrop))
    | exact wpAny_bind (wpAny_bind (m := Builtin.Tuple.tupleExact _) (wpAny_newObj_type (wpAny_pure ⟨_, rfl, wpAny_pure h⟩) hdrop))
theorem slice_tup_upto {value slice : Expr} {t : Addr} {items : Array Value} {b : Nat} {u : Tok} {zs : List Value} {Q : Value → Shared → Prop}
    (F : Fr h₀ L s.heap m) (N : News h₀ L s.heap news) (ht : IsTup s.heap t items) (hb : b < items.size)
    (ez : ((List.range b).filterMap fun (k : Nat) => items[((0 : Int) + (k : Int) * 1).toNat]?) = zs) (hz : zs.length ≤ 1000)
    (h : ∀ D h', Fr h₀ L h' m → News h₀ L h' ((D, ({ cls := .type "tuple", data := .seq zs.toArray } : Obj)) :: news) → (∀ p ∈ news, p.1 < D) → Q (.ref D) { s with heap := h' })
    (hs : subscripted slice false (.ref t) (.ref s.heap.objs.size) = operate [.ref s.heap.objs.size, .ref t] (getItem (.ref t) (.ref s.heap.objs.size)))
    (hg : ∀ r, letTemporaryGo value (.ref t) r = pure ()) :
    wpAny (model prog w) A (subscriptTail value slice (.ref t) (.ref s.heap.objs.size)) Q E { s with heap := s.heap.push { cls := .type "slice", data := .fields #[.none, .int b u, .none] } } := by
  have ht' : IsTup (s.heap.push { cls := .type "slice", data := .fields #[.none, .int b u, .none] }) t items := ht.keeps fun _ _ e => Heap.get?_push_of_some _ e
  refine subscriptTail_ops (s := { s with heap := s.heap.push { cls := .type "slice", data := .fields #[.none, .int b u, .none] } }) ht'.typeIs slot_tuple_getitem.lookup
    (getItem_tuple_upto ht' (Heap.IsSliceOf.new ..) hb ez hz ?_) hs hg
  have N1 := News.push (F.push { cls := .type "slice", data := .fields #[.none, .int b u, .none] }) (N.grown fun _ _ e => Heap.get?_push_of_some _ e) { cls := .type "tuple", data := .seq zs.toArray }
  rw [Heap.size_push] at N1
  show Q (.ref (s.heap.push _).objs.size) _
  rw [Heap.size_push]
  exact h _ _ ((F.push _).push _) N1 fun p hp => Nat.lt_succ_of_lt (Heap.lt_size (N p hp).1)
theorem slice_tup_from {value slice : Expr} {t : Addr} {items : Array Value} {b : Nat} {u : Tok} {zs : List Value} {Q : Value → Shared → Prop}
    (F : Fr h₀ L s.heap m) (N : News h₀ L s.heap news) (ht : IsTup s.heap t items) (h1 : 1 ≤ b) (hb : b ≤ items.size)
    (ez : items.toList.drop b = zs) (hz : items.size ≤ sizeLine)
    (h : ∀ D h', Fr h₀ L h' m → News h₀ L h' ((D, ({ cls := .type "tuple", data := .seq zs.toArray } : Obj)) :: news) → (∀ p ∈ news, p.1 < D) → Q (.ref D) { s with heap := h' })
    (hs : subscripted slice false (.ref t) (.ref s.heap.objs.size) = operate [.ref s.heap.objs.size, .ref t] (getItem (.ref t) (.ref s.heap.objs.size)))
    (hg : ∀ r, letTemporaryGo value (.ref t) r = pure ()) :
    wpAny (model prog w) A (subscriptTail value slice (.ref t) (.ref s.heap.objs.size)) Q E { s with heap := s.heap.push { cls := .type "slice", data := .fields #[.int b u, .none, .none] } } := by
  subst ez
  exact slice_tuple_from F N ht h1 hb (fun h' F' N' => h _ h' F' N' fun p hp => Nat.lt_succ_of_lt (Heap.lt_size (N p hp).1)) hs hg hz
end

theorem take_filter (items : Array Value) : ∀ b : Nat, ((List.range b).filterMap fun (k : Nat) => items[((0 : Int) + (k : Int) * 1).toNat]?) = items.toList.take b
  | 0 => rfl
  | b + 1 => by
    rw [List.range_succ, List.filterMap_append, take_filter items b, List.take_add_one]
    congr 1
    have e : ((0 : Int) + (b : Int) * 1).toNat = b := by omega
    simp only [List.filterMap_cons, List.filterMap_nil, e]
    rw [Array.getElem?_toList]
    cases items[b]? <;> rfl
section
variable {prog : Program} {w : World} {A : Around} {E : Value → Shared → Prop} {s : Shared} {h₀ : Heap} {L : Addr} {m : Str → Option Value} {news : List (Addr × Obj)}
theorem slice_tup_take {value slice : Expr} {t : Addr} {items : Array Value} {b : Nat} {u : Tok} {zs : List Value} {Q : Value → Shared → Prop}
    (F : Fr h₀ L s.heap m) (N : News h₀ L s.heap news) (ht : IsTup s.heap t items) (hb : b < items.size)
    (ez : items.toList.take b = zs) (hz : zs.length ≤ 1000)
    (h : ∀ D h', Fr h₀ L h' m → News h₀ L h' ((D, ({ cls := .type "tuple", data := .seq zs.toArray } : Obj)) :: news) → (∀ p ∈ news, p.1 < D) → Q (.ref D) { s with heap := h' })
    (hs : subscripted slice false (.ref t) (.ref s.heap.objs.size) = operate [.ref s.heap.objs.size, .ref t] (getItem (.ref t) (.ref s.heap.objs.size)))
    (hg : ∀ r, letTemporaryGo value (.ref t) r = pure ()) :
    wpAny (model prog w) A (subscriptTail value slice (.ref t) (.ref s.heap.objs.size)) Q E { s with heap := s.heap.push { cls := .type "slice", data := .fields #[.none, .int b u, .none] } } :=
  slice_tup_upto F N ht hb (by rw [take_filter]; exact ez) hz h hs hg
end
end KTs
noncomputable section M1s
theorem fm (a b : Int) (hb : 0 ≤ b) : a.fmod b = a % b := Int.fmod_eq_emod_of_nonneg a hb
theorem fd (a b : Int) (hb : 0 ≤ b) : a.fdiv b = a / b := Int.fdiv_eq_ediv_of_nonneg a hb
theorem isLeap_iff (y : Int) : isLeap y = true ↔ (y % 4 = 0 ∧ (y % 100 ≠ 0 ∨ y % 400 = 0)) := by
  unfold isLeap
  rw [fm _ _ (by decide), fm _ _ (by decide), fm _ _ (by decide)]
  simp
theorem dby_eq (y : Int) : dby y = (y - 1) * 365 + (y - 1) / 4 - (y - 1) / 100 + (y - 1) / 400 := by
  unfold dby
  rw [fd _ _ (by decide), fd _ _ (by decide), fd _ _ (by decide)]
/-- the day of the year, from 0 -/
def doy (y m d : Int) : Int := dbm y m + d - 1
/-- the days ahead of a month, a month's days, as tables -/
def DB (b : Bool) (m : Nat) : Nat := ([0, 0, 31, 59, 90, 120, 151, 181, 212, 243, 273, 304, 334] : List Nat).getD m 0 + (if 2 < m && b then 1 else 0)
def DM (b : Bool) (m : Nat) : Nat := if m == 2 && b then 29 else ([0, 31, 28, 31, 30, 31, 30, 31, 31, 30, 31, 30, 31] : List Nat).getD m 0
theorem tabs_of {y m : Int} (h1 : 1 ≤ m) (h2 : m ≤ 12) : dbm y m = (DB (isLeap y) m.toNat : Nat) ∧ dim y m = (DM (isLeap y) m.toNat : Nat) := by
  unfold dbm dim
  exact tab12 (Q := fun m => ∀ b : Bool, dbmB b m = (DB b m.toNat : Nat) ∧ dimB b m = (DM b m.toNat : Nat)) (by decide) m h1 h2 (isLeap y)
theorem nat_of {m d : Int} (h1 : 1 ≤ m) (h2 : m ≤ 12) (h3 : 1 ≤ d) (h4 : d ≤ 31) : ∃ i j : Nat, m = i ∧ d = j ∧ 1 ≤ i ∧ i < 13 ∧ 1 ≤ j ∧ j < 32 := ⟨m.toNat, d.toNat, by lia, by lia, by lia, by lia, by lia, by lia⟩
theorem doy_tab (b : Bool) : ∀ i < 13, ∀ j < 32, (1 ≤ i ∧ 1 ≤ j ∧ j ≤ DM b i) → DB b i + j ≤ 365 + (if b then 1 else 0) ∧ (DB b i + j ≠ 366 ∨ i = 12 ∧ j = 31) := by cases b <;> decide +kernel
theorem doy_lt {y m d : Int} (h1 : 1 ≤ m) (h2 : m ≤ 12) (h3 : 1 ≤ d) (h4 : d ≤ dim y m) : 0 ≤ doy y m d ∧ doy y m d ≤ 364 + (if isLeap y = true then 1 else 0) ∧ (doy y m d = 365 → m = 12 ∧ d = 31) := by
  obtain ⟨t1, t2⟩ := tabs_of (y := y) h1 h2
  have hb := dim_le (y := y) h1 h2
  obtain ⟨i, j, rfl, rfl, i1, i2, j1, j2⟩ := nat_of h1 h2 h3 (by lia)
  rw [Int.toNat_natCast] at t1 t2
  unfold doy
  rw [t1]
  rw [t2] at h4
  clear t1 t2 hb h1 h2 h3
  generalize isLeap y = b at *
  obtain ⟨r1, r2⟩ := doy_tab b i i2 j j2 ⟨i1, j1, by lia⟩
  generalize DB b i = q at *
  cases b <;> simp only [if_true, Bool.false_eq_true, if_false] at r1 ⊢ <;> refine ⟨by lia, by lia, fun e => ?_⟩ <;> have r3 := r2.resolve_left (by lia) <;> lia
/-- what _ord2ymd's four divmods of the day n are -/
structure Cut (n A B C D F G H R : Int) : Prop where
  eA : (n - 1).fdiv 146097 = A
  eB : (n - 1).fmod 146097 = B
  eC : B.fdiv 36524 = C
  eD : B.fmod 36524 = D
  eF : D.fdiv 1461 = F
  eG : D.fmod 1461 = G
  eH : G.fdiv 365 = H
  eR : G.fmod 365 = R
/-- the year ahead of y, cut by 400, 100, 4 -/
theorem year_cut {y : Int} (hy : 1 ≤ y) : ∃ a c f h : Int, y = 400 * a + 100 * c + 4 * f + h + 1 ∧ 0 ≤ a ∧ 0 ≤ c ∧ c ≤ 3 ∧ 0 ≤ f ∧ f ≤ 24 ∧ 0 ≤ h ∧ h ≤ 3 :=
  ⟨(y - 1) / 400, (y - 1) % 400 / 100, (y - 1) % 100 / 4, (y - 1) % 4, by omega, by omega, by omega, by omega, by omega, by omega, by omega, by omega⟩
theorem dby_cut {y a c f h : Int} (e : y = 400 * a + 100 * c + 4 * f + h + 1) (c0 : 0 ≤ c) (c3 : c ≤ 3) (f0 : 0 ≤ f) (f3 : f ≤ 24) (h0 : 0 ≤ h) (h3 : h ≤ 3) :
    dby y = 146097 * a + 36524 * c + 1461 * f + 365 * h := by
  rw [dby_eq]
  have e1 : (y - 1) / 4 = 100 * a + 25 * c + f := by lia
  have e2 : (y - 1) / 100 = 4 * a + c := by lia
  have e3 : (y - 1) / 400 = a := by lia
  lia
theorem leap_cut {y a c f h : Int} (e : y = 400 * a + 100 * c + 4 * f + h + 1) (c0 : 0 ≤ c) (c3 : c ≤ 3) (f0 : 0 ≤ f) (f3 : f ≤ 24) (h0 : 0 ≤ h) (h3 : h ≤ 3) :
    isLeap y = (decide (h = 3) && (decide (f ≠ 24) || decide (c = 3))) := by
  rw [Bool.eq_iff_iff, isLeap_iff]
  simp only [Bool.and_eq_true, Bool.or_eq_true, decide_eq_true_eq]
  lia
theorem cut_of {n A B C D F G H R : Int} (b : n - 1 = 146097 * A + B) (b0 : 0 ≤ B) (b1 : B < 146097) (d0 : B = 36524 * C + D) (dd : 0 ≤ D) (d1 : D < 36524) (g : D = 1461 * F + G) (g0 : 0 ≤ G) (g1 : G < 1461) (r : G = 365 * H + R) (r0 : 0 ≤ R) (r1 : R < 365) :
    Cut n A B C D F G H R := by
  refine ⟨?_, ?_, ?_, ?_, ?_, ?_, ?_, ?_⟩ <;> simp only [fm _ 146097 (by decide), fd _ 146097 (by decide), fm _ 36524 (by decide), fd _ 36524 (by decide), fm _ 1461 (by decide), fd _ 1461 (by decide), fm _ 365 (by decide), fd _ 365 (by decide)] <;> omega
theorem cut_last {y m d : Int} (hy : 1 ≤ y) (h1 : 1 ≤ m) (h2 : m ≤ 12) (h3 : 1 ≤ d) (h4 : d ≤ dim y m) (hl : doy y m d = 365) :
    ∃ A B C D F G H, Cut (ymdOrd y m d) A B C D F G H 0 ∧ (H = 4 ∨ (C = 4 ∧ H = 0)) ∧ 0 ≤ A ∧ A * 400 + 1 + (C * 100 + F * 4 + H) - 1 = y ∧ m = 12 ∧ d = 31 := by
  obtain ⟨a1, a2, a3⟩ := doy_lt h1 h2 h3 h4
  obtain ⟨rfl, rfl⟩ := a3 hl
  obtain ⟨a, c, f, h, e, a0, c0, c3, f0, f3, h0, h3⟩ := year_cut hy
  have hL : isLeap y = true := by
    cases e : isLeap y with
    | true => rfl
    | false => rw [e, hl] at a2; simp at a2
  have hn : ymdOrd y 12 31 = dby y + 366 := by unfold ymdOrd; unfold doy at hl; lia
  rw [leap_cut e c0 c3 f0 f3 h0 h3] at hL
  simp only [Bool.and_eq_true, Bool.or_eq_true, decide_eq_true_eq] at hL
  rw [hn, dby_cut e c0 c3 f0 f3 h0 h3]
  by_cases hf : f = 24
  · have hc : c = 3 := by lia
    exact ⟨a, 146096, 4, 0, 0, 0, 0, cut_of (by lia) (by lia) (by lia) (by lia) (by lia) (by lia) (by lia) (by lia) (by lia) (by lia) (by lia) (by lia), by lia, a0, by lia, rfl, rfl⟩
  · exact ⟨a, 36524 * c + 1461 * f + 1460, c, 1461 * f + 1460, f, 1460, 4, cut_of (by lia) (by lia) (by lia) (by lia) (by lia) (by lia) (by lia) (by lia) (by lia) (by lia) (by lia) (by lia), by lia, a0, by lia, rfl, rfl⟩
theorem cut_plain {y m d : Int} (hy : 1 ≤ y) (h1 : 1 ≤ m) (h2 : m ≤ 12) (h3 : 1 ≤ d) (h4 : d ≤ dim y m) (hl : doy y m d ≠ 365) :
    ∃ A B C D F G H, Cut (ymdOrd y m d) A B C D F G H (doy y m d) ∧ 0 ≤ A ∧ 0 ≤ C ∧ C ≤ 3 ∧ 0 ≤ F ∧ F ≤ 24 ∧ 0 ≤ H ∧ H ≤ 3 ∧ A * 400 + 1 + (C * 100 + F * 4 + H) = y ∧ isLeap y = (decide (H = 3) && (decide (F ≠ 24) || decide (C = 3))) := by
  obtain ⟨a1, a2, a3⟩ := doy_lt h1 h2 h3 h4
  obtain ⟨a, c, f, h, e, a0, c0, c3, f0, f3, h0, h3'⟩ := year_cut hy
  have hn : ymdOrd y m d = dby y + doy y m d + 1 := by unfold ymdOrd doy; lia
  rw [hn, dby_cut e c0 c3 f0 f3 h0 h3']
  have hd : doy y m d ≤ 364 := by split at a2 <;> lia
  generalize doy y m d = q at a1 hd
  exact ⟨a, 36524 * c + 1461 * f + 365 * h + q, c, 1461 * f + 365 * h + q, f, 365 * h + q, h, cut_of (by lia) (by lia) (by lia) (by lia) (by lia) (by lia) (by lia) (by lia) (by lia) (by lia) (by lia) (by lia), a0, c0, c3, f0, f3, h0, h3', by lia, leap_cut e c0 c3 f0 f3 h0 h3'⟩
/-- the month by the estimate of _ord2ymd -/
theorem est_tab (b : Bool) : ∀ i < 13, ∀ j < 32, (1 ≤ i ∧ 1 ≤ j ∧ j ≤ DM b i) → 1 ≤ (DB b i + j + 49) / 32 ∧ (DB b i + j + 49) / 32 ≤ 12 := by cases b <;> decide +kernel
theorem est_tab2 (b : Bool) : ∀ i < 13, ∀ j < 32, (1 ≤ i ∧ 1 ≤ j ∧ j ≤ DM b i) → ((DB b i + j + 49) / 32 = i ∧ DB b ((DB b i + j + 49) / 32) < DB b i + j) ∨ ((DB b i + j + 49) / 32 = i + 1 ∧ DB b i + j ≤ DB b ((DB b i + j + 49) / 32) ∧ 2 ≤ (DB b i + j + 49) / 32) := by cases b <;> decide +kernel
theorem month_est {y m d : Int} (h1 : 1 ≤ m) (h2 : m ≤ 12) (h3 : 1 ≤ d) (h4 : d ≤ dim y m) :
    let mo := (doy y m d + 50).fdiv (2 ^ Int.toNat 5)
    1 ≤ mo ∧ mo ≤ 12 ∧ (dbm y mo ≤ doy y m d → mo = m) ∧ (doy y m d < dbm y mo → mo = m + 1 ∧ 2 ≤ mo) := by
  have e : (doy y m d + 50).fdiv (2 ^ Int.toNat 5) = (doy y m d + 50) / 32 := by rw [fd _ _ (by decide)]; rfl
  intro mo
  have hmo : mo = (doy y m d + 50) / 32 := e
  clear_value mo
  clear e
  obtain ⟨t1, t2⟩ := tabs_of (y := y) h1 h2
  have hb := dim_le (y := y) h1 h2
  obtain ⟨i, j, rfl, rfl, i1, i2, j1, j2⟩ := nat_of h1 h2 h3 (by lia)
  rw [Int.toNat_natCast] at t1 t2
  unfold doy at hmo ⊢
  rw [t1] at hmo ⊢
  rw [t2] at h4
  have hj : j ≤ DM (isLeap y) i := by lia
  obtain ⟨r1, r2⟩ := est_tab (isLeap y) i i2 j j2 ⟨i1, j1, hj⟩
  have r3 := est_tab2 (isLeap y) i i2 j j2 ⟨i1, j1, hj⟩
  have hk : mo = (((DB (isLeap y) i + j + 49) / 32 : Nat) : Int) := by lia
  clear hmo hb t1 t2 h1 h2 h3 h4 hj
  generalize (DB (isLeap y) i + j + 49) / 32 = k at *
  subst hk
  have t3 := (tabs_of (y := y) (m := (k : Int)) (by lia) (by lia)).1
  rw [Int.toNat_natCast] at t3
  rw [t3]
  clear t3
  generalize DB (isLeap y) i = q at *
  generalize DB (isLeap y) k = p at *
  refine ⟨by lia, by lia, fun _ => by lia, fun _ => ⟨by lia, by lia⟩⟩
end M1s
noncomputable section D8s
namespace TX
section
variable {prog : Program} {w : World} {A : Around} {E : Value → Shared → Prop} {s : Shared} {h₀ : Heap} {L : Addr} {m : Str → Option Value} {news : List (Addr × Obj)} {x y z : Str} {t u : Tok} {Q : Value → Shared → Prop} {b : Bool} {i j : Int}
theorem words_of {ys : List Str} (hF : Fr h₀ L s.heap m) (hN : News h₀ L s.heap news) (e : Txt.words x = ys) (hx : x.length ≤ 100)
    (h : ∀ D (τ : Nat → Tok) h' k, Fr h₀ L h' m → News h₀ L h' ((D, listOf ((ys.mapIdx fun i y => Value.str y (τ i))).toArray 0) :: news) → (∀ p ∈ news, p.1 < D) → Q (.ref D) { s with heap := h', toks := k }) :
    wpAny (model prog w) A (call (.builtin "str.split") [.str x t]) Q E s := by
  refine KSpl.split0 hF hN ?_ (by rw [PySem.sizeLine_eq]; omega)
  intro D l h' k el _ F' N' hl
  refine h D (fun i => (l[i]?.map (·.2)).getD 0) h' k F' ?_ hl
  have e9 : strValues l = (ys.mapIdx fun i y => Value.str y ((l[i]?.map (·.2)).getD 0)) := by
    rw [← e, ← el]
    apply List.ext_getElem?
    intro i
    simp only [strValues, List.getElem?_map, List.getElem?_mapIdx]
    cases l[i]? <;> rfl
  rw [← e9]
  exact N'
theorem split_of {ys : List Str} (hF : Fr h₀ L s.heap m) (hN : News h₀ L s.heap news) (e : Txt.split x y = ys) (hy : (y.length == 0) = false) (hx : x.length ≤ 100)
    (h : ∀ D (τ : Nat → Tok) h' k, Fr h₀ L h' m → News h₀ L h' ((D, listOf ((ys.mapIdx fun i y => Value.str y (τ i))).toArray 0) :: news) → (∀ p ∈ news, p.1 < D) → Q (.ref D) { s with heap := h', toks := k }) :
    wpAny (model prog w) A (call (.builtin "str.split") [.str x t, .str y u]) Q E s := by
  refine KSpl.split1 hF hN hy ?_ (by rw [PySem.sizeLine_eq]; omega)
  intro D l h' k el _ F' N' hl
  refine h D (fun i => (l[i]?.map (·.2)).getD 0) h' k F' ?_ hl
  have e9 : strValues l = (ys.mapIdx fun i y => Value.str y ((l[i]?.map (·.2)).getD 0)) := by
    rw [← e, ← el]
    apply List.ext_getElem?
    intro i
    simp only [strValues, List.getElem?_map, List.getElem?_mapIdx]
    cases l[i]? <;> rfl
  rw [← e9]
  exact N'
theorem ends_of (e : Txt.endswith x y = b) (h : Q (.bool b) s) : wpAny (model prog w) A (call (.builtin "str.endswith") [.str x t, .str y u]) Q E s := SC.endswith (by rw [e]; exact h)
theorem lower_of (e : Txt.lower x = y) (hy : y.length ≤ 100) (h : ∀ t' k, Q (.str y t') { s with toks := k }) : wpAny (model prog w) A (call (.builtin "str.lower") [.str x t]) Q E s :=
  SC.lower (by rw [e]; unfold Builtin.Str.tooLong; rw [PySem.sizeLine_eq]; exact decide_eq_false (by omega)) (by rw [e]; exact h _ _)
theorem truthy_of {Q : Bool → Shared → Prop} (e : (x.length : Int) != 0) (hx : x.length ≤ 100) (h : ∀ k, Q true { s with toks := k }) : wpAny (model prog w) A (PySem.truthy (.str x t)) Q E s :=
  KXt.truthy e (by omega) h
theorem item_of {value slice : Expr} (hr : fitsSsize i = true) (hin : (Txt.charAt x i).isSome = true) (h : ∀ t' k, Q (.str (Txt.item x i) t') { s with toks := k })
    (hs : subscripted slice false (.str x t) (.int i u) = operate [.str x t, .int i u] (getItem (.str x t) (.int i u)) := by with_unfolding_all rfl)
    (ht : ∀ r, letTemporaryGo value (.str x t) r = pure () := by intro _; with_unfolding_all rfl) :
    wpAny (model prog w) A (subscriptTail value slice (.str x t) (.int i u)) Q E s := by
  first
    | exact tail_of_ItemOn (ops := [.str x t, .int i u]) (SB.item hr hin (h _ _)) hs ht
    | exact tail_of_ItemOn (ops := [.str x t, .int i u]) (PySem.SB.item hr hin (h _ _)) hs ht
theorem eq_of (e : (x == y) = b) (h : Q (.bool b) s) : wpAny (model prog w) A (compareOp .Eq (.str x t) (.str y u)) Q E s := PyProof.Rows.eq_str (by rw [e]; exact h)
theorem find_of (e : Txt.find x y = i) (h : ∀ t' k, Q (.int i t') { s with toks := k }) : wpAny (model prog w) A (call (.builtin "str.find") [.str x t, .str y u]) Q E s := SC.find (by rw [e]; exact h _ _)
theorem digit_of (e : Txt.isdigit x = b) (h : Q (.bool b) s) : wpAny (model prog w) A (call (.builtin "str.isdigit") [.str x t]) Q E s := SC.isdigit (by rw [e]; exact h)
theorem int_of (e : PySem.intText? x = some i) (hl : x.length ≤ 100) (h : ∀ t' k, Q (.int i t') { s with toks := k }) : wpAny (model prog w) A (call (.type "int") [.str x t]) Q E s := KIN.call_text e (by omega) (h _ _)
section
variable {K : Frag} {a : Addr} {ss : List Str} {v : Bool}
theorem notin_of (X : K.In h₀) (e : KTD.datLooks (fun b => K.lookup b) (.words ss) (.ref a) = true) (F : Fr h₀ L s.heap m) (hm : ss.any (· == x) = v) (h : Q (.bool (!v)) s) : wpAny (model prog w) A (compareOp .NotIn (.str x t) (.ref a)) Q E s := by
  obtain ⟨vs, hL, hi⟩ := (kt_words_in X e).keep (fun b o r => F.keep b o r)
  exact notin_list_strs hL hi (by rw [hm]; exact h)
theorem in_of (X : K.In h₀) (e : KTD.datLooks (fun b => K.lookup b) (.words ss) (.ref a) = true) (F : Fr h₀ L s.heap m) (hm : ss.any (· == x) = v) (h : Q (.bool v) s) : wpAny (model prog w) A (compareOp .In (.str x t) (.ref a)) Q E s := by
  obtain ⟨vs, hL, hi⟩ := (kt_words_in X e).keep (fun b o r => F.keep b o r)
  exact in_list_strs hL hi (by rw [hm]; exact h)
theorem method_of {cls : Value} {data : Data} {sl : Array (Option Value)} {name : Str} {id : String} {pl : Sem Bool} {Q : Value × List Value → Shared → Prop} (X : K.In h₀) (F : Fr h₀ L s.heap m) (ho : K.lookup a = some ⟨cls, none, data, sl⟩) (hc : cls = .type "list") (slot : Slot "list" name id) (hty : typeOf (.builtin id) = pure (.type "method_descriptor"))
    (h : Q (.builtin id, [.ref a]) s) : wpAny (model prog w) A (getMethod (.ref a) name pl) Q E s := by
  have g := F.keep _ _ (X _ _ ho)
  subst hc
  exact getMethod_builtin ⟨_, g, rfl⟩ PySem.F.plainAttrs_list slot hty (fun b e => by cases e; exact ⟨_, g, rfl⟩) h
theorem strOf_at (k : Str) : ∀ {vs : List Value} {ys : List Str}, StrsAre vs ys → ∀ (j : Nat) (h1 : j < vs.length) (h2 : j < ys.length), isStrOf k vs[j] = (ys[j] == k)
  | _, _, .nil, j, h1, h2 => absurd h1 (Nat.not_lt_zero _)
  | _, _, .cons n t r, 0, h1, h2 => rfl
  | _, _, .cons n t r, j + 1, h1, h2 => strOf_at k r j (Nat.lt_of_succ_lt_succ h1) (Nat.lt_of_succ_lt_succ h2)
theorem strs_len : ∀ {vs : List Value} {ys : List Str}, StrsAre vs ys → vs.length = ys.length
  | _, _, .nil => rfl
  | _, _, .cons n t r => congrArg (· + 1) (strs_len r)
theorem index_of {j : Nat} (X : K.In h₀) (e : KTD.datLooks (fun b => K.lookup b) (.words ss) (.ref a) = true) (F : Fr h₀ L s.heap m) (hn : ss.length ≤ 1000) (hj : ss.idxOf x = j) (hlt : j < ss.length) (h : ∀ t' k, Q (.int (j : Nat) t') { s with toks := k }) :
    wpAny (model prog w) A (call (.builtin "list.index") [.ref a, .str x t]) Q E s := by
  obtain ⟨vs, hl, hi⟩ := (kt_words_in X e).keep (fun b o r => F.keep b o r)
  obtain ⟨⟨cls, dd, data, sl⟩, ho, hc, n, hd⟩ := id hl
  simp only at hc hd
  subst hc hd
  have hlen := strs_len hi
  refine call_meets PySem.F.slot_list_index ⟨_, ho, rfl⟩ PySem.F.entry_list_index (PySem.F.args_list_index_2 _ _)
    (PySem.SeqAt.list_indexAt a vs.toArray n dd sl (.str x t) (isStrOf x) j (by simpa [hlen] using hlt) (by omega) ?_ ?_) ⟨ho, fun y hy => (eq_isStrOf x t hi y (by simpa using hy)).at _ _, h _ _⟩
  · show isStrOf x vs[j] = true
    rw [strOf_at x hi _ (by omega) hlt]
    subst hj
    simpa using List.getElem_idxOf hlt
  · intro i his hlt2
    show isStrOf x vs[i] = false
    rw [strOf_at x hi i (by simpa using his) (by omega)]
    subst hj
    have q := List.not_of_lt_findIdx (p := (· == x)) (xs := ss) hlt2
    simpa using q
end
theorem Assign_List {env : Env} {elts : List Expr} {tpos : Pos} {value : Expr} {pos : Pos} {Q : Flow → Shared → Prop}
    (h : wpAny (model prog w) A (eval value env) (fun v s₁ => wpAny (model prog w) A (assign (.List elts tpos) env v) (fun _ => Q .next) E s₁) E s)
    (hs : swapsWithSole [.List elts tpos] value pos.line env = pure false := by rfl)
    (hw : swappedStores [.List elts tpos] value env = pure none := by rfl) :
    wpAny (model prog w) A (exec (.Assign [.List elts tpos] value pos) env) Q E s := by
  rw [exec_Assign]
  refine wpAny_bind (wpAny_standAt ?_)
  rw [hs]
  refine wpAny_bind (wpAny_pure ?_)
  rw [if_neg (by decide)]
  refine wpAny_bind (wpAny_mono h (fun v s₁ h₁ => ?_) fun _ _ x => x)
  rw [hw]
  refine wpAny_bind (wpAny_pure ?_)
  show wpAny (model prog w) A (do assignAll v [assign (.List elts tpos) env]; pure .next) Q E s₁
  exact wpAny_bind (wpAny_mono h₁ (fun _ _ x => wpAny_pure x) fun _ _ x => x)
theorem try_quiet {env : Env} {body orelse : List Stmt} {h₀ : ExceptHandler} {hs : List ExceptHandler} {pos : Pos} {Q : Flow → Shared → Prop}
    (h : wpAny (model prog w) A (execs body env) (fun f s₁ => match f with | .next => wpAny (model prog w) A (execs orelse env) Q E s₁ | f => Q f s₁) (fun _ _ => False) s) :
    wpAny (model prog w) A (exec (.Try body (h₀ :: hs) orelse [] pos) env) Q E s :=
  wpAny_Try_except (wpAny_mono h (fun _ _ x => x) fun _ _ x => x.elim)
end
end TX

abbrev list10 (y mo d h mi s : Int) (τ : Nat → Tok) : Obj := listOf #[.int y (τ 0), .int mo (τ 1), .int d (τ 2), .int h (τ 3), .int mi (τ 4), .int s (τ 5), .int 0 (τ 6), .int 1 (τ 7), .int (-1) (τ 8), .int 0 (τ 9)] 0
/-- the year that a text's figures tell -/
def fullYear (Y : Int) : Int := if Y < 100 then (if 68 < Y then Y + 1900 else Y + 2000) else Y
theorem fy1 {Y : Int} (h : ¬ Y < 100) : Y = fullYear Y := by unfold fullYear; rw [if_neg h]
theorem fy2 {Y : Int} (h : Y < 100) (h2 : 68 < Y) : Y + 1900 = fullYear Y := by unfold fullYear; rw [if_pos h, if_pos h2]
theorem fy3 {Y : Int} (h : Y < 100) (h2 : ¬ 68 < Y) : Y + 2000 = fullYear Y := by unfold fullYear; rw [if_pos h, if_neg h2]
theorem end10 {news news' : List (Addr × Obj)} {h₀ : Heap} {L x : Addr} {m : Str → Option Value} {s : Shared} {Q : Value → Shared → Prop} {y y' mo d h mi se : Int} {h' : Heap} {tk t0 t1 t2 t3 t4 t5 t6 t7 t8 t9 : Nat} (hret : ∀ (τ : Nat → Tok) (x : Addr) (h' : Heap) (tk' : Nat), Fr h₀ L h' m → News h₀ L h' ((x, list10 y mo d h mi se τ) :: news) → (∀ p ∈ news, p.1 < x) → Q (.ref x) { s with heap := h', toks := tk' })
    (e1 : y' = y) (F : Fr h₀ L h' m) (N : News h₀ L h' news') (hm : (x, listOf #[.int y' t0, .int mo t1, .int d t2, .int h t3, .int mi t4, .int se t5, .int 0 t6, .int 1 t7, .int (-1) t8, .int 0 t9] 0) ∈ news') (hs : ∀ p ∈ news, p ∈ news') (hl : ∀ p ∈ news, p.1 < x) :
    Q (.ref x) { s with heap := h', toks := tk } := by
  subst e1
  refine hret (fun i => [t0, t1, t2, t3, t4, t5, t6, t7, t8, t9].getD i 0) x h' tk F (fun p hp => ?_) hl
  rcases List.mem_cons.mp hp with rfl | hp
  · exact N _ hm
  · exact N p (hs p hp)
theorem pptz_ok (w : World) (mean : ExcName → Option Value) (mg mb : Str → Option Value) (T w0 w1 w2 dd mm yy th tm ts ml : Str) (t : Tok) (Y D H M S : Int)
    (hT : ((T.length : Int) != 0) = true) (hT2 : T.length ≤ 100) (hw : Txt.words T = [w0, w1, w2, Str.ofString "GMT"])
    (h0 : Txt.endswith w0 (Str.ofString ",") = true) (h1 : Txt.split w1 (Str.ofString "-") = [dd, mm, yy]) (h1l : w1.length ≤ 100)
    (h2 : Txt.split w2 (Str.ofString ":") = [th, tm, ts]) (h2l : w2.length ≤ 100)
    (d1 : ((dd.length : Int) != 0) = true) (d2 : dd.length ≤ 100) (m1 : ((mm.length : Int) != 0) = true) (m2 : mm.length ≤ 100) (y1 : ((yy.length : Int) != 0) = true) (y2 : yy.length ≤ 100)
    (ml1 : Txt.lower mm = ml) (ml2 : ml.length ≤ 100) (j : Nat) (hj1 : (["jan", "feb", "mar", "apr", "may", "jun", "jul", "aug", "sep", "oct", "nov", "dec", "january", "february", "march", "april", "may", "june", "july", "august", "september", "october", "november", "december"] : List Str).any (· == ml) = true) (hj2 : (["jan", "feb", "mar", "apr", "may", "jun", "jul", "aug", "sep", "oct", "nov", "dec", "january", "february", "march", "april", "may", "june", "july", "august", "september", "october", "november", "december"] : List Str).idxOf ml = j) (hj3 : j < 12)
    (dc : (Txt.charAt dd (-1)).isSome = true) (dl : (Txt.item dd (-1) == Str.ofString ",") = false)
    (yf : Txt.find yy (Str.ofString ":") = -1) (yc : (Txt.charAt yy (-1)).isSome = true) (yl : (Txt.item yy (-1) == Str.ofString ",") = false) (yc0 : (Txt.charAt yy 0).isSome = true) (yd : Txt.isdigit (Txt.item yy 0) = true)
    (tc : (Txt.charAt w2 (-1)).isSome = true) (tl : (Txt.item w2 (-1) == Str.ofString ",") = false)
    (iy : PySem.intText? yy = some Y) (id' : PySem.intText? dd = some D) (ih : PySem.intText? th = some H) (im : PySem.intText? tm = some M) (is' : PySem.intText? ts = some S) (thl : th.length ≤ 100) (tml : tm.length ≤ 100) (tsl : ts.length ≤ 100) :
    ClaimO w mean mg mb 142 12 (fun _ => True) [.str T t] (list10 (fullYear Y) (j + 1) D H M S) := by
  unfold ClaimO
  k_fill
  intros; rename_i hret
  refine wpAny_call ?_
  k_dflt (refine' code_def ?k1 ?k2 ?k3 ?k4 ?k5 ?kA ?kF ?kK ?k6 ?k7 ?k8 ?k9 ?kB ?_ ?c2 ?c3 ?c4 ?c5; (case kA => exact rfl); (case kF => exact rfl); (case kK => first | exact rfl | assumption); (case k1 => k_asm); (case k2 => k_asm); (case k3 => k_asm); (case k4 => k_asm); (case k5 => k_asm); (case k6 => k_is); (case k7 => k_is); (case k8 => ktr_room); (case k9 => first | exact BindsTo.of_eq rfl | exact binds_K (by k_in) rfl (by k_is) rfl rfl rfl); (case c5 => decide); (case kB => exact locs rfl); (case c2 => exact rfl); (case c3 => exact rfl); (case c4 => exact rfl); k_whole; intro g' L' h' FG' F' N' B' X' T'; (try dsimp only); (try k_fold))
  repeat' (first
      | (k_unfold; (try dsimp only))
      | (k_end; kc_close)
      | (with_reducible ((with_reducible show wpAny _ _ (execs (_ :: _) _) _ _ _); (k_here; dsimp only)))
      | (with_reducible (k_here; (with_reducible show wpAny _ _ (call (Value.builtin _) [Value.ref 126, Value.str _ _]) _ _ _); k_dflt (refine' TX.index_of (ss := ["jan", "feb", "mar", "apr", "may", "jun", "jul", "aug", "sep", "oct", "nov", "dec", "january", "february", "march", "april", "may", "june", "july", "august", "september", "october", "november", "december"]) ?k1 ?k2 ?k3 ?k4 ?k5 ?k6 ?_; (case k1 => k_asm); (case k2 => kernel_rfl); (case k3 => k_asm); (case k4 => decide); (case k5 => assumption); (case k6 => (simp only [List.length_cons, List.length_nil]; omega))); intro _ _))
      | (with_reducible (k_here; (with_reducible show wpAny _ _ (getMethod (Value.ref 126) (PySem.Str.ofString "index") _) _ _ _); k_dflt (refine' TX.method_of ?k1 ?k2 ?k3 ?k5 PySem.F.slot_list_index PySem.F.type_list_index ?_; (case k1 => k_asm); (case k2 => k_asm); (case k3 => k_is); (case k5 => rfl))))
      | (with_reducible (k_here; (with_reducible show wpAny _ _ (compareOp CmpOp.In (Value.str _ _) (Value.ref 126)) _ _ _); k_dflt (refine' TX.in_of (ss := ["jan", "feb", "mar", "apr", "may", "jun", "jul", "aug", "sep", "oct", "nov", "dec", "january", "february", "march", "april", "may", "june", "july", "august", "september", "october", "november", "december"]) ?k1 ?k2 ?k3 ?k4 ?_; (case k1 => k_asm); (case k2 => kernel_rfl); (case k3 => k_asm); (case k4 => assumption))))
      | (with_reducible (k_here; (with_reducible show wpAny _ _ (compareOp CmpOp.NotIn (Value.str _ _) (Value.ref 126)) _ _ _); k_dflt (refine' TX.notin_of (ss := ["jan", "feb", "mar", "apr", "may", "jun", "jul", "aug", "sep", "oct", "nov", "dec", "january", "february", "march", "april", "may", "june", "july", "august", "september", "october", "november", "december"]) ?k1 ?k2 ?k3 ?k4 ?_; (case k1 => k_asm); (case k2 => kernel_rfl); (case k3 => k_asm); (case k4 => assumption))))
      | (with_reducible ((with_reducible show wpAny _ _ (exec (Stmt.Try _ _ _ _ _) _) _ _ _); (k_here; refine TX.try_quiet ?_)))
      | (with_reducible (k_here; (with_reducible show wpAny _ _ (exec (Stmt.Assign [Expr.List _ _] _ _) _) _ _ _); refine TX.Assign_List ?_))
      | (with_reducible (k_here; (with_reducible show wpAny _ _ (call (Value.type "int") [Value.str _ _]) _ _ _); refine TX.int_of (by assumption) (by assumption) ?_; intro _ _))
      | (with_reducible ((with_reducible show wpAny _ _ (call (Value.builtin "str.isdigit") _) _ _ _); (k_here; refine TX.digit_of (by assumption) ?_)))
      | (with_reducible ((with_reducible show wpAny _ _ (call (Value.builtin "str.find") _) _ _ _); (k_here; refine TX.find_of (by assumption) ?_; intro _ _)))
      | (with_reducible ((with_reducible show wpAny _ _ (compareOp CmpOp.Eq (Value.str _ _) (Value.str _ _)) _ _ _); (k_here; refine TX.eq_of (by assumption) ?_)))
      | (with_reducible (k_here; (with_reducible show wpAny _ _ (subscriptTail _ _ (Value.str _ _) (Value.int _ _)) _ _ _); k_dflt (refine TX.item_of (by decide) (by assumption) ?_ (by with_unfolding_all rfl) (by intro _; with_unfolding_all rfl)); intro _ _))
      | (with_reducible ((with_reducible show wpAny _ _ (truthy (Value.str _ _)) _ _ _); (k_here; refine TX.truthy_of (by assumption) (by assumption) ?_; intro _)))
      | (with_reducible ((with_reducible show wpAny _ _ (call (Value.builtin "str.lower") _) _ _ _); (k_here; refine TX.lower_of (by assumption) (by assumption) ?_; intro _ _)))
      | (with_reducible ((with_reducible show wpAny _ _ (call (Value.builtin "str.endswith") _) _ _ _); (k_here; refine TX.ends_of (by assumption) ?_)))
      | (with_reducible ((with_reducible show wpAny _ _ (call (Value.builtin "str.split") _) _ _ _); (k_here; first
  | ((with_reducible show wpAny _ _ (call (Value.builtin "str.split") [Value.str _ _]) _ _ _); (refine' TX.words_of ?cxF ?cxN ?cxe ?cxl ?_; (case cxF => k_asm); (case cxN => k_asm); (case cxe => assumption); (case cxl => assumption)); intro D' τ' h' k' F' N' l1; (try dsimp only [List.mapIdx, List.mapIdx.go] at N'); (try k_lt l1))
  | ((with_reducible show wpAny _ _ (call (Value.builtin "str.split") [Value.str _ _, Value.str _ _]) _ _ _); (refine' TX.split_of ?cxF ?cxN ?cxe ?cxy ?cxl ?_; (case cxF => k_asm); (case cxN => k_asm); (case cxe => assumption); (case cxy => decide); (case cxl => assumption)); intro D' τ' h' k' F' N' l1; (try dsimp only [List.mapIdx, List.mapIdx.go] at N'); (try k_lt l1)))))
      | (with_reducible ((first | (with_reducible show wpAny _ _ (eval _ (Calls.envOf _ _ _ _ _)) _ _ _) | (with_reducible show wpAny _ _ (eval _ (Calls.envOfC _ _ _ _ _)) _ _ _)); refine Call_ ?_))
      | walk1
      | (k_here; (with_reducible show wpAny _ _ (call (Value.builtin _) [Value.ref 126, Value.str _ _]) _ _ _); k_dflt (refine' TX.index_of (ss := ["jan", "feb", "mar", "apr", "may", "jun", "jul", "aug", "sep", "oct", "nov", "dec", "january", "february", "march", "april", "may", "june", "july", "august", "september", "october", "november", "december"]) ?k1 ?k2 ?k3 ?k4 ?k5 ?k6 ?_; (case k1 => k_asm); (case k2 => kernel_rfl); (case k3 => k_asm); (case k4 => decide); (case k5 => assumption); (case k6 => (simp only [List.length_cons, List.length_nil]; omega))); intro _ _)
      | (k_here; (with_reducible show wpAny _ _ (getMethod (Value.ref 126) (PySem.Str.ofString "index") _) _ _ _); k_dflt (refine' TX.method_of ?k1 ?k2 ?k3 ?k5 PySem.F.slot_list_index PySem.F.type_list_index ?_; (case k1 => k_asm); (case k2 => k_asm); (case k3 => k_is); (case k5 => rfl)))
      | (k_here; (with_reducible show wpAny _ _ (compareOp CmpOp.In (Value.str _ _) (Value.ref 126)) _ _ _); k_dflt (refine' TX.in_of (ss := ["jan", "feb", "mar", "apr", "may", "jun", "jul", "aug", "sep", "oct", "nov", "dec", "january", "february", "march", "april", "may", "june", "july", "august", "september", "october", "november", "december"]) ?k1 ?k2 ?k3 ?k4 ?_; (case k1 => k_asm); (case k2 => kernel_rfl); (case k3 => k_asm); (case k4 => assumption)))
      | (k_here; (with_reducible show wpAny _ _ (compareOp CmpOp.NotIn (Value.str _ _) (Value.ref 126)) _ _ _); k_dflt (refine' TX.notin_of (ss := ["jan", "feb", "mar", "apr", "may", "jun", "jul", "aug", "sep", "oct", "nov", "dec", "january", "february", "march", "april", "may", "june", "july", "august", "september", "october", "november", "december"]) ?k1 ?k2 ?k3 ?k4 ?_; (case k1 => k_asm); (case k2 => kernel_rfl); (case k3 => k_asm); (case k4 => assumption)))
      | ((with_reducible show wpAny _ _ (exec (Stmt.Try _ _ _ _ _) _) _ _ _); (k_here; refine TX.try_quiet ?_))
      | (k_here; (with_reducible show wpAny _ _ (exec (Stmt.Assign [Expr.List _ _] _ _) _) _ _ _); refine TX.Assign_List ?_)
      | (k_here; (with_reducible show wpAny _ _ (call (Value.type "int") [Value.str _ _]) _ _ _); refine TX.int_of (by assumption) (by assumption) ?_; intro _ _)
      | ((with_reducible show wpAny _ _ (call (Value.builtin "str.isdigit") _) _ _ _); (k_here; refine TX.digit_of (by assumption) ?_))
      | ((with_reducible show wpAny _ _ (call (Value.builtin "str.find") _) _ _ _); (k_here; refine TX.find_of (by assumption) ?_; intro _ _))
      | ((with_reducible show wpAny _ _ (compareOp CmpOp.Eq (Value.str _ _) (Value.str _ _)) _ _ _); (k_here; refine TX.eq_of (by assumption) ?_))
      | (k_here; (with_reducible show wpAny _ _ (subscriptTail _ _ (Value.str _ _) (Value.int _ _)) _ _ _); k_dflt (refine TX.item_of (by decide) (by assumption) ?_ (by with_unfolding_all rfl) (by intro _; with_unfolding_all rfl)); intro _ _)
      | ((with_reducible show wpAny _ _ (truthy (Value.str _ _)) _ _ _); (k_here; refine TX.truthy_of (by assumption) (by assumption) ?_; intro _))
      | ((with_reducible show wpAny _ _ (call (Value.builtin "str.lower") _) _ _ _); (k_here; refine TX.lower_of (by assumption) (by assumption) ?_; intro _ _))
      | ((with_reducible show wpAny _ _ (call (Value.builtin "str.endswith") _) _ _ _); (k_here; refine TX.ends_of (by assumption) ?_))
      | ((with_reducible show wpAny _ _ (call (Value.builtin "str.split") _) _ _ _); (k_here; first
  | ((with_reducible show wpAny _ _ (call (Value.builtin "str.split") [Value.str _ _]) _ _ _); (refine' TX.words_of ?cxF ?cxN ?cxe ?cxl ?_; (case cxF => k_asm); (case cxN => k_asm); (case cxe => assumption); (case cxl => assumption)); intro D' τ' h' k' F' N' l1; (try dsimp only [List.mapIdx, List.mapIdx.go] at N'); (try k_lt l1))
  | ((with_reducible show wpAny _ _ (call (Value.builtin "str.split") [Value.str _ _, Value.str _ _]) _ _ _); (refine' TX.split_of ?cxF ?cxN ?cxe ?cxy ?cxl ?_; (case cxF => k_asm); (case cxN => k_asm); (case cxe => assumption); (case cxy => decide); (case cxl => assumption)); intro D' τ' h' k' F' N' l1; (try dsimp only [List.mapIdx, List.mapIdx.go] at N'); (try k_lt l1))))
      | ((first | (with_reducible show wpAny _ _ (eval _ (Calls.envOf _ _ _ _ _)) _ _ _) | (with_reducible show wpAny _ _ (eval _ (Calls.envOfC _ _ _ _ _)) _ _ _)); refine Call_ ?_)
      | (dsimp only; walk1)
      | (leave1; walk_say "STEP leave1"; (try dsimp only)))
  all_goals (refine' end10 hret ?e1 ?eF ?eN ?em ?es ?el; (case eF => k_asm); (case eN => assumption); (case em => k_mem); (case es => (intro p hp; repeat (first | with_reducible exact hp | with_reducible refine List.mem_cons_of_mem _ ?_))); (case el => (intro p hp; (repeat (rename (_ ∧ _) => hAnd; obtain ⟨_, _⟩ := hAnd)); exact ktn_ltOf (by assumption) p hp)); (case e1 => first | exact fy1 (by assumption) | exact fy2 (by assumption) (by assumption) | exact fy3 (by assumption) (by assumption)))
end D8s
noncomputable section KCXs
namespace CX
open PySem.SeqAt PySem.MeetsSeq PySem.AutoSeq1 PySem.Builtin.Str PySem.Builtin PySem.Spec
section
variable {M : Model} {A : Around} {E : Value → Shared → Prop} {s : Shared}
theorem raise_str {α : Type} {X N I : String} (hc : ExcClass X N I) {msg : Str} {Q : α → Shared → Prop} (hh : A.handled = none)
    (h : ∀ h' tk e, Heap.NewExc s.heap h' e X → E (.ref e) { s with heap := h', toks := tk }) (hm : msg.length ≤ sizeLine) :
    wpAny M A (Builtin.List.listRaiseStr X msg : Sem α) Q E s := by
  unfold Builtin.List.listRaiseStr
  refine wpAny_bind (wpAny_mkStr (wpAny_bind ?_) hm)
  unfold newExc newTuple
  refine wpAny_bind (wpAny_newObj_type ?_ (by size_fits))
  refine wpAny_bind (m := firstArgMember _ _) (wpAny_of_eq (a := Value.none) (by simp only [firstArgMember, hc.noFirst]; rfl) ?_)
  rw [hc.noOwn]
  refine wpAny_newObj_type ?_ (by size_fits)
  unfold raiseNew
  refine wpAny_bind (wpAny_handled ?_)
  rw [hh]
  first
    | refine wpAny_throw ?_
    | refine wpAny_bind (wpAny_pure (wpAny_throw ?_))
  exact h _ _ _ ⟨fun b o hb => Heap.get?_push_of_some _ (Heap.get?_push_of_some _ hb), Heap.get?_none_of_le (by simp), _, .ref s.heap.objs.size, Heap.get?_push_size _ rfl, rfl, by simp⟩
end
theorem index_loopNone (l : Addr) (items : Array Value) (n : Nat) (dd : Option Addr) (sl : Array (Option Value)) (x : Str) (t : Tok) (e : Value → Bool) (upto : Int) (hno : ∀ m (hm : m < items.size), e items[m] = false) (hx : (reprText x).length ≤ 1000) (k : Nat) :
    ∀ i : Nat, items.size - i = k → i ≤ items.size → Meets (Builtin.«list.index.loop» ⟨[.ref l, .str x t, rawInt i, rawInt upto], []⟩)
      (fun A R s => s.heap.get? l = some { cls := .type "list", dict := dd, data := .seq items n, slots := sl } ∧ (∀ y, y ∈ items → EqAt A.in1 s y (.str x t) (e y)) ∧ (items.size : Int) < upto ∧ A.handled = none ∧ ∀ h' tk e, Heap.NewExc s.heap h' e "ValueError" → R (.error (.ref e)) { s with heap := h', toks := tk }) := by
  induction k with
  | zero =>
    intro i hk hij prog w A R s h
    obtain ⟨hp, g, d, tk, os⟩ := s; obtain ⟨hl, he, hu, hh, h⟩ := h
    have hij' : i = items.size := by omega
    subst hij'
    wp_walk using wpAny_loadPart' hl
    have hi : (if ((items.size : Nat) : Int) < upto then items[((items.size : Nat) : Int).toNat]? else none) = none := by simp
    rw [hi]
    dsimp only
    refine wpAny_bind (wpAny_rule ?_)
    refine wpAny_bind (wpAny_pyRepr_str (x := x) ?_ (by rw [PySem.sizeLine_eq]; omega))
    refine raise_str excClass_ValueError ?a1 ?a2 ?a3
    case a1 => exact hh
    case a2 => exact h
    case a3 =>
      rw [PySem.Str.length_append, PySem.sizeLine_eq]
      have e15 : (Str.ofString " is not in list").length = 15 := by decide +kernel
      exact Nat.le_trans (Nat.add_le_add hx (Nat.le_of_eq e15)) (by decide)
  | succ k ih =>
    intro i hk hij prog w A R s h
    obtain ⟨hp, g, d, tk, os⟩ := s; obtain ⟨hl, he, hu, hh, h⟩ := h
    have hlt : i < items.size := by omega
    have hst : (i : Int) < upto := by omega
    wp_walk using wpAny_loadPart' hl
    have hi : (if (i : Int) < upto then items[((i : Nat) : Int).toNat]? else none) = some items[i] := by simp [hst, hlt]
    have hc : ((i : Int) + 1) = ((i + 1 : Nat) : Int) := by push_cast; rfl
    rw [hi]
    refine wpAny_bind (he _ (Array.getElem_mem hlt) prog w _ _ ?_)
    rw [hno i hlt]
    wp_walk
    rw [hc]
    exact ⟨plainId_quiet plain_index_loop _, codeAny_builtin entry_index_loop (by
      rw [Around.under_plainId plain_index_loop _]
      exact ih (i + 1) (by omega) (by omega) prog w A R _ ⟨hl, he, hu, hh, h⟩)⟩
theorem list_indexNone (l : Addr) (items : Array Value) (n : Nat) (dd : Option Addr) (sl : Array (Option Value)) (x : Str) (t : Tok) (e : Value → Bool) (hno : ∀ m (hm : m < items.size), e items[m] = false) (hx : (reprText x).length ≤ 1000) (hz : items.size ≤ 1000) :
    Meets (Builtin.«list.index» ⟨[.ref l, .str x t], []⟩)
      (fun A R s => s.heap.get? l = some { cls := .type "list", dict := dd, data := .seq items n, slots := sl } ∧ (∀ y, y ∈ items → EqAt A.in1 s y (.str x t) (e y)) ∧ A.handled = none ∧ ∀ h' tk e, Heap.NewExc s.heap h' e "ValueError" → R (.error (.ref e)) { s with heap := h', toks := tk }) := by
  intro prog w A R s h
  obtain ⟨hp, g, d, tk, os⟩ := s; obtain ⟨hl, he, hh, h⟩ := h
  wp_walk using wpAny_loadPart' hl
  have a1 : ((fun i : Int => if i < 0 then max 0 (i + (items.size : Int)) else i) ((none : Option Int).getD 0)) = ((0 : Nat) : Int) := by simp
  have a2 : ((fun i : Int => if i < 0 then max 0 (i + (items.size : Int)) else i) ((none : Option Int).getD (2 ^ 63 - 1))) = 2 ^ 63 - 1 := by simp
  rw [a1, a2]
  exact ⟨plainId_quiet plain_index_loop _, codeAny_builtin entry_index_loop (by
    rw [Around.under_plainId plain_index_loop _]
    exact index_loopNone l items n dd sl x t e (2 ^ 63 - 1) hno hx _ 0 rfl (Nat.zero_le _) prog w A R _ ⟨hl, he, by omega, hh, h⟩)⟩
section
variable {prog : Program} {w : World} {A : Around} {E : Value → Shared → Prop} {s : Shared} {h₀ : Heap} {L a : Addr} {m : Str → Option Value} {K : Frag} {ss : List Str} {x : Str} {t : Tok} {Q : Value → Shared → Prop}
theorem index_none (X : K.In h₀) (e : KTD.datLooks (fun b => K.lookup b) (.words ss) (.ref a) = true) (F : Fr h₀ L s.heap m) (hn : ss.length ≤ 1000) (hj : ss.any (· == x) = false) (hx : (reprText x).length ≤ 1000) (hh : A.handled = none)
    (h : ∀ h' tk e, Heap.NewExc s.heap h' e "ValueError" → E (.ref e) { s with heap := h', toks := tk }) :
    wpAny (model prog w) A (call (.builtin "list.index") [.ref a, .str x t]) Q E s := by
  obtain ⟨vs, hl, hi⟩ := (kt_words_in X e).keep (fun b o r => F.keep b o r)
  obtain ⟨⟨cls, dd, data, sl⟩, ho, hc, n, hd⟩ := id hl
  simp only at hc hd
  subst hc hd
  have hlen := TX.strs_len hi
  refine call_meets PySem.F.slot_list_index ⟨_, ho, rfl⟩ PySem.F.entry_list_index (PySem.F.args_list_index_2 _ _)
    (list_indexNone a vs.toArray n dd sl x t (isStrOf x) ?_ hx (by simpa [hlen] using hn)) ⟨ho, fun y hy => (eq_isStrOf x t hi y (by simpa using hy)).at _ _, hh, h⟩
  intro i his
  show isStrOf x vs[i] = false
  rw [TX.strOf_at x hi i (by simpa using his) (by rw [← hlen]; simpa using his)]
  have q := List.any_eq_false.mp hj ss[i] (List.getElem_mem _)
  simpa using q
end
section
open PySem.Calls
variable {prog : Program} {w : World} {A₀ : Around} {E : Value → Shared → Prop} {s' : Shared} {base g g₀ h : Heap} {outer : List Env} {L a e : Addr} {m : Str → Option Value} {name : Str} {scope : Scope} {cd : Value}
  {n : Str} {b₀ : Stmt} {suite : List Stmt} {pos np : Pos} {rest : List ExceptHandler} {Q : Flow → Shared → Prop} {news : List (Addr × Obj)} {KF : Frag}
  {p : Program} {loose : List Str} {mean : ExcName → Option Value} {mg mb : Str → Option Value} {x : Str} {X T' : String}
theorem caught_new0 (K : Below A₀ base outer g) (hx : Heap.NewExc h s'.heap e X) (F : Fr g L h m) (N : News g L h news) (XB : KF.In base) (TB : Top p loose mean mg mb base)
    (D : KtsDicts (outer.filterMap (·.frame)) g) (T0 : KtsTurn (outer.filterMap (·.frame)) g₀ g)
    (ex : nsIn KF mainGlobals x = some none) (hv : bootBuiltins x = some (.type T')) (hn' : x ≠ "__name__")
    (hexc : isSubtype (.type T') (.type "BaseException") = pure true) (hnt : isSubtype (.type ((Manifest.find? T').elim "type" fun y => y.metatype)) (.type "tuple") = pure false) (hsub : isSubtype (.type X) (.type T') = pure true)
    (k : ∀ h' g', KtsTurn (outer.filterMap (·.frame)) g₀ g' → Fr g' L h' m → News g' L h' news → Below A₀ base outer g' → KF.In g' → Top p loose mean mg mb g' → KtsDicts (outer.filterMap (·.frame)) g' →
      wpAny (model prog w) ((A₀.deeper (envOf name scope L a cd)).mark (some (.ref e))) (execs (b₀ :: suite) (envOf name scope L a cd)) Q E { s' with heap := h' })
    (hk : scope.kind = .function := by rfl) (hkx : (envOf name scope L a cd).kindOf x = some .globalImplicit := by rfl) (hd : (x == ("__debug__" : Str)) = false := by decide)
    (hE : PassesOwnAt (model prog w) ((A₀.deeper (envOf name scope L a cd)).mark (some (.ref e))) (A₀.deeper (envOf name scope L a cd)) (envOf name scope L a cd) E := by passes_own) :
    wpAny (model prog w) (A₀.deeper (envOf name scope L a cd)) (noteFrame (.ref e) (envOf name scope L a cd))
      (fun _ s₂ => wpAny (model prog w) (A₀.deeper (envOf name scope L a cd)) (setFlight (.ref e) none) (fun _ s₃ =>
        wpAny (model prog w) (A₀.deeper (envOf name scope L a cd)) (handleBy (.ref e) (envOf name scope L a cd) (.ExceptHandler (some (.Name x np)) none (b₀ :: suite) pos :: rest)) Q E s₃) E s₂) E s' := by
  have K' := K.push (name := name) (a := a) (cd := cd) F hk
  have hin : ∀ env ∈ (envOf name scope L a cd :: outer), ∀ b, env.frame = some b → b ∈ (envOf name scope L a cd :: outer).filterMap (·.frame) := fun env he b hb => List.mem_filterMap.mpr ⟨env, he, hb⟩
  have hBG : ∀ b o, h.get? b = some o → b ∉ (envOf name scope L a cd :: outer).filterMap (·.frame) → (hideAll h ((envOf name scope L a cd :: outer).filterMap (·.frame))).get? b = some o := fun b o q nm => hideAll_get _ q nm
  have hl : ∀ q ∈ news, (hideAll h ((envOf name scope L a cd :: outer).filterMap (·.frame))).get? q.1 = some q.2 ∧ g.get? q.1 = none := fun q hq => by
    refine ⟨hideAll_get _ (N q hq).1 fun hm => ?_, (N q hq).2.2⟩
    obtain ⟨env, he, hf⟩ := List.mem_filterMap.mp hm
    rcases List.mem_cons.mp he with rfl | he
    · exact (N q hq).2.1 (Option.some.inj hf).symm
    · obtain ⟨o, ho, _⟩ := (K.frames.mem (List.mem_filterMap.mpr ⟨env, he, hf⟩)).2
      rw [(N q hq).2.2] at ho; cases ho
  obtain ⟨ob, tp, he, hcls, hdd⟩ := hx.there
  have hen : (hideAll h ((envOf name scope L a cd :: outer).filterMap (·.frame))).get? e = none := by
    cases q : (hideAll h ((envOf name scope L a cd :: outer).filterMap (·.frame))).get? e with
    | none => rfl
    | some o => have := of_hideAll _ q; rw [hx.new] at this; cases this
  unfold noteFrame
  simp only [show (envOf name scope L a cd).frame = some L from rfl]
  refine wpAny_bind (wpAny_field he hdd (x := .none) rfl ?_)
  rw [if_neg (by decide)]
  refine wpAny_entryW (a0 := tp) K'.stack ((funFrames_hide K'.frames hin).of_keeps fun b o hb _ => ⟨o, hx.keeps b o hb, rfl⟩) rfl he (fun b o hb => hx.keeps b o (of_hideAll _ hb)) hen hdd (by show 1 < 6; decide) rfl fun h₄ hN => ?_
  obtain ⟨k1, k2, k3, k4⟩ := hN
  have hheld₄ : Heap.HeldW (hideAll h ((envOf name scope L a cd :: outer).filterMap (·.frame))) (envOf name scope L a cd :: outer) e (.type X) tp L h₄ := ⟨k1, hen, k2, by rw [← hcls]; exact k3⟩
  have hsm₄ : h.UpToSlots h₄ := (Heap.UpToSlots.of_keeps hx.keeps).trans k4
  refine wpAny_landsW hheld₄ fun h₅ hheld hsm₅' => ?_
  have hsm₅ := hsm₄.trans hsm₅'
  obtain ⟨g₅, T₅, F₅, K₅⟩ := kts_ground K F hBG hheld.1 hsm₅
  have X₅ : KF.In g₅ := XB.keeps K₅.stays
  have P₅ : TopRead p loose mg mb g₅ := topRead_of (TB.keeps K₅.stays)
  obtain ⟨ob, hob, hobc⟩ := hheld.there
  refine wpAny_handleBy_builtin (X := X) (T := T') (b := true) hexc hnt hsub (name_B F₅ X₅ P₅ ex hv hn' ⟨rfl, ⟨ob, hob, hobc⟩, ?_⟩ hk hkx hd)
  refine lands_againW hheld fun h₆ hfl₆ hsm₆ => ?_
  obtain ⟨g₆, T₆, F₆, K₆⟩ := kts_ground K F hBG hfl₆.1 (hsm₅.trans hsm₆)
  have hLn : (hideAll h ((envOf name scope L a cd :: outer).filterMap (·.frame))).get? L = none := by
    obtain ⟨_, ⟨L', _, hf, hn', _⟩, _⟩ := hfl₆.2.2.1
    obtain rfl : L = L' := Option.some.inj hf
    exact hn'
  have Nl : News g₆ L h₆ news := fun q hq => ⟨hfl₆.1 _ _ (hl q hq).1, (fun z => by have := (hl q hq).1; rw [z, hLn] at this; cases this), T₆.none_ _ (hl q hq).2⟩
  have X₆ : KF.In g₆ := XB.keeps K₆.stays
  have P₆ : Top p loose mean mg mb g₆ := TB.keeps K₆.stays
  have D₆ : KtsDicts (outer.filterMap (·.frame)) g₆ := D.turn T₆
  exact wpAny_passesOwnAt hE (k h₆ g₆ (T0.trans T₆) F₆ Nl K₆ X₆ P₆ D₆)
end
end CX
end KCXs
noncomputable section DTs
set_option linter.unusedVariables false
namespace DT
theorem dt_mro_date : mroOf (.type "datetime.date") = pure [.type "datetime.date", .type "object"] := by rw [mroOf_type]; kernel_rfl
theorem dt_lookup_date_new : typeLookup (.type "datetime.date") "__new__" = pure (some (.builtin "datetime.date.__new__")) := by rw [typeLookup_type, builtinLookup_eq_fast]; kernel_rfl
theorem dt_slot_date_init : Slot "datetime.date" "__init__" "object.__init__" := .of (owner := "object") (n := "__init__") (by rw [typeLookup_type, builtinLookup_eq_fast]; kernel_rfl) (by decide +kernel) (by decide +kernel) (by decide +kernel)
  (by first | exact .inl (by decide +kernel) | exact .inr (by decide +kernel)) (by rw [isSubtype_type]; kernel_rfl)
theorem dt_called_date : TypeCalled "datetime.date" "datetime.date.__new__" "object.__init__" :=
  ⟨by decide +kernel, by decide +kernel, ⟨_, _, dt_mro_date⟩, madeBy_type dt_mro_date dt_lookup_date_new (by decide +kernel), by decide +kernel, by rw [isSubtype_type]; kernel_rfl, dt_slot_date_init⟩
theorem dt_typeCall_date (a b c : Value) : checkTypeCall "datetime.date" ⟨[a, b, c], []⟩ = pure () := by kernel_rfl
theorem dt_newCall_date (a b c : Value) : checkBuiltinCall "datetime.date.__new__" ⟨[.type "datetime.date", a, b, c], []⟩ = pure () := by kernel_rfl
theorem dt_initArgs_date (o a b c : Value) : argsOk "object.__init__" ⟨[o, a, b, c], []⟩ := by
  unfold argsOk; rw [signature?_of (id := "object.__init__") (n := ['_', '_', 't', 'i', 'n', 'i', '_', '_']) (o := ['t', 'c', 'e', 'j', 'b', 'o']) (by kernel_rfl) F.owner_object]; kernel_rfl
theorem dt_entry_date_new : entryFor table "datetime.date.__new__" = some Builtin.«datetime.date.__new__» := entryFor_of_tree (by kernel_rfl)
theorem isType_date : isType (.type "datetime.date") = pure true := by first | rfl | kernel_rfl | (unfold isType; rw [isSubtype_type]; kernel_rfl)
theorem sub_date_date : isSubtype (.type "datetime.date") (.type "datetime.date") = pure true := by rw [isSubtype_type]; kernel_rfl
theorem sub_date_datetime : isSubtype (.type "datetime.date") (.type "datetime.datetime") = pure false := by rw [isSubtype_type]; kernel_rfl
section
variable {prog : Program} {w : World} {M : Model} {A : Around} {E : Value → Shared → Prop} {s : Shared}
theorem ite_no {α : Type} {c : Prop} [Decidable c] {a b : Sem α} {Q : α → Shared → Prop} (hc : ¬ c) (h : wpAny M A b Q E s) : wpAny M A (if c then a else b) Q E s := by
  rw [if_neg hc]; exact h
theorem ite_yes {α : Type} {c : Prop} [Decidable c] {a b : Sem α} {Q : α → Shared → Prop} (hc : c) (h : wpAny M A a Q E s) : wpAny M A (if c then a else b) Q E s := by
  rw [if_pos hc]; exact h
theorem checkDate_ok {y m d : Int} {Q : Unit → Shared → Prop} (h1 : 1 ≤ y) (h2 : y ≤ 9999) (h3 : 1 ≤ m) (h4 : m ≤ 12) (h5 : 1 ≤ d) (h6 : d ≤ Builtin._datetime.daysInMonth y m) (h : Q () s) :
    wpAny M A (Builtin._datetime.checkDate y m d) Q E s := by
  have e1 : (decide (y < 1) || decide (y > 9999)) = false := by simp; lia
  have e2 : (decide (m < 1) || decide (m > 12)) = false := by simp; lia
  have e3 : (decide (d < 1) || decide (d > Builtin._datetime.daysInMonth y m)) = false := by simp; lia
  unfold Builtin._datetime.checkDate
  rw [e1, e2, e3]
  exact wpAny_bind (wpAny_pure (wpAny_bind (wpAny_pure (wpAny_pure h))))
def dateObj (y m d : Int) : Obj := { cls := .type "datetime.date", data := .fields #[rawInt y, rawInt m, rawInt d] }
theorem cint {i : Int} {t : Tok} (h1 : -1000000 ≤ i) (h2 : i ≤ 1000000) : Builtin._datetime.dtCInt (.int i t) = pure i := by
  have e1 : (decide (i ≥ 2 ^ 63) || decide (i < -(2 ^ 63 : Int))) = false := by simp; lia
  have e2 : ¬ (i ≥ 2 ^ 31) := by lia
  have e3 : ¬ (i < -(2 ^ 31 : Int)) := by lia
  show (if (decide (i ≥ 2 ^ 63) || decide (i < -(2 ^ 63 : Int))) = true then _ else if i ≥ 2 ^ 31 then _ else if i < -(2 ^ 31 : Int) then _ else _) = _
  rw [e1, if_neg e2, if_neg e3]
  rfl
theorem bindInts {y m d : Int} {t u v : Tok} {Q : List (Option Int) → Shared → Prop} (h1 : 1 ≤ y) (h2 : y ≤ 9999) (h3 : 1 ≤ m) (h4 : m ≤ 12) (h5 : 1 ≤ d) (h6 : d ≤ 31) (h : Q [some y, some m, some d] s) :
    wpAny M A (Builtin._datetime.dtBindInts "datetime.date.__new__" "function" ["year", "month", "day"] 3 [.int y t, .int m u, .int d v] []) Q E s := by
  have e1 := cint (i := y) (t := t) (by lia) (by lia)
  have e2 := cint (i := m) (t := u) (by lia) (by lia)
  have e3 := cint (i := d) (t := v) (by lia) (by lia)
  have e4 : Builtin._datetime.dtBind "datetime.date.__new__" "function" ["year", "month", "day"] 0 [.int y t, .int m u, .int d v] [] = pure [some (.int y t), some (.int m u), some (.int d v)] := by first | rfl | kernel_rfl
  clear h1 h2 h3 h4 h5 h6
  unfold Builtin._datetime.dtBindInts
  repeat (any_goals (first | with_reducible assumption | with_reducible refine wpAny_bind ?_ | with_reducible refine wpAny_pure ?_ | with_reducible refine wpAny_holding ?_ | with_reducible refine wpAny_standAt ?_ | with_reducible refine wpAny_point ?_ | with_reducible refine wpAny_rule ?_ | with_reducible refine wpAny_letGo ?_ | with_reducible refine wpAny_mkInt' ?_ | with_reducible refine wpAny_fresh' ?_ | with_reducible refine wpAny_alloc' ?_ | with_reducible refine wpAny_attempt ?_ | with_reducible refine wpAny_throw ?_ | (with_reducible refine wpAny_mkStr' (hx := ?q9x) ?_; case q9x => size_fits) | with_reducible refine wpAny_of_eq (by assumption) ?_ | with_reducible refine wpAny_typeOf (by assumption) ?_ | with_reducible refine wpAny_specialOf_val (by assumption) (by assumption) ?_ | with_reducible refine wpAny_specialOf (by assumption) (by assumption) ?_ | with_reducible refine wpAny_isInstance_val (by assumption) (by assumption) ?_ | with_reducible refine wpAny_isInstance (by assumption) (by assumption) ?_ | with_reducible refine wpAny_call ?_ | with_reducible refine wpAny_runValue ?_ | with_reducible refine wpAny_run ?_ | (with_reducible refine' wpAny_load' ?_ ?_; focus ((first | with_reducible assumption | heap_get); done)) | (with_reducible refine' wpAny_update' ?_ ?_; focus ((first | with_reducible assumption | heap_get); done)) | (with_reducible refine' wpAny_loadPart' ?_ ?_; focus ((first | with_reducible assumption | heap_get); done)) | (with_reducible refine' wpAny_updatePart' ?_ ?_; focus ((first | with_reducible assumption | heap_get); done)) | with_reducible refine wpAny_handled_none (by assumption) ?_ | (with_reducible refine' wpAny_ite_false ?_ ?_; focus (rfl; done)) | (with_reducible refine' wpAny_ite_true ?_ ?_; focus (rfl; done)) | (with_reducible refine' wpAny_ite_false ?_ ?_; focus (simp [*]; done)) | (with_reducible refine' wpAny_ite_true ?_ ?_; focus (simp [*]; done)) | wp_delta | wp_step | assumption))
theorem date_tree {y m d : Int} {t u v : Tok} {P : Fin → Shared → Prop} (h1 : 1 ≤ y) (h2 : y ≤ 9999) (h3 : 1 ≤ m) (h4 : m ≤ 12) (h5 : 1 ≤ d) (h6 : d ≤ Builtin._datetime.daysInMonth y m) (h7 : d ≤ 31)
    (h : P (.done (.ret (.ref s.heap.objs.size))) { s with heap := s.heap.push (dateObj y m d) }) :
    wpAny M A (Builtin.«datetime.date.__new__» ⟨[.type "datetime.date", .int y t, .int m u, .int d v], []⟩) P E s := by
  have x1 := isType_date
  have x2 := sub_date_date
  have x3 := sub_date_datetime
  unfold Builtin.«datetime.date.__new__»
  repeat (any_goals (first | with_reducible assumption | with_reducible refine checkDate_ok h1 h2 h3 h4 h5 h6 ?_ | with_reducible refine bindInts h1 h2 h3 h4 h5 h7 ?_ | with_reducible refine wpAny_bind ?_ | with_reducible refine wpAny_pure ?_ | with_reducible refine wpAny_holding ?_ | with_reducible refine wpAny_standAt ?_ | with_reducible refine wpAny_point ?_ | with_reducible refine wpAny_rule ?_ | with_reducible refine wpAny_letGo ?_ | with_reducible refine wpAny_mkInt' ?_ | with_reducible refine wpAny_fresh' ?_ | with_reducible refine wpAny_alloc' ?_ | with_reducible refine wpAny_attempt ?_ | with_reducible refine wpAny_throw ?_ | (with_reducible refine wpAny_mkStr' (hx := ?q9x) ?_; case q9x => size_fits) | with_reducible refine wpAny_of_eq (by assumption) ?_ | with_reducible refine wpAny_typeOf (by assumption) ?_ | with_reducible refine wpAny_specialOf_val (by assumption) (by assumption) ?_ | with_reducible refine wpAny_specialOf (by assumption) (by assumption) ?_ | with_reducible refine wpAny_isInstance_val (by assumption) (by assumption) ?_ | with_reducible refine wpAny_isInstance (by assumption) (by assumption) ?_ | with_reducible refine wpAny_call ?_ | with_reducible refine wpAny_runValue ?_ | with_reducible refine wpAny_run ?_ | (with_reducible refine' wpAny_load' ?_ ?_; focus ((first | with_reducible assumption | heap_get); done)) | (with_reducible refine' wpAny_update' ?_ ?_; focus ((first | with_reducible assumption | heap_get); done)) | (with_reducible refine' wpAny_loadPart' ?_ ?_; focus ((first | with_reducible assumption | heap_get); done)) | (with_reducible refine' wpAny_updatePart' ?_ ?_; focus ((first | with_reducible assumption | heap_get); done)) | with_reducible refine wpAny_handled_none (by assumption) ?_ | (with_reducible refine' wpAny_ite_false ?_ ?_; focus (rfl; done)) | (with_reducible refine' wpAny_ite_true ?_ ?_; focus (rfl; done)) | (with_reducible refine' wpAny_ite_false ?_ ?_; focus (simp [*]; done)) | (with_reducible refine' wpAny_ite_true ?_ ?_; focus (simp [*]; done)) | wp_delta | wp_step | assumption))
theorem date_meets {y m d : Int} {t u v : Tok} (h1 : 1 ≤ y) (h2 : y ≤ 9999) (h3 : 1 ≤ m) (h4 : m ≤ 12) (h5 : 1 ≤ d) (h6 : d ≤ Builtin._datetime.daysInMonth y m) (h7 : d ≤ 31) :
    MeetsIn prog w (Builtin.«datetime.date.__new__» ⟨[.type "datetime.date", .int y t, .int m u, .int d v], []⟩) (fun A R s => R (.ok (.ret (Value.ref s.heap.objs.size))) { s with heap := s.heap.push (dateObj y m d) }) :=
  .of_wp fun A R s h => date_tree h1 h2 h3 h4 h5 h6 h7 ⟨_, rfl, h⟩
theorem call_date {y m d : Int} {t u v : Tok} {Q : Value → Shared → Prop} (h1 : 1 ≤ y) (h2 : y ≤ 9999) (h3 : 1 ≤ m) (h4 : m ≤ 12) (h5 : 1 ≤ d) (h6 : d ≤ Builtin._datetime.daysInMonth y m) (h7 : d ≤ 31)
    (h : Q (.ref s.heap.objs.size) { s with heap := s.heap.push (dateObj y m d) }) :
    wpAny (model prog w) A (call (.type "datetime.date") [.int y t, .int m u, .int d v]) Q E s :=
  callType_newIn dt_called_date (by decide) (dt_typeCall_date _ _ _) (dt_newCall_date _ _ _) (fun obj => dt_initArgs_date obj _ _ _) dt_entry_date_new
    (date_meets h1 h2 h3 h4 h5 h6 h7) ⟨⟨_, Heap.get?_push_size _ rfl, rfl⟩, h⟩
variable {h₀ : Heap} {L : Addr} {m : Str → Option Value} {news : List (Addr × Obj)}
theorem date_rows {y mo d : Int} {t u v : Tok} {Q : Value → Shared → Prop} (F : Fr h₀ L s.heap m) (N : News h₀ L s.heap news) (h1 : 1 ≤ y) (h2 : y ≤ 9999) (h3 : 1 ≤ mo) (h4 : mo ≤ 12) (h5 : 1 ≤ d) (h7 : d ≤ 28)
    (h : ∀ x h', Fr h₀ L h' m → News h₀ L h' ((x, dateObj y mo d) :: news) → (∀ p ∈ news, p.1 < x) → Q (.ref x) { s with heap := h' }) :
    wpAny (model prog w) A (call (.type "datetime.date") [.int y t, .int mo u, .int d v]) Q E s := by
  have h6 : d ≤ Builtin._datetime.daysInMonth y mo := by
    have hc : mo = 1 ∨ mo = 2 ∨ mo = 3 ∨ mo = 4 ∨ mo = 5 ∨ mo = 6 ∨ mo = 7 ∨ mo = 8 ∨ mo = 9 ∨ mo = 10 ∨ mo = 11 ∨ mo = 12 := by lia
    unfold Builtin._datetime.daysInMonth
    rcases hc with h | h | h | h | h | h | h | h | h | h | h | h <;> subst h <;> (split <;> first | lia | exact Int.le_trans h7 (by decide))
  exact call_date h1 h2 h3 h4 h5 h6 (by lia) (h _ _ (F.push _) (News.push F N _) fun p hp => Heap.lt_size (N p hp).1)
theorem plain_date : PlainAttrs "datetime.date" := ⟨⟨"object.__getattribute__", by rw [typeLookup_type, builtinLookup_eq_fast]; kernel_rfl, by decide +kernel⟩, by rw [typeLookup_type, builtinLookup_eq_fast]; kernel_rfl⟩
theorem slot_toordinal : Slot "datetime.date" "toordinal" "datetime.date.toordinal" := .of (owner := "datetime.date") (n := "toordinal") (by rw [typeLookup_type, builtinLookup_eq_fast]; kernel_rfl) (by decide +kernel) (by decide +kernel) (by decide +kernel)
  (by first | exact .inl (by decide +kernel) | exact .inr (by decide +kernel)) (by rw [isSubtype_type]; kernel_rfl)
theorem ty_toordinal : typeOf (.builtin "datetime.date.toordinal") = pure (.type "method_descriptor") := by show builtinType _ = _; rw [builtinType_eq_fast]; kernel_rfl
theorem entry_toordinal : entryFor table "datetime.date.toordinal" = some Builtin.«datetime.date.toordinal» := entryFor_of_tree (by kernel_rfl)
theorem args_toordinal (a : Value) : argsOk "datetime.date.toordinal" ⟨[a], []⟩ := by unfold argsOk; kernel_rfl
theorem method_toordinal {x : Addr} {y mo d : Int} {pl : Sem Bool} {Q : Value × List Value → Shared → Prop} (hx : s.heap.get? x = some (dateObj y mo d)) (h : Q (.builtin "datetime.date.toordinal", [.ref x]) s) :
    wpAny (model prog w) A (getMethod (.ref x) (Str.ofString "toordinal") pl) Q E s :=
  getMethod_builtin ⟨_, hx, rfl⟩ plain_date slot_toordinal ty_toordinal (fun a e => by cases e; exact ⟨_, hx, rfl⟩) h
theorem tree_toordinal {x : Addr} {y mo d : Int} {P : Fin → Shared → Prop} (hx : s.heap.get? x = some (dateObj y mo d)) (h : P (.done (.ret (.int (Builtin._datetime.toOrdinal y mo d) s.toks))) { s with toks := s.toks + 1 }) :
    wpAny M A (Builtin.«datetime.date.toordinal» ⟨[.ref x], []⟩) P E s := by
  have hT : s.TypeIs (.ref x) "datetime.date" := ⟨_, hx, rfl⟩
  have x1 := sub_date_date
  repeat (any_goals (first | with_reducible assumption | with_reducible refine wpAny_load hx ?_ | with_reducible refine wpAny_isInstance hT x1 ?_ | with_reducible refine wpAny_bind ?_ | with_reducible refine wpAny_pure ?_ | with_reducible refine wpAny_holding ?_ | with_reducible refine wpAny_standAt ?_ | with_reducible refine wpAny_point ?_ | with_reducible refine wpAny_rule ?_ | with_reducible refine wpAny_letGo ?_ | with_reducible refine wpAny_mkInt' ?_ | with_reducible refine wpAny_fresh' ?_ | with_reducible refine wpAny_alloc' ?_ | with_reducible refine wpAny_attempt ?_ | with_reducible refine wpAny_throw ?_ | (with_reducible refine wpAny_mkStr' (hx := ?q9x) ?_; case q9x => size_fits) | with_reducible refine wpAny_of_eq (by assumption) ?_ | with_reducible refine wpAny_typeOf (by assumption) ?_ | with_reducible refine wpAny_specialOf_val (by assumption) (by assumption) ?_ | with_reducible refine wpAny_specialOf (by assumption) (by assumption) ?_ | with_reducible refine wpAny_isInstance_val (by assumption) (by assumption) ?_ | with_reducible refine wpAny_isInstance (by assumption) (by assumption) ?_ | with_reducible refine wpAny_call ?_ | with_reducible refine wpAny_runValue ?_ | with_reducible refine wpAny_run ?_ | (with_reducible refine' wpAny_load' ?_ ?_; focus ((first | with_reducible assumption | heap_get); done)) | (with_reducible refine' wpAny_update' ?_ ?_; focus ((first | with_reducible assumption | heap_get); done)) | (with_reducible refine' wpAny_loadPart' ?_ ?_; focus ((first | with_reducible assumption | heap_get); done)) | (with_reducible refine' wpAny_updatePart' ?_ ?_; focus ((first | with_reducible assumption | heap_get); done)) | with_reducible refine wpAny_handled_none (by assumption) ?_ | (with_reducible refine' wpAny_ite_false ?_ ?_; focus (rfl; done)) | (with_reducible refine' wpAny_ite_true ?_ ?_; focus (rfl; done)) | (with_reducible refine' wpAny_ite_false ?_ ?_; focus (simp [*]; done)) | (with_reducible refine' wpAny_ite_true ?_ ?_; focus (simp [*]; done)) | wp_delta | wp_step | assumption))
theorem call_toordinal {x : Addr} {y mo d : Int} {Q : Value → Shared → Prop} (hx : s.heap.get? x = some (dateObj y mo d)) (h : Q (.int (Builtin._datetime.toOrdinal y mo d) s.toks) { s with toks := s.toks + 1 }) :
    wpAny (model prog w) A (call (.builtin "datetime.date.toordinal") [.ref x]) Q E s :=
  wpAny_call_entry slot_toordinal ⟨_, hx, rfl⟩ entry_toordinal (tree_toordinal hx ⟨_, rfl, h⟩) (args_toordinal _)
end
end DT
end DTs
noncomputable section D7as
theorem timegm_ok (w : World) (mean : ExcName → Option Value) (mg mb : Str → Option Value) (x : Addr) (items : Array Value) (hsz : 6 < items.size) (y m d h mi s : Int) (t1 t2 t3 t4 t5 t6 : Tok) (ez : ((List.range 6).filterMap fun (k : Nat) => items[((0 : Int) + (k : Int) * 1).toNat]?) = [.int y t1, .int m t2, .int d t3, .int h t4, .int mi t5, .int s t6]) (hy1 : 1 ≤ y) (hy2 : y ≤ 9999) (h1 : 1 ≤ m) (h2 : m ≤ 12) :
    ClaimV w mean mg mb 69 12 (fun news => (x, ({ cls := .type "tuple", data := .seq items } : Obj)) ∈ news) [.ref x] (fun t => .int ((((Builtin._datetime.toOrdinal y m 1 - 719163 + d - 1) * 24 + h) * 60 + mi) * 60 + s) t) := by
  unfold ClaimV
  k_fill
  intro news dp un gd cn cs a ccd cl outer A₀ base h₀ L m1 s0 Q E k1 k2 k3 k4 k5 kK kp kd ku hret
  have k4' : News h₀ L s0.heap ((x, ({ cls := .type "tuple", data := .seq items } : Obj)) :: news) := fun p hp => k4 p ((List.mem_cons.mp hp).elim (fun e => e ▸ kp) id)
  clear k4
  refine wpAny_call ?_
  k_dflt cell_enter
  repeat' (first
      | (k_unfold; (try dsimp only))
      | (k_end; kc_close)
      | (with_reducible ((with_reducible show wpAny _ _ (execs (_ :: _) _) _ _ _); (k_here; dsimp only)))
      | (with_reducible ((with_reducible show wpAny _ _ (call (Value.builtin "datetime.date.toordinal") _) _ _ _); (k_here; k_dflt (refine' DT.call_toordinal ?hx ?_; (case hx => exact News.get (by k_asm) (by k_mem)); k_whole))))
      | (with_reducible (k_here; (with_reducible show wpAny _ _ (getMethod (Value.ref _) (PySem.Str.ofString "toordinal") _) _ _ _); k_dflt (refine' DT.method_toordinal ?hx ?_; (case hx => exact News.get (by k_asm) (by k_mem)); k_whole)))
      | (with_reducible (k_here; (with_reducible show wpAny _ _ (call (Value.type "datetime.date") [Value.int _ _, Value.int _ _, Value.int _ _]) _ _ _); k_dflt (refine' DT.date_rows ?kzF ?kzN ?kz1 ?kz2 ?kz3 ?kz4 ?kz5 ?kz6 ?_; (case kzF => k_asm); (case kzN => k_asm); (case kz1 => first | assumption | omega); (case kz2 => first | assumption | omega); (case kz3 => first | assumption | omega); (case kz4 => first | assumption | omega); (case kz5 => first | decide | omega); (case kz6 => first | decide | omega); k_whole); intro x' h' F' N' l1; (try k_lt l1); (try k_sweep)))
      | (with_reducible (k_here; (with_reducible show wpAny _ _ (subscriptTail _ (PySem.Expr.Slice (some _) none none _) (Value.ref _) (Value.ref _)) _ _ _); k_dflt (refine' slice_tup_from ?F ?N ?l ?a ?b ?e ?z ?_ ?s ?t; (case F => k_asm); (case N => k_asm); (case l => exact News.isTup (by k_asm) (by k_mem)); (case a => decide); (case b => first | assumption | decide); (case e => first | assumption | with_unfolding_all rfl); (case z => size_fits); (case s => with_unfolding_all rfl); (case t => (intro _; with_unfolding_all rfl))); intro D' h' F' N' l1; (try k_lt l1); (try k_sweep)))
      | (with_reducible (k_here; (with_reducible show wpAny _ _ (subscriptTail _ (PySem.Expr.Slice none (some _) none _) (Value.ref _) (Value.ref _)) _ _ _); k_dflt (refine' slice_tup_upto ?F ?N ?l ?b ?e ?z ?_ ?s ?t; (case F => k_asm); (case N => k_asm); (case l => exact News.isTup (by k_asm) (by k_mem)); (case b => first | assumption | decide); (case e => first | assumption | with_unfolding_all rfl); (case z => first | decide | (simp only [List.length_cons, List.length_nil]; decide)); (case s => with_unfolding_all rfl); (case t => (intro _; with_unfolding_all rfl))); intro D' h' F' N' l1; (try k_lt l1); (try k_sweep)))
      | (with_reducible ((first | (with_reducible show wpAny _ _ (eval _ (Calls.envOf _ _ _ _ _)) _ _ _) | (with_reducible show wpAny _ _ (eval _ (Calls.envOfC _ _ _ _ _)) _ _ _)); refine Call_ ?_))
      | walk1
      | ((with_reducible show wpAny _ _ (execs (_ :: _) _) _ _ _); (k_here; dsimp only))
      | ((with_reducible show wpAny _ _ (call (Value.builtin "datetime.date.toordinal") _) _ _ _); (k_here; k_dflt (refine' DT.call_toordinal ?hx ?_; (case hx => exact News.get (by k_asm) (by k_mem)); k_whole)))
      | (k_here; (with_reducible show wpAny _ _ (getMethod (Value.ref _) (PySem.Str.ofString "toordinal") _) _ _ _); k_dflt (refine' DT.method_toordinal ?hx ?_; (case hx => exact News.get (by k_asm) (by k_mem)); k_whole))
      | (k_here; (with_reducible show wpAny _ _ (call (Value.type "datetime.date") [Value.int _ _, Value.int _ _, Value.int _ _]) _ _ _); k_dflt (refine' DT.date_rows ?kzF ?kzN ?kz1 ?kz2 ?kz3 ?kz4 ?kz5 ?kz6 ?_; (case kzF => k_asm); (case kzN => k_asm); (case kz1 => first | assumption | omega); (case kz2 => first | assumption | omega); (case kz3 => first | assumption | omega); (case kz4 => first | assumption | omega); (case kz5 => first | decide | omega); (case kz6 => first | decide | omega); k_whole); intro x' h' F' N' l1; (try k_lt l1); (try k_sweep))
      | (k_here; (with_reducible show wpAny _ _ (subscriptTail _ (PySem.Expr.Slice (some _) none none _) (Value.ref _) (Value.ref _)) _ _ _); k_dflt (refine' slice_tup_from ?F ?N ?l ?a ?b ?e ?z ?_ ?s ?t; (case F => k_asm); (case N => k_asm); (case l => exact News.isTup (by k_asm) (by k_mem)); (case a => decide); (case b => first | assumption | decide); (case e => first | assumption | with_unfolding_all rfl); (case z => size_fits); (case s => with_unfolding_all rfl); (case t => (intro _; with_unfolding_all rfl))); intro D' h' F' N' l1; (try k_lt l1); (try k_sweep))
      | (k_here; (with_reducible show wpAny _ _ (subscriptTail _ (PySem.Expr.Slice none (some _) none _) (Value.ref _) (Value.ref _)) _ _ _); k_dflt (refine' slice_tup_upto ?F ?N ?l ?b ?e ?z ?_ ?s ?t; (case F => k_asm); (case N => k_asm); (case l => exact News.isTup (by k_asm) (by k_mem)); (case b => first | assumption | decide); (case e => first | assumption | with_unfolding_all rfl); (case z => first | decide | (simp only [List.length_cons, List.length_nil]; decide)); (case s => with_unfolding_all rfl); (case t => (intro _; with_unfolding_all rfl))); intro D' h' F' N' l1; (try k_lt l1); (try k_sweep))
      | ((first | (with_reducible show wpAny _ _ (eval _ (Calls.envOf _ _ _ _ _)) _ _ _) | (with_reducible show wpAny _ _ (eval _ (Calls.envOfC _ _ _ _ _)) _ _ _)); refine Call_ ?_)
      | (dsimp only; walk1)
      | (leave1; walk_say "STEP leave1"; (try dsimp only)))
  all_goals (refine cb_retI hret ?e1 ?e2 ?e3; (case e2 => k_asm); (case e3 => first | k_asm | (refine' cb_drop ?cbN ?cbS; (case cbN => assumption); (case cbS => first | (intro p hp; (repeat (first | with_reducible exact hp | with_reducible refine List.mem_cons_of_mem _ ?_)); done) | kcj_all))); (case e1 => exact rfl))
end D7as
noncomputable section D7bs
theorem ite_yesX {c : Prop} [Decidable c] {P R : Prop} (h : c) (k : P) : if c then P else R := by rw [if_pos h]; exact k
theorem ite_notX {c : Prop} [Decidable c] {P R : Prop} (h : ¬ c) (k : R) : if c then P else R := by rw [if_neg h]; exact k
theorem utimegm_ok (w : World) (mean : ExcName → Option Value) (mg mb : Str → Option Value) (x : Addr) (items : Array Value) (hsz : 6 < items.size) (y m d h mi s : Int) (t1 t2 t3 t4 t5 t6 : Tok) (ez : ((List.range 6).filterMap fun (k : Nat) => items[((0 : Int) + (k : Int) * 1).toNat]?) = [.int y t1, .int m t2, .int d t3, .int h t4, .int mi t5, .int s t6]) (hy1 : 1970 ≤ y) (hy2 : y ≤ 9999) (h1 : 1 ≤ m) (h2 : m ≤ 12) (h3 : 1 ≤ d) (h4 : d ≤ 31) (h5 : 0 ≤ h) (h6 : h ≤ 24) (h7 : 0 ≤ mi) (h8 : mi ≤ 59) (h9 : 0 ≤ s) (h10 : s ≤ 61) :
    ClaimV w mean mg mb 76 16 (fun news => (x, ({ cls := .type "tuple", data := .seq items } : Obj)) ∈ news) [.ref x] (fun t => .int ((((Builtin._datetime.toOrdinal y m 1 - 719163 + d - 1) * 24 + h) * 60 + mi) * 60 + s) t) := by
  unfold ClaimV
  k_fill
  intro news dp un gd cn cs a ccd cl outer A₀ base h₀ L m1 s0 Q E k1 k2 k3 k4 k5 kK kp kd ku hret
  have k4' : News h₀ L s0.heap ((x, ({ cls := .type "tuple", data := .seq items } : Obj)) :: news) := fun p hp => k4 p ((List.mem_cons.mp hp).elim (fun e => e ▸ kp) id)
  clear k4
  refine wpAny_call ?_
  k_dflt cell_enter
  repeat' (first
      | (k_unfold; (try dsimp only))
      | (k_end; kc_close)
      | (with_reducible (k_here; (with_reducible show wpAny _ _ (call (Value.ref 69) [Value.ref _]) _ _ _); k_dflt (refine' ClaimV.use (timegm_ok _ _ _ _ _ _ ?gsz _ _ _ _ _ _ _ _ _ _ _ _ ?gez ?gy1 ?gy2 ?gm1 ?gm2) ?k1 ?k2 ?k3 ?k4 ?k5 ?kK ?kp ?kd ?ku ?_; (case k1 => k_asm); (case k2 => k_asm); (case k3 => k_asm); (case k4 => k_asm); (case k5 => k_asm); (case kK => first | exact rfl | assumption); (case kp => k_mem); (case gsz => first | assumption | decide); (case gez => first | assumption | with_unfolding_all rfl); (case gy1 => first | assumption | omega); (case gy2 => first | assumption | omega); (case gm1 => first | assumption | omega); (case gm2 => first | assumption | omega);  (case kd => ktr_room); (case ku => ktr_units)); intro t9 h9 tk9 F9 N9; (try dsimp only); (try k_fold)))
      | (with_reducible ((with_reducible show ite _ _ _); k_dflt (first | (refine ite_notX (by first | omega | (simp only [decide_eq_true_eq]; omega)) ?_; try dsimp only) | (refine ite_yesX (by first | omega | (simp only [decide_eq_true_eq]; omega)) ?_; try dsimp only))))
      | (with_reducible (k_here; (with_reducible show wpAny _ _ (subscriptTail _ (PySem.Expr.Slice (some _) none none _) (Value.ref _) (Value.ref _)) _ _ _); k_dflt (refine' slice_tup_from ?F ?N ?l ?a ?b ?e ?z ?_ ?s ?t; (case F => k_asm); (case N => k_asm); (case l => exact News.isTup (by k_asm) (by k_mem)); (case a => decide); (case b => first | assumption | decide); (case e => first | assumption | with_unfolding_all rfl); (case z => size_fits); (case s => with_unfolding_all rfl); (case t => (intro _; with_unfolding_all rfl))); intro D' h' F' N' l1; (try k_lt l1); (try k_sweep)))
      | (with_reducible (k_here; (with_reducible show wpAny _ _ (subscriptTail _ (PySem.Expr.Slice none (some _) none _) (Value.ref _) (Value.ref _)) _ _ _); k_dflt (refine' slice_tup_upto ?F ?N ?l ?b ?e ?z ?_ ?s ?t; (case F => k_asm); (case N => k_asm); (case l => exact News.isTup (by k_asm) (by k_mem)); (case b => first | assumption | decide); (case e => first | assumption | with_unfolding_all rfl); (case z => first | decide | (simp only [List.length_cons, List.length_nil]; decide)); (case s => with_unfolding_all rfl); (case t => (intro _; with_unfolding_all rfl))); intro D' h' F' N' l1; (try k_lt l1); (try k_sweep)))
      | (with_reducible ((first | (with_reducible show wpAny _ _ (eval _ (Calls.envOf _ _ _ _ _)) _ _ _) | (with_reducible show wpAny _ _ (eval _ (Calls.envOfC _ _ _ _ _)) _ _ _)); refine Call_ ?_))
      | walk1
      | (k_here; (with_reducible show wpAny _ _ (call (Value.ref 69) [Value.ref _]) _ _ _); k_dflt (refine' ClaimV.use (timegm_ok _ _ _ _ _ _ ?gsz _ _ _ _ _ _ _ _ _ _ _ _ ?gez ?gy1 ?gy2 ?gm1 ?gm2) ?k1 ?k2 ?k3 ?k4 ?k5 ?kK ?kp ?kd ?ku ?_; (case k1 => k_asm); (case k2 => k_asm); (case k3 => k_asm); (case k4 => k_asm); (case k5 => k_asm); (case kK => first | exact rfl | assumption); (case kp => k_mem); (case gsz => first | assumption | decide); (case gez => first | assumption | with_unfolding_all rfl); (case gy1 => first | assumption | omega); (case gy2 => first | assumption | omega); (case gm1 => first | assumption | omega); (case gm2 => first | assumption | omega);  (case kd => ktr_room); (case ku => ktr_units)); intro t9 h9 tk9 F9 N9; (try dsimp only); (try k_fold))
      | ((with_reducible show ite _ _ _); k_dflt (first | (refine ite_notX (by first | omega | (simp only [decide_eq_true_eq]; omega)) ?_; try dsimp only) | (refine ite_yesX (by first | omega | (simp only [decide_eq_true_eq]; omega)) ?_; try dsimp only)))
      | (k_here; (with_reducible show wpAny _ _ (subscriptTail _ (PySem.Expr.Slice (some _) none none _) (Value.ref _) (Value.ref _)) _ _ _); k_dflt (refine' slice_tup_from ?F ?N ?l ?a ?b ?e ?z ?_ ?s ?t; (case F => k_asm); (case N => k_asm); (case l => exact News.isTup (by k_asm) (by k_mem)); (case a => decide); (case b => first | assumption | decide); (case e => first | assumption | with_unfolding_all rfl); (case z => size_fits); (case s => with_unfolding_all rfl); (case t => (intro _; with_unfolding_all rfl))); intro D' h' F' N' l1; (try k_lt l1); (try k_sweep))
      | (k_here; (with_reducible show wpAny _ _ (subscriptTail _ (PySem.Expr.Slice none (some _) none _) (Value.ref _) (Value.ref _)) _ _ _); k_dflt (refine' slice_tup_upto ?F ?N ?l ?b ?e ?z ?_ ?s ?t; (case F => k_asm); (case N => k_asm); (case l => exact News.isTup (by k_asm) (by k_mem)); (case b => first | assumption | decide); (case e => first | assumption | with_unfolding_all rfl); (case z => first | decide | (simp only [List.length_cons, List.length_nil]; decide)); (case s => with_unfolding_all rfl); (case t => (intro _; with_unfolding_all rfl))); intro D' h' F' N' l1; (try k_lt l1); (try k_sweep))
      | ((first | (with_reducible show wpAny _ _ (eval _ (Calls.envOf _ _ _ _ _)) _ _ _) | (with_reducible show wpAny _ _ (eval _ (Calls.envOfC _ _ _ _ _)) _ _ _)); refine Call_ ?_)
      | (dsimp only; walk1)
      | (leave1; walk_say "STEP leave1"; (try dsimp only)))
  all_goals (refine cb_retI hret ?e1 ?e2 ?e3; (case e2 => k_asm); (case e3 => first | k_asm | (refine' cb_drop ?cbN ?cbS; (case cbN => assumption); (case cbS => first | (intro p hp; (repeat (first | with_reducible exact hp | with_reducible refine List.mem_cons_of_mem _ ?_)); done) | kcj_all))); (case e1 => exact rfl))
end D7bs
noncomputable section D9s
structure PDat (T w0 w1 w2 dd mm yy th tm ts ml : Str) (Y D H M S : Int) (j : Nat) : Prop where
  hT : ((T.length : Int) != 0) = true
  hT2 : T.length ≤ 100
  hw : Txt.words T = [w0, w1, w2, Str.ofString "GMT"]
  h0 : Txt.endswith w0 (Str.ofString ",") = true
  h1 : Txt.split w1 (Str.ofString "-") = [dd, mm, yy]
  h1l : w1.length ≤ 100
  h2 : Txt.split w2 (Str.ofString ":") = [th, tm, ts]
  h2l : w2.length ≤ 100
  d1 : ((dd.length : Int) != 0) = true
  d2 : dd.length ≤ 100
  m1 : ((mm.length : Int) != 0) = true
  m2 : mm.length ≤ 100
  y1 : ((yy.length : Int) != 0) = true
  y2 : yy.length ≤ 100
  ml1 : Txt.lower mm = ml
  ml2 : ml.length ≤ 100
  hj1 : (["jan", "feb", "mar", "apr", "may", "jun", "jul", "aug", "sep", "oct", "nov", "dec", "january", "february", "march", "april", "may", "june", "july", "august", "september", "october", "november", "december"] : List Str).any (· == ml) = true
  hj2 : (["jan", "feb", "mar", "apr", "may", "jun", "jul", "aug", "sep", "oct", "nov", "dec", "january", "february", "march", "april", "may", "june", "july", "august", "september", "october", "november", "december"] : List Str).idxOf ml = j
  hj3 : j < 12
  dc : (Txt.charAt dd (-1)).isSome = true
  dl : (Txt.item dd (-1) == Str.ofString ",") = false
  yf : Txt.find yy (Str.ofString ":") = -1
  yc : (Txt.charAt yy (-1)).isSome = true
  yl : (Txt.item yy (-1) == Str.ofString ",") = false
  yc0 : (Txt.charAt yy 0).isSome = true
  yd : Txt.isdigit (Txt.item yy 0) = true
  tc : (Txt.charAt w2 (-1)).isSome = true
  tl : (Txt.item w2 (-1) == Str.ofString ",") = false
  iy : PySem.intText? yy = some Y
  id' : PySem.intText? dd = some D
  ih : PySem.intText? th = some H
  im : PySem.intText? tm = some M
  is' : PySem.intText? ts = some S
  thl : th.length ≤ 100
  tml : tm.length ≤ 100
  tsl : ts.length ≤ 100
/-- what the parse of the text T tells -/
def Parses (T : Str) (Y : Int) (j : Nat) (D H M S : Int) : Prop := ∃ w0 w1 w2 dd mm yy th tm ts ml : Str, PDat T w0 w1 w2 dd mm yy th tm ts ml Y D H M S j
theorem pptz_use (w : World) (mean : ExcName → Option Value) (mg mb : Str → Option Value) (T : Str) (t : Tok) (Y : Int) (j : Nat) (D H M S : Int) (hp : Parses T Y j D H M S) : ClaimO w mean mg mb 142 12 (fun _ => True) [.str T t] (list10 (fullYear Y) (j + 1) D H M S) := by
  obtain ⟨w0, w1, w2, dd, mm, yy, th, tm, ts, ml, P⟩ := hp
  exact pptz_ok w mean mg mb T w0 w1 w2 dd mm yy th tm ts ml t Y D H M S P.hT P.hT2 P.hw P.h0 P.h1 P.h1l P.h2 P.h2l P.d1 P.d2 P.m1 P.m2 P.y1 P.y2 P.ml1 P.ml2 j P.hj1 P.hj2 P.hj3 P.dc P.dl P.yf P.yc P.yl P.yc0 P.yd P.tc P.tl P.iy P.id' P.ih P.im P.is' P.thl P.tml P.tsl

abbrev tup10 (y mo d h mi s : Int) (τ : Nat → Tok) : Obj := { cls := .type "tuple", data := .seq #[.int y (τ 0), .int mo (τ 1), .int d (τ 2), .int h (τ 3), .int mi (τ 4), .int s (τ 5), .int 0 (τ 6), .int 1 (τ 7), .int (-1) (τ 8), .int 0 (τ 9)] 0 }
abbrev tup9 (y mo d h mi s : Int) (τ : Nat → Tok) : Obj := { cls := .type "tuple", data := .seq #[.int y (τ 0), .int mo (τ 1), .int d (τ 2), .int h (τ 3), .int mi (τ 4), .int s (τ 5), .int 0 (τ 6), .int 1 (τ 7), .int (-1) (τ 8)] 0 }
theorem endObj {news news' : List (Addr × Obj)} {h₀ : Heap} {L x : Addr} {m : Str → Option Value} {s : Shared} {Q : Value → Shared → Prop} {R : (Nat → Tok) → Obj} {h' : Heap} {tk : Nat} (τ : Nat → Tok) (hret : ∀ (τ : Nat → Tok) (x : Addr) (h' : Heap) (tk' : Nat), Fr h₀ L h' m → News h₀ L h' ((x, R τ) :: news) → (∀ p ∈ news, p.1 < x) → Q (.ref x) { s with heap := h', toks := tk' })
    (F : Fr h₀ L h' m) (N : News h₀ L h' news') (hm : (x, R τ) ∈ news') (hs : ∀ p ∈ news, p ∈ news') (hl : ∀ p ∈ news, p.1 < x) :
    Q (.ref x) { s with heap := h', toks := tk } := by
  refine hret τ x h' tk F (fun p hp => ?_) hl
  rcases List.mem_cons.mp hp with rfl | hp
  · exact N _ hm
  · exact N p (hs p hp)
theorem ptz_ok (w : World) (mean : ExcName → Option Value) (mg mb : Str → Option Value) (T : Str) (t : Tok) (Y : Int) (j : Nat) (D H M S : Int) (hp : Parses T Y j D H M S) :
    ClaimO w mean mg mb 135 16 (fun _ => True) [.str T t] (tup10 (fullYear Y) (j + 1) D H M S) := by
  unfold ClaimO
  k_fill
  intros; rename_i hret
  refine wpAny_call ?_
  k_dflt (refine' code_def ?k1 ?k2 ?k3 ?k4 ?k5 ?kA ?kF ?kK ?k6 ?k7 ?k8 ?k9 ?kB ?_ ?c2 ?c3 ?c4 ?c5; (case kA => exact rfl); (case kF => exact rfl); (case kK => first | exact rfl | assumption); (case k1 => k_asm); (case k2 => k_asm); (case k3 => k_asm); (case k4 => k_asm); (case k5 => k_asm); (case k6 => k_is); (case k7 => k_is); (case k8 => ktr_room); (case k9 => first | exact BindsTo.of_eq rfl | exact binds_K (by k_in) rfl (by k_is) rfl rfl rfl); (case c5 => decide); (case kB => exact locs rfl); (case c2 => exact rfl); (case c3 => exact rfl); (case c4 => exact rfl); k_whole; intro g' L' h' FG' F' N' B' X' T'; (try dsimp only); (try k_fold))
  repeat' (first
      | (k_unfold; (try dsimp only))
      | (k_end; kc_close)
      | (with_reducible (k_here; (with_reducible show wpAny _ _ (call (Value.ref 142) [Value.str _ _]) _ _ _); k_dflt (refine' ClaimO.use (pptz_use _ _ _ _ _ _ _ _ _ _ _ _ ?s0) ?k1 ?k2 ?k3 ?k4 ?k5 ?kK ?kp ?kd ?ku ?_; (case s0 => assumption); (case k1 => k_asm); (case k2 => k_asm); (case k3 => k_asm); (case k4 => k_asm); (case k5 => k_asm); (case kK => first | exact rfl | assumption); (case kp => trivial); (case kd => ktr_room); (case ku => ktr_units)); intro τ9 x9 h9 tk9 F9 N9 l9; (try k_lt l9); (try dsimp only); (try k_fold)))
      | (with_reducible ((with_reducible show ite _ _ _); k_dflt (first | (refine ite_notX (by first | omega | (simp only [decide_eq_true_eq]; omega)) ?_; try dsimp only) | (refine ite_yesX (by first | omega | (simp only [decide_eq_true_eq]; omega)) ?_; try dsimp only))))
      | (with_reducible (k_here; (with_reducible show wpAny _ _ (subscriptTail _ (PySem.Expr.Slice none (some _) none _) (Value.ref _) (Value.ref _)) _ _ _); k_dflt (refine' slice_tup_take (items := #[_, _, _, _, _, _, _, _, _, _]) (zs := [_, _, _, _, _, _, _, _, _]) ?F ?N ?l ?b ?e ?z ?_ ?s ?t; (case F => k_asm); (case N => k_asm); (case l => exact News.isTup (by k_asm) (by k_mem)); (case b => (with_unfolding_all exact Nat.le_of_ble_eq_true rfl)); (case e => with_unfolding_all rfl); (case z => (with_unfolding_all exact Nat.le_of_ble_eq_true rfl)); (case s => with_unfolding_all rfl); (case t => (intro _; with_unfolding_all rfl))); intro D' h' F' N' l1; (try dsimp only at N'); (try k_lt l1); (try k_sweep)))
      | (with_reducible ((first | (with_reducible show wpAny _ _ (eval _ (Calls.envOf _ _ _ _ _)) _ _ _) | (with_reducible show wpAny _ _ (eval _ (Calls.envOfC _ _ _ _ _)) _ _ _)); refine Call_ ?_))
      | walk1
      | (k_here; (with_reducible show wpAny _ _ (call (Value.ref 142) [Value.str _ _]) _ _ _); k_dflt (refine' ClaimO.use (pptz_use _ _ _ _ _ _ _ _ _ _ _ _ ?s0) ?k1 ?k2 ?k3 ?k4 ?k5 ?kK ?kp ?kd ?ku ?_; (case s0 => assumption); (case k1 => k_asm); (case k2 => k_asm); (case k3 => k_asm); (case k4 => k_asm); (case k5 => k_asm); (case kK => first | exact rfl | assumption); (case kp => trivial); (case kd => ktr_room); (case ku => ktr_units)); intro τ9 x9 h9 tk9 F9 N9 l9; (try k_lt l9); (try dsimp only); (try k_fold))
      | ((with_reducible show ite _ _ _); k_dflt (first | (refine ite_notX (by first | omega | (simp only [decide_eq_true_eq]; omega)) ?_; try dsimp only) | (refine ite_yesX (by first | omega | (simp only [decide_eq_true_eq]; omega)) ?_; try dsimp only)))
      | (k_here; (with_reducible show wpAny _ _ (subscriptTail _ (PySem.Expr.Slice none (some _) none _) (Value.ref _) (Value.ref _)) _ _ _); k_dflt (refine' slice_tup_take (items := #[_, _, _, _, _, _, _, _, _, _]) (zs := [_, _, _, _, _, _, _, _, _]) ?F ?N ?l ?b ?e ?z ?_ ?s ?t; (case F => k_asm); (case N => k_asm); (case l => exact News.isTup (by k_asm) (by k_mem)); (case b => (with_unfolding_all exact Nat.le_of_ble_eq_true rfl)); (case e => with_unfolding_all rfl); (case z => (with_unfolding_all exact Nat.le_of_ble_eq_true rfl)); (case s => with_unfolding_all rfl); (case t => (intro _; with_unfolding_all rfl))); intro D' h' F' N' l1; (try dsimp only at N'); (try k_lt l1); (try k_sweep))
      | ((first | (with_reducible show wpAny _ _ (eval _ (Calls.envOf _ _ _ _ _)) _ _ _) | (with_reducible show wpAny _ _ (eval _ (Calls.envOfC _ _ _ _ _)) _ _ _)); refine Call_ ?_)
      | (dsimp only; walk1)
      | (leave1; walk_say "STEP leave1"; (try dsimp only)))
  all_goals (refine' endObj ?tau hret ?eF ?eN ?em ?es ?el; (case eF => k_asm); (case eN => assumption); (case em => k_mem); (case es => (intro p hp; repeat (first | with_reducible exact hp | with_reducible refine List.mem_cons_of_mem _ ?_))); (case el => (intro p hp; (repeat (rename (_ ∧ _) => hAnd; obtain ⟨_, _⟩ := hAnd)); exact ktn_ltOf (by assumption) p hp)))
theorem pd_ok (w : World) (mean : ExcName → Option Value) (mg mb : Str → Option Value) (T : Str) (t : Tok) (Y : Int) (j : Nat) (D H M S : Int) (hp : Parses T Y j D H M S) :
    ClaimO w mean mg mb 149 20 (fun _ => True) [.str T t] (tup9 (fullYear Y) (j + 1) D H M S) := by
  unfold ClaimO
  k_fill
  intros; rename_i hret
  refine wpAny_call ?_
  k_dflt (refine' code_def ?k1 ?k2 ?k3 ?k4 ?k5 ?kA ?kF ?kK ?k6 ?k7 ?k8 ?k9 ?kB ?_ ?c2 ?c3 ?c4 ?c5; (case kA => exact rfl); (case kF => exact rfl); (case kK => first | exact rfl | assumption); (case k1 => k_asm); (case k2 => k_asm); (case k3 => k_asm); (case k4 => k_asm); (case k5 => k_asm); (case k6 => k_is); (case k7 => k_is); (case k8 => ktr_room); (case k9 => first | exact BindsTo.of_eq rfl | exact binds_K (by k_in) rfl (by k_is) rfl rfl rfl); (case c5 => decide); (case kB => exact locs rfl); (case c2 => exact rfl); (case c3 => exact rfl); (case c4 => exact rfl); k_whole; intro g' L' h' FG' F' N' B' X' T'; (try dsimp only); (try k_fold))
  repeat' (first
      | (k_unfold; (try dsimp only))
      | (k_end; kc_close)
      | (with_reducible (k_here; (with_reducible show wpAny _ _ (call (Value.ref 135) [Value.str _ _]) _ _ _); k_dflt (refine' ClaimO.use (ptz_ok _ _ _ _ _ _ _ _ _ _ _ _ ?s0) ?k1 ?k2 ?k3 ?k4 ?k5 ?kK ?kp ?kd ?ku ?_; (case s0 => assumption); (case k1 => k_asm); (case k2 => k_asm); (case k3 => k_asm); (case k4 => k_asm); (case k5 => k_asm); (case kK => first | exact rfl | assumption); (case kp => trivial); (case kd => ktr_room); (case ku => ktr_units)); intro τ9 x9 h9 tk9 F9 N9 l9; (try k_lt l9); (try dsimp only); (try k_fold)))
      | (with_reducible (k_here; (with_reducible show wpAny _ _ (call (Value.ref 142) [Value.str _ _]) _ _ _); k_dflt (refine' ClaimO.use (pptz_use _ _ _ _ _ _ _ _ _ _ _ _ ?s0) ?k1 ?k2 ?k3 ?k4 ?k5 ?kK ?kp ?kd ?ku ?_; (case s0 => assumption); (case k1 => k_asm); (case k2 => k_asm); (case k3 => k_asm); (case k4 => k_asm); (case k5 => k_asm); (case kK => first | exact rfl | assumption); (case kp => trivial); (case kd => ktr_room); (case ku => ktr_units)); intro τ9 x9 h9 tk9 F9 N9 l9; (try k_lt l9); (try dsimp only); (try k_fold)))
      | (with_reducible ((with_reducible show ite _ _ _); k_dflt (first | (refine ite_notX (by first | omega | (simp only [decide_eq_true_eq]; omega)) ?_; try dsimp only) | (refine ite_yesX (by first | omega | (simp only [decide_eq_true_eq]; omega)) ?_; try dsimp only))))
      | (with_reducible (k_here; (with_reducible show wpAny _ _ (subscriptTail _ (PySem.Expr.Slice none (some _) none _) (Value.ref _) (Value.ref _)) _ _ _); k_dflt (refine' slice_tup_take (items := #[_, _, _, _, _, _, _, _, _, _]) (zs := [_, _, _, _, _, _, _, _, _]) ?F ?N ?l ?b ?e ?z ?_ ?s ?t; (case F => k_asm); (case N => k_asm); (case l => exact News.isTup (by k_asm) (by k_mem)); (case b => (with_unfolding_all exact Nat.le_of_ble_eq_true rfl)); (case e => with_unfolding_all rfl); (case z => (with_unfolding_all exact Nat.le_of_ble_eq_true rfl)); (case s => with_unfolding_all rfl); (case t => (intro _; with_unfolding_all rfl))); intro D' h' F' N' l1; (try dsimp only at N'); (try k_lt l1); (try k_sweep)))
      | (with_reducible ((first | (with_reducible show wpAny _ _ (eval _ (Calls.envOf _ _ _ _ _)) _ _ _) | (with_reducible show wpAny _ _ (eval _ (Calls.envOfC _ _ _ _ _)) _ _ _)); refine Call_ ?_))
      | walk1
      | (k_here; (with_reducible show wpAny _ _ (call (Value.ref 135) [Value.str _ _]) _ _ _); k_dflt (refine' ClaimO.use (ptz_ok _ _ _ _ _ _ _ _ _ _ _ _ ?s0) ?k1 ?k2 ?k3 ?k4 ?k5 ?kK ?kp ?kd ?ku ?_; (case s0 => assumption); (case k1 => k_asm); (case k2 => k_asm); (case k3 => k_asm); (case k4 => k_asm); (case k5 => k_asm); (case kK => first | exact rfl | assumption); (case kp => trivial); (case kd => ktr_room); (case ku => ktr_units)); intro τ9 x9 h9 tk9 F9 N9 l9; (try k_lt l9); (try dsimp only); (try k_fold))
      | (k_here; (with_reducible show wpAny _ _ (call (Value.ref 142) [Value.str _ _]) _ _ _); k_dflt (refine' ClaimO.use (pptz_use _ _ _ _ _ _ _ _ _ _ _ _ ?s0) ?k1 ?k2 ?k3 ?k4 ?k5 ?kK ?kp ?kd ?ku ?_; (case s0 => assumption); (case k1 => k_asm); (case k2 => k_asm); (case k3 => k_asm); (case k4 => k_asm); (case k5 => k_asm); (case kK => first | exact rfl | assumption); (case kp => trivial); (case kd => ktr_room); (case ku => ktr_units)); intro τ9 x9 h9 tk9 F9 N9 l9; (try k_lt l9); (try dsimp only); (try k_fold))
      | ((with_reducible show ite _ _ _); k_dflt (first | (refine ite_notX (by first | omega | (simp only [decide_eq_true_eq]; omega)) ?_; try dsimp only) | (refine ite_yesX (by first | omega | (simp only [decide_eq_true_eq]; omega)) ?_; try dsimp only)))
      | (k_here; (with_reducible show wpAny _ _ (subscriptTail _ (PySem.Expr.Slice none (some _) none _) (Value.ref _) (Value.ref _)) _ _ _); k_dflt (refine' slice_tup_take (items := #[_, _, _, _, _, _, _, _, _, _]) (zs := [_, _, _, _, _, _, _, _, _]) ?F ?N ?l ?b ?e ?z ?_ ?s ?t; (case F => k_asm); (case N => k_asm); (case l => exact News.isTup (by k_asm) (by k_mem)); (case b => (with_unfolding_all exact Nat.le_of_ble_eq_true rfl)); (case e => with_unfolding_all rfl); (case z => (with_unfolding_all exact Nat.le_of_ble_eq_true rfl)); (case s => with_unfolding_all rfl); (case t => (intro _; with_unfolding_all rfl))); intro D' h' F' N' l1; (try dsimp only at N'); (try k_lt l1); (try k_sweep))
      | ((first | (with_reducible show wpAny _ _ (eval _ (Calls.envOf _ _ _ _ _)) _ _ _) | (with_reducible show wpAny _ _ (eval _ (Calls.envOfC _ _ _ _ _)) _ _ _)); refine Call_ ?_)
      | (dsimp only; walk1)
      | (leave1; walk_say "STEP leave1"; (try dsimp only)))
  all_goals (refine' endObj ?tau hret ?eF ?eN ?em ?es ?el; (case eF => k_asm); (case eN => assumption); (case em => k_mem); (case es => (intro p hp; repeat (first | with_reducible exact hp | with_reducible refine List.mem_cons_of_mem _ ?_))); (case el => (intro p hp; (repeat (rename (_ ∧ _) => hAnd; obtain ⟨_, _⟩ := hAnd)); exact ktn_ltOf (by assumption) p hp)))
end D9s
noncomputable section D10s
theorem offset_ok (w : World) (mean : ExcName → Option Value) (mg mb : Str → Option Value) (t : Tok) :
    ClaimV w mean mg mb 104 12 (fun _ => True) [.str (Str.ofString "GMT") t] (fun t => .int 0 t) := by
  unfold ClaimV
  k_fill
  intros; rename_i hret
  refine wpAny_call ?_
  k_dflt cell_enter
  repeat' (first
      | (k_unfold; (try dsimp only))
      | (k_end; kc_close)
      | (with_reducible ((with_reducible show ite _ _ _); k_dflt (first | (refine ite_notX (by first | omega | (simp only [decide_eq_true_eq]; omega)) ?_; try dsimp only) | (refine ite_yesX (by first | omega | (simp only [decide_eq_true_eq]; omega)) ?_; try dsimp only))))
      | (with_reducible ((first | (with_reducible show wpAny _ _ (eval _ (Calls.envOf _ _ _ _ _)) _ _ _) | (with_reducible show wpAny _ _ (eval _ (Calls.envOfC _ _ _ _ _)) _ _ _)); refine Call_ ?_))
      | walk1
      | ((with_reducible show ite _ _ _); k_dflt (first | (refine ite_notX (by first | omega | (simp only [decide_eq_true_eq]; omega)) ?_; try dsimp only) | (refine ite_yesX (by first | omega | (simp only [decide_eq_true_eq]; omega)) ?_; try dsimp only)))
      | ((first | (with_reducible show wpAny _ _ (eval _ (Calls.envOf _ _ _ _ _)) _ _ _) | (with_reducible show wpAny _ _ (eval _ (Calls.envOfC _ _ _ _ _)) _ _ _)); refine Call_ ?_)
      | (dsimp only; walk1)
      | (leave1; walk_say "STEP leave1"; (try dsimp only)))
  all_goals (refine cb_retI hret ?e1 ?e2 ?e3; (case e2 => k_asm); (case e3 => first | k_asm | (refine' cb_drop ?cbN ?cbS; (case cbN => assumption); (case cbS => first | (intro p hp; (repeat (first | with_reducible exact hp | with_reducible refine List.mem_cons_of_mem _ ?_)); done) | kcj_all))); (case e1 => exact rfl))
def secs (y m d h mi s : Int) : Int := (((Builtin._datetime.toOrdinal y m 1 - 719163 + d - 1) * 24 + h) * 60 + mi) * 60 + s
theorem secs_sub (y m d h mi s : Int) : ((((Builtin._datetime.toOrdinal y m 1 - 719163 + d - 1) * 24 + h) * 60 + mi) * 60 + s) - 0 = secs y m d h mi s := by unfold secs; lia
-- WORD

theorem s2t_word (w : World) (mean : ExcName → Option Value) (mg mb : Str → Option Value) (dd mm yy th tm ts ml : Str) (t1 t2 t3 t4 t5 t6 t7 : Tok) (Y D H M S : Int) (ml1 : Txt.lower mm = ml) (ml2 : ml.length ≤ 100)
    (iy : PySem.intText? yy = some Y) (idd : PySem.intText? dd = some D) (ih : PySem.intText? th = some H) (im : PySem.intText? tm = some M) (iss : PySem.intText? ts = some S) (ddl : dd.length ≤ 100) (yyl : yy.length ≤ 100) (thl : th.length ≤ 100) (tml : tm.length ≤ 100) (tsl : ts.length ≤ 100)
    (hy1 : 1970 ≤ Y) (hy2 : Y ≤ 9999) (hd1 : 1 ≤ D) (hd2 : D ≤ 31) (hh1 : 0 ≤ H) (hh2 : H ≤ 24) (hm1 : 0 ≤ M) (hm2 : M ≤ 59) (hs1 : 0 ≤ S) (hs2 : S ≤ 61) (j : Nat) (hj2 : (["jan", "feb", "mar", "apr", "may", "jun", "jul", "aug", "sep", "oct", "nov", "dec"] : List Str).idxOf ml = j) (hj3 : j < 12) (j1 : 1 ≤ (j : Int) + 1) (j2 : (j : Int) + 1 ≤ 12) :
    ClaimV w mean mg mb 125 30 (fun _ => True) [.str dd t1, .str mm t2, .str yy t3, .str th t4, .str tm t5, .str ts t6, .str (Str.ofString "GMT") t7] (fun t => .int (secs Y (j + 1) D H M S) t) := by
  unfold ClaimV
  k_fill
  intros; rename_i hret
  refine wpAny_call ?_
  k_dflt cell_enter
  repeat' (first
      | (k_unfold; (try dsimp only))
      | (k_end; kc_close)
      | (with_reducible (k_here; (with_reducible show wpAny _ _ (call (Value.ref 76) [Value.ref _]) _ _ _); k_dflt (refine' ClaimV.use (utimegm_ok _ _ _ _ _ _ ?gsz _ _ _ _ _ _ _ _ _ _ _ _ ?gez ?gy0 ?gy1 ?gy2 ?gy3 ?gy4 ?gy5 ?gy6 ?gy7 ?gy8 ?gy9 ?gy10 ?gy11) ?k1 ?k2 ?k3 ?k4 ?k5 ?kK ?kp ?kd ?ku ?_; (case k1 => k_asm); (case k2 => k_asm); (case k3 => k_asm); (case k4 => k_asm); (case k5 => k_asm); (case kK => first | exact rfl | assumption); (case kp => k_mem); (case gsz => first | assumption | (with_unfolding_all exact Nat.le_of_ble_eq_true rfl)); (case gez => first | assumption | with_unfolding_all rfl); (case gy0 => first | assumption | omega); (case gy1 => first | assumption | omega); (case gy2 => first | assumption | omega); (case gy3 => first | assumption | omega); (case gy4 => first | assumption | omega); (case gy5 => first | assumption | omega); (case gy6 => first | assumption | omega); (case gy7 => first | assumption | omega); (case gy8 => first | assumption | omega); (case gy9 => first | assumption | omega); (case gy10 => first | assumption | omega); (case gy11 => first | assumption | omega);  (case kd => ktr_room); (case ku => ktr_units)); intro t9 h9 tk9 F9 N9; (try dsimp only); (try k_fold)))
      | (with_reducible (k_here; (with_reducible show wpAny _ _ (call (Value.builtin _) [Value.ref 80, Value.str _ _]) _ _ _); k_dflt (refine' TX.index_of (ss := ["jan", "feb", "mar", "apr", "may", "jun", "jul", "aug", "sep", "oct", "nov", "dec"]) ?k1 ?k2 ?k3 ?k4 ?k5 ?k6 ?_; (case k1 => k_asm); (case k2 => kernel_rfl); (case k3 => k_asm); (case k4 => decide); (case k5 => assumption); (case k6 => (simp only [List.length_cons, List.length_nil]; omega))); intro _ _))
      | (with_reducible (k_here; (with_reducible show wpAny _ _ (getMethod (Value.ref 80) (PySem.Str.ofString "index") _) _ _ _); k_dflt (refine' TX.method_of ?k1 ?k2 ?k3 ?k5 PySem.F.slot_list_index PySem.F.type_list_index ?_; (case k1 => k_asm); (case k2 => k_asm); (case k3 => k_is); (case k5 => rfl))))
      | (with_reducible (k_here; (with_reducible show wpAny _ _ (compareOp CmpOp.In (Value.str _ _) (Value.ref 80)) _ _ _); k_dflt (refine' TX.in_of (ss := ["jan", "feb", "mar", "apr", "may", "jun", "jul", "aug", "sep", "oct", "nov", "dec"]) ?k1 ?k2 ?k3 ?k4 ?_; (case k1 => k_asm); (case k2 => kernel_rfl); (case k3 => k_asm); (case k4 => assumption))))
      | (with_reducible (k_here; (with_reducible show wpAny _ _ (compareOp CmpOp.NotIn (Value.str _ _) (Value.ref 80)) _ _ _); k_dflt (refine' TX.notin_of (ss := ["jan", "feb", "mar", "apr", "may", "jun", "jul", "aug", "sep", "oct", "nov", "dec"]) ?k1 ?k2 ?k3 ?k4 ?_; (case k1 => k_asm); (case k2 => kernel_rfl); (case k3 => k_asm); (case k4 => assumption))))
      | (with_reducible (k_here; (with_reducible show wpAny _ _ (exec (Stmt.Assign [Expr.List _ _] _ _) _) _ _ _); refine TX.Assign_List ?_))
      | (with_reducible (k_here; (with_reducible show wpAny _ _ (call (Value.type "int") [Value.str _ _]) _ _ _); refine TX.int_of (by assumption) (by assumption) ?_; intro _ _))
      | (with_reducible ((with_reducible show wpAny _ _ (call (Value.builtin "str.isdigit") _) _ _ _); (k_here; refine TX.digit_of (by assumption) ?_)))
      | (with_reducible ((with_reducible show wpAny _ _ (call (Value.builtin "str.find") _) _ _ _); (k_here; refine TX.find_of (by assumption) ?_; intro _ _)))
      | (with_reducible ((with_reducible show wpAny _ _ (compareOp CmpOp.Eq (Value.str _ _) (Value.str _ _)) _ _ _); (k_here; refine TX.eq_of (by assumption) ?_)))
      | (with_reducible (k_here; (with_reducible show wpAny _ _ (subscriptTail _ _ (Value.str _ _) (Value.int _ _)) _ _ _); k_dflt (refine TX.item_of (by decide) (by assumption) ?_ (by with_unfolding_all rfl) (by intro _; with_unfolding_all rfl)); intro _ _))
      | (with_reducible ((with_reducible show wpAny _ _ (truthy (Value.str _ _)) _ _ _); (k_here; refine TX.truthy_of (by assumption) (by assumption) ?_; intro _)))
      | (with_reducible ((with_reducible show wpAny _ _ (call (Value.builtin "str.lower") _) _ _ _); (k_here; refine TX.lower_of (by assumption) (by assumption) ?_; intro _ _)))
      | (with_reducible ((with_reducible show wpAny _ _ (call (Value.builtin "str.endswith") _) _ _ _); (k_here; refine TX.ends_of (by assumption) ?_)))
      | (with_reducible ((with_reducible show wpAny _ _ (call (Value.builtin "str.split") _) _ _ _); (k_here; first
  | ((with_reducible show wpAny _ _ (call (Value.builtin "str.split") [Value.str _ _]) _ _ _); (refine' TX.words_of ?cxF ?cxN ?cxe ?cxl ?_; (case cxF => k_asm); (case cxN => k_asm); (case cxe => assumption); (case cxl => assumption)); intro D' τ' h' k' F' N' l1; (try dsimp only [List.mapIdx, List.mapIdx.go] at N'); (try k_lt l1))
  | ((with_reducible show wpAny _ _ (call (Value.builtin "str.split") [Value.str _ _, Value.str _ _]) _ _ _); (refine' TX.split_of ?cxF ?cxN ?cxe ?cxy ?cxl ?_; (case cxF => k_asm); (case cxN => k_asm); (case cxe => assumption); (case cxy => decide); (case cxl => assumption)); intro D' τ' h' k' F' N' l1; (try dsimp only [List.mapIdx, List.mapIdx.go] at N'); (try k_lt l1)))))
      | (with_reducible (k_here; (with_reducible show wpAny _ _ (call (Value.ref 104) [Value.str _ _]) _ _ _); k_dflt (refine' ClaimV.use (offset_ok _ _ _ _ _) ?k1 ?k2 ?k3 ?k4 ?k5 ?kK ?kp ?kd ?ku ?_); (case k1 => k_asm); (case k2 => k_asm); (case k3 => k_asm); (case k4 => k_asm); (case k5 => k_asm); (case kK => first | exact rfl | assumption); (case kp => trivial); (case kd => ktr_room); (case ku => ktr_units); intro t9 h9 tk9 F9 N9; (try dsimp only); (try k_fold)))
      | (with_reducible ((with_reducible show ite _ _ _); k_dflt (first | (refine ite_notX (by first | omega | (simp only [decide_eq_true_eq]; omega)) ?_; try dsimp only) | (refine ite_yesX (by first | omega | (simp only [decide_eq_true_eq]; omega)) ?_; try dsimp only))))
      | (with_reducible ((first | (with_reducible show wpAny _ _ (eval _ (Calls.envOf _ _ _ _ _)) _ _ _) | (with_reducible show wpAny _ _ (eval _ (Calls.envOfC _ _ _ _ _)) _ _ _)); refine Call_ ?_))
      | walk1
      | (k_here; (with_reducible show wpAny _ _ (call (Value.ref 76) [Value.ref _]) _ _ _); k_dflt (refine' ClaimV.use (utimegm_ok _ _ _ _ _ _ ?gsz _ _ _ _ _ _ _ _ _ _ _ _ ?gez ?gy0 ?gy1 ?gy2 ?gy3 ?gy4 ?gy5 ?gy6 ?gy7 ?gy8 ?gy9 ?gy10 ?gy11) ?k1 ?k2 ?k3 ?k4 ?k5 ?kK ?kp ?kd ?ku ?_; (case k1 => k_asm); (case k2 => k_asm); (case k3 => k_asm); (case k4 => k_asm); (case k5 => k_asm); (case kK => first | exact rfl | assumption); (case kp => k_mem); (case gsz => first | assumption | (with_unfolding_all exact Nat.le_of_ble_eq_true rfl)); (case gez => first | assumption | with_unfolding_all rfl); (case gy0 => first | assumption | omega); (case gy1 => first | assumption | omega); (case gy2 => first | assumption | omega); (case gy3 => first | assumption | omega); (case gy4 => first | assumption | omega); (case gy5 => first | assumption | omega); (case gy6 => first | assumption | omega); (case gy7 => first | assumption | omega); (case gy8 => first | assumption | omega); (case gy9 => first | assumption | omega); (case gy10 => first | assumption | omega); (case gy11 => first | assumption | omega);  (case kd => ktr_room); (case ku => ktr_units)); intro t9 h9 tk9 F9 N9; (try dsimp only); (try k_fold))
      | (k_here; (with_reducible show wpAny _ _ (call (Value.builtin _) [Value.ref 80, Value.str _ _]) _ _ _); k_dflt (refine' TX.index_of (ss := ["jan", "feb", "mar", "apr", "may", "jun", "jul", "aug", "sep", "oct", "nov", "dec"]) ?k1 ?k2 ?k3 ?k4 ?k5 ?k6 ?_; (case k1 => k_asm); (case k2 => kernel_rfl); (case k3 => k_asm); (case k4 => decide); (case k5 => assumption); (case k6 => (simp only [List.length_cons, List.length_nil]; omega))); intro _ _)
      | (k_here; (with_reducible show wpAny _ _ (getMethod (Value.ref 80) (PySem.Str.ofString "index") _) _ _ _); k_dflt (refine' TX.method_of ?k1 ?k2 ?k3 ?k5 PySem.F.slot_list_index PySem.F.type_list_index ?_; (case k1 => k_asm); (case k2 => k_asm); (case k3 => k_is); (case k5 => rfl)))
      | (k_here; (with_reducible show wpAny _ _ (compareOp CmpOp.In (Value.str _ _) (Value.ref 80)) _ _ _); k_dflt (refine' TX.in_of (ss := ["jan", "feb", "mar", "apr", "may", "jun", "jul", "aug", "sep", "oct", "nov", "dec"]) ?k1 ?k2 ?k3 ?k4 ?_; (case k1 => k_asm); (case k2 => kernel_rfl); (case k3 => k_asm); (case k4 => assumption)))
      | (k_here; (with_reducible show wpAny _ _ (compareOp CmpOp.NotIn (Value.str _ _) (Value.ref 80)) _ _ _); k_dflt (refine' TX.notin_of (ss := ["jan", "feb", "mar", "apr", "may", "jun", "jul", "aug", "sep", "oct", "nov", "dec"]) ?k1 ?k2 ?k3 ?k4 ?_; (case k1 => k_asm); (case k2 => kernel_rfl); (case k3 => k_asm); (case k4 => assumption)))
      | (k_here; (with_reducible show wpAny _ _ (exec (Stmt.Assign [Expr.List _ _] _ _) _) _ _ _); refine TX.Assign_List ?_)
      | (k_here; (with_reducible show wpAny _ _ (call (Value.type "int") [Value.str _ _]) _ _ _); refine TX.int_of (by assumption) (by assumption) ?_; intro _ _)
      | ((with_reducible show wpAny _ _ (call (Value.builtin "str.isdigit") _) _ _ _); (k_here; refine TX.digit_of (by assumption) ?_))
      | ((with_reducible show wpAny _ _ (call (Value.builtin "str.find") _) _ _ _); (k_here; refine TX.find_of (by assumption) ?_; intro _ _))
      | ((with_reducible show wpAny _ _ (compareOp CmpOp.Eq (Value.str _ _) (Value.str _ _)) _ _ _); (k_here; refine TX.eq_of (by assumption) ?_))
      | (k_here; (with_reducible show wpAny _ _ (subscriptTail _ _ (Value.str _ _) (Value.int _ _)) _ _ _); k_dflt (refine TX.item_of (by decide) (by assumption) ?_ (by with_unfolding_all rfl) (by intro _; with_unfolding_all rfl)); intro _ _)
      | ((with_reducible show wpAny _ _ (truthy (Value.str _ _)) _ _ _); (k_here; refine TX.truthy_of (by assumption) (by assumption) ?_; intro _))
      | ((with_reducible show wpAny _ _ (call (Value.builtin "str.lower") _) _ _ _); (k_here; refine TX.lower_of (by assumption) (by assumption) ?_; intro _ _))
      | ((with_reducible show wpAny _ _ (call (Value.builtin "str.endswith") _) _ _ _); (k_here; refine TX.ends_of (by assumption) ?_))
      | ((with_reducible show wpAny _ _ (call (Value.builtin "str.split") _) _ _ _); (k_here; first
  | ((with_reducible show wpAny _ _ (call (Value.builtin "str.split") [Value.str _ _]) _ _ _); (refine' TX.words_of ?cxF ?cxN ?cxe ?cxl ?_; (case cxF => k_asm); (case cxN => k_asm); (case cxe => assumption); (case cxl => assumption)); intro D' τ' h' k' F' N' l1; (try dsimp only [List.mapIdx, List.mapIdx.go] at N'); (try k_lt l1))
  | ((with_reducible show wpAny _ _ (call (Value.builtin "str.split") [Value.str _ _, Value.str _ _]) _ _ _); (refine' TX.split_of ?cxF ?cxN ?cxe ?cxy ?cxl ?_; (case cxF => k_asm); (case cxN => k_asm); (case cxe => assumption); (case cxy => decide); (case cxl => assumption)); intro D' τ' h' k' F' N' l1; (try dsimp only [List.mapIdx, List.mapIdx.go] at N'); (try k_lt l1))))
      | (k_here; (with_reducible show wpAny _ _ (call (Value.ref 104) [Value.str _ _]) _ _ _); k_dflt (refine' ClaimV.use (offset_ok _ _ _ _ _) ?k1 ?k2 ?k3 ?k4 ?k5 ?kK ?kp ?kd ?ku ?_); (case k1 => k_asm); (case k2 => k_asm); (case k3 => k_asm); (case k4 => k_asm); (case k5 => k_asm); (case kK => first | exact rfl | assumption); (case kp => trivial); (case kd => ktr_room); (case ku => ktr_units); intro t9 h9 tk9 F9 N9; (try dsimp only); (try k_fold))
      | ((with_reducible show ite _ _ _); k_dflt (first | (refine ite_notX (by first | omega | (simp only [decide_eq_true_eq]; omega)) ?_; try dsimp only) | (refine ite_yesX (by first | omega | (simp only [decide_eq_true_eq]; omega)) ?_; try dsimp only)))
      | ((first | (with_reducible show wpAny _ _ (eval _ (Calls.envOf _ _ _ _ _)) _ _ _) | (with_reducible show wpAny _ _ (eval _ (Calls.envOfC _ _ _ _ _)) _ _ _)); refine Call_ ?_)
      | (dsimp only; walk1)
      | (leave1; walk_say "STEP leave1"; (try dsimp only)))
  all_goals (refine cb_retI hret ?e1 ?e2 ?e3; (case e2 => k_asm); (case e3 => first | k_asm | (refine' cb_drop ?cbN ?cbS; (case cbN => assumption); (case cbS => first | (intro p hp; (repeat (first | with_reducible exact hp | with_reducible refine List.mem_cons_of_mem _ ?_)); done) | kcj_all))); (case e1 => rw [← secs_sub]))
theorem s2t_num (w : World) (mean : ExcName → Option Value) (mg mb : Str → Option Value) (dd mm yy th tm ts ml : Str) (t1 t2 t3 t4 t5 t6 t7 : Tok) (Y D H M S : Int) (ml1 : Txt.lower mm = ml) (ml2 : ml.length ≤ 100)
    (iy : PySem.intText? yy = some Y) (idd : PySem.intText? dd = some D) (ih : PySem.intText? th = some H) (im : PySem.intText? tm = some M) (iss : PySem.intText? ts = some S) (ddl : dd.length ≤ 100) (yyl : yy.length ≤ 100) (thl : th.length ≤ 100) (tml : tm.length ≤ 100) (tsl : ts.length ≤ 100)
    (hy1 : 1970 ≤ Y) (hy2 : Y ≤ 9999) (hd1 : 1 ≤ D) (hd2 : D ≤ 31) (hh1 : 0 ≤ H) (hh2 : H ≤ 24) (hm1 : 0 ≤ M) (hm2 : M ≤ 59) (hs1 : 0 ≤ S) (hs2 : S ≤ 61) (I : Int) (hno : (["jan", "feb", "mar", "apr", "may", "jun", "jul", "aug", "sep", "oct", "nov", "dec"] : List Str).any (· == ml) = false) (hrp : (PySem.reprText ml).length ≤ 1000) (imm : PySem.intText? mm = some I) (mml : mm.length ≤ 100) (i1 : 1 ≤ I) (i2 : I ≤ 12) :
    ClaimT w mean mg mb 125 30 [.str dd t1, .str mm t2, .str yy t3, .str th t4, .str tm t5, .str ts t6, .str (Str.ofString "GMT") t7] (fun t => .int (secs Y I D H M S) t) := by
  unfold ClaimT
  k_fill
  intros; rename_i hret
  refine wpAny_call ?_
  k_dflt (refine' code_tryX ?k1 ?k2 ?k3 ?k4 ?k5 ?kA ?kF ?kK ?k6 ?k7 ?k8 ?k9 ?kB ?_ ?c2 ?c3 ?c4 ?c5; (case kA => exact rfl); (case kF => exact rfl); (case kK => assumption); (case k1 => k_asm); (case k2 => k_asm); (case k3 => k_asm); (case k4 => k_asm); (case k5 => k_asm); (case k6 => k_is); (case k7 => k_is); (case k8 => ktr_room); (case k9 => exact BindsTo.of_eq rfl); (case c5 => decide); (case kB => exact locs rfl); (case c2 => exact rfl); (case c3 => exact rfl); (case c4 => exact rfl); k_whole; intro g' L' h' FG' F' N' B' X' T' D'; (try dsimp only); (try k_fold))
  repeat' (first
      | (k_unfold; (try dsimp only))
      | (k_end; kc_close)
      | (with_reducible (k_here; (with_reducible rename Heap.NewExc _ _ _ _ => cxX); k_dflt (refine' CX.caught_new0 (T' := "ValueError") ?K ?R ?F ?N ?XB ?TB ?D ?T0 ?ex PyProof.Rows.Boot.«ValueError» ?hn PySem.F.isExc_ValueError PySem.F.notTuple_ValueError ?hs ?_; (case R => exact cxX); (case F => k_asm); (case N => k_asm); (case K => assumption); (case XB => assumption); (case TB => assumption); (case D => assumption); (case T0 => first | assumption | exact KtsTurn.refl); (case hs => kts_sub); (case ex => k_is); (case hn => decide); k_whole); clear cxX; intro h' g' T' F' N' K' X' P' D'; (try k_lift K'); (try k_sweep)))
      | (with_reducible (k_here; (with_reducible show wpAny _ _ (call (Value.builtin _) [Value.ref 80, Value.str _ _]) _ _ _); k_dflt (refine' CX.index_none (ss := ["jan", "feb", "mar", "apr", "may", "jun", "jul", "aug", "sep", "oct", "nov", "dec"]) ?k1 ?k2 ?k3 ?k4 ?k5 ?k6 ?k7 ?_; (case k1 => k_asm); (case k2 => kernel_rfl); (case k3 => k_asm); (case k4 => decide); (case k5 => assumption); (case k6 => assumption); (case k7 => with_unfolding_all rfl)); intro h' tk' e' cxX))
      | (with_reducible (k_here; (with_reducible show wpAny _ _ (call (Value.ref 76) [Value.ref _]) _ _ _); k_dflt (refine' ClaimV.use (utimegm_ok _ _ _ _ _ _ ?gsz _ _ _ _ _ _ _ _ _ _ _ _ ?gez ?gy0 ?gy1 ?gy2 ?gy3 ?gy4 ?gy5 ?gy6 ?gy7 ?gy8 ?gy9 ?gy10 ?gy11) ?k1 ?k2 ?k3 ?k4 ?k5 ?kK ?kp ?kd ?ku ?_; (case k1 => k_asm); (case k2 => k_asm); (case k3 => k_asm); (case k4 => k_asm); (case k5 => k_asm); (case kK => first | exact rfl | assumption); (case kp => k_mem); (case gsz => first | assumption | (with_unfolding_all exact Nat.le_of_ble_eq_true rfl)); (case gez => first | assumption | with_unfolding_all rfl); (case gy0 => first | assumption | lia); (case gy1 => first | assumption | lia); (case gy2 => first | assumption | lia); (case gy3 => first | assumption | lia); (case gy4 => first | assumption | lia); (case gy5 => first | assumption | lia); (case gy6 => first | assumption | lia); (case gy7 => first | assumption | lia); (case gy8 => first | assumption | lia); (case gy9 => first | assumption | lia); (case gy10 => first | assumption | lia); (case gy11 => first | assumption | lia);  (case kd => ktr_room); (case ku => ktr_units)); intro t9 h9 tk9 F9 N9; (try dsimp only); (try k_fold)))
      | (with_reducible (k_here; (with_reducible show wpAny _ _ (call (Value.builtin _) [Value.ref 80, Value.str _ _]) _ _ _); k_dflt (refine' TX.index_of (ss := ["jan", "feb", "mar", "apr", "may", "jun", "jul", "aug", "sep", "oct", "nov", "dec"]) ?k1 ?k2 ?k3 ?k4 ?k5 ?k6 ?_; (case k1 => k_asm); (case k2 => kernel_rfl); (case k3 => k_asm); (case k4 => decide); (case k5 => assumption); (case k6 => (simp only [List.length_cons, List.length_nil]; lia))); intro _ _))
      | (with_reducible (k_here; (with_reducible show wpAny _ _ (getMethod (Value.ref 80) (PySem.Str.ofString "index") _) _ _ _); k_dflt (refine' TX.method_of ?k1 ?k2 ?k3 ?k5 PySem.F.slot_list_index PySem.F.type_list_index ?_; (case k1 => k_asm); (case k2 => k_asm); (case k3 => k_is); (case k5 => rfl))))
      | (with_reducible (k_here; (with_reducible show wpAny _ _ (compareOp CmpOp.In (Value.str _ _) (Value.ref 80)) _ _ _); k_dflt (refine' TX.in_of (ss := ["jan", "feb", "mar", "apr", "may", "jun", "jul", "aug", "sep", "oct", "nov", "dec"]) ?k1 ?k2 ?k3 ?k4 ?_; (case k1 => k_asm); (case k2 => kernel_rfl); (case k3 => k_asm); (case k4 => assumption))))
      | (with_reducible (k_here; (with_reducible show wpAny _ _ (compareOp CmpOp.NotIn (Value.str _ _) (Value.ref 80)) _ _ _); k_dflt (refine' TX.notin_of (ss := ["jan", "feb", "mar", "apr", "may", "jun", "jul", "aug", "sep", "oct", "nov", "dec"]) ?k1 ?k2 ?k3 ?k4 ?_; (case k1 => k_asm); (case k2 => kernel_rfl); (case k3 => k_asm); (case k4 => assumption))))
      | (with_reducible (k_here; (with_reducible show wpAny _ _ (exec (Stmt.Assign [Expr.List _ _] _ _) _) _ _ _); refine TX.Assign_List ?_))
      | (with_reducible (k_here; (with_reducible show wpAny _ _ (call (Value.type "int") [Value.str _ _]) _ _ _); refine TX.int_of (by assumption) (by assumption) ?_; intro _ _))
      | (with_reducible ((with_reducible show wpAny _ _ (call (Value.builtin "str.isdigit") _) _ _ _); (k_here; refine TX.digit_of (by assumption) ?_)))
      | (with_reducible ((with_reducible show wpAny _ _ (call (Value.builtin "str.find") _) _ _ _); (k_here; refine TX.find_of (by assumption) ?_; intro _ _)))
      | (with_reducible ((with_reducible show wpAny _ _ (compareOp CmpOp.Eq (Value.str _ _) (Value.str _ _)) _ _ _); (k_here; refine TX.eq_of (by assumption) ?_)))
      | (with_reducible (k_here; (with_reducible show wpAny _ _ (subscriptTail _ _ (Value.str _ _) (Value.int _ _)) _ _ _); k_dflt (refine TX.item_of (by decide) (by assumption) ?_ (by with_unfolding_all rfl) (by intro _; with_unfolding_all rfl)); intro _ _))
      | (with_reducible ((with_reducible show wpAny _ _ (truthy (Value.str _ _)) _ _ _); (k_here; refine TX.truthy_of (by assumption) (by assumption) ?_; intro _)))
      | (with_reducible ((with_reducible show wpAny _ _ (call (Value.builtin "str.lower") _) _ _ _); (k_here; refine TX.lower_of (by assumption) (by assumption) ?_; intro _ _)))
      | (with_reducible ((with_reducible show wpAny _ _ (call (Value.builtin "str.endswith") _) _ _ _); (k_here; refine TX.ends_of (by assumption) ?_)))
      | (with_reducible ((with_reducible show wpAny _ _ (call (Value.builtin "str.split") _) _ _ _); (k_here; first
  | ((with_reducible show wpAny _ _ (call (Value.builtin "str.split") [Value.str _ _]) _ _ _); (refine' TX.words_of ?cxF ?cxN ?cxe ?cxl ?_; (case cxF => k_asm); (case cxN => k_asm); (case cxe => assumption); (case cxl => assumption)); intro D' τ' h' k' F' N' l1; (try dsimp only [List.mapIdx, List.mapIdx.go] at N'); (try k_lt l1))
  | ((with_reducible show wpAny _ _ (call (Value.builtin "str.split") [Value.str _ _, Value.str _ _]) _ _ _); (refine' TX.split_of ?cxF ?cxN ?cxe ?cxy ?cxl ?_; (case cxF => k_asm); (case cxN => k_asm); (case cxe => assumption); (case cxy => decide); (case cxl => assumption)); intro D' τ' h' k' F' N' l1; (try dsimp only [List.mapIdx, List.mapIdx.go] at N'); (try k_lt l1)))))
      | (with_reducible (k_here; (with_reducible show wpAny _ _ (call (Value.ref 104) [Value.str _ _]) _ _ _); k_dflt (refine' ClaimV.use (offset_ok _ _ _ _ _) ?k1 ?k2 ?k3 ?k4 ?k5 ?kK ?kp ?kd ?ku ?_); (case k1 => k_asm); (case k2 => k_asm); (case k3 => k_asm); (case k4 => k_asm); (case k5 => k_asm); (case kK => first | exact rfl | assumption); (case kp => trivial); (case kd => ktr_room); (case ku => ktr_units); intro t9 h9 tk9 F9 N9; (try dsimp only); (try k_fold)))
      | (with_reducible ((with_reducible show ite _ _ _); k_dflt (first | (refine ite_notX (by first | lia | (simp only [decide_eq_true_eq]; lia)) ?_; try dsimp only) | (refine ite_yesX (by first | lia | (simp only [decide_eq_true_eq]; lia)) ?_; try dsimp only))))
      | (with_reducible ((first | (with_reducible show wpAny _ _ (eval _ (Calls.envOf _ _ _ _ _)) _ _ _) | (with_reducible show wpAny _ _ (eval _ (Calls.envOfC _ _ _ _ _)) _ _ _)); refine Call_ ?_))
      | walk1
      | (k_here; (with_reducible rename Heap.NewExc _ _ _ _ => cxX); k_dflt (refine' CX.caught_new0 (T' := "ValueError") ?K ?R ?F ?N ?XB ?TB ?D ?T0 ?ex PyProof.Rows.Boot.«ValueError» ?hn PySem.F.isExc_ValueError PySem.F.notTuple_ValueError ?hs ?_; (case R => exact cxX); (case F => k_asm); (case N => k_asm); (case K => assumption); (case XB => assumption); (case TB => assumption); (case D => assumption); (case T0 => first | assumption | exact KtsTurn.refl); (case hs => kts_sub); (case ex => k_is); (case hn => decide); k_whole); clear cxX; intro h' g' T' F' N' K' X' P' D'; (try k_lift K'); (try k_sweep))
      | (k_here; (with_reducible show wpAny _ _ (call (Value.builtin _) [Value.ref 80, Value.str _ _]) _ _ _); k_dflt (refine' CX.index_none (ss := ["jan", "feb", "mar", "apr", "may", "jun", "jul", "aug", "sep", "oct", "nov", "dec"]) ?k1 ?k2 ?k3 ?k4 ?k5 ?k6 ?k7 ?_; (case k1 => k_asm); (case k2 => kernel_rfl); (case k3 => k_asm); (case k4 => decide); (case k5 => assumption); (case k6 => assumption); (case k7 => with_unfolding_all rfl)); intro h' tk' e' cxX)
      | (k_here; (with_reducible show wpAny _ _ (call (Value.ref 76) [Value.ref _]) _ _ _); k_dflt (refine' ClaimV.use (utimegm_ok _ _ _ _ _ _ ?gsz _ _ _ _ _ _ _ _ _ _ _ _ ?gez ?gy0 ?gy1 ?gy2 ?gy3 ?gy4 ?gy5 ?gy6 ?gy7 ?gy8 ?gy9 ?gy10 ?gy11) ?k1 ?k2 ?k3 ?k4 ?k5 ?kK ?kp ?kd ?ku ?_; (case k1 => k_asm); (case k2 => k_asm); (case k3 => k_asm); (case k4 => k_asm); (case k5 => k_asm); (case kK => first | exact rfl | assumption); (case kp => k_mem); (case gsz => first | assumption | (with_unfolding_all exact Nat.le_of_ble_eq_true rfl)); (case gez => first | assumption | with_unfolding_all rfl); (case gy0 => first | assumption | lia); (case gy1 => first | assumption | lia); (case gy2 => first | assumption | lia); (case gy3 => first | assumption | lia); (case gy4 => first | assumption | lia); (case gy5 => first | assumption | lia); (case gy6 => first | assumption | lia); (case gy7 => first | assumption | lia); (case gy8 => first | assumption | lia); (case gy9 => first | assumption | lia); (case gy10 => first | assumption | lia); (case gy11 => first | assumption | lia);  (case kd => ktr_room); (case ku => ktr_units)); intro t9 h9 tk9 F9 N9; (try dsimp only); (try k_fold))
      | (k_here; (with_reducible show wpAny _ _ (call (Value.builtin _) [Value.ref 80, Value.str _ _]) _ _ _); k_dflt (refine' TX.index_of (ss := ["jan", "feb", "mar", "apr", "may", "jun", "jul", "aug", "sep", "oct", "nov", "dec"]) ?k1 ?k2 ?k3 ?k4 ?k5 ?k6 ?_; (case k1 => k_asm); (case k2 => kernel_rfl); (case k3 => k_asm); (case k4 => decide); (case k5 => assumption); (case k6 => (simp only [List.length_cons, List.length_nil]; lia))); intro _ _)
      | (k_here; (with_reducible show wpAny _ _ (getMethod (Value.ref 80) (PySem.Str.ofString "index") _) _ _ _); k_dflt (refine' TX.method_of ?k1 ?k2 ?k3 ?k5 PySem.F.slot_list_index PySem.F.type_list_index ?_; (case k1 => k_asm); (case k2 => k_asm); (case k3 => k_is); (case k5 => rfl)))
      | (k_here; (with_reducible show wpAny _ _ (compareOp CmpOp.In (Value.str _ _) (Value.ref 80)) _ _ _); k_dflt (refine' TX.in_of (ss := ["jan", "feb", "mar", "apr", "may", "jun", "jul", "aug", "sep", "oct", "nov", "dec"]) ?k1 ?k2 ?k3 ?k4 ?_; (case k1 => k_asm); (case k2 => kernel_rfl); (case k3 => k_asm); (case k4 => assumption)))
      | (k_here; (with_reducible show wpAny _ _ (compareOp CmpOp.NotIn (Value.str _ _) (Value.ref 80)) _ _ _); k_dflt (refine' TX.notin_of (ss := ["jan", "feb", "mar", "apr", "may", "jun", "jul", "aug", "sep", "oct", "nov", "dec"]) ?k1 ?k2 ?k3 ?k4 ?_; (case k1 => k_asm); (case k2 => kernel_rfl); (case k3 => k_asm); (case k4 => assumption)))
      | (k_here; (with_reducible show wpAny _ _ (exec (Stmt.Assign [Expr.List _ _] _ _) _) _ _ _); refine TX.Assign_List ?_)
      | (k_here; (with_reducible show wpAny _ _ (call (Value.type "int") [Value.str _ _]) _ _ _); refine TX.int_of (by assumption) (by assumption) ?_; intro _ _)
      | ((with_reducible show wpAny _ _ (call (Value.builtin "str.isdigit") _) _ _ _); (k_here; refine TX.digit_of (by assumption) ?_))
      | ((with_reducible show wpAny _ _ (call (Value.builtin "str.find") _) _ _ _); (k_here; refine TX.find_of (by assumption) ?_; intro _ _))
      | ((with_reducible show wpAny _ _ (compareOp CmpOp.Eq (Value.str _ _) (Value.str _ _)) _ _ _); (k_here; refine TX.eq_of (by assumption) ?_))
      | (k_here; (with_reducible show wpAny _ _ (subscriptTail _ _ (Value.str _ _) (Value.int _ _)) _ _ _); k_dflt (refine TX.item_of (by decide) (by assumption) ?_ (by with_unfolding_all rfl) (by intro _; with_unfolding_all rfl)); intro _ _)
      | ((with_reducible show wpAny _ _ (truthy (Value.str _ _)) _ _ _); (k_here; refine TX.truthy_of (by assumption) (by assumption) ?_; intro _))
      | ((with_reducible show wpAny _ _ (call (Value.builtin "str.lower") _) _ _ _); (k_here; refine TX.lower_of (by assumption) (by assumption) ?_; intro _ _))
      | ((with_reducible show wpAny _ _ (call (Value.builtin "str.endswith") _) _ _ _); (k_here; refine TX.ends_of (by assumption) ?_))
      | ((with_reducible show wpAny _ _ (call (Value.builtin "str.split") _) _ _ _); (k_here; first
  | ((with_reducible show wpAny _ _ (call (Value.builtin "str.split") [Value.str _ _]) _ _ _); (refine' TX.words_of ?cxF ?cxN ?cxe ?cxl ?_; (case cxF => k_asm); (case cxN => k_asm); (case cxe => assumption); (case cxl => assumption)); intro D' τ' h' k' F' N' l1; (try dsimp only [List.mapIdx, List.mapIdx.go] at N'); (try k_lt l1))
  | ((with_reducible show wpAny _ _ (call (Value.builtin "str.split") [Value.str _ _, Value.str _ _]) _ _ _); (refine' TX.split_of ?cxF ?cxN ?cxe ?cxy ?cxl ?_; (case cxF => k_asm); (case cxN => k_asm); (case cxe => assumption); (case cxy => decide); (case cxl => assumption)); intro D' τ' h' k' F' N' l1; (try dsimp only [List.mapIdx, List.mapIdx.go] at N'); (try k_lt l1))))
      | (k_here; (with_reducible show wpAny _ _ (call (Value.ref 104) [Value.str _ _]) _ _ _); k_dflt (refine' ClaimV.use (offset_ok _ _ _ _ _) ?k1 ?k2 ?k3 ?k4 ?k5 ?kK ?kp ?kd ?ku ?_); (case k1 => k_asm); (case k2 => k_asm); (case k3 => k_asm); (case k4 => k_asm); (case k5 => k_asm); (case kK => first | exact rfl | assumption); (case kp => trivial); (case kd => ktr_room); (case ku => ktr_units); intro t9 h9 tk9 F9 N9; (try dsimp only); (try k_fold))
      | ((with_reducible show ite _ _ _); k_dflt (first | (refine ite_notX (by first | lia | (simp only [decide_eq_true_eq]; lia)) ?_; try dsimp only) | (refine ite_yesX (by first | lia | (simp only [decide_eq_true_eq]; lia)) ?_; try dsimp only)))
      | ((first | (with_reducible show wpAny _ _ (eval _ (Calls.envOf _ _ _ _ _)) _ _ _) | (with_reducible show wpAny _ _ (eval _ (Calls.envOfC _ _ _ _ _)) _ _ _)); refine Call_ ?_)
      | (dsimp only; walk1)
      | (leave1; walk_say "STEP leave1"; (try dsimp only)))
  all_goals (refine cb_retI hret ?e1 ?e2 ?e3; (case e2 => k_asm); (case e3 => first | k_asm | (refine' cb_drop ?cbN ?cbS; (case cbN => assumption); (case cbS => first | (intro p hp; (repeat (first | with_reducible exact hp | with_reducible refine List.mem_cons_of_mem _ ?_)); done) | kcj_all))); (case e1 => rw [← secs_sub]))
theorem s2t_none (w : World) (mean : ExcName → Option Value) (mg mb : Str → Option Value) (dd mm yy th tm ts ml : Str) (t1 t2 t3 t4 t5 t6 t7 : Tok) (Y D H M S : Int) (ml1 : Txt.lower mm = ml) (ml2 : ml.length ≤ 100)
    (iy : PySem.intText? yy = some Y) (idd : PySem.intText? dd = some D) (ih : PySem.intText? th = some H) (im : PySem.intText? tm = some M) (iss : PySem.intText? ts = some S) (ddl : dd.length ≤ 100) (yyl : yy.length ≤ 100) (thl : th.length ≤ 100) (tml : tm.length ≤ 100) (tsl : ts.length ≤ 100)
    (hy1 : 1970 ≤ Y) (hy2 : Y ≤ 9999) (hd1 : 1 ≤ D) (hd2 : D ≤ 31) (hh1 : 0 ≤ H) (hh2 : H ≤ 24) (hm1 : 0 ≤ M) (hm2 : M ≤ 59) (hs1 : 0 ≤ S) (hs2 : S ≤ 61) (I : Int) (hno : (["jan", "feb", "mar", "apr", "may", "jun", "jul", "aug", "sep", "oct", "nov", "dec"] : List Str).any (· == ml) = false) (hrp : (PySem.reprText ml).length ≤ 1000) (imm : PySem.intText? mm = some I) (mml : mm.length ≤ 100) (i1 : 13 ≤ I) :
    ClaimT w mean mg mb 125 30 [.str dd t1, .str mm t2, .str yy t3, .str th t4, .str tm t5, .str ts t6, .str (Str.ofString "GMT") t7] (fun _ => .none) := by
  unfold ClaimT
  k_fill
  intros; rename_i hret
  refine wpAny_call ?_
  k_dflt (refine' code_tryX ?k1 ?k2 ?k3 ?k4 ?k5 ?kA ?kF ?kK ?k6 ?k7 ?k8 ?k9 ?kB ?_ ?c2 ?c3 ?c4 ?c5; (case kA => exact rfl); (case kF => exact rfl); (case kK => assumption); (case k1 => k_asm); (case k2 => k_asm); (case k3 => k_asm); (case k4 => k_asm); (case k5 => k_asm); (case k6 => k_is); (case k7 => k_is); (case k8 => ktr_room); (case k9 => exact BindsTo.of_eq rfl); (case c5 => decide); (case kB => exact locs rfl); (case c2 => exact rfl); (case c3 => exact rfl); (case c4 => exact rfl); k_whole; intro g' L' h' FG' F' N' B' X' T' D'; (try dsimp only); (try k_fold))
  repeat' (first
      | (k_unfold; (try dsimp only))
      | (k_end; kc_close)
      | (with_reducible (k_here; (with_reducible rename Heap.NewExc _ _ _ _ => cxX); k_dflt (refine' CX.caught_new0 (T' := "ValueError") ?K ?R ?F ?N ?XB ?TB ?D ?T0 ?ex PyProof.Rows.Boot.«ValueError» ?hn PySem.F.isExc_ValueError PySem.F.notTuple_ValueError ?hs ?_; (case R => exact cxX); (case F => k_asm); (case N => k_asm); (case K => assumption); (case XB => assumption); (case TB => assumption); (case D => assumption); (case T0 => first | assumption | exact KtsTurn.refl); (case hs => kts_sub); (case ex => k_is); (case hn => decide); k_whole); clear cxX; intro h' g' T' F' N' K' X' P' D'; (try k_lift K'); (try k_sweep)))
      | (with_reducible (k_here; (with_reducible show wpAny _ _ (call (Value.builtin _) [Value.ref 80, Value.str _ _]) _ _ _); k_dflt (refine' CX.index_none (ss := ["jan", "feb", "mar", "apr", "may", "jun", "jul", "aug", "sep", "oct", "nov", "dec"]) ?k1 ?k2 ?k3 ?k4 ?k5 ?k6 ?k7 ?_; (case k1 => k_asm); (case k2 => kernel_rfl); (case k3 => k_asm); (case k4 => decide); (case k5 => assumption); (case k6 => assumption); (case k7 => with_unfolding_all rfl)); intro h' tk' e' cxX))
      | (with_reducible (k_here; (with_reducible show wpAny _ _ (call (Value.ref 76) [Value.ref _]) _ _ _); k_dflt (refine' ClaimV.use (utimegm_ok _ _ _ _ _ _ ?gsz _ _ _ _ _ _ _ _ _ _ _ _ ?gez ?gy0 ?gy1 ?gy2 ?gy3 ?gy4 ?gy5 ?gy6 ?gy7 ?gy8 ?gy9 ?gy10 ?gy11) ?k1 ?k2 ?k3 ?k4 ?k5 ?kK ?kp ?kd ?ku ?_; (case k1 => k_asm); (case k2 => k_asm); (case k3 => k_asm); (case k4 => k_asm); (case k5 => k_asm); (case kK => first | exact rfl | assumption); (case kp => k_mem); (case gsz => first | assumption | (with_unfolding_all exact Nat.le_of_ble_eq_true rfl)); (case gez => first | assumption | with_unfolding_all rfl); (case gy0 => first | assumption | lia); (case gy1 => first | assumption | lia); (case gy2 => first | assumption | lia); (case gy3 => first | assumption | lia); (case gy4 => first | assumption | lia); (case gy5 => first | assumption | lia); (case gy6 => first | assumption | lia); (case gy7 => first | assumption | lia); (case gy8 => first | assumption | lia); (case gy9 => first | assumption | lia); (case gy10 => first | assumption | lia); (case gy11 => first | assumption | lia);  (case kd => ktr_room); (case ku => ktr_units)); intro t9 h9 tk9 F9 N9; (try dsimp only); (try k_fold)))
      | (with_reducible (k_here; (with_reducible show wpAny _ _ (call (Value.builtin _) [Value.ref 80, Value.str _ _]) _ _ _); k_dflt (refine' TX.index_of (ss := ["jan", "feb", "mar", "apr", "may", "jun", "jul", "aug", "sep", "oct", "nov", "dec"]) ?k1 ?k2 ?k3 ?k4 ?k5 ?k6 ?_; (case k1 => k_asm); (case k2 => kernel_rfl); (case k3 => k_asm); (case k4 => decide); (case k5 => assumption); (case k6 => (simp only [List.length_cons, List.length_nil]; lia))); intro _ _))
      | (with_reducible (k_here; (with_reducible show wpAny _ _ (getMethod (Value.ref 80) (PySem.Str.ofString "index") _) _ _ _); k_dflt (refine' TX.method_of ?k1 ?k2 ?k3 ?k5 PySem.F.slot_list_index PySem.F.type_list_index ?_; (case k1 => k_asm); (case k2 => k_asm); (case k3 => k_is); (case k5 => rfl))))
      | (with_reducible (k_here; (with_reducible show wpAny _ _ (compareOp CmpOp.In (Value.str _ _) (Value.ref 80)) _ _ _); k_dflt (refine' TX.in_of (ss := ["jan", "feb", "mar", "apr", "may", "jun", "jul", "aug", "sep", "oct", "nov", "dec"]) ?k1 ?k2 ?k3 ?k4 ?_; (case k1 => k_asm); (case k2 => kernel_rfl); (case k3 => k_asm); (case k4 => assumption))))
      | (with_reducible (k_here; (with_reducible show wpAny _ _ (compareOp CmpOp.NotIn (Value.str _ _) (Value.ref 80)) _ _ _); k_dflt (refine' TX.notin_of (ss := ["jan", "feb", "mar", "apr", "may", "jun", "jul", "aug", "sep", "oct", "nov", "dec"]) ?k1 ?k2 ?k3 ?k4 ?_; (case k1 => k_asm); (case k2 => kernel_rfl); (case k3 => k_asm); (case k4 => assumption))))
      | (with_reducible (k_here; (with_reducible show wpAny _ _ (exec (Stmt.Assign [Expr.List _ _] _ _) _) _ _ _); refine TX.Assign_List ?_))
      | (with_reducible (k_here; (with_reducible show wpAny _ _ (call (Value.type "int") [Value.str _ _]) _ _ _); refine TX.int_of (by assumption) (by assumption) ?_; intro _ _))
      | (with_reducible ((with_reducible show wpAny _ _ (call (Value.builtin "str.isdigit") _) _ _ _); (k_here; refine TX.digit_of (by assumption) ?_)))
      | (with_reducible ((with_reducible show wpAny _ _ (call (Value.builtin "str.find") _) _ _ _); (k_here; refine TX.find_of (by assumption) ?_; intro _ _)))
      | (with_reducible ((with_reducible show wpAny _ _ (compareOp CmpOp.Eq (Value.str _ _) (Value.str _ _)) _ _ _); (k_here; refine TX.eq_of (by assumption) ?_)))
      | (with_reducible (k_here; (with_reducible show wpAny _ _ (subscriptTail _ _ (Value.str _ _) (Value.int _ _)) _ _ _); k_dflt (refine TX.item_of (by decide) (by assumption) ?_ (by with_unfolding_all rfl) (by intro _; with_unfolding_all rfl)); intro _ _))
      | (with_reducible ((with_reducible show wpAny _ _ (truthy (Value.str _ _)) _ _ _); (k_here; refine TX.truthy_of (by assumption) (by assumption) ?_; intro _)))
      | (with_reducible ((with_reducible show wpAny _ _ (call (Value.builtin "str.lower") _) _ _ _); (k_here; refine TX.lower_of (by assumption) (by assumption) ?_; intro _ _)))
      | (with_reducible ((with_reducible show wpAny _ _ (call (Value.builtin "str.endswith") _) _ _ _); (k_here; refine TX.ends_of (by assumption) ?_)))
      | (with_reducible ((with_reducible show wpAny _ _ (call (Value.builtin "str.split") _) _ _ _); (k_here; first
  | ((with_reducible show wpAny _ _ (call (Value.builtin "str.split") [Value.str _ _]) _ _ _); (refine' TX.words_of ?cxF ?cxN ?cxe ?cxl ?_; (case cxF => k_asm); (case cxN => k_asm); (case cxe => assumption); (case cxl => assumption)); intro D' τ' h' k' F' N' l1; (try dsimp only [List.mapIdx, List.mapIdx.go] at N'); (try k_lt l1))
  | ((with_reducible show wpAny _ _ (call (Value.builtin "str.split") [Value.str _ _, Value.str _ _]) _ _ _); (refine' TX.split_of ?cxF ?cxN ?cxe ?cxy ?cxl ?_; (case cxF => k_asm); (case cxN => k_asm); (case cxe => assumption); (case cxy => decide); (case cxl => assumption)); intro D' τ' h' k' F' N' l1; (try dsimp only [List.mapIdx, List.mapIdx.go] at N'); (try k_lt l1)))))
      | (with_reducible (k_here; (with_reducible show wpAny _ _ (call (Value.ref 104) [Value.str _ _]) _ _ _); k_dflt (refine' ClaimV.use (offset_ok _ _ _ _ _) ?k1 ?k2 ?k3 ?k4 ?k5 ?kK ?kp ?kd ?ku ?_); (case k1 => k_asm); (case k2 => k_asm); (case k3 => k_asm); (case k4 => k_asm); (case k5 => k_asm); (case kK => first | exact rfl | assumption); (case kp => trivial); (case kd => ktr_room); (case ku => ktr_units); intro t9 h9 tk9 F9 N9; (try dsimp only); (try k_fold)))
      | (with_reducible ((with_reducible show ite _ _ _); k_dflt (first | (refine ite_notX (by first | lia | (simp only [decide_eq_true_eq]; lia)) ?_; try dsimp only) | (refine ite_yesX (by first | lia | (simp only [decide_eq_true_eq]; lia)) ?_; try dsimp only))))
      | (with_reducible ((first | (with_reducible show wpAny _ _ (eval _ (Calls.envOf _ _ _ _ _)) _ _ _) | (with_reducible show wpAny _ _ (eval _ (Calls.envOfC _ _ _ _ _)) _ _ _)); refine Call_ ?_))
      | walk1
      | (k_here; (with_reducible rename Heap.NewExc _ _ _ _ => cxX); k_dflt (refine' CX.caught_new0 (T' := "ValueError") ?K ?R ?F ?N ?XB ?TB ?D ?T0 ?ex PyProof.Rows.Boot.«ValueError» ?hn PySem.F.isExc_ValueError PySem.F.notTuple_ValueError ?hs ?_; (case R => exact cxX); (case F => k_asm); (case N => k_asm); (case K => assumption); (case XB => assumption); (case TB => assumption); (case D => assumption); (case T0 => first | assumption | exact KtsTurn.refl); (case hs => kts_sub); (case ex => k_is); (case hn => decide); k_whole); clear cxX; intro h' g' T' F' N' K' X' P' D'; (try k_lift K'); (try k_sweep))
      | (k_here; (with_reducible show wpAny _ _ (call (Value.builtin _) [Value.ref 80, Value.str _ _]) _ _ _); k_dflt (refine' CX.index_none (ss := ["jan", "feb", "mar", "apr", "may", "jun", "jul", "aug", "sep", "oct", "nov", "dec"]) ?k1 ?k2 ?k3 ?k4 ?k5 ?k6 ?k7 ?_; (case k1 => k_asm); (case k2 => kernel_rfl); (case k3 => k_asm); (case k4 => decide); (case k5 => assumption); (case k6 => assumption); (case k7 => with_unfolding_all rfl)); intro h' tk' e' cxX)
      | (k_here; (with_reducible show wpAny _ _ (call (Value.ref 76) [Value.ref _]) _ _ _); k_dflt (refine' ClaimV.use (utimegm_ok _ _ _ _ _ _ ?gsz _ _ _ _ _ _ _ _ _ _ _ _ ?gez ?gy0 ?gy1 ?gy2 ?gy3 ?gy4 ?gy5 ?gy6 ?gy7 ?gy8 ?gy9 ?gy10 ?gy11) ?k1 ?k2 ?k3 ?k4 ?k5 ?kK ?kp ?kd ?ku ?_; (case k1 => k_asm); (case k2 => k_asm); (case k3 => k_asm); (case k4 => k_asm); (case k5 => k_asm); (case kK => first | exact rfl | assumption); (case kp => k_mem); (case gsz => first | assumption | (with_unfolding_all exact Nat.le_of_ble_eq_true rfl)); (case gez => first | assumption | with_unfolding_all rfl); (case gy0 => first | assumption | lia); (case gy1 => first | assumption | lia); (case gy2 => first | assumption | lia); (case gy3 => first | assumption | lia); (case gy4 => first | assumption | lia); (case gy5 => first | assumption | lia); (case gy6 => first | assumption | lia); (case gy7 => first | assumption | lia); (case gy8 => first | assumption | lia); (case gy9 => first | assumption | lia); (case gy10 => first | assumption | lia); (case gy11 => first | assumption | lia);  (case kd => ktr_room); (case ku => ktr_units)); intro t9 h9 tk9 F9 N9; (try dsimp only); (try k_fold))
      | (k_here; (with_reducible show wpAny _ _ (call (Value.builtin _) [Value.ref 80, Value.str _ _]) _ _ _); k_dflt (refine' TX.index_of (ss := ["jan", "feb", "mar", "apr", "may", "jun", "jul", "aug", "sep", "oct", "nov", "dec"]) ?k1 ?k2 ?k3 ?k4 ?k5 ?k6 ?_; (case k1 => k_asm); (case k2 => kernel_rfl); (case k3 => k_asm); (case k4 => decide); (case k5 => assumption); (case k6 => (simp only [List.length_cons, List.length_nil]; lia))); intro _ _)
      | (k_here; (with_reducible show wpAny _ _ (getMethod (Value.ref 80) (PySem.Str.ofString "index") _) _ _ _); k_dflt (refine' TX.method_of ?k1 ?k2 ?k3 ?k5 PySem.F.slot_list_index PySem.F.type_list_index ?_; (case k1 => k_asm); (case k2 => k_asm); (case k3 => k_is); (case k5 => rfl)))
      | (k_here; (with_reducible show wpAny _ _ (compareOp CmpOp.In (Value.str _ _) (Value.ref 80)) _ _ _); k_dflt (refine' TX.in_of (ss := ["jan", "feb", "mar", "apr", "may", "jun", "jul", "aug", "sep", "oct", "nov", "dec"]) ?k1 ?k2 ?k3 ?k4 ?_; (case k1 => k_asm); (case k2 => kernel_rfl); (case k3 => k_asm); (case k4 => assumption)))
      | (k_here; (with_reducible show wpAny _ _ (compareOp CmpOp.NotIn (Value.str _ _) (Value.ref 80)) _ _ _); k_dflt (refine' TX.notin_of (ss := ["jan", "feb", "mar", "apr", "may", "jun", "jul", "aug", "sep", "oct", "nov", "dec"]) ?k1 ?k2 ?k3 ?k4 ?_; (case k1 => k_asm); (case k2 => kernel_rfl); (case k3 => k_asm); (case k4 => assumption)))
      | (k_here; (with_reducible show wpAny _ _ (exec (Stmt.Assign [Expr.List _ _] _ _) _) _ _ _); refine TX.Assign_List ?_)
      | (k_here; (with_reducible show wpAny _ _ (call (Value.type "int") [Value.str _ _]) _ _ _); refine TX.int_of (by assumption) (by assumption) ?_; intro _ _)
      | ((with_reducible show wpAny _ _ (call (Value.builtin "str.isdigit") _) _ _ _); (k_here; refine TX.digit_of (by assumption) ?_))
      | ((with_reducible show wpAny _ _ (call (Value.builtin "str.find") _) _ _ _); (k_here; refine TX.find_of (by assumption) ?_; intro _ _))
      | ((with_reducible show wpAny _ _ (compareOp CmpOp.Eq (Value.str _ _) (Value.str _ _)) _ _ _); (k_here; refine TX.eq_of (by assumption) ?_))
      | (k_here; (with_reducible show wpAny _ _ (subscriptTail _ _ (Value.str _ _) (Value.int _ _)) _ _ _); k_dflt (refine TX.item_of (by decide) (by assumption) ?_ (by with_unfolding_all rfl) (by intro _; with_unfolding_all rfl)); intro _ _)
      | ((with_reducible show wpAny _ _ (truthy (Value.str _ _)) _ _ _); (k_here; refine TX.truthy_of (by assumption) (by assumption) ?_; intro _))
      | ((with_reducible show wpAny _ _ (call (Value.builtin "str.lower") _) _ _ _); (k_here; refine TX.lower_of (by assumption) (by assumption) ?_; intro _ _))
      | ((with_reducible show wpAny _ _ (call (Value.builtin "str.endswith") _) _ _ _); (k_here; refine TX.ends_of (by assumption) ?_))
      | ((with_reducible show wpAny _ _ (call (Value.builtin "str.split") _) _ _ _); (k_here; first
  | ((with_reducible show wpAny _ _ (call (Value.builtin "str.split") [Value.str _ _]) _ _ _); (refine' TX.words_of ?cxF ?cxN ?cxe ?cxl ?_; (case cxF => k_asm); (case cxN => k_asm); (case cxe => assumption); (case cxl => assumption)); intro D' τ' h' k' F' N' l1; (try dsimp only [List.mapIdx, List.mapIdx.go] at N'); (try k_lt l1))
  | ((with_reducible show wpAny _ _ (call (Value.builtin "str.split") [Value.str _ _, Value.str _ _]) _ _ _); (refine' TX.split_of ?cxF ?cxN ?cxe ?cxy ?cxl ?_; (case cxF => k_asm); (case cxN => k_asm); (case cxe => assumption); (case cxy => decide); (case cxl => assumption)); intro D' τ' h' k' F' N' l1; (try dsimp only [List.mapIdx, List.mapIdx.go] at N'); (try k_lt l1))))
      | (k_here; (with_reducible show wpAny _ _ (call (Value.ref 104) [Value.str _ _]) _ _ _); k_dflt (refine' ClaimV.use (offset_ok _ _ _ _ _) ?k1 ?k2 ?k3 ?k4 ?k5 ?kK ?kp ?kd ?ku ?_); (case k1 => k_asm); (case k2 => k_asm); (case k3 => k_asm); (case k4 => k_asm); (case k5 => k_asm); (case kK => first | exact rfl | assumption); (case kp => trivial); (case kd => ktr_room); (case ku => ktr_units); intro t9 h9 tk9 F9 N9; (try dsimp only); (try k_fold))
      | ((with_reducible show ite _ _ _); k_dflt (first | (refine ite_notX (by first | lia | (simp only [decide_eq_true_eq]; lia)) ?_; try dsimp only) | (refine ite_yesX (by first | lia | (simp only [decide_eq_true_eq]; lia)) ?_; try dsimp only)))
      | ((first | (with_reducible show wpAny _ _ (eval _ (Calls.envOf _ _ _ _ _)) _ _ _) | (with_reducible show wpAny _ _ (eval _ (Calls.envOfC _ _ _ _ _)) _ _ _)); refine Call_ ?_)
      | (dsimp only; walk1)
      | (leave1; walk_say "STEP leave1"; (try dsimp only)))
  all_goals (refine' hret 0 _ _ ?e2 ?e3; (case e2 => k_asm); (case e3 => first | k_asm | (refine' cb_drop ?cbN ?cbS; (case cbN => assumption); (case cbS => (intro p hp; repeat (first | with_reducible exact hp | with_reducible refine List.mem_cons_of_mem _ ?_))))))
end D10s
noncomputable section DT2s
set_option linter.unusedVariables false
namespace DF
def bound : Obj := { cls := .type "builtin_function_or_method", data := .fields #[.builtin "datetime.datetime.fromtimestamp", .type "datetime.datetime"] }
theorem type_fb : typeOf (.builtin "datetime.datetime.fromtimestamp") = pure (.type "classmethod_descriptor") := by show builtinType _ = _; rw [builtinType_eq_fast]; kernel_rfl
theorem entry_fb : entryFor table "datetime.datetime.fromtimestamp" = some Builtin.«datetime.datetime.fromtimestamp» := entryFor_of_tree (by kernel_rfl)
theorem quiet_fb {as : Args} : (Code.builtin "datetime.datetime.fromtimestamp" as).quiet = true := Code.quiet_builtin _ (by decide +kernel)
theorem isType_dt : isType (.type "datetime.datetime") = pure true := by first | rfl | kernel_rfl | (unfold isType; rw [isSubtype_type]; kernel_rfl)
theorem sub_dt_dt : isSubtype (.type "datetime.datetime") (.type "datetime.datetime") = pure true := by rw [isSubtype_type]; kernel_rfl
theorem owner_fb : (kfb_private% "ownerAndName") "datetime.datetime.fromtimestamp" = ("datetime.datetime", "fromtimestamp") := by first | decide +kernel | kernel_rfl
section
variable {prog : Program} {w : World} {M : Model} {A : Around} {E : Value → Shared → Prop} {s : Shared} {K : Frag} {h₀ : Heap} {L : Addr} {m : PySem.Str → Option Value} {news : List (Addr × Obj)}
theorem run_get {P : Fin → Shared → Prop} (h : P (.done (.ret (.ref s.heap.objs.size))) { s with heap := s.heap.push bound }) :
    wpAny M A (Builtin.«classmethod_descriptor.__get__» ⟨[.builtin "datetime.datetime.fromtimestamp", .none, .type "datetime.datetime"], []⟩) P E s := by
  unfold Builtin.«classmethod_descriptor.__get__»
  refine wpAny_bind (wpAny_of_eq (a := (.builtin "datetime.datetime.fromtimestamp", none, some (.type "datetime.datetime"))) (by first | rfl | kernel_rfl) ?_)
  simp only [owner_fb]
  refine wpAny_bind (wpAny_of_eq (a := .type "datetime.datetime") rfl ?_)
  refine wpAny_bind (wpAny_of_eq (a := true) isType_dt ?_)
  refine KFB.if_not rfl ?_
  refine wpAny_bind (wpAny_of_eq (a := true) sub_dt_dt ?_)
  refine KFB.if_not rfl ?_
  exact wpAny_bind (wpAny_newObj_type (wpAny_pure h))
theorem getm {pl : Sem Bool} {Q : Value × List Value → Shared → Prop} (F : Fr h₀ L s.heap m) (N : News h₀ L s.heap news) (X₀ : K.In h₀)
    (e : findCls K (.type "datetime.datetime") (.type "type") (PySem.Str.ofString "fromtimestamp") = some (.get (.builtin "classmethod_descriptor.__get__") (.builtin "datetime.datetime.fromtimestamp") .none (.type "datetime.datetime")))
    (h : ∀ x h', Fr h₀ L h' m → News h₀ L h' ((x, bound) :: news) → (∀ p ∈ news, p.1 < x) → Q (.ref x, []) { s with heap := h', toks := s.toks + 1 }) :
    wpAny (model prog w) A (getMethod (.type "datetime.datetime") (PySem.Str.ofString "fromtimestamp") pl) Q E s := by
  have X := X₀.keeps F.keep
  have hstub : opaqueClassAbove (.type "datetime.datetime") = pure none := by unfold opaqueClassAbove; dsimp only; rw [show Manifest.isStub "datetime.datetime" = false by decide +kernel]; rfl
  have ht : typeOf (.type "datetime.datetime") = pure (.type "type") := by first | rfl | kernel_rfl
  have L0 : Looks (model prog w) s.heap (typeOf (.type "datetime.datetime")) (.type "type") := Looks.of_pure ht
  have hg : findIn K (.type "type") "__getattribute__" = some (some (.builtin "type.__getattribute__")) := type_tga
  unfold getMethod specialOf
  refine wpAny_bind (wpAny_bind (L0.here ((looks_findIn X hg).here ?_)))
  dsimp only
  rw [if_pos canon_tga]
  refine wpAny_bind (wpAny_mono (Q := fun v => Q (v, [])) (E := E) ?_ (fun _ _ z => wpAny_pure z) fun _ _ z => z)
  have LO : Looks (model prog w) s.heap (opaqueClassAbove (.type "datetime.datetime")) none := Looks.of_pure hstub
  refine cls_open X LO L0 hg (looks_hook X (r := none) (by rfl)) (by show subIn K _ _ = _; rfl) e ?_
  show wpAny _ _ (holding [.builtin "datetime.datetime.fromtimestamp"] (call (.builtin "classmethod_descriptor.__get__") [.builtin "datetime.datetime.fromtimestamp", .none, .type "datetime.datetime"]) >>= fun v => ret v) _ _ _
  refine wpAny_bind (wpAny_holding (wpAny_call_entry KFB.slot_get type_fb KFB.entry_get (run_get ⟨_, rfl, wpAny_pure (wpAny_pure (h _ _ (F.push _) (News.push F N _) fun p hp => Heap.lt_size (N p hp).1))⟩) (KFB.args_get _ _ _)))
def StandsAt (x : Addr) (h : Heap) : Prop := h.get? x = some bound
theorem at_of {x : Addr} {h : Heap} (N : News h₀ L h news) (hm : (x, bound) ∈ news) : StandsAt x h := N.get hm
theorem callWith_fields {pos : Pos} {u : Addr} {first : List Value} {args : List (Bool × Sem Value)} {keywords : List (Option Str × Sem Value)} {Q : Value → Shared → Prop} (hplain : args.any (·.1) = false) (hkw : keywords.any (·.1.isNone) = false)
    (h : wpAny M A (evalArgs (.ref u) true args keywords) (fun x s₁ => StandsAt u s₁.heap ∧ wpAny M A (call (.ref u) (first ++ x.pos) x.kw) Q E s₁) E s) : wpAny M A (callWith pos (.ref u) first args keywords) Q E s := by
  unfold callWith
  refine wpAny_bind (wpAny_holding (wpAny_mono h (fun x s₁ h₁ => wpAny_bind (wpAny_standAt ?_)) fun _ _ x => x))
  obtain ⟨ho, hcall⟩ := h₁
  simp only [hplain, hkw, Bool.or_false]
  refine wpAny_bind (m := keeperOf (.ref u)) ?_
  unfold keeperOf
  refine wpAny_bind (wpAny_load ho ?_)
  simp only [bound, show (Value.type "builtin_function_or_method" != Value.type "method") = true by decide, show (Value.type "builtin_function_or_method" == Value.type "builtin_function_or_method" || Value.type "builtin_function_or_method" == Value.type "method-wrapper") = true by decide, if_true]
  refine wpAny_pure ?_
  exact wpAny_bind (wpAny_mono hcall (fun r s₂ hr => wpAny_bind (wpAny_holding (wpAny_point (wpAny_pure hr)))) fun _ _ x => x)
theorem callWith_kwR {pos : Pos} {u : Addr} {e : Expr} {rest : List Expr} {kws : List Keyword} {env : Env} {Q : Value → Shared → Prop} (_N : News h₀ L s.heap news) (_hm : (u, bound) ∈ news)
    (h : wpAny M A (spliced (backTo pos (starEach (e :: rest) env))) (fun vs s₁ => wpAny M A (evalAll ((backToKw pos (keywordEach kws env)).map (·.2)))
      (fun kvs s₂ => StandsAt u s₂.heap ∧ wpAny M A (call (.ref u) vs (((backToKw pos (keywordEach kws env)).filterMap (·.1)).zip kvs)) Q E s₂) E s₁) E s)
    (he : backTo pos (starEach (e :: rest) env) = (false, eval e env) :: backTo pos (starEach rest env) := by rfl)
    (hplain : (backTo pos (starEach (e :: rest) env)).any (·.1) = false := by rfl)
    (hall : (backToKw pos (keywordEach kws env)).all (·.1.isSome) = true := by rfl)
    (hkw : (backToKw pos (keywordEach kws env)).any (·.1.isNone) = false := by rfl) :
    wpAny M A (callWith pos (.ref u) [] (backTo pos (starEach (e :: rest) env)) (backToKw pos (keywordEach kws env))) Q E s := by
  refine callWith_fields hplain hkw ?_
  rw [he] at h ⊢
  exact evalArgs_kwB hall h
end
end DF
end DT2s
noncomputable section DT3s
set_option linter.unusedVariables false
namespace DZ
def zoneObj (z : Addr) : Obj := { cls := .type "datetime.timezone", data := .fields #[.ref z, .none] }
def deltaObj : Obj := { cls := .type "datetime.timedelta", data := .fields #[rawInt 0, rawInt 0, rawInt 0] }
theorem lk_utc : typeLookup (.type "datetime.timezone") "utc" = pure (some (.builtin "datetime.timezone.utc#data")) := by rw [typeLookup_type, builtinLookup_eq_fast]; kernel_rfl
theorem lk_type_utc : typeLookup (.type "type") "utc" = pure none := by rw [typeLookup_type, builtinLookup_eq_fast]; kernel_rfl
theorem ty_utc : typeOf (.builtin "datetime.timezone.utc#data") = pure (.type "datetime.timezone") := by show builtinType _ = _; rw [builtinType_eq_fast]; kernel_rfl
theorem lk_tz_get : typeLookup (.type "datetime.timezone") "__get__" = pure none := by rw [typeLookup_type, builtinLookup_eq_fast]; kernel_rfl
theorem entry_utc : entryFor table "datetime.timezone.utc#data" = some Builtin.«datetime.timezone.utc#data» := entryFor_of_tree (by kernel_rfl)
theorem stub_tz : opaqueClassAbove (.type "datetime.timezone") = pure none := by unfold opaqueClassAbove; dsimp only; rw [show Manifest.isStub "datetime.timezone" = false by decide +kernel]; rfl
theorem held_utc : Builtin.heldUnderItsOwnName (Str.ofString "utc") (.builtin "datetime.timezone.utc#data") = false := by decide +kernel
theorem noplain_utc : Manifest.plainData.lookup "datetime.timezone.utc" = none := by decide +kernel
theorem ending_utc : withoutEnding? "datetime.timezone.utc#data" "#data" = some "datetime.timezone.utc" := by decide +kernel
section
variable {prog : Program} {w : World} {M : Model} {A : Around} {E : Value → Shared → Prop} {s : Shared} {K : Frag} {h₀ : Heap} {L : Addr} {m : PySem.Str → Option Value} {news : List (Addr × Obj)}
theorem utcZone_K {z : Addr} {Q : Value → Shared → Prop} (X : K.In s.heap) (e : nsIn K cStatics "datetime.timezone.utc" = some (some (.ref z))) (h : Q (.ref z) s) :
    wpAny M A Builtin._datetime.utcZone Q E s := by
  unfold Builtin._datetime.utcZone
  exact wpAny_bind ((looks_nsIn X e).here (wpAny_pure h))
theorem handed_utc {z : Addr} {Q : Value → Shared → Prop} (X : K.In s.heap) (e : nsIn K cStatics "datetime.timezone.utc" = some (some (.ref z))) (h : Q (.ref z) s) :
    wpAny (model prog w) A (handedOut (.builtin "datetime.timezone.utc#data")) Q E s := by
  show wpAny _ _ (if (withoutEnding? "datetime.timezone.utc#data" "#data").isSome then typeDatum "datetime.timezone.utc#data" else pure (.builtin "datetime.timezone.utc#data")) _ _ _
  rw [ending_utc]
  refine DT.ite_yes rfl ?_
  unfold typeDatum
  rw [ending_utc]
  show wpAny _ _ (match Manifest.plainData.lookup "datetime.timezone.utc" with | some p => (do return ← plainDatum "datetime.timezone.utc" p) | none => runValue (.builtin "datetime.timezone.utc#data" ⟨[], []⟩)) _ _ _
  rw [noplain_utc]
  refine wpAny_runValue ?_
  refine codeAny_builtin entry_utc ?_
  show wpAny _ _ (Builtin._datetime.utcZone >>= fun v => ret v) _ _ _
  exact wpAny_bind (utcZone_K X e (wpAny_pure h))
theorem tga_utc {z : Addr} {tk : Tok} {Q : Fin → Shared → Prop} (X : K.In s.heap) (e : nsIn K cStatics "datetime.timezone.utc" = some (some (.ref z))) (h : Q (.done (.ret (.ref z))) s) :
    wpAny (model prog w) A (Builtin.«type.__getattribute__» ⟨[.type "datetime.timezone", .str (Str.ofString "utc") tk], []⟩) Q E s := by
  have a1 := stub_tz
  have a2 := lk_type_utc
  have a3 := lk_utc
  have a4 := held_utc
  have a5 := ty_utc
  have a6 : specialOf (.builtin "datetime.timezone.utc#data") "__get__" = pure none := by unfold specialOf; rw [ty_utc]; exact lk_tz_get
  have a7 : typeOf (.type "datetime.timezone") = pure (.type "type") := by first | rfl | kernel_rfl
  unfold Builtin.«type.__getattribute__»
  repeat (any_goals (first | with_reducible assumption | with_reducible refine handed_utc X e ?_ | with_reducible refine wpAny_bind ?_ | with_reducible refine wpAny_pure ?_ | with_reducible refine wpAny_holding ?_ | with_reducible refine wpAny_standAt ?_ | with_reducible refine wpAny_point ?_ | with_reducible refine wpAny_rule ?_ | with_reducible refine wpAny_letGo ?_ | with_reducible refine wpAny_mkInt' ?_ | with_reducible refine wpAny_fresh' ?_ | with_reducible refine wpAny_alloc' ?_ | with_reducible refine wpAny_attempt ?_ | with_reducible refine wpAny_throw ?_ | (with_reducible refine wpAny_mkStr' (hx := ?q9x) ?_; case q9x => size_fits) | with_reducible refine wpAny_of_eq (by assumption) ?_ | with_reducible refine wpAny_typeOf (by assumption) ?_ | with_reducible refine wpAny_specialOf_val (by assumption) (by assumption) ?_ | with_reducible refine wpAny_specialOf (by assumption) (by assumption) ?_ | with_reducible refine wpAny_isInstance_val (by assumption) (by assumption) ?_ | with_reducible refine wpAny_isInstance (by assumption) (by assumption) ?_ | with_reducible refine wpAny_call ?_ | with_reducible refine wpAny_runValue ?_ | with_reducible refine wpAny_run ?_ | (with_reducible refine' wpAny_load' ?_ ?_; focus ((first | with_reducible assumption | heap_get); done)) | (with_reducible refine' wpAny_update' ?_ ?_; focus ((first | with_reducible assumption | heap_get); done)) | (with_reducible refine' wpAny_loadPart' ?_ ?_; focus ((first | with_reducible assumption | heap_get); done)) | (with_reducible refine' wpAny_updatePart' ?_ ?_; focus ((first | with_reducible assumption | heap_get); done)) | with_reducible refine wpAny_handled_none (by assumption) ?_ | (with_reducible refine' wpAny_ite_false ?_ ?_; focus (rfl; done)) | (with_reducible refine' wpAny_ite_true ?_ ?_; focus (rfl; done)) | (with_reducible refine' wpAny_ite_false ?_ ?_; focus (simp [*]; done)) | (with_reducible refine' wpAny_ite_true ?_ ?_; focus (simp [*]; done)) | wp_delta | wp_step | assumption))
theorem getAttr_utc {z : Addr} {expr : Bool} {Q : Value → Shared → Prop} (F : Fr h₀ L s.heap m) (X₀ : K.In h₀) (e : nsIn K cStatics "datetime.timezone.utc" = some (some (.ref z)))
    (h : Q (.ref z) { s with toks := s.toks + 1 }) : wpAny (model prog w) A (getAttr (.type "datetime.timezone") (Str.ofString "utc") expr) Q E s := by
  have X := X₀.keeps F.keep
  have a7 : typeOf (.type "datetime.timezone") = pure (.type "type") := by first | rfl | kernel_rfl
  have ht : Looks (model prog w) s.heap (typeOf (.type "datetime.timezone")) (.type "type") := Looks.of_pure a7
  have hg : findIn K (.type "type") "__getattribute__" = some (some (.builtin "type.__getattribute__")) := type_tga
  have hb := looks_hook (M := model prog w) (mc := .type "type") X (r := none) (by rfl)
  refine wpAny_bind (wpAny_mkText (wpAny_holding (wpAny_bind (ht _ _ _ _ (fun _ _ e => e) (wpAny_bind (looks_findIn X hg _ _ _ _ (fun _ _ e => e) ?_))))))
  dsimp only
  rw [show (onTheHeap (.type "type") && Value.builtin "type.__getattribute__" == Value.builtin "object.__getattribute__") = false from rfl, if_neg (by decide)]
  refine wpAny_bind (hb _ _ _ _ (fun _ _ e => e) (wpAny_bind (wpAny_attempt (wpAny_holding ?_))))
  unfold callGetattribute
  rw [show (expr && onTheHeap (Value.builtin "type.__getattribute__")) = false from Bool.and_false _, if_neg (by decide)]
  unfold boundAndCalled
  rw [KF.slot_tga.bind]
  refine wpAny_bind (wpAny_pure ?_)
  show wpAny _ _ (call (.builtin "type.__getattribute__") [.type "datetime.timezone", .str (Str.ofString "utc") s.toks]) _ _ _
  refine wpAny_call ?_
  refine codeAny_call_builtin KF.slot_tga.plain KF.entry_tga ?_
  refine @check_slot (model prog w) _ _ { s with toks := s.toks + 1 } "type.__getattribute__" "type" "__getattribute__" (.type "datetime.timezone") [.str (Str.ofString "utc") s.toks] [] _ (by decide +kernel) (by decide +kernel) (ht.andThen (looks_subIn X (by show subIn K _ _ = _; rfl))) (KF.args_tga _ (.str (Str.ofString "utc") s.toks)) ?_
  exact tga_utc (s := { s with toks := s.toks + 1 }) X e (wpAny_pure h)
end
end DZ
end DT3s
noncomputable section DT4s
set_option linter.unusedVariables false
namespace DZ
open Builtin._datetime
def stampObj (y mo d h mi sec : Int) (z : Addr) : Obj := { cls := .type "datetime.datetime", data := .fields #[rawInt y, rawInt mo, rawInt d, rawInt h, rawInt mi, rawInt sec, rawInt 0, .ref z, rawInt 0, .none] }
structure Good (y mo d h mi sec : Int) : Prop where
  y1 : 1 ≤ y
  y2 : y ≤ 9999
  m1 : 1 ≤ mo
  m2 : mo ≤ 12
  d1 : 1 ≤ d
  d2 : d ≤ daysInMonth y mo
  h1 : 0 ≤ h
  h2 : h ≤ 23
  i1 : 0 ≤ mi
  i2 : mi ≤ 59
  s1 : 0 ≤ sec
  s2 : sec ≤ 59
theorem sub_tz_tzinfo : isSubtype (.type "datetime.timezone") (.type "datetime.tzinfo") = pure true := by rw [isSubtype_type]; kernel_rfl
theorem sub_td_td : isSubtype (.type "datetime.timedelta") (.type "datetime.timedelta") = pure true := by rw [isSubtype_type]; kernel_rfl
theorem sub_dt_date : isSubtype (.type "datetime.datetime") (.type "datetime.date") = pure true := by rw [isSubtype_type]; kernel_rfl
theorem sub_dt_dt : isSubtype (.type "datetime.datetime") (.type "datetime.datetime") = pure true := DF.sub_dt_dt
section
variable {prog : Program} {w : World} {M : Model} {A : Around} {E : Value → Shared → Prop} {s : Shared} {K : Frag} {h₀ : Heap} {L : Addr} {m : PySem.Str → Option Value} {news : List (Addr × Obj)}
theorem checkTime_ok {y mo d h mi sec : Int} {Q : Unit → Shared → Prop} (G : Good y mo d h mi sec) (hq : Q () s) : wpAny M A (checkTime h mi sec 0 0) Q E s := by
  obtain ⟨_, _, _, _, _, _, h1, h2, h3, h4, h5, h6⟩ := G
  have e1 : (decide (h < 0) || decide (h > 23)) = false := by simp; lia
  have e2 : (decide (mi < 0) || decide (mi > 59)) = false := by simp; lia
  have e3 : (decide (sec < 0) || decide (sec > 59)) = false := by simp; lia
  unfold checkTime
  rw [e1, e2, e3]
  exact wpAny_bind (wpAny_pure (wpAny_bind (wpAny_pure (wpAny_bind (wpAny_pure (wpAny_bind (wpAny_pure (wpAny_pure hq))))))))
theorem checkTz_ok {z : Addr} {o : Obj} {Q : Unit → Shared → Prop} (hz : s.heap.get? z = some o) (hc : o.cls = .type "datetime.timezone") (hq : Q () s) : wpAny M A (checkTzinfo (.ref z)) Q E s := by
  have hT : s.TypeIs (.ref z) "datetime.timezone" := ⟨_, hz, hc⟩
  unfold checkTzinfo
  refine DT.ite_yes (by rfl) ?_
  refine wpAny_bind (wpAny_isInstance hT sub_tz_tzinfo ?_)
  exact DT.ite_no (by decide) (wpAny_pure hq)
theorem newStamp_ok {y mo d h mi sec : Int} {z : Addr} {o : Obj} {Q : Value → Shared → Prop} (G : Good y mo d h mi sec) (hz : s.heap.get? z = some o) (hc : o.cls = .type "datetime.timezone")
    (hq : Q (.ref s.heap.objs.size) { s with heap := s.heap.push (stampObj y mo d h mi sec z) }) :
    wpAny M A (newStampOf (.type "datetime.datetime") { y := y, mo := mo, d := d, c := { h := h, m := mi, s := sec, us := 0, tz := .ref z, fold := 0 } }) Q E s := by
  unfold newStampOf
  refine DT.ite_yes (by rfl) ?_
  unfold newStampRaw
  dsimp only
  refine wpAny_bind (DT.checkDate_ok G.y1 G.y2 G.m1 G.m2 G.d1 G.d2 ?_)
  refine wpAny_bind (checkTime_ok G ?_)
  refine wpAny_bind (checkTz_ok hz hc ?_)
  first | exact wpAny_newObj_type hq | exact wpAny_newObj_type (wpAny_pure hq)
theorem shownYear_ok {y : Int} {Q : Int → Shared → Prop} (h1 : 1 ≤ y) (h2 : y ≤ 9999) (hq : Q y s) : wpAny M A (dtShownYear y) Q E s := by
  have e1 : (decide (y - 1900 ≥ 2 ^ 31) || decide (y - 1900 < -(2 ^ 31 : Int))) = false := by simp; lia
  have e2 : (if y ≥ 2 ^ 31 then y - 2 ^ 32 else y) = y := if_neg (by lia)
  unfold dtShownYear
  rw [e1, e2]
  exact wpAny_bind (wpAny_pure (wpAny_pure hq))
theorem stampAt_ok {n y mo d h mi sec wd yd : Int} {z : Addr} {o : Obj} {Q : Value → Shared → Prop} (G : Good y mo d h mi sec) (hb : Builtin.Time.timeBroken n 0 = (y, [mo, d, h, mi, sec, wd, yd])) (hz : s.heap.get? z = some o) (hc : o.cls = .type "datetime.timezone")
    (hq : Q (.ref s.heap.objs.size) { s with heap := s.heap.push (stampObj y mo d h mi sec z) }) :
    wpAny (model prog w) A (stampAtMoment (.type "datetime.datetime") true n 0 (.ref z)) Q E s := by
  have hm : min 59 sec = sec := by have := G.s2; lia
  unfold stampAtMoment
  refine wpAny_bind (nd_ask (wpAny_pure ?_))
  simp only [if_true, hb]
  refine wpAny_bind (shownYear_ok G.y1 G.y2 ?_)
  simp only [Bool.not_true, Bool.false_and, hm]
  first
    | exact wpAny_bind (wpAny_pure (newStamp_ok G hz hc hq))
    | exact newStamp_ok G hz hc hq
end
end DZ
end DT4s
noncomputable section DT5s
set_option linter.unusedVariables false
namespace DZ
open Builtin._datetime
def boundZ (z : Addr) : Obj := { cls := .type "builtin_function_or_method", data := .fields #[.builtin "datetime.timezone.fromutc", .ref z] }
theorem lk_tz_fromutc : typeLookup (.type "datetime.timezone") "fromutc" = pure (some (.builtin "datetime.timezone.fromutc")) := by rw [typeLookup_type, builtinLookup_eq_fast]; kernel_rfl
theorem ty_fromutc : typeOf (.builtin "datetime.timezone.fromutc") = pure (.type "method_descriptor") := by show builtinType _ = _; rw [builtinType_eq_fast]; kernel_rfl
theorem lk_md_set : typeLookup (.type "method_descriptor") "__set__" = pure none := by rw [typeLookup_type, builtinLookup_eq_fast]; kernel_rfl
theorem lk_md_del : typeLookup (.type "method_descriptor") "__delete__" = pure none := by rw [typeLookup_type, builtinLookup_eq_fast]; kernel_rfl
theorem slot_md_get : Slot "method_descriptor" "__get__" "method_descriptor.__get__" :=
  .of (owner := "method_descriptor") (n := "__get__") (by rw [typeLookup_type, builtinLookup_eq_fast]; kernel_rfl) (by decide +kernel) (by decide +kernel) (by decide +kernel)
    (by first | exact .inl (by decide +kernel) | exact .inr (by decide +kernel)) (by rw [isSubtype_type]; kernel_rfl)
theorem entry_md_get : entryFor table "method_descriptor.__get__" = some Builtin.«method_descriptor.__get__» := entryFor_of_tree (by kernel_rfl)
theorem args_md_get (a b c : Value) : argsOk "method_descriptor.__get__" ⟨[a, b, c], []⟩ := by unfold argsOk; kernel_rfl
theorem slot_tz_ga : Slot "datetime.timezone" "__getattribute__" "object.__getattribute__" :=
  .of (owner := "object") (n := "__getattribute__") (by rw [typeLookup_type, builtinLookup_eq_fast]; kernel_rfl) (by decide +kernel) (by decide +kernel) (by decide +kernel)
    (by first | exact .inl (by decide +kernel) | exact .inr (by decide +kernel)) (by rw [isSubtype_type]; kernel_rfl)
theorem entry_ga : entryFor table "object.__getattribute__" = some Builtin.«object.__getattribute__» := entryFor_of_tree (by kernel_rfl)
theorem args_ga (a b : Value) : argsOk "object.__getattribute__" ⟨[a, b], []⟩ := by unfold argsOk; kernel_rfl
theorem owner_fromutc : (kfb_private% "ownerAndName") "datetime.timezone.fromutc" = ("datetime.timezone", "fromutc") := by first | decide +kernel | kernel_rfl
theorem cut_fromutc : (".".intercalate ("datetime.timezone.fromutc".cutAt '.').dropLast) = "datetime.timezone" := by
  have e0 : "datetime.timezone.fromutc".cutAt '.' = ["datetime", "timezone", "fromutc"] := by first | rfl | decide +kernel
  rw [e0]; decide +kernel
theorem sub_tz_tz : isSubtype (.type "datetime.timezone") (.type (".".intercalate ("datetime.timezone.fromutc".cutAt '.').dropLast)) = pure true := by rw [cut_fromutc, isSubtype_type]; kernel_rfl
section
variable {prog : Program} {w : World} {M : Model} {A : Around} {E : Value → Shared → Prop} {h : Heap} {g : Array GenState} {d : Drawn} {t : Nat} {os : OsState}
theorem tree_md_get {z : Addr} {o : Obj} {P : Fin → Shared → Prop} (hz : h.get? z = some o) (hc : o.cls = .type "datetime.timezone")
    (hq : P (.done (.ret (.ref h.objs.size))) ⟨h.push (boundZ z), g, d, t, os⟩) :
    wpAny M A (Builtin.«method_descriptor.__get__» ⟨[.builtin "datetime.timezone.fromutc", .ref z, .type "datetime.timezone"], []⟩) P E ⟨h, g, d, t, os⟩ := by
  have hT : (⟨h, g, d, t, os⟩ : Shared).TypeIs (.ref z) "datetime.timezone" := ⟨_, hz, hc⟩
  have a1 := sub_tz_tz
  have a2 := owner_fromutc
  unfold Builtin.«method_descriptor.__get__»
  repeat (any_goals (first | with_reducible assumption | with_reducible refine wpAny_bind ?_ | with_reducible refine wpAny_pure ?_ | with_reducible refine wpAny_holding ?_ | with_reducible refine wpAny_standAt ?_ | with_reducible refine wpAny_point ?_ | with_reducible refine wpAny_rule ?_ | with_reducible refine wpAny_letGo ?_ | with_reducible refine wpAny_mkInt' ?_ | with_reducible refine wpAny_fresh' ?_ | with_reducible refine wpAny_alloc' ?_ | with_reducible refine wpAny_attempt ?_ | with_reducible refine wpAny_throw ?_ | (with_reducible refine wpAny_mkStr' (hx := ?q9x) ?_; case q9x => size_fits) | with_reducible refine wpAny_of_eq (by assumption) ?_ | with_reducible refine wpAny_typeOf (by assumption) ?_ | with_reducible refine wpAny_specialOf_val (by assumption) (by assumption) ?_ | with_reducible refine wpAny_specialOf (by assumption) (by assumption) ?_ | with_reducible refine wpAny_isInstance_val (by assumption) (by assumption) ?_ | with_reducible refine wpAny_isInstance (by assumption) (by assumption) ?_ | with_reducible refine wpAny_call ?_ | with_reducible refine wpAny_runValue ?_ | with_reducible refine wpAny_run ?_ | (with_reducible refine' wpAny_load' ?_ ?_; focus ((first | with_reducible assumption | heap_get); done)) | (with_reducible refine' wpAny_update' ?_ ?_; focus ((first | with_reducible assumption | heap_get); done)) | (with_reducible refine' wpAny_loadPart' ?_ ?_; focus ((first | with_reducible assumption | heap_get); done)) | (with_reducible refine' wpAny_updatePart' ?_ ?_; focus ((first | with_reducible assumption | heap_get); done)) | with_reducible refine wpAny_handled_none (by assumption) ?_ | (with_reducible refine' wpAny_ite_false ?_ ?_; focus (rfl; done)) | (with_reducible refine' wpAny_ite_true ?_ ?_; focus (rfl; done)) | (with_reducible refine' wpAny_ite_false ?_ ?_; focus (simp [*]; done)) | (with_reducible refine' wpAny_ite_true ?_ ?_; focus (simp [*]; done)) | wp_delta | wp_step | assumption))
theorem get_fromutc {z : Addr} {o : Obj} {R : Result → Shared → Prop} (hz : h.get? z = some o) (hc : o.cls = .type "datetime.timezone") (hq : R (.ok (.ret (.ref h.objs.size))) ⟨h.push (boundZ z), g, d, t, os⟩) :
    codeAny (model prog w) A (.call (.builtin "method_descriptor.__get__") ⟨[.builtin "datetime.timezone.fromutc", .ref z, .type "datetime.timezone"], []⟩) R ⟨h, g, d, t, os⟩ := by
  have hT5 : (⟨h, g, d, t, os⟩ : Shared).TypeIs (.builtin "datetime.timezone.fromutc") "method_descriptor" := ty_fromutc
  refine codeAny_call_builtin slot_md_get.plain entry_md_get (slot_md_get.check _ _ _ _ _ _ _ _ hT5 (args_md_get _ _ _) ?_)
  exact tree_md_get hz hc hq
theorem ga_fromutc {z zd : Addr} {tk : Tok} {Q : Fin → Shared → Prop} (hz : h.get? z = some (zoneObj zd))
    (hq : Q (.done (.ret (.ref h.objs.size))) ⟨h.push (boundZ z), g, d, t, os⟩) :
    wpAny (model prog w) A (Builtin.«object.__getattribute__» ⟨[.ref z, .str (Str.ofString "fromutc") tk], []⟩) Q E ⟨h, g, d, t, os⟩ := by
  have hT : (⟨h, g, d, t, os⟩ : Shared).TypeIs (.ref z) "datetime.timezone" := ⟨_, hz, rfl⟩
  have hT5 : (⟨h, g, d, t, os⟩ : Shared).TypeIs (.builtin "datetime.timezone.fromutc") "method_descriptor" := ty_fromutc
  have f4 := lk_tz_fromutc
  have f5 := ty_fromutc
  have f6 := slot_md_get.lookup
  have f7 := lk_md_set
  have f8 := lk_md_del
  repeat (any_goals (first | with_reducible assumption | with_reducible refine wpAny_bind ?_ | with_reducible refine wpAny_pure ?_ | with_reducible refine wpAny_holding ?_ | with_reducible refine wpAny_standAt ?_ | with_reducible refine wpAny_point ?_ | with_reducible refine wpAny_rule ?_ | with_reducible refine wpAny_letGo ?_ | with_reducible refine wpAny_mkInt' ?_ | with_reducible refine wpAny_fresh' ?_ | with_reducible refine wpAny_alloc' ?_ | with_reducible refine wpAny_attempt ?_ | with_reducible refine wpAny_throw ?_ | (with_reducible refine wpAny_mkStr' (hx := ?q9x) ?_; case q9x => size_fits) | with_reducible refine wpAny_of_eq (by assumption) ?_ | with_reducible refine wpAny_typeOf (by assumption) ?_ | with_reducible refine wpAny_specialOf_val (by assumption) (by assumption) ?_ | with_reducible refine wpAny_specialOf (by assumption) (by assumption) ?_ | with_reducible refine wpAny_isInstance_val (by assumption) (by assumption) ?_ | with_reducible refine wpAny_isInstance (by assumption) (by assumption) ?_ | with_reducible refine wpAny_call ?_ | with_reducible refine wpAny_runValue ?_ | with_reducible refine wpAny_run ?_ | (with_reducible refine' wpAny_load' ?_ ?_; focus ((first | with_reducible assumption | heap_get); done)) | (with_reducible refine' wpAny_update' ?_ ?_; focus ((first | with_reducible assumption | heap_get); done)) | (with_reducible refine' wpAny_loadPart' ?_ ?_; focus ((first | with_reducible assumption | heap_get); done)) | (with_reducible refine' wpAny_updatePart' ?_ ?_; focus ((first | with_reducible assumption | heap_get); done)) | with_reducible refine wpAny_handled_none (by assumption) ?_ | (with_reducible refine' wpAny_ite_false ?_ ?_; focus (rfl; done)) | (with_reducible refine' wpAny_ite_true ?_ ?_; focus (rfl; done)) | (with_reducible refine' wpAny_ite_false ?_ ?_; focus (simp [*]; done)) | (with_reducible refine' wpAny_ite_true ?_ ?_; focus (simp [*]; done)) | wp_delta | wp_step | assumption))
  exact get_fromutc hz rfl (wpAny_pure hq)
theorem ga_call_fromutc {z zd : Addr} {tk : Tok} {R : Result → Shared → Prop} (hz : h.get? z = some (zoneObj zd)) (hq : R (.ok (.ret (.ref h.objs.size))) ⟨h.push (boundZ z), g, d, t, os⟩) :
    codeAny (model prog w) A (.call (.builtin "object.__getattribute__") ⟨[.ref z, .str (Str.ofString "fromutc") tk], []⟩) R ⟨h, g, d, t, os⟩ :=
  codeAny_call_builtin slot_tz_ga.plain entry_ga (slot_tz_ga.check _ _ _ _ _ _ _ _ (show (⟨h, g, d, t, os⟩ : Shared).TypeIs (.ref z) "datetime.timezone" from ⟨_, hz, rfl⟩) (args_ga _ _) (ga_fromutc hz hq))
theorem getAttr_fromutc {z zd : Addr} {Q : Value → Shared → Prop} (hz : h.get? z = some (zoneObj zd)) (hq : Q (.ref h.objs.size) ⟨h.push (boundZ z), g, d, t + 1, os⟩) :
    wpAny (model prog w) A (getAttr (.ref z) (Str.ofString "fromutc") false) Q E ⟨h, g, d, t, os⟩ := by
  have hT : (⟨h, g, d, t, os⟩ : Shared).TypeIs (.ref z) "datetime.timezone" := ⟨_, hz, rfl⟩
  have hT1 : (⟨h, g, d, t + 1, os⟩ : Shared).TypeIs (.ref z) "datetime.timezone" := ⟨_, hz, rfl⟩
  have f2 := slot_tz_ga.lookup
  have f3 := slot_tz_ga.bind (.ref z)
  repeat (any_goals (first | with_reducible assumption | with_reducible refine wpAny_bind ?_ | with_reducible refine wpAny_pure ?_ | with_reducible refine wpAny_holding ?_ | with_reducible refine wpAny_standAt ?_ | with_reducible refine wpAny_point ?_ | with_reducible refine wpAny_rule ?_ | with_reducible refine wpAny_letGo ?_ | with_reducible refine wpAny_mkInt' ?_ | with_reducible refine wpAny_fresh' ?_ | with_reducible refine wpAny_alloc' ?_ | with_reducible refine wpAny_attempt ?_ | with_reducible refine wpAny_throw ?_ | (with_reducible refine wpAny_mkStr' (hx := ?q9x) ?_; case q9x => size_fits) | with_reducible refine wpAny_of_eq (by assumption) ?_ | with_reducible refine wpAny_typeOf (by assumption) ?_ | with_reducible refine wpAny_specialOf_val (by assumption) (by assumption) ?_ | with_reducible refine wpAny_specialOf (by assumption) (by assumption) ?_ | with_reducible refine wpAny_isInstance_val (by assumption) (by assumption) ?_ | with_reducible refine wpAny_isInstance (by assumption) (by assumption) ?_ | with_reducible refine wpAny_call ?_ | with_reducible refine wpAny_runValue ?_ | with_reducible refine wpAny_run ?_ | (with_reducible refine' wpAny_load' ?_ ?_; focus ((first | with_reducible assumption | heap_get); done)) | (with_reducible refine' wpAny_update' ?_ ?_; focus ((first | with_reducible assumption | heap_get); done)) | (with_reducible refine' wpAny_loadPart' ?_ ?_; focus ((first | with_reducible assumption | heap_get); done)) | (with_reducible refine' wpAny_updatePart' ?_ ?_; focus ((first | with_reducible assumption | heap_get); done)) | with_reducible refine wpAny_handled_none (by assumption) ?_ | (with_reducible refine' wpAny_ite_false ?_ ?_; focus (rfl; done)) | (with_reducible refine' wpAny_ite_true ?_ ?_; focus (rfl; done)) | (with_reducible refine' wpAny_ite_false ?_ ?_; focus (simp [*]; done)) | (with_reducible refine' wpAny_ite_true ?_ ?_; focus (simp [*]; done)) | wp_delta | wp_step | assumption))
  refine ga_call_fromutc hz ?_
  repeat (any_goals (first | with_reducible assumption | with_reducible refine wpAny_bind ?_ | with_reducible refine wpAny_pure ?_ | with_reducible refine wpAny_holding ?_ | with_reducible refine wpAny_standAt ?_ | with_reducible refine wpAny_point ?_ | with_reducible refine wpAny_rule ?_ | with_reducible refine wpAny_letGo ?_ | with_reducible refine wpAny_mkInt' ?_ | with_reducible refine wpAny_fresh' ?_ | with_reducible refine wpAny_alloc' ?_ | with_reducible refine wpAny_attempt ?_ | with_reducible refine wpAny_throw ?_ | (with_reducible refine wpAny_mkStr' (hx := ?q9x) ?_; case q9x => size_fits) | with_reducible refine wpAny_of_eq (by assumption) ?_ | with_reducible refine wpAny_typeOf (by assumption) ?_ | with_reducible refine wpAny_specialOf_val (by assumption) (by assumption) ?_ | with_reducible refine wpAny_specialOf (by assumption) (by assumption) ?_ | with_reducible refine wpAny_isInstance_val (by assumption) (by assumption) ?_ | with_reducible refine wpAny_isInstance (by assumption) (by assumption) ?_ | with_reducible refine wpAny_call ?_ | with_reducible refine wpAny_runValue ?_ | with_reducible refine wpAny_run ?_ | (with_reducible refine' wpAny_load' ?_ ?_; focus ((first | with_reducible assumption | heap_get); done)) | (with_reducible refine' wpAny_update' ?_ ?_; focus ((first | with_reducible assumption | heap_get); done)) | (with_reducible refine' wpAny_loadPart' ?_ ?_; focus ((first | with_reducible assumption | heap_get); done)) | (with_reducible refine' wpAny_updatePart' ?_ ?_; focus ((first | with_reducible assumption | heap_get); done)) | with_reducible refine wpAny_handled_none (by assumption) ?_ | (with_reducible refine' wpAny_ite_false ?_ ?_; focus (rfl; done)) | (with_reducible refine' wpAny_ite_true ?_ ?_; focus (rfl; done)) | (with_reducible refine' wpAny_ite_false ?_ ?_; focus (simp [*]; done)) | (with_reducible refine' wpAny_ite_true ?_ ?_; focus (simp [*]; done)) | wp_delta | wp_step | assumption))
theorem entry_fu : entryFor table "datetime.timezone.fromutc" = some Builtin.«datetime.timezone.fromutc» := entryFor_of_tree (by kernel_rfl)
theorem entry_add : entryFor table "datetime.datetime.__add__" = some Builtin.«datetime.datetime.__add__» := entryFor_of_tree (by kernel_rfl)
theorem quiet_fu {as : Args} : (Code.builtin "datetime.timezone.fromutc" as).quiet = true := Code.quiet_builtin _ (by decide +kernel)
theorem quiet_add {as : Args} : (Code.builtin "datetime.datetime.__add__" as).quiet = true := Code.quiet_builtin _ (by decide +kernel)
theorem sub_tz_module : isSubtype (.type "datetime.timezone") (.type "module") = pure false := by rw [isSubtype_type]; kernel_rfl
theorem sub_tz_type : isSubtype (.type "datetime.timezone") (.type "type") = pure false := by rw [isSubtype_type]; kernel_rfl
theorem kind_fu : builtinKind "datetime.timezone.fromutc" = some .method := by first | kernel_rfl | decide +kernel
theorem sig_fu {a b : Addr} : (match Manifest.signature? "datetime.timezone.fromutc" with | some sig => Bind.checkArgs "datetime.timezone.fromutc" { sig with full := toString (Bind.lastOf "datetime.timezone") ++ toString "." ++ toString (Bind.lastOf "datetime.timezone.fromutc") } ⟨[.ref a, .ref b], []⟩ | none => pure ()) = pure () := by first | kernel_rfl | rfl
theorem check_fu {a b zd : Addr} {Q : Unit → Shared → Prop} (ha : h.get? a = some (zoneObj zd)) (hq : Q () ⟨h, g, d, t, os⟩) :
    wpAny M A (checkBoundCall "datetime.timezone.fromutc" ⟨[.ref a, .ref b], []⟩) Q E ⟨h, g, d, t, os⟩ := by
  have hT : (⟨h, g, d, t, os⟩ : Shared).TypeIs (.ref a) "datetime.timezone" := ⟨_, ha, rfl⟩
  have a1 := sub_tz_module
  have a2 := sub_tz_type
  have hS := sig_fu (a := a) (b := b)
  have hv : Manifest.varargsMethods.contains "datetime.timezone.fromutc" = false := by decide +kernel
  unfold checkBoundCall
  cases hsig : Manifest.signature? "datetime.timezone.fromutc" with
  | none => exact wpAny_pure hq
  | some sig =>
    rw [hsig] at hS
    dsimp only at hS
    simp only [kind_fu]
    refine DT.ite_no (by decide) ?_
    refine wpAny_bind (wpAny_isInstance hT a1 ?_)
    simp only [hv, Bool.or_false]
    refine DT.ite_no (by decide) ?_
    repeat (any_goals (first | with_reducible assumption | with_reducible refine wpAny_load ha ?_ | with_reducible refine wpAny_bind ?_ | with_reducible refine wpAny_pure ?_ | with_reducible refine wpAny_holding ?_ | with_reducible refine wpAny_standAt ?_ | with_reducible refine wpAny_point ?_ | with_reducible refine wpAny_rule ?_ | with_reducible refine wpAny_letGo ?_ | with_reducible refine wpAny_mkInt' ?_ | with_reducible refine wpAny_fresh' ?_ | with_reducible refine wpAny_alloc' ?_ | with_reducible refine wpAny_attempt ?_ | with_reducible refine wpAny_throw ?_ | (with_reducible refine wpAny_mkStr' (hx := ?q9x) ?_; case q9x => size_fits) | with_reducible refine wpAny_of_eq (by assumption) ?_ | with_reducible refine wpAny_typeOf (by assumption) ?_ | with_reducible refine wpAny_specialOf_val (by assumption) (by assumption) ?_ | with_reducible refine wpAny_specialOf (by assumption) (by assumption) ?_ | with_reducible refine wpAny_isInstance_val (by assumption) (by assumption) ?_ | with_reducible refine wpAny_isInstance (by assumption) (by assumption) ?_ | with_reducible refine wpAny_call ?_ | with_reducible refine wpAny_runValue ?_ | with_reducible refine wpAny_run ?_ | (with_reducible refine' wpAny_load' ?_ ?_; focus ((first | with_reducible assumption | heap_get); done)) | (with_reducible refine' wpAny_update' ?_ ?_; focus ((first | with_reducible assumption | heap_get); done)) | (with_reducible refine' wpAny_loadPart' ?_ ?_; focus ((first | with_reducible assumption | heap_get); done)) | (with_reducible refine' wpAny_updatePart' ?_ ?_; focus ((first | with_reducible assumption | heap_get); done)) | with_reducible refine wpAny_handled_none (by assumption) ?_ | (with_reducible refine' wpAny_ite_false ?_ ?_; focus (rfl; done)) | (with_reducible refine' wpAny_ite_true ?_ ?_; focus (rfl; done)) | (with_reducible refine' wpAny_ite_false ?_ ?_; focus (simp [*]; done)) | (with_reducible refine' wpAny_ite_true ?_ ?_; focus (simp [*]; done)) | wp_delta | wp_step | assumption))
def stampOfObj (y mo d h mi sec : Int) (z : Addr) : Stamp := { y := y, mo := mo, d := d, c := { h := h, m := mi, s := sec, us := 0, tz := .ref z, fold := 0 } }
structure Round (y mo d h mi sec : Int) : Prop where
  lo : ¬ ((stampOfObj y mo d h mi sec 0).us + 0 < usPerDay)
  hi : ¬ ((stampOfObj y mo d h mi sec 0).us + 0 ≥ 3652060 * usPerDay)
  back : ∀ z : Addr, Stamp.ofUs ((stampOfObj y mo d h mi sec 0).us + 0) (.ref z) 0 = stampOfObj y mo d h mi sec z
theorem stampOf_ok {y mo da hh mi sec : Int} {z x : Addr} {Q : Stamp → Shared → Prop} (hx : h.get? x = some (stampObj y mo da hh mi sec z)) (hq : Q (stampOfObj y mo da hh mi sec z) ⟨h, g, d, t, os⟩) :
    wpAny M A (stampOf (.ref x)) Q E ⟨h, g, d, t, os⟩ := by
  have hT : (⟨h, g, d, t, os⟩ : Shared).TypeIs (.ref x) "datetime.datetime" := ⟨_, hx, rfl⟩
  have a1 := DF.sub_dt_dt
  repeat (any_goals (first | with_reducible assumption | with_reducible refine wpAny_load hx ?_ | with_reducible refine wpAny_bind ?_ | with_reducible refine wpAny_pure ?_ | with_reducible refine wpAny_holding ?_ | with_reducible refine wpAny_standAt ?_ | with_reducible refine wpAny_point ?_ | with_reducible refine wpAny_rule ?_ | with_reducible refine wpAny_letGo ?_ | with_reducible refine wpAny_mkInt' ?_ | with_reducible refine wpAny_fresh' ?_ | with_reducible refine wpAny_alloc' ?_ | with_reducible refine wpAny_attempt ?_ | with_reducible refine wpAny_throw ?_ | (with_reducible refine wpAny_mkStr' (hx := ?q9x) ?_; case q9x => size_fits) | with_reducible refine wpAny_of_eq (by assumption) ?_ | with_reducible refine wpAny_typeOf (by assumption) ?_ | with_reducible refine wpAny_specialOf_val (by assumption) (by assumption) ?_ | with_reducible refine wpAny_specialOf (by assumption) (by assumption) ?_ | with_reducible refine wpAny_isInstance_val (by assumption) (by assumption) ?_ | with_reducible refine wpAny_isInstance (by assumption) (by assumption) ?_ | with_reducible refine wpAny_call ?_ | with_reducible refine wpAny_runValue ?_ | with_reducible refine wpAny_run ?_ | (with_reducible refine' wpAny_load' ?_ ?_; focus ((first | with_reducible assumption | heap_get); done)) | (with_reducible refine' wpAny_update' ?_ ?_; focus ((first | with_reducible assumption | heap_get); done)) | (with_reducible refine' wpAny_loadPart' ?_ ?_; focus ((first | with_reducible assumption | heap_get); done)) | (with_reducible refine' wpAny_updatePart' ?_ ?_; focus ((first | with_reducible assumption | heap_get); done)) | with_reducible refine wpAny_handled_none (by assumption) ?_ | (with_reducible refine' wpAny_ite_false ?_ ?_; focus (rfl; done)) | (with_reducible refine' wpAny_ite_true ?_ ?_; focus (rfl; done)) | (with_reducible refine' wpAny_ite_false ?_ ?_; focus (simp [*]; done)) | (with_reducible refine' wpAny_ite_true ?_ ?_; focus (simp [*]; done)) | wp_delta | wp_step | assumption))
theorem moved_ok {y mo da hh mi sec : Int} {z x zd : Addr} {Q : Value → Shared → Prop} (G : Good y mo da hh mi sec) (R : Round y mo da hh mi sec) (hx : h.get? x = some (stampObj y mo da hh mi sec z)) (hz : h.get? z = some (zoneObj zd))
    (hq : Q (.ref h.objs.size) ⟨h.push (stampObj y mo da hh mi sec z), g, d, t, os⟩) :
    wpAny M A (movedStamp (.ref x) 0) Q E ⟨h, g, d, t, os⟩ := by
  have hT : (⟨h, g, d, t, os⟩ : Shared).TypeIs (.ref x) "datetime.datetime" := ⟨_, hx, rfl⟩
  have lo := R.lo
  have hi := R.hi
  have hu : (stampOfObj y mo da hh mi sec z).us = (stampOfObj y mo da hh mi sec 0).us := rfl
  unfold movedStamp
  refine wpAny_bind (stampOf_ok hx ?_)
  rw [hu]
  have e1 : (decide ((stampOfObj y mo da hh mi sec 0).us + 0 < usPerDay) || decide ((stampOfObj y mo da hh mi sec 0).us + 0 ≥ 3652060 * usPerDay)) = false := by simp only [lo, hi, decide_false, Bool.or_false]
  show wpAny _ _ (if (decide ((stampOfObj y mo da hh mi sec 0).us + 0 < usPerDay) || decide ((stampOfObj y mo da hh mi sec 0).us + 0 ≥ 3652060 * usPerDay)) = true then _ else _) _ _ _
  refine KFB.if_not e1 ?_
  refine wpAny_bind (wpAny_typeOf hT ?_)
  show wpAny _ _ (newStampOf (.type "datetime.datetime") (Stamp.ofUs ((stampOfObj y mo da hh mi sec 0).us + 0) (.ref z) 0)) _ _ _
  rw [R.back z]
  exact newStamp_ok G hz rfl hq
theorem moved_k {y mo da hh mi sec k : Int} {z x zd : Addr} {Q : Value → Shared → Prop} (G : Good y mo da hh mi sec) (R : Round y mo da hh mi sec) (hx : h.get? x = some (stampObj y mo da hh mi sec z)) (hz : h.get? z = some (zoneObj zd))
    (hk : k = 0) (hq : Q (.ref h.objs.size) ⟨h.push (stampObj y mo da hh mi sec z), g, d, t, os⟩) :
    wpAny M A (movedStamp (.ref x) k) Q E ⟨h, g, d, t, os⟩ := by
  subst hk
  exact moved_ok G R hx hz hq
theorem tree_add {y mo da hh mi sec : Int} {z x zd : Addr} {P : Fin → Shared → Prop} (G : Good y mo da hh mi sec) (R : Round y mo da hh mi sec) (hx : h.get? x = some (stampObj y mo da hh mi sec z)) (hz : h.get? z = some (zoneObj zd)) (hzd : h.get? zd = some deltaObj)
    (hq : P (.done (.ret (.ref h.objs.size))) ⟨h.push (stampObj y mo da hh mi sec z), g, d, t, os⟩) :
    wpAny M A (Builtin.«datetime.datetime.__add__» ⟨[.ref x, .ref zd], []⟩) P E ⟨h, g, d, t, os⟩ := by
  have hT : (⟨h, g, d, t, os⟩ : Shared).TypeIs (.ref x) "datetime.datetime" := ⟨_, hx, rfl⟩
  have hT2 : (⟨h, g, d, t, os⟩ : Shared).TypeIs (.ref zd) "datetime.timedelta" := ⟨_, hzd, rfl⟩
  have a1 := DF.sub_dt_dt
  have a2 := sub_td_td
  repeat (any_goals (first | with_reducible assumption | with_reducible refine moved_k G R hx hz (by with_unfolding_all rfl) ?_ | with_reducible refine wpAny_load hzd ?_ | with_reducible refine wpAny_bind ?_ | with_reducible refine wpAny_pure ?_ | with_reducible refine wpAny_holding ?_ | with_reducible refine wpAny_standAt ?_ | with_reducible refine wpAny_point ?_ | with_reducible refine wpAny_rule ?_ | with_reducible refine wpAny_letGo ?_ | with_reducible refine wpAny_mkInt' ?_ | with_reducible refine wpAny_fresh' ?_ | with_reducible refine wpAny_alloc' ?_ | with_reducible refine wpAny_attempt ?_ | with_reducible refine wpAny_throw ?_ | (with_reducible refine wpAny_mkStr' (hx := ?q9x) ?_; case q9x => size_fits) | with_reducible refine wpAny_of_eq (by assumption) ?_ | with_reducible refine wpAny_typeOf (by assumption) ?_ | with_reducible refine wpAny_specialOf_val (by assumption) (by assumption) ?_ | with_reducible refine wpAny_specialOf (by assumption) (by assumption) ?_ | with_reducible refine wpAny_isInstance_val (by assumption) (by assumption) ?_ | with_reducible refine wpAny_isInstance (by assumption) (by assumption) ?_ | with_reducible refine wpAny_call ?_ | with_reducible refine wpAny_runValue ?_ | with_reducible refine wpAny_run ?_ | (with_reducible refine' wpAny_load' ?_ ?_; focus ((first | with_reducible assumption | heap_get); done)) | (with_reducible refine' wpAny_update' ?_ ?_; focus ((first | with_reducible assumption | heap_get); done)) | (with_reducible refine' wpAny_loadPart' ?_ ?_; focus ((first | with_reducible assumption | heap_get); done)) | (with_reducible refine' wpAny_updatePart' ?_ ?_; focus ((first | with_reducible assumption | heap_get); done)) | with_reducible refine wpAny_handled_none (by assumption) ?_ | (with_reducible refine' wpAny_ite_false ?_ ?_; focus (rfl; done)) | (with_reducible refine' wpAny_ite_true ?_ ?_; focus (rfl; done)) | (with_reducible refine' wpAny_ite_false ?_ ?_; focus (simp [*]; done)) | (with_reducible refine' wpAny_ite_true ?_ ?_; focus (simp [*]; done)) | wp_delta | wp_step | assumption))
theorem tree_fu {y mo da hh mi sec : Int} {z x zd : Addr} {P : Fin → Shared → Prop} (hx : h.get? x = some (stampObj y mo da hh mi sec z)) (hz : h.get? z = some (zoneObj zd))
    (hq : P (.again (.builtin "datetime.datetime.__add__" ⟨[.ref x, .ref zd], []⟩)) ⟨h, g, d, t, os⟩) :
    wpAny M A (Builtin.«datetime.timezone.fromutc» ⟨[.ref z, .ref x], []⟩) P E ⟨h, g, d, t, os⟩ := by
  have hT : (⟨h, g, d, t, os⟩ : Shared).TypeIs (.ref x) "datetime.datetime" := ⟨_, hx, rfl⟩
  have a1 := DF.sub_dt_dt
  have e1 : (Value.ref z != Value.ref z) = false := by simp
  repeat (any_goals (first | with_reducible assumption | with_reducible refine wpAny_load hx ?_ | with_reducible refine wpAny_load hz ?_ | with_reducible refine wpAny_bind ?_ | with_reducible refine wpAny_pure ?_ | with_reducible refine wpAny_holding ?_ | with_reducible refine wpAny_standAt ?_ | with_reducible refine wpAny_point ?_ | with_reducible refine wpAny_rule ?_ | with_reducible refine wpAny_letGo ?_ | with_reducible refine wpAny_mkInt' ?_ | with_reducible refine wpAny_fresh' ?_ | with_reducible refine wpAny_alloc' ?_ | with_reducible refine wpAny_attempt ?_ | with_reducible refine wpAny_throw ?_ | (with_reducible refine wpAny_mkStr' (hx := ?q9x) ?_; case q9x => size_fits) | with_reducible refine wpAny_of_eq (by assumption) ?_ | with_reducible refine wpAny_typeOf (by assumption) ?_ | with_reducible refine wpAny_specialOf_val (by assumption) (by assumption) ?_ | with_reducible refine wpAny_specialOf (by assumption) (by assumption) ?_ | with_reducible refine wpAny_isInstance_val (by assumption) (by assumption) ?_ | with_reducible refine wpAny_isInstance (by assumption) (by assumption) ?_ | with_reducible refine wpAny_call ?_ | with_reducible refine wpAny_runValue ?_ | with_reducible refine wpAny_run ?_ | (with_reducible refine' wpAny_load' ?_ ?_; focus ((first | with_reducible assumption | heap_get); done)) | (with_reducible refine' wpAny_update' ?_ ?_; focus ((first | with_reducible assumption | heap_get); done)) | (with_reducible refine' wpAny_loadPart' ?_ ?_; focus ((first | with_reducible assumption | heap_get); done)) | (with_reducible refine' wpAny_updatePart' ?_ ?_; focus ((first | with_reducible assumption | heap_get); done)) | with_reducible refine wpAny_handled_none (by assumption) ?_ | (with_reducible refine' wpAny_ite_false ?_ ?_; focus (rfl; done)) | (with_reducible refine' wpAny_ite_true ?_ ?_; focus (rfl; done)) | (with_reducible refine' wpAny_ite_false ?_ ?_; focus (simp [*]; done)) | (with_reducible refine' wpAny_ite_true ?_ ?_; focus (simp [*]; done)) | wp_delta | wp_step | assumption))
end
end DZ
end DT5s
noncomputable section DT6s
set_option linter.unusedVariables false
namespace DZ
open Builtin._datetime
section
variable {prog : Program} {w : World} {M : Model} {A : Around} {E : Value → Shared → Prop} {h : Heap} {g : Array GenState} {d : Drawn} {t : Nat} {os : OsState}
theorem code_fu {y mo da hh mi sec : Int} {z x zd b : Addr} {Q : Result → Shared → Prop} (G : Good y mo da hh mi sec) (R : Round y mo da hh mi sec) (hb : h.get? b = some (boundZ z)) (hx : h.get? x = some (stampObj y mo da hh mi sec z)) (hz : h.get? z = some (zoneObj zd)) (hzd : h.get? zd = some deltaObj)
    (hq : Q (.ok (.ret (.ref h.objs.size))) ⟨h.push (stampObj y mo da hh mi sec z), g, d, t, os⟩) :
    codeAny (model prog w) A (.call (.ref b) ⟨[.ref x], []⟩) Q ⟨h, g, d, t, os⟩ := by
  refine codeAny_of_tree ?_
  show wpAny _ A.in1 (callAny (.ref b) ⟨[.ref x], []⟩) _ _ _
  simp only [callAny]
  refine wpAny_bind (wpAny_load hb ?_)
  simp only [boundZ, show (Value.type "builtin_function_or_method" == Value.type "method" || Value.type "builtin_function_or_method" == Value.type "builtin_function_or_method" || Value.type "builtin_function_or_method" == Value.type "method-wrapper") = true by decide, if_true]
  refine KFB.if_so (by decide) ?_
  refine wpAny_bind (check_fu hz ?_)
  refine wpAny_bind (wpAny_pure (wpAny_pure ?_))
  exact ⟨quiet_fu, codeAny_builtin entry_fu (tree_fu hx hz ⟨quiet_add, codeAny_builtin entry_add (tree_add G R hx hz hzd hq)⟩)⟩
theorem asFloat_int (n : Int) (tk : Tok) : Builtin.Float.asFloat? (.int n tk) = pure none := by first | rfl | kernel_rfl
theorem bind_ft (n : Int) (tk : Tok) (z : Addr) : dtBind "datetime.datetime.fromtimestamp" "fromtimestamp()" ["timestamp", "tz"] 1 [.int n tk] [(Str.ofString "tz", .ref z)] = pure [some (.int n tk), some (.ref z)] := by first | rfl | kernel_rfl
theorem tree_ft {n y mo da hh mi sec wd yd : Int} {tk : Tok} {z zd : Addr} {P : Fin → Shared → Prop} (G : Good y mo da hh mi sec) (R : Round y mo da hh mi sec) (hn1 : 0 ≤ n) (hn2 : n < 2 ^ 60)
    (hb : Builtin.Time.timeBroken n 0 = (y, [mo, da, hh, mi, sec, wd, yd])) (hz : h.get? z = some (zoneObj zd)) (hzd : h.get? zd = some deltaObj)
    (hq : ∀ h1 h2, h1 = h.push (stampObj y mo da hh mi sec z) → h2 = h1.push (boundZ z) → P (.done (.ret (.ref h2.objs.size))) ⟨h2.push (stampObj y mo da hh mi sec z), g, d, t + 1, os⟩) :
    wpAny (model prog w) A (Builtin.«datetime.datetime.fromtimestamp» ⟨[.type "datetime.datetime", .int n tk], [(Str.ofString "tz", .ref z)]⟩) P E ⟨h, g, d, t, os⟩ := by
  have a1 := DF.isType_dt
  have a2 := bind_ft n tk z
  have a3 := asFloat_int n tk
  have e1 : (decide (n < -(2 ^ 63 : Int)) || decide (n ≥ 2 ^ 63)) = false := by simp; omega
  have a4 : isSubtype (zoneObj zd).cls (.type "datetime.tzinfo") = pure true := sub_tz_tzinfo
  have e2 : (Value.ref z != Value.none) = true := rfl
  have e3 : (Value.ref z == Value.none) = false := rfl
  have z1 : (h.push (stampObj y mo da hh mi sec z)).get? z = some (zoneObj zd) := Heap.get?_push_of_some _ hz
  unfold Builtin.«datetime.datetime.fromtimestamp»
  repeat (any_goals (first | with_reducible assumption | with_reducible refine KFB.if_not e1 ?_ | ((with_reducible show wpAny _ _ (stampAtMoment _ _ _ _ _) _ _ _); refine stampAt_ok G hb hz rfl ?_) | ((with_reducible show wpAny _ _ (getAttr _ _ _) _ _ _); refine getAttr_fromutc z1 ?_) | with_reducible refine wpAny_bind ?_ | with_reducible refine wpAny_pure ?_ | with_reducible refine wpAny_holding ?_ | with_reducible refine wpAny_standAt ?_ | with_reducible refine wpAny_point ?_ | with_reducible refine wpAny_rule ?_ | with_reducible refine wpAny_letGo ?_ | with_reducible refine wpAny_mkInt' ?_ | with_reducible refine wpAny_fresh' ?_ | with_reducible refine wpAny_alloc' ?_ | with_reducible refine wpAny_attempt ?_ | with_reducible refine wpAny_throw ?_ | (with_reducible refine wpAny_mkStr' (hx := ?q9x) ?_; case q9x => size_fits) | with_reducible refine wpAny_of_eq (by assumption) ?_ | with_reducible refine wpAny_typeOf (by assumption) ?_ | with_reducible refine wpAny_specialOf_val (by assumption) (by assumption) ?_ | with_reducible refine wpAny_specialOf (by assumption) (by assumption) ?_ | with_reducible refine wpAny_isInstance_val (by assumption) (by assumption) ?_ | with_reducible refine wpAny_isInstance (by assumption) (by assumption) ?_ | with_reducible refine wpAny_call ?_ | with_reducible refine wpAny_runValue ?_ | with_reducible refine wpAny_run ?_ | (with_reducible refine' wpAny_load' ?_ ?_; focus ((first | with_reducible assumption | heap_get); done)) | (with_reducible refine' wpAny_update' ?_ ?_; focus ((first | with_reducible assumption | heap_get); done)) | (with_reducible refine' wpAny_loadPart' ?_ ?_; focus ((first | with_reducible assumption | heap_get); done)) | (with_reducible refine' wpAny_updatePart' ?_ ?_; focus ((first | with_reducible assumption | heap_get); done)) | with_reducible refine wpAny_handled_none (by assumption) ?_ | (with_reducible refine' wpAny_ite_false ?_ ?_; focus (rfl; done)) | (with_reducible refine' wpAny_ite_true ?_ ?_; focus (rfl; done)) | (with_reducible refine' wpAny_ite_false ?_ ?_; focus (simp [*]; done)) | (with_reducible refine' wpAny_ite_true ?_ ?_; focus (simp [*]; done)) | wp_delta | wp_step | assumption))
  refine code_fu (z := z) (zd := zd) G R ?b1 ?b2 ?b3 ?b4 ?_
  case b1 => exact Heap.get?_push_size _ rfl
  case b2 => exact Heap.get?_push_of_some _ (Heap.get?_push_size _ rfl)
  case b3 => exact Heap.get?_push_of_some _ z1
  case b4 => exact Heap.get?_push_of_some _ (Heap.get?_push_of_some _ hzd)
  exact wpAny_pure (hq _ _ rfl rfl)
theorem check_ft {n : Int} {tk : Tok} {z : Addr} : checkBoundCall "datetime.datetime.fromtimestamp" ⟨[.type "datetime.datetime", .int n tk], [(Str.ofString "tz", .ref z)]⟩ = pure () := by first | kernel_rfl | rfl
structure Civil (n y mo da hh mi sec : Int) : Prop where
  good : Good y mo da hh mi sec
  round : Round y mo da hh mi sec
  n1 : 0 ≤ n
  n2 : n < 2 ^ 60
  brk : ∃ wd yd, Builtin.Time.timeBroken n 0 = (y, [mo, da, hh, mi, sec, wd, yd])
theorem call_ft {s : Shared} {K : Frag} {h₀ : Heap} {L : Addr} {m : PySem.Str → Option Value} {news : List (Addr × Obj)} {n y mo da hh mi sec : Int} {tk : Tok} {x z zd : Addr} {Q : Value → Shared → Prop} (F : Fr h₀ L s.heap m) (N : News h₀ L s.heap news) (X₀ : K.In h₀)
    (C : Civil n y mo da hh mi sec) (hx : (x, DF.bound) ∈ news) (hz : K.lookup z = some (zoneObj zd)) (hzd : K.lookup zd = some deltaObj)
    (hq : ∀ D h', Fr h₀ L h' m → News h₀ L h' ((D, stampObj y mo da hh mi sec z) :: news) → (∀ p ∈ news, p.1 < D) → Q (.ref D) { s with heap := h', toks := s.toks + 1 }) :
    wpAny (model prog w) A (call (.ref x) [.int n tk] [(Str.ofString "tz", .ref z)]) Q E s := by
  have X := X₀.keeps F.keep
  obtain ⟨hh', g, d, t, os⟩ := s
  obtain ⟨wd, yd, hb⟩ := C.brk
  have ho : hh'.get? x = some DF.bound := N.get hx
  refine wpAny_call (codeAny_of_tree ?_)
  show wpAny _ A.in1 (callAny (.ref x) ⟨[.int n tk], [(Str.ofString "tz", .ref z)]⟩) _ _ _
  simp only [callAny]
  refine wpAny_bind (wpAny_load ho ?_)
  simp only [DF.bound, show (Value.type "builtin_function_or_method" == Value.type "method" || Value.type "builtin_function_or_method" == Value.type "builtin_function_or_method" || Value.type "builtin_function_or_method" == Value.type "method-wrapper") = true by decide, if_true]
  refine KFB.if_so (by decide) ?_
  refine wpAny_bind (wpAny_of_eq (a := ()) check_ft ?_)
  refine wpAny_bind (wpAny_pure (wpAny_pure ?_))
  refine ⟨DF.quiet_fb, codeAny_builtin DF.entry_fb (tree_ft C.good C.round C.n1 C.n2 hb (X _ _ hz) (X _ _ hzd) ?_)⟩
  intro h1 h2 e1 e2
  subst e1 e2
  have F2 := (F.push (stampObj y mo da hh mi sec z)).push (boundZ z)
  have N1 := News.push F2 (N.grown fun _ _ e => Heap.get?_push_of_some _ (Heap.get?_push_of_some _ e)) (stampObj y mo da hh mi sec z)
  exact hq _ _ (F2.push _) N1 fun p hp => by
    rw [Heap.size_push, Heap.size_push]
    exact Nat.lt_succ_of_lt (Nat.lt_succ_of_lt (Heap.lt_size (N p hp).1))
end
end DZ
end DT6s
noncomputable section DT7s
set_option linter.unusedVariables false
namespace DZ
open Builtin._datetime
theorem slot_dt_ga : Slot "datetime.datetime" "__getattribute__" "object.__getattribute__" :=
  .of (owner := "object") (n := "__getattribute__") (by rw [typeLookup_type, builtinLookup_eq_fast]; kernel_rfl) (by decide +kernel) (by decide +kernel) (by decide +kernel)
    (by first | exact .inl (by decide +kernel) | exact .inr (by decide +kernel)) (by rw [isSubtype_type]; kernel_rfl)

section
variable {prog : Program} {w : World} {M : Model} {A : Around} {E : Value → Shared → Prop} {h : Heap} {g : Array GenState} {d : Drawn} {t : Nat} {os : OsState} {y mo da hh mi sec val : Int} {x z : Addr} {nm : Str} {idn : String}
theorem ga_gen {tk : Tok} {Q : Fin → Shared → Prop} (f4 : typeLookup (.type "datetime.datetime") nm = pure (some (.builtin idn))) (f5 : typeOf (.builtin idn) = pure (.type "getset_descriptor"))
    (hget : ∀ {R : Result → Shared → Prop}, R (.ok (.ret (.int val t))) ⟨h, g, d, t + 1, os⟩ → codeAny (model prog w) A (.call (.builtin "getset_descriptor.__get__") ⟨[.builtin idn, .ref x, .type "datetime.datetime"], []⟩) R ⟨h, g, d, t, os⟩)
    (hx : h.get? x = some (stampObj y mo da hh mi sec z)) (hq : Q (.done (.ret (.int val t))) ⟨h, g, d, t + 1, os⟩) :
    wpAny (model prog w) A (Builtin.«object.__getattribute__» ⟨[.ref x, .str nm tk], []⟩) Q E ⟨h, g, d, t, os⟩ := by
  have hT : (⟨h, g, d, t, os⟩ : Shared).TypeIs (.ref x) "datetime.datetime" := ⟨_, hx, rfl⟩
  have hT5 : (⟨h, g, d, t, os⟩ : Shared).TypeIs (.builtin idn) "getset_descriptor" := f5
  have f6 := F.slot_gs_get.lookup
  have f7 := F.slot_gs_set.lookup
  repeat (any_goals (first | with_reducible assumption | with_reducible refine wpAny_bind ?_ | with_reducible refine wpAny_pure ?_ | with_reducible refine wpAny_holding ?_ | with_reducible refine wpAny_standAt ?_ | with_reducible refine wpAny_point ?_ | with_reducible refine wpAny_rule ?_ | with_reducible refine wpAny_letGo ?_ | with_reducible refine wpAny_mkInt' ?_ | with_reducible refine wpAny_fresh' ?_ | with_reducible refine wpAny_alloc' ?_ | with_reducible refine wpAny_attempt ?_ | with_reducible refine wpAny_throw ?_ | (with_reducible refine wpAny_mkStr' (hx := ?q9x) ?_; case q9x => size_fits) | with_reducible refine wpAny_of_eq (by assumption) ?_ | with_reducible refine wpAny_typeOf (by assumption) ?_ | with_reducible refine wpAny_specialOf_val (by assumption) (by assumption) ?_ | with_reducible refine wpAny_specialOf (by assumption) (by assumption) ?_ | with_reducible refine wpAny_isInstance_val (by assumption) (by assumption) ?_ | with_reducible refine wpAny_isInstance (by assumption) (by assumption) ?_ | with_reducible refine wpAny_call ?_ | with_reducible refine wpAny_runValue ?_ | with_reducible refine wpAny_run ?_ | (with_reducible refine' wpAny_load' ?_ ?_; focus ((first | with_reducible assumption | heap_get); done)) | (with_reducible refine' wpAny_update' ?_ ?_; focus ((first | with_reducible assumption | heap_get); done)) | (with_reducible refine' wpAny_loadPart' ?_ ?_; focus ((first | with_reducible assumption | heap_get); done)) | (with_reducible refine' wpAny_updatePart' ?_ ?_; focus ((first | with_reducible assumption | heap_get); done)) | with_reducible refine wpAny_handled_none (by assumption) ?_ | (with_reducible refine' wpAny_ite_false ?_ ?_; focus (rfl; done)) | (with_reducible refine' wpAny_ite_true ?_ ?_; focus (rfl; done)) | (with_reducible refine' wpAny_ite_false ?_ ?_; focus (simp [*]; done)) | (with_reducible refine' wpAny_ite_true ?_ ?_; focus (simp [*]; done)) | wp_delta | wp_step | assumption))
  refine hget ?_
  repeat (any_goals (first | with_reducible assumption | with_reducible refine wpAny_bind ?_ | with_reducible refine wpAny_pure ?_ | with_reducible refine wpAny_holding ?_ | with_reducible refine wpAny_standAt ?_ | with_reducible refine wpAny_point ?_ | with_reducible refine wpAny_rule ?_ | with_reducible refine wpAny_letGo ?_ | with_reducible refine wpAny_mkInt' ?_ | with_reducible refine wpAny_fresh' ?_ | with_reducible refine wpAny_alloc' ?_ | with_reducible refine wpAny_attempt ?_ | with_reducible refine wpAny_throw ?_ | (with_reducible refine wpAny_mkStr' (hx := ?q9x) ?_; case q9x => size_fits) | with_reducible refine wpAny_of_eq (by assumption) ?_ | with_reducible refine wpAny_typeOf (by assumption) ?_ | with_reducible refine wpAny_specialOf_val (by assumption) (by assumption) ?_ | with_reducible refine wpAny_specialOf (by assumption) (by assumption) ?_ | with_reducible refine wpAny_isInstance_val (by assumption) (by assumption) ?_ | with_reducible refine wpAny_isInstance (by assumption) (by assumption) ?_ | with_reducible refine wpAny_call ?_ | with_reducible refine wpAny_runValue ?_ | with_reducible refine wpAny_run ?_ | (with_reducible refine' wpAny_load' ?_ ?_; focus ((first | with_reducible assumption | heap_get); done)) | (with_reducible refine' wpAny_update' ?_ ?_; focus ((first | with_reducible assumption | heap_get); done)) | (with_reducible refine' wpAny_loadPart' ?_ ?_; focus ((first | with_reducible assumption | heap_get); done)) | (with_reducible refine' wpAny_updatePart' ?_ ?_; focus ((first | with_reducible assumption | heap_get); done)) | with_reducible refine wpAny_handled_none (by assumption) ?_ | (with_reducible refine' wpAny_ite_false ?_ ?_; focus (rfl; done)) | (with_reducible refine' wpAny_ite_true ?_ ?_; focus (rfl; done)) | (with_reducible refine' wpAny_ite_false ?_ ?_; focus (simp [*]; done)) | (with_reducible refine' wpAny_ite_true ?_ ?_; focus (simp [*]; done)) | wp_delta | wp_step | assumption))
theorem getAttr_gen {s : Shared} {Q : Value → Shared → Prop} {b : Bool} (hx : s.heap.get? x = some (stampObj y mo da hh mi sec z))
    (hcall : ∀ {tk : Tok} {R : Result → Shared → Prop} {k : Nat}, R (.ok (.ret (.int val k))) { s with toks := k + 1 } → codeAny (model prog w) A (.call (.builtin "object.__getattribute__") ⟨[.ref x, .str nm tk], []⟩) R { s with toks := k })
    (hq : ∀ u k, Q (.int val u) { s with toks := k }) :
    wpAny (model prog w) A (getAttr (.ref x) nm b) Q E s := by
  obtain ⟨h, g, d, t, os⟩ := s
  have hT : (⟨h, g, d, t, os⟩ : Shared).TypeIs (.ref x) "datetime.datetime" := ⟨_, hx, rfl⟩
  have hT1 : (⟨h, g, d, t + 1, os⟩ : Shared).TypeIs (.ref x) "datetime.datetime" := ⟨_, hx, rfl⟩
  have f2 := slot_dt_ga.lookup
  have f3 := slot_dt_ga.bind (.ref x)
  have f9 : (b && onTheHeap (Value.builtin "object.__getattribute__")) = false := Bool.and_false _
  repeat (any_goals (first | with_reducible assumption | with_reducible refine wpAny_bind ?_ | with_reducible refine wpAny_pure ?_ | with_reducible refine wpAny_holding ?_ | with_reducible refine wpAny_standAt ?_ | with_reducible refine wpAny_point ?_ | with_reducible refine wpAny_rule ?_ | with_reducible refine wpAny_letGo ?_ | with_reducible refine wpAny_mkInt' ?_ | with_reducible refine wpAny_fresh' ?_ | with_reducible refine wpAny_alloc' ?_ | with_reducible refine wpAny_attempt ?_ | with_reducible refine wpAny_throw ?_ | (with_reducible refine wpAny_mkStr' (hx := ?q9x) ?_; case q9x => size_fits) | with_reducible refine wpAny_of_eq (by assumption) ?_ | with_reducible refine wpAny_typeOf (by assumption) ?_ | with_reducible refine wpAny_specialOf_val (by assumption) (by assumption) ?_ | with_reducible refine wpAny_specialOf (by assumption) (by assumption) ?_ | with_reducible refine wpAny_isInstance_val (by assumption) (by assumption) ?_ | with_reducible refine wpAny_isInstance (by assumption) (by assumption) ?_ | with_reducible refine wpAny_call ?_ | with_reducible refine wpAny_runValue ?_ | with_reducible refine wpAny_run ?_ | (with_reducible refine' wpAny_load' ?_ ?_; focus ((first | with_reducible assumption | heap_get); done)) | (with_reducible refine' wpAny_update' ?_ ?_; focus ((first | with_reducible assumption | heap_get); done)) | (with_reducible refine' wpAny_loadPart' ?_ ?_; focus ((first | with_reducible assumption | heap_get); done)) | (with_reducible refine' wpAny_updatePart' ?_ ?_; focus ((first | with_reducible assumption | heap_get); done)) | with_reducible refine wpAny_handled_none (by assumption) ?_ | (with_reducible refine' wpAny_ite_false ?_ ?_; focus (rfl; done)) | (with_reducible refine' wpAny_ite_true ?_ ?_; focus (rfl; done)) | (with_reducible refine' wpAny_ite_false ?_ ?_; focus (simp [*]; done)) | (with_reducible refine' wpAny_ite_true ?_ ?_; focus (simp [*]; done)) | wp_delta | wp_step | assumption))
  refine hcall ?_
  repeat (any_goals (first | exact hq _ _ | with_reducible assumption | with_reducible refine wpAny_bind ?_ | with_reducible refine wpAny_pure ?_ | with_reducible refine wpAny_holding ?_ | with_reducible refine wpAny_standAt ?_ | with_reducible refine wpAny_point ?_ | with_reducible refine wpAny_rule ?_ | with_reducible refine wpAny_letGo ?_ | with_reducible refine wpAny_mkInt' ?_ | with_reducible refine wpAny_fresh' ?_ | with_reducible refine wpAny_alloc' ?_ | with_reducible refine wpAny_attempt ?_ | with_reducible refine wpAny_throw ?_ | (with_reducible refine wpAny_mkStr' (hx := ?q9x) ?_; case q9x => size_fits) | with_reducible refine wpAny_of_eq (by assumption) ?_ | with_reducible refine wpAny_typeOf (by assumption) ?_ | with_reducible refine wpAny_specialOf_val (by assumption) (by assumption) ?_ | with_reducible refine wpAny_specialOf (by assumption) (by assumption) ?_ | with_reducible refine wpAny_isInstance_val (by assumption) (by assumption) ?_ | with_reducible refine wpAny_isInstance (by assumption) (by assumption) ?_ | with_reducible refine wpAny_call ?_ | with_reducible refine wpAny_runValue ?_ | with_reducible refine wpAny_run ?_ | (with_reducible refine' wpAny_load' ?_ ?_; focus ((first | with_reducible assumption | heap_get); done)) | (with_reducible refine' wpAny_update' ?_ ?_; focus ((first | with_reducible assumption | heap_get); done)) | (with_reducible refine' wpAny_loadPart' ?_ ?_; focus ((first | with_reducible assumption | heap_get); done)) | (with_reducible refine' wpAny_updatePart' ?_ ?_; focus ((first | with_reducible assumption | heap_get); done)) | with_reducible refine wpAny_handled_none (by assumption) ?_ | (with_reducible refine' wpAny_ite_false ?_ ?_; focus (rfl; done)) | (with_reducible refine' wpAny_ite_true ?_ ?_; focus (rfl; done)) | (with_reducible refine' wpAny_ite_false ?_ ?_; focus (simp [*]; done)) | (with_reducible refine' wpAny_ite_true ?_ ?_; focus (simp [*]; done)) | wp_delta | wp_step | assumption))
end

theorem lk_year : typeLookup (.type "datetime.datetime") "year" = pure (some (.builtin "datetime.date.year")) := by rw [typeLookup_type, builtinLookup_eq_fast]; kernel_rfl
theorem ty_year : typeOf (.builtin "datetime.date.year") = pure (.type "getset_descriptor") := by show builtinType _ = _; rw [builtinType_eq_fast]; kernel_rfl
theorem cut_year : (".".intercalate ("datetime.date.year".cutAt '.').dropLast) = "datetime.date" := by
  have e0 : "datetime.date.year".cutAt '.' = ["datetime", "date", "year"] := by first | rfl | decide +kernel
  rw [e0]; decide +kernel
theorem sub_year : isSubtype (.type "datetime.datetime") (.type (".".intercalate ("datetime.date.year".cutAt '.').dropLast)) = pure true := by rw [cut_year, isSubtype_type]; kernel_rfl
theorem entry_year : entryFor table "datetime.date.year" = some Builtin.«datetime.date.year» := entryFor_of_tree (by kernel_rfl)
section
variable {prog : Program} {w : World} {M : Model} {A : Around} {E : Value → Shared → Prop} {h : Heap} {g : Array GenState} {d : Drawn} {t : Nat} {os : OsState} {y mo da hh mi sec : Int} {x z : Addr}
theorem get_year {R : Result → Shared → Prop} (hx : h.get? x = some (stampObj y mo da hh mi sec z)) (hq : R (.ok (.ret (.int y t))) ⟨h, g, d, t + 1, os⟩) :
    codeAny (model prog w) A (.call (.builtin "getset_descriptor.__get__") ⟨[.builtin "datetime.date.year", .ref x, .type "datetime.datetime"], []⟩) R ⟨h, g, d, t, os⟩ := by
  have hT : (⟨h, g, d, t, os⟩ : Shared).TypeIs (.ref x) "datetime.datetime" := ⟨_, hx, rfl⟩
  have hT5 : (⟨h, g, d, t, os⟩ : Shared).TypeIs (.builtin "datetime.date.year") "getset_descriptor" := ty_year
  have f8 := sub_year
  refine codeAny_call_builtin F.slot_gs_get.plain F.entry_gs_get (F.slot_gs_get.check _ _ _ _ _ _ _ _ hT5 (F.args_gs_get _ _ _) ?_)
  repeat (any_goals (first | with_reducible assumption | with_reducible refine wpAny_bind ?_ | with_reducible refine wpAny_pure ?_ | with_reducible refine wpAny_holding ?_ | with_reducible refine wpAny_standAt ?_ | with_reducible refine wpAny_point ?_ | with_reducible refine wpAny_rule ?_ | with_reducible refine wpAny_letGo ?_ | with_reducible refine wpAny_mkInt' ?_ | with_reducible refine wpAny_fresh' ?_ | with_reducible refine wpAny_alloc' ?_ | with_reducible refine wpAny_attempt ?_ | with_reducible refine wpAny_throw ?_ | (with_reducible refine wpAny_mkStr' (hx := ?q9x) ?_; case q9x => size_fits) | with_reducible refine wpAny_of_eq (by assumption) ?_ | with_reducible refine wpAny_typeOf (by assumption) ?_ | with_reducible refine wpAny_specialOf_val (by assumption) (by assumption) ?_ | with_reducible refine wpAny_specialOf (by assumption) (by assumption) ?_ | with_reducible refine wpAny_isInstance_val (by assumption) (by assumption) ?_ | with_reducible refine wpAny_isInstance (by assumption) (by assumption) ?_ | with_reducible refine wpAny_call ?_ | with_reducible refine wpAny_runValue ?_ | with_reducible refine wpAny_run ?_ | (with_reducible refine' wpAny_load' ?_ ?_; focus ((first | with_reducible assumption | heap_get); done)) | (with_reducible refine' wpAny_update' ?_ ?_; focus ((first | with_reducible assumption | heap_get); done)) | (with_reducible refine' wpAny_loadPart' ?_ ?_; focus ((first | with_reducible assumption | heap_get); done)) | (with_reducible refine' wpAny_updatePart' ?_ ?_; focus ((first | with_reducible assumption | heap_get); done)) | with_reducible refine wpAny_handled_none (by assumption) ?_ | (with_reducible refine' wpAny_ite_false ?_ ?_; focus (rfl; done)) | (with_reducible refine' wpAny_ite_true ?_ ?_; focus (rfl; done)) | (with_reducible refine' wpAny_ite_false ?_ ?_; focus (simp [*]; done)) | (with_reducible refine' wpAny_ite_true ?_ ?_; focus (simp [*]; done)) | wp_delta | wp_step | assumption))
  refine ⟨Code.quiet_builtin _ (by decide +kernel), codeAny_builtin entry_year ?_⟩
  repeat (any_goals (first | with_reducible assumption | with_reducible refine wpAny_load hx ?_ | with_reducible refine wpAny_bind ?_ | with_reducible refine wpAny_pure ?_ | with_reducible refine wpAny_holding ?_ | with_reducible refine wpAny_standAt ?_ | with_reducible refine wpAny_point ?_ | with_reducible refine wpAny_rule ?_ | with_reducible refine wpAny_letGo ?_ | with_reducible refine wpAny_mkInt' ?_ | with_reducible refine wpAny_fresh' ?_ | with_reducible refine wpAny_alloc' ?_ | with_reducible refine wpAny_attempt ?_ | with_reducible refine wpAny_throw ?_ | (with_reducible refine wpAny_mkStr' (hx := ?q9x) ?_; case q9x => size_fits) | with_reducible refine wpAny_of_eq (by assumption) ?_ | with_reducible refine wpAny_typeOf (by assumption) ?_ | with_reducible refine wpAny_specialOf_val (by assumption) (by assumption) ?_ | with_reducible refine wpAny_specialOf (by assumption) (by assumption) ?_ | with_reducible refine wpAny_isInstance_val (by assumption) (by assumption) ?_ | with_reducible refine wpAny_isInstance (by assumption) (by assumption) ?_ | with_reducible refine wpAny_call ?_ | with_reducible refine wpAny_runValue ?_ | with_reducible refine wpAny_run ?_ | (with_reducible refine' wpAny_load' ?_ ?_; focus ((first | with_reducible assumption | heap_get); done)) | (with_reducible refine' wpAny_update' ?_ ?_; focus ((first | with_reducible assumption | heap_get); done)) | (with_reducible refine' wpAny_loadPart' ?_ ?_; focus ((first | with_reducible assumption | heap_get); done)) | (with_reducible refine' wpAny_updatePart' ?_ ?_; focus ((first | with_reducible assumption | heap_get); done)) | with_reducible refine wpAny_handled_none (by assumption) ?_ | (with_reducible refine' wpAny_ite_false ?_ ?_; focus (rfl; done)) | (with_reducible refine' wpAny_ite_true ?_ ?_; focus (rfl; done)) | (with_reducible refine' wpAny_ite_false ?_ ?_; focus (simp [*]; done)) | (with_reducible refine' wpAny_ite_true ?_ ?_; focus (simp [*]; done)) | wp_delta | wp_step | assumption))
theorem call_year {tk : Tok} {R : Result → Shared → Prop} (hx : h.get? x = some (stampObj y mo da hh mi sec z)) (hq : R (.ok (.ret (.int y t))) ⟨h, g, d, t + 1, os⟩) :
    codeAny (model prog w) A (.call (.builtin "object.__getattribute__") ⟨[.ref x, .str (Str.ofString "year") tk], []⟩) R ⟨h, g, d, t, os⟩ :=
  codeAny_call_builtin slot_dt_ga.plain entry_ga (slot_dt_ga.check _ _ _ _ _ _ _ _ (show (⟨h, g, d, t, os⟩ : Shared).TypeIs (.ref x) "datetime.datetime" from ⟨_, hx, rfl⟩) (args_ga _ _) (ga_gen lk_year ty_year (get_year hx) hx hq))
theorem getAttr_year {s : Shared} {Q : Value → Shared → Prop} {b : Bool} (hx : s.heap.get? x = some (stampObj y mo da hh mi sec z)) (hq : ∀ u k, Q (.int y u) { s with toks := k }) :
    wpAny (model prog w) A (getAttr (.ref x) (Str.ofString "year") b) Q E s :=
  getAttr_gen hx (call_year hx) hq
end

theorem lk_month : typeLookup (.type "datetime.datetime") "month" = pure (some (.builtin "datetime.date.month")) := by rw [typeLookup_type, builtinLookup_eq_fast]; kernel_rfl
theorem ty_month : typeOf (.builtin "datetime.date.month") = pure (.type "getset_descriptor") := by show builtinType _ = _; rw [builtinType_eq_fast]; kernel_rfl
theorem cut_month : (".".intercalate ("datetime.date.month".cutAt '.').dropLast) = "datetime.date" := by
  have e0 : "datetime.date.month".cutAt '.' = ["datetime", "date", "month"] := by first | rfl | decide +kernel
  rw [e0]; decide +kernel
theorem sub_month : isSubtype (.type "datetime.datetime") (.type (".".intercalate ("datetime.date.month".cutAt '.').dropLast)) = pure true := by rw [cut_month, isSubtype_type]; kernel_rfl
theorem entry_month : entryFor table "datetime.date.month" = some Builtin.«datetime.date.month» := entryFor_of_tree (by kernel_rfl)
section
variable {prog : Program} {w : World} {M : Model} {A : Around} {E : Value → Shared → Prop} {h : Heap} {g : Array GenState} {d : Drawn} {t : Nat} {os : OsState} {y mo da hh mi sec : Int} {x z : Addr}
theorem get_month {R : Result → Shared → Prop} (hx : h.get? x = some (stampObj y mo da hh mi sec z)) (hq : R (.ok (.ret (.int mo t))) ⟨h, g, d, t + 1, os⟩) :
    codeAny (model prog w) A (.call (.builtin "getset_descriptor.__get__") ⟨[.builtin "datetime.date.month", .ref x, .type "datetime.datetime"], []⟩) R ⟨h, g, d, t, os⟩ := by
  have hT : (⟨h, g, d, t, os⟩ : Shared).TypeIs (.ref x) "datetime.datetime" := ⟨_, hx, rfl⟩
  have hT5 : (⟨h, g, d, t, os⟩ : Shared).TypeIs (.builtin "datetime.date.month") "getset_descriptor" := ty_month
  have f8 := sub_month
  refine codeAny_call_builtin F.slot_gs_get.plain F.entry_gs_get (F.slot_gs_get.check _ _ _ _ _ _ _ _ hT5 (F.args_gs_get _ _ _) ?_)
  repeat (any_goals (first | with_reducible assumption | with_reducible refine wpAny_bind ?_ | with_reducible refine wpAny_pure ?_ | with_reducible refine wpAny_holding ?_ | with_reducible refine wpAny_standAt ?_ | with_reducible refine wpAny_point ?_ | with_reducible refine wpAny_rule ?_ | with_reducible refine wpAny_letGo ?_ | with_reducible refine wpAny_mkInt' ?_ | with_reducible refine wpAny_fresh' ?_ | with_reducible refine wpAny_alloc' ?_ | with_reducible refine wpAny_attempt ?_ | with_reducible refine wpAny_throw ?_ | (with_reducible refine wpAny_mkStr' (hx := ?q9x) ?_; case q9x => size_fits) | with_reducible refine wpAny_of_eq (by assumption) ?_ | with_reducible refine wpAny_typeOf (by assumption) ?_ | with_reducible refine wpAny_specialOf_val (by assumption) (by assumption) ?_ | with_reducible refine wpAny_specialOf (by assumption) (by assumption) ?_ | with_reducible refine wpAny_isInstance_val (by assumption) (by assumption) ?_ | with_reducible refine wpAny_isInstance (by assumption) (by assumption) ?_ | with_reducible refine wpAny_call ?_ | with_reducible refine wpAny_runValue ?_ | with_reducible refine wpAny_run ?_ | (with_reducible refine' wpAny_load' ?_ ?_; focus ((first | with_reducible assumption | heap_get); done)) | (with_reducible refine' wpAny_update' ?_ ?_; focus ((first | with_reducible assumption | heap_get); done)) | (with_reducible refine' wpAny_loadPart' ?_ ?_; focus ((first | with_reducible assumption | heap_get); done)) | (with_reducible refine' wpAny_updatePart' ?_ ?_; focus ((first | with_reducible assumption | heap_get); done)) | with_reducible refine wpAny_handled_none (by assumption) ?_ | (with_reducible refine' wpAny_ite_false ?_ ?_; focus (rfl; done)) | (with_reducible refine' wpAny_ite_true ?_ ?_; focus (rfl; done)) | (with_reducible refine' wpAny_ite_false ?_ ?_; focus (simp [*]; done)) | (with_reducible refine' wpAny_ite_true ?_ ?_; focus (simp [*]; done)) | wp_delta | wp_step | assumption))
  refine ⟨Code.quiet_builtin _ (by decide +kernel), codeAny_builtin entry_month ?_⟩
  repeat (any_goals (first | with_reducible assumption | with_reducible refine wpAny_load hx ?_ | with_reducible refine wpAny_bind ?_ | with_reducible refine wpAny_pure ?_ | with_reducible refine wpAny_holding ?_ | with_reducible refine wpAny_standAt ?_ | with_reducible refine wpAny_point ?_ | with_reducible refine wpAny_rule ?_ | with_reducible refine wpAny_letGo ?_ | with_reducible refine wpAny_mkInt' ?_ | with_reducible refine wpAny_fresh' ?_ | with_reducible refine wpAny_alloc' ?_ | with_reducible refine wpAny_attempt ?_ | with_reducible refine wpAny_throw ?_ | (with_reducible refine wpAny_mkStr' (hx := ?q9x) ?_; case q9x => size_fits) | with_reducible refine wpAny_of_eq (by assumption) ?_ | with_reducible refine wpAny_typeOf (by assumption) ?_ | with_reducible refine wpAny_specialOf_val (by assumption) (by assumption) ?_ | with_reducible refine wpAny_specialOf (by assumption) (by assumption) ?_ | with_reducible refine wpAny_isInstance_val (by assumption) (by assumption) ?_ | with_reducible refine wpAny_isInstance (by assumption) (by assumption) ?_ | with_reducible refine wpAny_call ?_ | with_reducible refine wpAny_runValue ?_ | with_reducible refine wpAny_run ?_ | (with_reducible refine' wpAny_load' ?_ ?_; focus ((first | with_reducible assumption | heap_get); done)) | (with_reducible refine' wpAny_update' ?_ ?_; focus ((first | with_reducible assumption | heap_get); done)) | (with_reducible refine' wpAny_loadPart' ?_ ?_; focus ((first | with_reducible assumption | heap_get); done)) | (with_reducible refine' wpAny_updatePart' ?_ ?_; focus ((first | with_reducible assumption | heap_get); done)) | with_reducible refine wpAny_handled_none (by assumption) ?_ | (with_reducible refine' wpAny_ite_false ?_ ?_; focus (rfl; done)) | (with_reducible refine' wpAny_ite_true ?_ ?_; focus (rfl; done)) | (with_reducible refine' wpAny_ite_false ?_ ?_; focus (simp [*]; done)) | (with_reducible refine' wpAny_ite_true ?_ ?_; focus (simp [*]; done)) | wp_delta | wp_step | assumption))
theorem call_month {tk : Tok} {R : Result → Shared → Prop} (hx : h.get? x = some (stampObj y mo da hh mi sec z)) (hq : R (.ok (.ret (.int mo t))) ⟨h, g, d, t + 1, os⟩) :
    codeAny (model prog w) A (.call (.builtin "object.__getattribute__") ⟨[.ref x, .str (Str.ofString "month") tk], []⟩) R ⟨h, g, d, t, os⟩ :=
  codeAny_call_builtin slot_dt_ga.plain entry_ga (slot_dt_ga.check _ _ _ _ _ _ _ _ (show (⟨h, g, d, t, os⟩ : Shared).TypeIs (.ref x) "datetime.datetime" from ⟨_, hx, rfl⟩) (args_ga _ _) (ga_gen lk_month ty_month (get_month hx) hx hq))
theorem getAttr_month {s : Shared} {Q : Value → Shared → Prop} {b : Bool} (hx : s.heap.get? x = some (stampObj y mo da hh mi sec z)) (hq : ∀ u k, Q (.int mo u) { s with toks := k }) :
    wpAny (model prog w) A (getAttr (.ref x) (Str.ofString "month") b) Q E s :=
  getAttr_gen hx (call_month hx) hq
end

theorem lk_day : typeLookup (.type "datetime.datetime") "day" = pure (some (.builtin "datetime.date.day")) := by rw [typeLookup_type, builtinLookup_eq_fast]; kernel_rfl
theorem ty_day : typeOf (.builtin "datetime.date.day") = pure (.type "getset_descriptor") := by show builtinType _ = _; rw [builtinType_eq_fast]; kernel_rfl
theorem cut_day : (".".intercalate ("datetime.date.day".cutAt '.').dropLast) = "datetime.date" := by
  have e0 : "datetime.date.day".cutAt '.' = ["datetime", "date", "day"] := by first | rfl | decide +kernel
  rw [e0]; decide +kernel
theorem sub_day : isSubtype (.type "datetime.datetime") (.type (".".intercalate ("datetime.date.day".cutAt '.').dropLast)) = pure true := by rw [cut_day, isSubtype_type]; kernel_rfl
theorem entry_day : entryFor table "datetime.date.day" = some Builtin.«datetime.date.day» := entryFor_of_tree (by kernel_rfl)
section
variable {prog : Program} {w : World} {M : Model} {A : Around} {E : Value → Shared → Prop} {h : Heap} {g : Array GenState} {d : Drawn} {t : Nat} {os : OsState} {y mo da hh mi sec : Int} {x z : Addr}
theorem get_day {R : Result → Shared → Prop} (hx : h.get? x = some (stampObj y mo da hh mi sec z)) (hq : R (.ok (.ret (.int da t))) ⟨h, g, d, t + 1, os⟩) :
    codeAny (model prog w) A (.call (.builtin "getset_descriptor.__get__") ⟨[.builtin "datetime.date.day", .ref x, .type "datetime.datetime"], []⟩) R ⟨h, g, d, t, os⟩ := by
  have hT : (⟨h, g, d, t, os⟩ : Shared).TypeIs (.ref x) "datetime.datetime" := ⟨_, hx, rfl⟩
  have hT5 : (⟨h, g, d, t, os⟩ : Shared).TypeIs (.builtin "datetime.date.day") "getset_descriptor" := ty_day
  have f8 := sub_day
  refine codeAny_call_builtin F.slot_gs_get.plain F.entry_gs_get (F.slot_gs_get.check _ _ _ _ _ _ _ _ hT5 (F.args_gs_get _ _ _) ?_)
  repeat (any_goals (first | with_reducible assumption | with_reducible refine wpAny_bind ?_ | with_reducible refine wpAny_pure ?_ | with_reducible refine wpAny_holding ?_ | with_reducible refine wpAny_standAt ?_ | with_reducible refine wpAny_point ?_ | with_reducible refine wpAny_rule ?_ | with_reducible refine wpAny_letGo ?_ | with_reducible refine wpAny_mkInt' ?_ | with_reducible refine wpAny_fresh' ?_ | with_reducible refine wpAny_alloc' ?_ | with_reducible refine wpAny_attempt ?_ | with_reducible refine wpAny_throw ?_ | (with_reducible refine wpAny_mkStr' (hx := ?q9x) ?_; case q9x => size_fits) | with_reducible refine wpAny_of_eq (by assumption) ?_ | with_reducible refine wpAny_typeOf (by assumption) ?_ | with_reducible refine wpAny_specialOf_val (by assumption) (by assumption) ?_ | with_reducible refine wpAny_specialOf (by assumption) (by assumption) ?_ | with_reducible refine wpAny_isInstance_val (by assumption) (by assumption) ?_ | with_reducible refine wpAny_isInstance (by assumption) (by assumption) ?_ | with_reducible refine wpAny_call ?_ | with_reducible refine wpAny_runValue ?_ | with_reducible refine wpAny_run ?_ | (with_reducible refine' wpAny_load' ?_ ?_; focus ((first | with_reducible assumption | heap_get); done)) | (with_reducible refine' wpAny_update' ?_ ?_; focus ((first | with_reducible assumption | heap_get); done)) | (with_reducible refine' wpAny_loadPart' ?_ ?_; focus ((first | with_reducible assumption | heap_get); done)) | (with_reducible refine' wpAny_updatePart' ?_ ?_; focus ((first | with_reducible assumption | heap_get); done)) | with_reducible refine wpAny_handled_none (by assumption) ?_ | (with_reducible refine' wpAny_ite_false ?_ ?_; focus (rfl; done)) | (with_reducible refine' wpAny_ite_true ?_ ?_; focus (rfl; done)) | (with_reducible refine' wpAny_ite_false ?_ ?_; focus (simp [*]; done)) | (with_reducible refine' wpAny_ite_true ?_ ?_; focus (simp [*]; done)) | wp_delta | wp_step | assumption))
  refine ⟨Code.quiet_builtin _ (by decide +kernel), codeAny_builtin entry_day ?_⟩
  repeat (any_goals (first | with_reducible assumption | with_reducible refine wpAny_load hx ?_ | with_reducible refine wpAny_bind ?_ | with_reducible refine wpAny_pure ?_ | with_reducible refine wpAny_holding ?_ | with_reducible refine wpAny_standAt ?_ | with_reducible refine wpAny_point ?_ | with_reducible refine wpAny_rule ?_ | with_reducible refine wpAny_letGo ?_ | with_reducible refine wpAny_mkInt' ?_ | with_reducible refine wpAny_fresh' ?_ | with_reducible refine wpAny_alloc' ?_ | with_reducible refine wpAny_attempt ?_ | with_reducible refine wpAny_throw ?_ | (with_reducible refine wpAny_mkStr' (hx := ?q9x) ?_; case q9x => size_fits) | with_reducible refine wpAny_of_eq (by assumption) ?_ | with_reducible refine wpAny_typeOf (by assumption) ?_ | with_reducible refine wpAny_specialOf_val (by assumption) (by assumption) ?_ | with_reducible refine wpAny_specialOf (by assumption) (by assumption) ?_ | with_reducible refine wpAny_isInstance_val (by assumption) (by assumption) ?_ | with_reducible refine wpAny_isInstance (by assumption) (by assumption) ?_ | with_reducible refine wpAny_call ?_ | with_reducible refine wpAny_runValue ?_ | with_reducible refine wpAny_run ?_ | (with_reducible refine' wpAny_load' ?_ ?_; focus ((first | with_reducible assumption | heap_get); done)) | (with_reducible refine' wpAny_update' ?_ ?_; focus ((first | with_reducible assumption | heap_get); done)) | (with_reducible refine' wpAny_loadPart' ?_ ?_; focus ((first | with_reducible assumption | heap_get); done)) | (with_reducible refine' wpAny_updatePart' ?_ ?_; focus ((first | with_reducible assumption | heap_get); done)) | with_reducible refine wpAny_handled_none (by assumption) ?_ | (with_reducible refine' wpAny_ite_false ?_ ?_; focus (rfl; done)) | (with_reducible refine' wpAny_ite_true ?_ ?_; focus (rfl; done)) | (with_reducible refine' wpAny_ite_false ?_ ?_; focus (simp [*]; done)) | (with_reducible refine' wpAny_ite_true ?_ ?_; focus (simp [*]; done)) | wp_delta | wp_step | assumption))
theorem call_day {tk : Tok} {R : Result → Shared → Prop} (hx : h.get? x = some (stampObj y mo da hh mi sec z)) (hq : R (.ok (.ret (.int da t))) ⟨h, g, d, t + 1, os⟩) :
    codeAny (model prog w) A (.call (.builtin "object.__getattribute__") ⟨[.ref x, .str (Str.ofString "day") tk], []⟩) R ⟨h, g, d, t, os⟩ :=
  codeAny_call_builtin slot_dt_ga.plain entry_ga (slot_dt_ga.check _ _ _ _ _ _ _ _ (show (⟨h, g, d, t, os⟩ : Shared).TypeIs (.ref x) "datetime.datetime" from ⟨_, hx, rfl⟩) (args_ga _ _) (ga_gen lk_day ty_day (get_day hx) hx hq))
theorem getAttr_day {s : Shared} {Q : Value → Shared → Prop} {b : Bool} (hx : s.heap.get? x = some (stampObj y mo da hh mi sec z)) (hq : ∀ u k, Q (.int da u) { s with toks := k }) :
    wpAny (model prog w) A (getAttr (.ref x) (Str.ofString "day") b) Q E s :=
  getAttr_gen hx (call_day hx) hq
end

theorem lk_hour : typeLookup (.type "datetime.datetime") "hour" = pure (some (.builtin "datetime.datetime.hour")) := by rw [typeLookup_type, builtinLookup_eq_fast]; kernel_rfl
theorem ty_hour : typeOf (.builtin "datetime.datetime.hour") = pure (.type "getset_descriptor") := by show builtinType _ = _; rw [builtinType_eq_fast]; kernel_rfl
theorem cut_hour : (".".intercalate ("datetime.datetime.hour".cutAt '.').dropLast) = "datetime.datetime" := by
  have e0 : "datetime.datetime.hour".cutAt '.' = ["datetime", "datetime", "hour"] := by first | rfl | decide +kernel
  rw [e0]; decide +kernel
theorem sub_hour : isSubtype (.type "datetime.datetime") (.type (".".intercalate ("datetime.datetime.hour".cutAt '.').dropLast)) = pure true := by rw [cut_hour, isSubtype_type]; kernel_rfl
theorem entry_hour : entryFor table "datetime.datetime.hour" = some Builtin.«datetime.datetime.hour» := entryFor_of_tree (by kernel_rfl)
section
variable {prog : Program} {w : World} {M : Model} {A : Around} {E : Value → Shared → Prop} {h : Heap} {g : Array GenState} {d : Drawn} {t : Nat} {os : OsState} {y mo da hh mi sec : Int} {x z : Addr}
theorem get_hour {R : Result → Shared → Prop} (hx : h.get? x = some (stampObj y mo da hh mi sec z)) (hq : R (.ok (.ret (.int hh t))) ⟨h, g, d, t + 1, os⟩) :
    codeAny (model prog w) A (.call (.builtin "getset_descriptor.__get__") ⟨[.builtin "datetime.datetime.hour", .ref x, .type "datetime.datetime"], []⟩) R ⟨h, g, d, t, os⟩ := by
  have hT : (⟨h, g, d, t, os⟩ : Shared).TypeIs (.ref x) "datetime.datetime" := ⟨_, hx, rfl⟩
  have hT5 : (⟨h, g, d, t, os⟩ : Shared).TypeIs (.builtin "datetime.datetime.hour") "getset_descriptor" := ty_hour
  have f8 := sub_hour
  refine codeAny_call_builtin F.slot_gs_get.plain F.entry_gs_get (F.slot_gs_get.check _ _ _ _ _ _ _ _ hT5 (F.args_gs_get _ _ _) ?_)
  repeat (any_goals (first | with_reducible assumption | with_reducible refine wpAny_bind ?_ | with_reducible refine wpAny_pure ?_ | with_reducible refine wpAny_holding ?_ | with_reducible refine wpAny_standAt ?_ | with_reducible refine wpAny_point ?_ | with_reducible refine wpAny_rule ?_ | with_reducible refine wpAny_letGo ?_ | with_reducible refine wpAny_mkInt' ?_ | with_reducible refine wpAny_fresh' ?_ | with_reducible refine wpAny_alloc' ?_ | with_reducible refine wpAny_attempt ?_ | with_reducible refine wpAny_throw ?_ | (with_reducible refine wpAny_mkStr' (hx := ?q9x) ?_; case q9x => size_fits) | with_reducible refine wpAny_of_eq (by assumption) ?_ | with_reducible refine wpAny_typeOf (by assumption) ?_ | with_reducible refine wpAny_specialOf_val (by assumption) (by assumption) ?_ | with_reducible refine wpAny_specialOf (by assumption) (by assumption) ?_ | with_reducible refine wpAny_isInstance_val (by assumption) (by assumption) ?_ | with_reducible refine wpAny_isInstance (by assumption) (by assumption) ?_ | with_reducible refine wpAny_call ?_ | with_reducible refine wpAny_runValue ?_ | with_reducible refine wpAny_run ?_ | (with_reducible refine' wpAny_load' ?_ ?_; focus ((first | with_reducible assumption | heap_get); done)) | (with_reducible refine' wpAny_update' ?_ ?_; focus ((first | with_reducible assumption | heap_get); done)) | (with_reducible refine' wpAny_loadPart' ?_ ?_; focus ((first | with_reducible assumption | heap_get); done)) | (with_reducible refine' wpAny_updatePart' ?_ ?_; focus ((first | with_reducible assumption | heap_get); done)) | with_reducible refine wpAny_handled_none (by assumption) ?_ | (with_reducible refine' wpAny_ite_false ?_ ?_; focus (rfl; done)) | (with_reducible refine' wpAny_ite_true ?_ ?_; focus (rfl; done)) | (with_reducible refine' wpAny_ite_false ?_ ?_; focus (simp [*]; done)) | (with_reducible refine' wpAny_ite_true ?_ ?_; focus (simp [*]; done)) | wp_delta | wp_step | assumption))
  refine ⟨Code.quiet_builtin _ (by decide +kernel), codeAny_builtin entry_hour ?_⟩
  repeat (any_goals (first | with_reducible assumption | with_reducible refine wpAny_load hx ?_ | with_reducible refine wpAny_bind ?_ | with_reducible refine wpAny_pure ?_ | with_reducible refine wpAny_holding ?_ | with_reducible refine wpAny_standAt ?_ | with_reducible refine wpAny_point ?_ | with_reducible refine wpAny_rule ?_ | with_reducible refine wpAny_letGo ?_ | with_reducible refine wpAny_mkInt' ?_ | with_reducible refine wpAny_fresh' ?_ | with_reducible refine wpAny_alloc' ?_ | with_reducible refine wpAny_attempt ?_ | with_reducible refine wpAny_throw ?_ | (with_reducible refine wpAny_mkStr' (hx := ?q9x) ?_; case q9x => size_fits) | with_reducible refine wpAny_of_eq (by assumption) ?_ | with_reducible refine wpAny_typeOf (by assumption) ?_ | with_reducible refine wpAny_specialOf_val (by assumption) (by assumption) ?_ | with_reducible refine wpAny_specialOf (by assumption) (by assumption) ?_ | with_reducible refine wpAny_isInstance_val (by assumption) (by assumption) ?_ | with_reducible refine wpAny_isInstance (by assumption) (by assumption) ?_ | with_reducible refine wpAny_call ?_ | with_reducible refine wpAny_runValue ?_ | with_reducible refine wpAny_run ?_ | (with_reducible refine' wpAny_load' ?_ ?_; focus ((first | with_reducible assumption | heap_get); done)) | (with_reducible refine' wpAny_update' ?_ ?_; focus ((first | with_reducible assumption | heap_get); done)) | (with_reducible refine' wpAny_loadPart' ?_ ?_; focus ((first | with_reducible assumption | heap_get); done)) | (with_reducible refine' wpAny_updatePart' ?_ ?_; focus ((first | with_reducible assumption | heap_get); done)) | with_reducible refine wpAny_handled_none (by assumption) ?_ | (with_reducible refine' wpAny_ite_false ?_ ?_; focus (rfl; done)) | (with_reducible refine' wpAny_ite_true ?_ ?_; focus (rfl; done)) | (with_reducible refine' wpAny_ite_false ?_ ?_; focus (simp [*]; done)) | (with_reducible refine' wpAny_ite_true ?_ ?_; focus (simp [*]; done)) | wp_delta | wp_step | assumption))
theorem call_hour {tk : Tok} {R : Result → Shared → Prop} (hx : h.get? x = some (stampObj y mo da hh mi sec z)) (hq : R (.ok (.ret (.int hh t))) ⟨h, g, d, t + 1, os⟩) :
    codeAny (model prog w) A (.call (.builtin "object.__getattribute__") ⟨[.ref x, .str (Str.ofString "hour") tk], []⟩) R ⟨h, g, d, t, os⟩ :=
  codeAny_call_builtin slot_dt_ga.plain entry_ga (slot_dt_ga.check _ _ _ _ _ _ _ _ (show (⟨h, g, d, t, os⟩ : Shared).TypeIs (.ref x) "datetime.datetime" from ⟨_, hx, rfl⟩) (args_ga _ _) (ga_gen lk_hour ty_hour (get_hour hx) hx hq))
theorem getAttr_hour {s : Shared} {Q : Value → Shared → Prop} {b : Bool} (hx : s.heap.get? x = some (stampObj y mo da hh mi sec z)) (hq : ∀ u k, Q (.int hh u) { s with toks := k }) :
    wpAny (model prog w) A (getAttr (.ref x) (Str.ofString "hour") b) Q E s :=
  getAttr_gen hx (call_hour hx) hq
end

theorem lk_minute : typeLookup (.type "datetime.datetime") "minute" = pure (some (.builtin "datetime.datetime.minute")) := by rw [typeLookup_type, builtinLookup_eq_fast]; kernel_rfl
theorem ty_minute : typeOf (.builtin "datetime.datetime.minute") = pure (.type "getset_descriptor") := by show builtinType _ = _; rw [builtinType_eq_fast]; kernel_rfl
theorem cut_minute : (".".intercalate ("datetime.datetime.minute".cutAt '.').dropLast) = "datetime.datetime" := by
  have e0 : "datetime.datetime.minute".cutAt '.' = ["datetime", "datetime", "minute"] := by first | rfl | decide +kernel
  rw [e0]; decide +kernel
theorem sub_minute : isSubtype (.type "datetime.datetime") (.type (".".intercalate ("datetime.datetime.minute".cutAt '.').dropLast)) = pure true := by rw [cut_minute, isSubtype_type]; kernel_rfl
theorem entry_minute : entryFor table "datetime.datetime.minute" = some Builtin.«datetime.datetime.minute» := entryFor_of_tree (by kernel_rfl)
section
variable {prog : Program} {w : World} {M : Model} {A : Around} {E : Value → Shared → Prop} {h : Heap} {g : Array GenState} {d : Drawn} {t : Nat} {os : OsState} {y mo da hh mi sec : Int} {x z : Addr}
theorem get_minute {R : Result → Shared → Prop} (hx : h.get? x = some (stampObj y mo da hh mi sec z)) (hq : R (.ok (.ret (.int mi t))) ⟨h, g, d, t + 1, os⟩) :
    codeAny (model prog w) A (.call (.builtin "getset_descriptor.__get__") ⟨[.builtin "datetime.datetime.minute", .ref x, .type "datetime.datetime"], []⟩) R ⟨h, g, d, t, os⟩ := by
  have hT : (⟨h, g, d, t, os⟩ : Shared).TypeIs (.ref x) "datetime.datetime" := ⟨_, hx, rfl⟩
  have hT5 : (⟨h, g, d, t, os⟩ : Shared).TypeIs (.builtin "datetime.datetime.minute") "getset_descriptor" := ty_minute
  have f8 := sub_minute
  refine codeAny_call_builtin F.slot_gs_get.plain F.entry_gs_get (F.slot_gs_get.check _ _ _ _ _ _ _ _ hT5 (F.args_gs_get _ _ _) ?_)
  repeat (any_goals (first | with_reducible assumption | with_reducible refine wpAny_bind ?_ | with_reducible refine wpAny_pure ?_ | with_reducible refine wpAny_holding ?_ | with_reducible refine wpAny_standAt ?_ | with_reducible refine wpAny_point ?_ | with_reducible refine wpAny_rule ?_ | with_reducible refine wpAny_letGo ?_ | with_reducible refine wpAny_mkInt' ?_ | with_reducible refine wpAny_fresh' ?_ | with_reducible refine wpAny_alloc' ?_ | with_reducible refine wpAny_attempt ?_ | with_reducible refine wpAny_throw ?_ | (with_reducible refine wpAny_mkStr' (hx := ?q9x) ?_; case q9x => size_fits) | with_reducible refine wpAny_of_eq (by assumption) ?_ | with_reducible refine wpAny_typeOf (by assumption) ?_ | with_reducible refine wpAny_specialOf_val (by assumption) (by assumption) ?_ | with_reducible refine wpAny_specialOf (by assumption) (by assumption) ?_ | with_reducible refine wpAny_isInstance_val (by assumption) (by assumption) ?_ | with_reducible refine wpAny_isInstance (by assumption) (by assumption) ?_ | with_reducible refine wpAny_call ?_ | with_reducible refine wpAny_runValue ?_ | with_reducible refine wpAny_run ?_ | (with_reducible refine' wpAny_load' ?_ ?_; focus ((first | with_reducible assumption | heap_get); done)) | (with_reducible refine' wpAny_update' ?_ ?_; focus ((first | with_reducible assumption | heap_get); done)) | (with_reducible refine' wpAny_loadPart' ?_ ?_; focus ((first | with_reducible assumption | heap_get); done)) | (with_reducible refine' wpAny_updatePart' ?_ ?_; focus ((first | with_reducible assumption | heap_get); done)) | with_reducible refine wpAny_handled_none (by assumption) ?_ | (with_reducible refine' wpAny_ite_false ?_ ?_; focus (rfl; done)) | (with_reducible refine' wpAny_ite_true ?_ ?_; focus (rfl; done)) | (with_reducible refine' wpAny_ite_false ?_ ?_; focus (simp [*]; done)) | (with_reducible refine' wpAny_ite_true ?_ ?_; focus (simp [*]; done)) | wp_delta | wp_step | assumption))
  refine ⟨Code.quiet_builtin _ (by decide +kernel), codeAny_builtin entry_minute ?_⟩
  repeat (any_goals (first | with_reducible assumption | with_reducible refine wpAny_load hx ?_ | with_reducible refine wpAny_bind ?_ | with_reducible refine wpAny_pure ?_ | with_reducible refine wpAny_holding ?_ | with_reducible refine wpAny_standAt ?_ | with_reducible refine wpAny_point ?_ | with_reducible refine wpAny_rule ?_ | with_reducible refine wpAny_letGo ?_ | with_reducible refine wpAny_mkInt' ?_ | with_reducible refine wpAny_fresh' ?_ | with_reducible refine wpAny_alloc' ?_ | with_reducible refine wpAny_attempt ?_ | with_reducible refine wpAny_throw ?_ | (with_reducible refine wpAny_mkStr' (hx := ?q9x) ?_; case q9x => size_fits) | with_reducible refine wpAny_of_eq (by assumption) ?_ | with_reducible refine wpAny_typeOf (by assumption) ?_ | with_reducible refine wpAny_specialOf_val (by assumption) (by assumption) ?_ | with_reducible refine wpAny_specialOf (by assumption) (by assumption) ?_ | with_reducible refine wpAny_isInstance_val (by assumption) (by assumption) ?_ | with_reducible refine wpAny_isInstance (by assumption) (by assumption) ?_ | with_reducible refine wpAny_call ?_ | with_reducible refine wpAny_runValue ?_ | with_reducible refine wpAny_run ?_ | (with_reducible refine' wpAny_load' ?_ ?_; focus ((first | with_reducible assumption | heap_get); done)) | (with_reducible refine' wpAny_update' ?_ ?_; focus ((first | with_reducible assumption | heap_get); done)) | (with_reducible refine' wpAny_loadPart' ?_ ?_; focus ((first | with_reducible assumption | heap_get); done)) | (with_reducible refine' wpAny_updatePart' ?_ ?_; focus ((first | with_reducible assumption | heap_get); done)) | with_reducible refine wpAny_handled_none (by assumption) ?_ | (with_reducible refine' wpAny_ite_false ?_ ?_; focus (rfl; done)) | (with_reducible refine' wpAny_ite_true ?_ ?_; focus (rfl; done)) | (with_reducible refine' wpAny_ite_false ?_ ?_; focus (simp [*]; done)) | (with_reducible refine' wpAny_ite_true ?_ ?_; focus (simp [*]; done)) | wp_delta | wp_step | assumption))
theorem call_minute {tk : Tok} {R : Result → Shared → Prop} (hx : h.get? x = some (stampObj y mo da hh mi sec z)) (hq : R (.ok (.ret (.int mi t))) ⟨h, g, d, t + 1, os⟩) :
    codeAny (model prog w) A (.call (.builtin "object.__getattribute__") ⟨[.ref x, .str (Str.ofString "minute") tk], []⟩) R ⟨h, g, d, t, os⟩ :=
  codeAny_call_builtin slot_dt_ga.plain entry_ga (slot_dt_ga.check _ _ _ _ _ _ _ _ (show (⟨h, g, d, t, os⟩ : Shared).TypeIs (.ref x) "datetime.datetime" from ⟨_, hx, rfl⟩) (args_ga _ _) (ga_gen lk_minute ty_minute (get_minute hx) hx hq))
theorem getAttr_minute {s : Shared} {Q : Value → Shared → Prop} {b : Bool} (hx : s.heap.get? x = some (stampObj y mo da hh mi sec z)) (hq : ∀ u k, Q (.int mi u) { s with toks := k }) :
    wpAny (model prog w) A (getAttr (.ref x) (Str.ofString "minute") b) Q E s :=
  getAttr_gen hx (call_minute hx) hq
end

theorem lk_second : typeLookup (.type "datetime.datetime") "second" = pure (some (.builtin "datetime.datetime.second")) := by rw [typeLookup_type, builtinLookup_eq_fast]; kernel_rfl
theorem ty_second : typeOf (.builtin "datetime.datetime.second") = pure (.type "getset_descriptor") := by show builtinType _ = _; rw [builtinType_eq_fast]; kernel_rfl
theorem cut_second : (".".intercalate ("datetime.datetime.second".cutAt '.').dropLast) = "datetime.datetime" := by
  have e0 : "datetime.datetime.second".cutAt '.' = ["datetime", "datetime", "second"] := by first | rfl | decide +kernel
  rw [e0]; decide +kernel
theorem sub_second : isSubtype (.type "datetime.datetime") (.type (".".intercalate ("datetime.datetime.second".cutAt '.').dropLast)) = pure true := by rw [cut_second, isSubtype_type]; kernel_rfl
theorem entry_second : entryFor table "datetime.datetime.second" = some Builtin.«datetime.datetime.second» := entryFor_of_tree (by kernel_rfl)
section
variable {prog : Program} {w : World} {M : Model} {A : Around} {E : Value → Shared → Prop} {h : Heap} {g : Array GenState} {d : Drawn} {t : Nat} {os : OsState} {y mo da hh mi sec : Int} {x z : Addr}
theorem get_second {R : Result → Shared → Prop} (hx : h.get? x = some (stampObj y mo da hh mi sec z)) (hq : R (.ok (.ret (.int sec t))) ⟨h, g, d, t + 1, os⟩) :
    codeAny (model prog w) A (.call (.builtin "getset_descriptor.__get__") ⟨[.builtin "datetime.datetime.second", .ref x, .type "datetime.datetime"], []⟩) R ⟨h, g, d, t, os⟩ := by
  have hT : (⟨h, g, d, t, os⟩ : Shared).TypeIs (.ref x) "datetime.datetime" := ⟨_, hx, rfl⟩
  have hT5 : (⟨h, g, d, t, os⟩ : Shared).TypeIs (.builtin "datetime.datetime.second") "getset_descriptor" := ty_second
  have f8 := sub_second
  refine codeAny_call_builtin F.slot_gs_get.plain F.entry_gs_get (F.slot_gs_get.check _ _ _ _ _ _ _ _ hT5 (F.args_gs_get _ _ _) ?_)
  repeat (any_goals (first | with_reducible assumption | with_reducible refine wpAny_bind ?_ | with_reducible refine wpAny_pure ?_ | with_reducible refine wpAny_holding ?_ | with_reducible refine wpAny_standAt ?_ | with_reducible refine wpAny_point ?_ | with_reducible refine wpAny_rule ?_ | with_reducible refine wpAny_letGo ?_ | with_reducible refine wpAny_mkInt' ?_ | with_reducible refine wpAny_fresh' ?_ | with_reducible refine wpAny_alloc' ?_ | with_reducible refine wpAny_attempt ?_ | with_reducible refine wpAny_throw ?_ | (with_reducible refine wpAny_mkStr' (hx := ?q9x) ?_; case q9x => size_fits) | with_reducible refine wpAny_of_eq (by assumption) ?_ | with_reducible refine wpAny_typeOf (by assumption) ?_ | with_reducible refine wpAny_specialOf_val (by assumption) (by assumption) ?_ | with_reducible refine wpAny_specialOf (by assumption) (by assumption) ?_ | with_reducible refine wpAny_isInstance_val (by assumption) (by assumption) ?_ | with_reducible refine wpAny_isInstance (by assumption) (by assumption) ?_ | with_reducible refine wpAny_call ?_ | with_reducible refine wpAny_runValue ?_ | with_reducible refine wpAny_run ?_ | (with_reducible refine' wpAny_load' ?_ ?_; focus ((first | with_reducible assumption | heap_get); done)) | (with_reducible refine' wpAny_update' ?_ ?_; focus ((first | with_reducible assumption | heap_get); done)) | (with_reducible refine' wpAny_loadPart' ?_ ?_; focus ((first | with_reducible assumption | heap_get); done)) | (with_reducible refine' wpAny_updatePart' ?_ ?_; focus ((first | with_reducible assumption | heap_get); done)) | with_reducible refine wpAny_handled_none (by assumption) ?_ | (with_reducible refine' wpAny_ite_false ?_ ?_; focus (rfl; done)) | (with_reducible refine' wpAny_ite_true ?_ ?_; focus (rfl; done)) | (with_reducible refine' wpAny_ite_false ?_ ?_; focus (simp [*]; done)) | (with_reducible refine' wpAny_ite_true ?_ ?_; focus (simp [*]; done)) | wp_delta | wp_step | assumption))
  refine ⟨Code.quiet_builtin _ (by decide +kernel), codeAny_builtin entry_second ?_⟩
  repeat (any_goals (first | with_reducible assumption | with_reducible refine wpAny_load hx ?_ | with_reducible refine wpAny_bind ?_ | with_reducible refine wpAny_pure ?_ | with_reducible refine wpAny_holding ?_ | with_reducible refine wpAny_standAt ?_ | with_reducible refine wpAny_point ?_ | with_reducible refine wpAny_rule ?_ | with_reducible refine wpAny_letGo ?_ | with_reducible refine wpAny_mkInt' ?_ | with_reducible refine wpAny_fresh' ?_ | with_reducible refine wpAny_alloc' ?_ | with_reducible refine wpAny_attempt ?_ | with_reducible refine wpAny_throw ?_ | (with_reducible refine wpAny_mkStr' (hx := ?q9x) ?_; case q9x => size_fits) | with_reducible refine wpAny_of_eq (by assumption) ?_ | with_reducible refine wpAny_typeOf (by assumption) ?_ | with_reducible refine wpAny_specialOf_val (by assumption) (by assumption) ?_ | with_reducible refine wpAny_specialOf (by assumption) (by assumption) ?_ | with_reducible refine wpAny_isInstance_val (by assumption) (by assumption) ?_ | with_reducible refine wpAny_isInstance (by assumption) (by assumption) ?_ | with_reducible refine wpAny_call ?_ | with_reducible refine wpAny_runValue ?_ | with_reducible refine wpAny_run ?_ | (with_reducible refine' wpAny_load' ?_ ?_; focus ((first | with_reducible assumption | heap_get); done)) | (with_reducible refine' wpAny_update' ?_ ?_; focus ((first | with_reducible assumption | heap_get); done)) | (with_reducible refine' wpAny_loadPart' ?_ ?_; focus ((first | with_reducible assumption | heap_get); done)) | (with_reducible refine' wpAny_updatePart' ?_ ?_; focus ((first | with_reducible assumption | heap_get); done)) | with_reducible refine wpAny_handled_none (by assumption) ?_ | (with_reducible refine' wpAny_ite_false ?_ ?_; focus (rfl; done)) | (with_reducible refine' wpAny_ite_true ?_ ?_; focus (rfl; done)) | (with_reducible refine' wpAny_ite_false ?_ ?_; focus (simp [*]; done)) | (with_reducible refine' wpAny_ite_true ?_ ?_; focus (simp [*]; done)) | wp_delta | wp_step | assumption))
theorem call_second {tk : Tok} {R : Result → Shared → Prop} (hx : h.get? x = some (stampObj y mo da hh mi sec z)) (hq : R (.ok (.ret (.int sec t))) ⟨h, g, d, t + 1, os⟩) :
    codeAny (model prog w) A (.call (.builtin "object.__getattribute__") ⟨[.ref x, .str (Str.ofString "second") tk], []⟩) R ⟨h, g, d, t, os⟩ :=
  codeAny_call_builtin slot_dt_ga.plain entry_ga (slot_dt_ga.check _ _ _ _ _ _ _ _ (show (⟨h, g, d, t, os⟩ : Shared).TypeIs (.ref x) "datetime.datetime" from ⟨_, hx, rfl⟩) (args_ga _ _) (ga_gen lk_second ty_second (get_second hx) hx hq))
theorem getAttr_second {s : Shared} {Q : Value → Shared → Prop} {b : Bool} (hx : s.heap.get? x = some (stampObj y mo da hh mi sec z)) (hq : ∀ u k, Q (.int sec u) { s with toks := k }) :
    wpAny (model prog w) A (getAttr (.ref x) (Str.ofString "second") b) Q E s :=
  getAttr_gen hx (call_second hx) hq
end

theorem plain_dt : PlainAttrs "datetime.datetime" := ⟨⟨"object.__getattribute__", by rw [typeLookup_type, builtinLookup_eq_fast]; kernel_rfl, by decide +kernel⟩, by rw [typeLookup_type, builtinLookup_eq_fast]; kernel_rfl⟩
theorem slot_weekday : Slot "datetime.datetime" "weekday" "datetime.date.weekday" := .of (owner := "datetime.date") (n := "weekday") (by rw [typeLookup_type, builtinLookup_eq_fast]; kernel_rfl) (by decide +kernel) (by decide +kernel) (by decide +kernel)
  (by first | exact .inl (by decide +kernel) | exact .inr (by decide +kernel)) (by rw [isSubtype_type]; kernel_rfl)
theorem ty_weekday : typeOf (.builtin "datetime.date.weekday") = pure (.type "method_descriptor") := by show builtinType _ = _; rw [builtinType_eq_fast]; kernel_rfl
theorem entry_weekday : entryFor table "datetime.date.weekday" = some Builtin.«datetime.date.weekday» := entryFor_of_tree (by kernel_rfl)
theorem args_weekday (a : Value) : argsOk "datetime.date.weekday" ⟨[a], []⟩ := by unfold argsOk; kernel_rfl
section
variable {prog : Program} {w : World} {M : Model} {A : Around} {E : Value → Shared → Prop} {s : Shared} {y mo da hh mi sec : Int} {x z : Addr}
theorem method_weekday {pl : Sem Bool} {Q : Value × List Value → Shared → Prop} (hx : s.heap.get? x = some (stampObj y mo da hh mi sec z)) (h : Q (.builtin "datetime.date.weekday", [.ref x]) s) :
    wpAny (model prog w) A (getMethod (.ref x) (Str.ofString "weekday") pl) Q E s :=
  getMethod_builtin ⟨_, hx, rfl⟩ plain_dt slot_weekday ty_weekday (fun a e => by cases e; exact ⟨_, hx, rfl⟩) h
theorem tree_weekday {P : Fin → Shared → Prop} (hx : s.heap.get? x = some (stampObj y mo da hh mi sec z)) (h : P (.done (.ret (.int (weekdayOf (toOrdinal y mo da)) s.toks))) { s with toks := s.toks + 1 }) :
    wpAny M A (Builtin.«datetime.date.weekday» ⟨[.ref x], []⟩) P E s := by
  have hT : s.TypeIs (.ref x) "datetime.datetime" := ⟨_, hx, rfl⟩
  have x1 := sub_dt_date
  repeat (any_goals (first | with_reducible assumption | with_reducible refine wpAny_load hx ?_ | with_reducible refine wpAny_isInstance hT x1 ?_ | with_reducible refine wpAny_bind ?_ | with_reducible refine wpAny_pure ?_ | with_reducible refine wpAny_holding ?_ | with_reducible refine wpAny_standAt ?_ | with_reducible refine wpAny_point ?_ | with_reducible refine wpAny_rule ?_ | with_reducible refine wpAny_letGo ?_ | with_reducible refine wpAny_mkInt' ?_ | with_reducible refine wpAny_fresh' ?_ | with_reducible refine wpAny_alloc' ?_ | with_reducible refine wpAny_attempt ?_ | with_reducible refine wpAny_throw ?_ | (with_reducible refine wpAny_mkStr' (hx := ?q9x) ?_; case q9x => size_fits) | with_reducible refine wpAny_of_eq (by assumption) ?_ | with_reducible refine wpAny_typeOf (by assumption) ?_ | with_reducible refine wpAny_specialOf_val (by assumption) (by assumption) ?_ | with_reducible refine wpAny_specialOf (by assumption) (by assumption) ?_ | with_reducible refine wpAny_isInstance_val (by assumption) (by assumption) ?_ | with_reducible refine wpAny_isInstance (by assumption) (by assumption) ?_ | with_reducible refine wpAny_call ?_ | with_reducible refine wpAny_runValue ?_ | with_reducible refine wpAny_run ?_ | (with_reducible refine' wpAny_load' ?_ ?_; focus ((first | with_reducible assumption | heap_get); done)) | (with_reducible refine' wpAny_update' ?_ ?_; focus ((first | with_reducible assumption | heap_get); done)) | (with_reducible refine' wpAny_loadPart' ?_ ?_; focus ((first | with_reducible assumption | heap_get); done)) | (with_reducible refine' wpAny_updatePart' ?_ ?_; focus ((first | with_reducible assumption | heap_get); done)) | with_reducible refine wpAny_handled_none (by assumption) ?_ | (with_reducible refine' wpAny_ite_false ?_ ?_; focus (rfl; done)) | (with_reducible refine' wpAny_ite_true ?_ ?_; focus (rfl; done)) | (with_reducible refine' wpAny_ite_false ?_ ?_; focus (simp [*]; done)) | (with_reducible refine' wpAny_ite_true ?_ ?_; focus (simp [*]; done)) | wp_delta | wp_step | assumption))
theorem call_weekday {Q : Value → Shared → Prop} (hx : s.heap.get? x = some (stampObj y mo da hh mi sec z)) (h : ∀ u k, Q (.int (weekdayOf (toOrdinal y mo da)) u) { s with toks := k }) :
    wpAny (model prog w) A (call (.builtin "datetime.date.weekday") [.ref x]) Q E s :=
  wpAny_call_entry slot_weekday ⟨_, hx, rfl⟩ entry_weekday (tree_weekday hx ⟨_, rfl, h _ _⟩) (args_weekday _)
end
end DZ
end DT7s
noncomputable section FMs
namespace FM
def F2 : Builtin.Str.Percent := { zero := true, width := some 2, type := 100 }
def F4 : Builtin.Str.Percent := { zero := true, width := some 4, type := 100 }
def digs (n : Int) : List Nat := (Str.ofString (toString ((n.natAbs : Nat) : Int))).cps.toList
def pad2 (n : Int) : Str := ⟨#[48 + n.toNat / 10, 48 + n.toNat % 10]⟩
def pad4 (n : Int) : Str := ⟨#[48 + n.toNat / 1000, 48 + n.toNat / 100 % 10, 48 + n.toNat / 10 % 10, 48 + n.toNat % 10]⟩
theorem pad2_all : ∀ k < 100, (Builtin.Str.percentField F2 true (Builtin.Str.percentInt F2 false (digs (k : Nat)))).getD (Builtin.Str.percentInt F2 false (digs (k : Nat))) = [48 + k / 10, 48 + k % 10] := by decide +kernel
theorem pad2_ok {n : Int} (h1 : 0 ≤ n) (h2 : n ≤ 99) : (Builtin.Str.percentField F2 true (Builtin.Str.percentInt F2 (decide (n < 0)) (digs n))).getD (Builtin.Str.percentInt F2 (decide (n < 0)) (digs n)) = (pad2 n).cps.toList := by
  obtain ⟨k, rfl⟩ := Int.eq_ofNat_of_zero_le h1
  have e : decide ((k : Int) < 0) = false := by simp
  rw [e]
  exact pad2_all k (by omega)
theorem digitChar_nat : ∀ k < 10, (Nat.digitChar k).toNat = 48 + k := by decide +kernel
theorem digs_nat (k : Nat) : digs (k : Int) = (Nat.toDigits 10 k).map Char.toNat := by
  unfold digs
  rw [signs_ofString]
  have e : (toString ((((k : Int).natAbs : Nat)) : Int)).toList = Nat.toDigits 10 k := by
    rw [Int.natAbs_natCast, Int.toString_eq_repr, Int.repr_eq_if, if_pos (by lia), Nat.toList_repr, Int.toNat_natCast]
  rw [e]
theorem toDigits4 {k : Nat} (h1 : 1000 ≤ k) (h2 : k ≤ 9999) : Nat.toDigits 10 k = [Nat.digitChar (k / 1000), Nat.digitChar (k / 100 % 10), Nat.digitChar (k / 10 % 10), Nat.digitChar (k % 10)] := by
  obtain ⟨j, rfl⟩ : ∃ j, k = j + 3 := ⟨k - 3, by omega⟩
  unfold Nat.toDigits
  have a1 : ¬ ((j + 3) / 10 = 0) := by omega
  have a2 : ¬ ((j + 3) / 10 / 10 = 0) := by omega
  have a3 : ¬ ((j + 3) / 10 / 10 / 10 = 0) := by omega
  have a4 : (j + 3) / 10 / 10 / 10 / 10 = 0 := by omega
  rw [Nat.toDigitsCore, if_neg a1, Nat.toDigitsCore, if_neg a2, Nat.toDigitsCore, if_neg a3, Nat.toDigitsCore, if_pos a4]
  have e1 : (j + 3) / 10 / 10 / 10 % 10 = (j + 3) / 1000 := by omega
  have e2 : (j + 3) / 10 / 10 % 10 = (j + 3) / 100 % 10 := by omega
  rw [e1, e2]
theorem pad4_ok {n : Int} (h1 : 1000 ≤ n) (h2 : n ≤ 9999) : (Builtin.Str.percentField F4 true (Builtin.Str.percentInt F4 (decide (n < 0)) (digs n))).getD (Builtin.Str.percentInt F4 (decide (n < 0)) (digs n)) = (pad4 n).cps.toList := by
  obtain ⟨k, rfl⟩ := Int.eq_ofNat_of_zero_le (show 0 ≤ n by lia)
  rw [KPc.int_text F4 rfl (Or.inl rfl) rfl (by lia), digs_nat, toDigits4 (by lia) (by lia)]
  have b1 := digitChar_nat (k / 1000) (by lia)
  have b2 := digitChar_nat (k / 100 % 10) (by lia)
  have b3 := digitChar_nat (k / 10 % 10) (by lia)
  have b4 := digitChar_nat (k % 10) (by lia)
  simp only [List.map_cons, List.map_nil, b1, b2, b3, b4]
  rfl
section
variable {M : Model} {A : Around} {E : Value → Shared → Prop} {s : Shared} {l : List Nat} {p : List Value} {r : List Nat}
  {f : Nat → List Value × Builtin.Str.Writer × List Nat → Sem (ForInStep (List Value × Builtin.Str.Writer × List Nat))} {Q : List Value × Builtin.Str.Writer × List Nat → Shared → Prop}
  {w : Builtin.Str.Writer} {T x y : Str} {N k : Nat} {o : Option Value}
theorem after_field {P : ForInStep (List Value × Builtin.Str.Writer × List Nat) → Shared → Prop} {o : Option (List Nat)} {text : List Nat} {ob : Option Value} (g : KPc.Good w T N) (h : o.getD text = y.cps.toList) (hl : y.length ≤ k) (hob : ob = none)
    (hk : ∀ w', KPc.Good w' (T ++ y) (N + k) → P (ForInStep.yield (p, w', r)) s) :
    wpAny M A (match o with | none => pure (ForInStep.yield (p, w.add ⟨text.toArray⟩ ob, r)) | some laid => pure (ForInStep.yield (p, w.add ⟨laid.toArray⟩, r))) P E s := by
  have key : ∀ t : List Nat, t = y.cps.toList → KPc.Good (w.add ⟨t.toArray⟩ none) (T ++ y) (N + k) := by
    intro t ht
    subst ht
    have e : (⟨y.cps.toList.toArray⟩ : Str) = y := congrArg Str.mk (Array.toArray_toList ..)
    rw [e]
    exact KPc.good_mono (KPc.good_add g (KPc.obj_none rfl)) (Nat.add_le_add_left hl _)
  subst hob
  cases o with
  | none => exact wpAny_pure (hk _ (key _ h))
  | some t => exact wpAny_pure (hk _ (key _ h))
end
theorem len_pad2 (n : Int) : (pad2 n).length ≤ 2 := Nat.le_refl 2
theorem len_pad4 (n : Int) : (pad4 n).length ≤ 4 := Nat.le_refl 4
section
variable {M : Model} {A : Around} {E : Value → Shared → Prop} {s : Shared} {p : List Value} {r : List Nat} {w : Builtin.Str.Writer} {T : Str} {N : Nat}
theorem after_f2 {P : ForInStep (List Value × Builtin.Str.Writer × List Nat) → Shared → Prop} {f : Builtin.Str.Percent} {n : Int} {ob : Option Value} (g : KPc.Good w T N) (hf : f = F2) (h1 : 0 ≤ n) (h2 : n ≤ 99) (hob : ob = none)
    (hk : ∀ w', KPc.Good w' (T ++ pad2 n) (N + 2) → P (ForInStep.yield (p, w', r)) s) :
    wpAny M A (match Builtin.Str.percentField f true (Builtin.Str.percentInt f (decide (n < 0)) (digs n)) with | none => pure (ForInStep.yield (p, w.add ⟨(Builtin.Str.percentInt f (decide (n < 0)) (digs n)).toArray⟩ ob, r)) | some laid => pure (ForInStep.yield (p, w.add ⟨laid.toArray⟩, r))) P E s := by
  subst hf
  exact after_field g (pad2_ok h1 h2) (len_pad2 _) hob hk
theorem after_f4 {P : ForInStep (List Value × Builtin.Str.Writer × List Nat) → Shared → Prop} {f : Builtin.Str.Percent} {n : Int} {ob : Option Value} (g : KPc.Good w T N) (hf : f = F4) (h1 : 1000 ≤ n) (h2 : n ≤ 9999) (hob : ob = none)
    (hk : ∀ w', KPc.Good w' (T ++ pad4 n) (N + 4) → P (ForInStep.yield (p, w', r)) s) :
    wpAny M A (match Builtin.Str.percentField f true (Builtin.Str.percentInt f (decide (n < 0)) (digs n)) with | none => pure (ForInStep.yield (p, w.add ⟨(Builtin.Str.percentInt f (decide (n < 0)) (digs n)).toArray⟩ ob, r)) | some laid => pure (ForInStep.yield (p, w.add ⟨laid.toArray⟩, r))) P E s := by
  subst hf
  exact after_field g (pad4_ok h1 h2) (len_pad4 _) hob hk
end

/-- the pieces of a format: what is left of its text, of the values; the text made so far; its bound; the whole -/
inductive Plan (L : Nat) : List Nat → List Value → Str → Nat → Str → Prop
  | done {T : Str} {N : Nat} (h : N ≤ 100) : Plan L [] [] T N T
  | lit {r lt rest : List Nat} {p : List Value} {T out : Str} {N : Nat} (hs : List.span (fun x => x != 37) r = (lt, rest)) (hn : lt.isEmpty = false) (hl : (lt.length == L) = false) (hr : rest.length < r.length) (k : Plan L rest p (T ++ ⟨lt.toArray⟩) (N + lt.length) out) : Plan L r p T N out
  | s {rest : List Nat} {p : List Value} {T out y : Str} {N : Nat} {u : Tok} (hy : y.length ≤ 3) (k : Plan L rest p (T ++ y) (N + 3) out) : Plan L (37 :: 115 :: rest) (.str y u :: p) T N out
  | d2 {rest : List Nat} {p : List Value} {T out : Str} {N : Nat} {n : Int} {u : Tok} (h1 : 0 ≤ n) (h2 : n ≤ 99) (k : Plan L rest p (T ++ pad2 n) (N + 2) out) : Plan L (37 :: 48 :: 50 :: 100 :: rest) (.int n u :: p) T N out
  | d4 {rest : List Nat} {p : List Value} {T out : Str} {N : Nat} {n : Int} {u : Tok} (h1 : 1000 ≤ n) (h2 : n ≤ 9999) (k : Plan L rest p (T ++ pad4 n) (N + 4) out) : Plan L (37 :: 48 :: 52 :: 100 :: rest) (.int n u :: p) T N out
theorem Plan.le {L : Nat} {r : List Nat} {p : List Value} {T out : Str} {N : Nat} (h : Plan L r p T N out) : N ≤ 100 := by
  induction h with
  | done h => exact h
  | lit _ _ _ _ _ ih => lia
  | s _ _ ih => lia
  | d2 _ _ _ ih => lia
  | d4 _ _ _ ih => lia
abbrev St3 := List Value × Builtin.Str.Writer × List Nat
/-- what one turn of the format's loop does -/
structure Spec (L : Nat) (M : Model) (A : Around) (E : Value → Shared → Prop) (F : Nat → St3 → Sem (ForInStep St3)) : Prop where
  done : ∀ (i : Nat) (p : List Value) (w : Builtin.Str.Writer) (T : Str) (N : Nat) (s : Shared) (Q : ForInStep St3 → Shared → Prop), KPc.Good w T N → N ≤ 100 → Q (.done (p, w, [])) s → wpAny M A (F i (p, w, [])) Q E s
  lit : ∀ (i : Nat) (p : List Value) (w : Builtin.Str.Writer) (r lt rest : List Nat) (T : Str) (N : Nat) (s : Shared) (Q : ForInStep St3 → Shared → Prop), KPc.Good w T N → N ≤ 100 → List.span (fun x => x != 37) r = (lt, rest) → lt.isEmpty = false → (lt.length == L) = false → r.isEmpty = false →
    (∀ w', KPc.Good w' (T ++ ⟨lt.toArray⟩) (N + lt.length) → Q (.yield (p, w', rest)) s) → wpAny M A (F i (p, w, r)) Q E s
  str : ∀ (i : Nat) (p : List Value) (w : Builtin.Str.Writer) (rest : List Nat) (y T : Str) (u : Tok) (N : Nat) (s : Shared) (Q : ForInStep St3 → Shared → Prop), KPc.Good w T N → N ≤ 100 → y.length ≤ 3 → (∀ w' k, KPc.Good w' (T ++ y) (N + 3) → Q (.yield (p, w', rest)) { s with toks := k }) → wpAny M A (F i (.str y u :: p, w, 37 :: 115 :: rest)) Q E s
  d2 : ∀ (i : Nat) (p : List Value) (w : Builtin.Str.Writer) (rest : List Nat) (n : Int) (T : Str) (u : Tok) (N : Nat) (s : Shared) (Q : ForInStep St3 → Shared → Prop), KPc.Good w T N → N ≤ 100 → 0 ≤ n → n ≤ 99 → (∀ w' k, KPc.Good w' (T ++ pad2 n) (N + 2) → Q (.yield (p, w', rest)) { s with toks := k }) → wpAny M A (F i (.int n u :: p, w, 37 :: 48 :: 50 :: 100 :: rest)) Q E s
  d4 : ∀ (i : Nat) (p : List Value) (w : Builtin.Str.Writer) (rest : List Nat) (n : Int) (T : Str) (u : Tok) (N : Nat) (s : Shared) (Q : ForInStep St3 → Shared → Prop), KPc.Good w T N → N ≤ 100 → 1000 ≤ n → n ≤ 9999 → (∀ w' k, KPc.Good w' (T ++ pad4 n) (N + 4) → Q (.yield (p, w', rest)) { s with toks := k }) → wpAny M A (F i (.int n u :: p, w, 37 :: 48 :: 52 :: 100 :: rest)) Q E s
theorem turns_ok {L : Nat} {M : Model} {A : Around} {E : Value → Shared → Prop} {F : Nat → St3 → Sem (ForInStep St3)} (S : Spec L M A E F) {r : List Nat} {p : List Value} {T out : Str} {N : Nat} (h : Plan L r p T N out) :
    ∀ (i k : Nat) (w : Builtin.Str.Writer) (s : Shared) (Q : St3 → Shared → Prop), r.length ≤ k → KPc.Good w T N → (∀ w' j, KPc.Good w' out 100 → Q ([], w', []) { s with toks := j }) → wpAny M A (forIn (List.range' i k) (p, w, r) F) Q E s := by
  induction h with
  | done h =>
    intro i k w s Q hk g hQ
    have g' := KPc.good_mono g h
    cases k with
    | zero => exact wpAny_pure (hQ w s.toks g')
    | succ k => exact KPc.turn (S.done i _ w _ _ s _ g h (hQ w s.toks g'))
  | lit hs hn hl hr hp ih =>
    intro i k w s Q hk g hQ
    cases k with
    | zero => lia
    | succ k =>
      rename_i r lt rest p T out N
      refine KPc.turn (S.lit i _ w _ _ _ _ _ s _ g (by have := hp.le; lia) hs hn hl (by cases r with | nil => simp at hr | cons => rfl) fun w' g' => ?_)
      exact ih (i + 1) k w' s Q (by lia) g' hQ
  | s hy hp ih =>
    intro i k w s Q hk g hQ
    cases k with
    | zero => simp at hk
    | succ k =>
      refine KPc.turn (S.str i _ w _ _ _ _ _ s _ g (by have := hp.le; lia) hy fun w' j g' => ?_)
      exact ih (i + 1) k w' _ Q (by simp at hk; lia) g' hQ
  | d2 h1 h2 hp ih =>
    intro i k w s Q hk g hQ
    cases k with
    | zero => simp at hk
    | succ k =>
      refine KPc.turn (S.d2 i _ w _ _ _ _ _ s _ g (by have := hp.le; lia) h1 h2 fun w' j g' => ?_)
      exact ih (i + 1) k w' _ Q (by simp at hk; lia) g' hQ
  | d4 h1 h2 hp ih =>
    intro i k w s Q hk g hQ
    cases k with
    | zero => simp at hk
    | succ k =>
      refine KPc.turn (S.d4 i _ w _ _ _ _ _ s _ g (by have := hp.le; lia) h1 h2 fun w' j g' => ?_)
      exact ih (i + 1) k w' _ Q (by simp at hk; lia) g' hQ
theorem fmt_any {X out : Str} {t : Tok} {x : Addr} {vs : List Value} (h : Plan X.length X.cps.toList vs Str.empty 0 out) (hX : X.length ≤ 100) :
    Meets (Builtin.«str.__mod__» ⟨[.str X t, .ref x], []⟩) (fun _ R s => IsTup s.heap x vs.toArray ∧ ∀ t' k, R (.ok (.ret (.str out t'))) { s with toks := k }) := by
  apply KPt.meets_tup
  intro _ _ _ _ _ _ kptH _
  obtain ⟨kptO, kptG, kptC, kptN, kptD⟩ := kptH
  rw [KPt.entry_is_r]
  unfold Builtin.Str.percentFormat
  refine wpAny_bind (wpAny_isInstance (T := "tuple") ⟨kptO, kptG, kptC⟩ KPt.sub_tt ?_)
  refine wpAny_bind (KPt.asStr_ref kptG kptD ?_)
  refine wpAny_bind (KPt.fills_ref ⟨kptO, kptG, kptC⟩ ?_)
  intro _
  kpc_if
  refine wpAny_bind (wpAny_seqItems kptG kptD ?_)
  refine wpAny_bind (wpAny_pure ?_)
  refine wpAny_bind ?_
  rw [KPc.range_list]
  refine KPc.start ?_
  intro w0 g0
  refine turns_ok (L := X.length) ⟨?done, ?lit, ?str, ?d2, ?d4⟩ h 0 _ w0 _ _ ?hk g0 ?hQ
  case hk => exact Nat.le_of_eq (Array.length_toList ..)
  case hQ => (intro w' j g'; kpc_if; refine KPc.finish_ok g' (by decide) rfl ?_; first | (with_reducible assumption) | assumption)
  case done => (intro i p w T N s Q g hN hQ; refine wpAny_ite (KPc.ite_no (KPc.short_good g (by lia)) ?_); kpc_if; exact wpAny_pure hQ)
  case lit =>
    intro i p w r lt rest T N s Q g hN hs hn hl hr hQ
    refine wpAny_ite (KPc.ite_no (KPc.short_good g (by lia)) ?_)
    refine wpAny_ite (KPc.ite_no (Bool.eq_false_iff.mp hr) ?_)
    revert hs
    generalize List.span (fun x => x != 37) r = sp
    intro hs
    subst hs
    refine wpAny_ite (KPc.ite_yes ((Bool.not_eq_true' _).mpr hn) ?_)
    exact wpAny_pure (hQ _ (KPc.good_add g (KPc.obj_none (if_neg (Bool.eq_false_iff.mp hl)))))
  case str =>
    intro i p w rest y T u N s Q g hN hy hQ
    refine wpAny_ite (KPc.ite_no (KPc.short_good g (by lia)) ?_)
    repeat kpc_if
    refine wpAny_bind ?_; refine wpAny_holding ?_; (repeat kpc_if); kpt_conv; refine wpAny_pure ?_; refine wpAny_pure ?_
    have eb : (⟨y.cps.toList.toArray⟩ : Str) = y := congrArg Str.mk (Array.toArray_toList ..)
    have key : ∀ o : Option Value, KPc.Obj o y → KPc.Good (w.add ⟨y.cps.toList.toArray⟩ o) (T ++ y) (N + 3) := fun o ho => by
      rw [eb]
      exact KPc.good_mono (KPc.good_add g ho) (Nat.add_le_add_left hy _)
    exact hQ _ s.toks (key _ (by split; exact KPc.obj_some rfl; exact KPc.obj_none rfl))
  case d2 =>
    intro i p w rest n T u N s Q g hN h1 h2 hQ
    refine wpAny_ite (KPc.ite_no (KPc.short_good g (by lia)) ?_)
    repeat kpc_if
    refine wpAny_bind ?_; refine wpAny_holding ?_; (repeat kpc_if); kpt_conv; refine wpAny_pure ?_; wp_delta
    exact after_f2 g rfl h1 h2 (by kpc_none) fun w' g' => hQ w' _ g'
  case d4 =>
    intro i p w rest n T u N s Q g hN h1 h2 hQ
    refine wpAny_ite (KPc.ite_no (KPc.short_good g (by lia)) ?_)
    repeat kpc_if
    refine wpAny_bind ?_; refine wpAny_holding ?_; (repeat kpc_if); kpt_conv; refine wpAny_pure ?_; wp_delta
    exact after_f4 g rfl h1 h2 (by kpc_none) fun w' g' => hQ w' _ g'
theorem fmt2 {b : Str} {d : Int} {t u1 u2 : Tok} {x : Addr} (hb : b.length ≤ 3) (d1 : 0 ≤ d) (d2 : d ≤ 99) :
    Meets (Builtin.«str.__mod__» ⟨[.str ⟨#[37,48,50,100,45,37,115]⟩ t, .ref x], []⟩) (fun _ R s => IsTup s.heap x #[.int d u1, .str b u2] ∧ ∀ t' k, R (.ok (.ret (.str (pad2 d ++ Str.ofString "-" ++ b) t'))) { s with toks := k }) := by
  rw [← KPc.empty_app (pad2 d)]
  exact fmt_any (vs := [.int d u1, .str b u2]) (.d2 d1 d2 (.lit rfl rfl rfl (by decide) (.s hb (.done (by decide))))) (by decide)
theorem fmt3 {b : Str} {d : Int} {t u1 u2 : Tok} {x : Addr} (hb : b.length ≤ 3) (d1 : 0 ≤ d) (d2 : d ≤ 99) :
    Meets (Builtin.«str.__mod__» ⟨[.str ⟨#[44,32,37,48,50,100,45,37,115]⟩ t, .ref x], []⟩) (fun _ R s => IsTup s.heap x #[.int d u1, .str b u2] ∧ ∀ t' k, R (.ok (.ret (.str (Str.ofString ", " ++ pad2 d ++ Str.ofString "-" ++ b) t'))) { s with toks := k }) := by
  rw [← KPc.empty_app (Str.ofString ", ")]
  exact fmt_any (vs := [.int d u1, .str b u2]) (.lit rfl rfl rfl (by decide) (.d2 d1 d2 (.lit rfl rfl rfl (by decide) (.s hb (.done (by decide)))))) (by decide)
theorem fmt7 {a b : Str} {d y h mi sec : Int} {t u1 u2 u3 u4 u5 u6 u7 : Tok} {x : Addr} (ha : a.length ≤ 3) (hb : b.length ≤ 3) (d1 : 0 ≤ d) (d2 : d ≤ 99) (y1 : 1000 ≤ y) (y2 : y ≤ 9999) (h1 : 0 ≤ h) (h2 : h ≤ 99) (i1 : 0 ≤ mi) (i2 : mi ≤ 99) (s1 : 0 ≤ sec) (s2 : sec ≤ 99) :
    Meets (Builtin.«str.__mod__» ⟨[.str ⟨#[37,115,44,32,37,48,50,100,45,37,115,45,37,48,52,100,32,37,48,50,100,58,37,48,50,100,58,37,48,50,100,32,71,77,84]⟩ t, .ref x], []⟩) (fun _ R s => IsTup s.heap x #[.str a u1, .int d u2, .str b u3, .int y u4, .int h u5, .int mi u6, .int sec u7] ∧ ∀ t' k, R (.ok (.ret (.str (a ++ Str.ofString ", " ++ pad2 d ++ Str.ofString "-" ++ b ++ Str.ofString "-" ++ pad4 y ++ Str.ofString " " ++ pad2 h ++ Str.ofString ":" ++ pad2 mi ++ Str.ofString ":" ++ pad2 sec ++ Str.ofString " GMT") t'))) { s with toks := k }) := by
  have h := fmt_any (X := ⟨#[37,115,44,32,37,48,50,100,45,37,115,45,37,48,52,100,32,37,48,50,100,58,37,48,50,100,58,37,48,50,100,32,71,77,84]⟩) (t := t) (x := x) (vs := [.str a u1, .int d u2, .str b u3, .int y u4, .int h u5, .int mi u6, .int sec u7]) (.s ha (.lit rfl rfl rfl (by decide) (.d2 d1 d2 (.lit rfl rfl rfl (by decide) (.s hb (.lit rfl rfl rfl (by decide) (.d4 y1 y2 (.lit rfl rfl rfl (by decide) (.d2 h1 h2 (.lit rfl rfl rfl (by decide) (.d2 i1 i2 (.lit rfl rfl rfl (by decide) (.d2 s1 s2 (.lit rfl rfl rfl (by decide) (.done (by decide)))))))))))))))) (by decide)
  rw [KPc.empty_app] at h
  exact h
theorem getD_len {ws : List Str} (h : ws.all (fun x => decide (x.length ≤ 3)) = true) (i : Nat) : (ws.getD i Str.empty).length ≤ 3 := by
  rw [List.all_eq_true] at h
  by_cases hi : i < ws.length
  · have e : ws.getD i Str.empty = ws[i] := by simp [List.getD, hi]
    rw [e]
    exact of_decide_eq_true (h _ (List.getElem_mem hi))
  · have e : ws.getD i Str.empty = Str.empty := by simp [List.getD, Nat.le_of_not_lt hi]
    rw [e]
    decide
def dayNames : List Str := ["Mon", "Tue", "Wed", "Thu", "Fri", "Sat", "Sun"]
def monthNames : List Str := ["Jan", "Feb", "Mar", "Apr", "May", "Jun", "Jul", "Aug", "Sep", "Oct", "Nov", "Dec"]
def stampText (a b : Str) (d y h mi sec : Int) : Str := a ++ Str.ofString ", " ++ pad2 d ++ Str.ofString "-" ++ b ++ Str.ofString "-" ++ pad4 y ++ Str.ofString " " ++ pad2 h ++ Str.ofString ":" ++ pad2 mi ++ Str.ofString ":" ++ pad2 sec ++ Str.ofString " GMT"
end FM
end FMs
noncomputable section D6s
namespace FM
theorem fmt7' {a b : Str} {d y h mi sec : Int} {t u1 u2 u3 u4 u5 u6 u7 : Tok} {x : Addr} (ha : a.length ≤ 3) (hb : b.length ≤ 3) (d1 : 1 ≤ d) (d2 : d ≤ 31) (y1 : 1000 ≤ y) (y2 : y ≤ 9999) (h1 : 0 ≤ h) (h2 : h ≤ 23) (i1 : 0 ≤ mi) (i2 : mi ≤ 59) (s1 : 0 ≤ sec) (s2 : sec ≤ 59) :
    Meets (Builtin.«str.__mod__» ⟨[.str ⟨#[37,115,44,32,37,48,50,100,45,37,115,45,37,48,52,100,32,37,48,50,100,58,37,48,50,100,58,37,48,50,100,32,71,77,84]⟩ t, .ref x], []⟩) (fun _ R s => IsTup s.heap x #[.str a u1, .int d u2, .str b u3, .int y u4, .int h u5, .int mi u6, .int sec u7] ∧ ∀ t' k, R (.ok (.ret (.str (FM.stampText a b d y h mi sec) t'))) { s with toks := k }) :=
  FM.fmt7 ha hb (by lia) (by lia) y1 y2 h1 (by lia) i1 (by lia) s1 (by lia)
end FM

namespace FM
/-- the text of a moment, of its date and its clock -/
def nsText (y mo d h mi sec : Int) : Str := stampText (dayNames.getD (Builtin._datetime.weekdayOf (Builtin._datetime.toOrdinal y mo d)).toNat Str.empty) (monthNames.getD (mo - 1).toNat Str.empty) d y h mi sec
theorem fmtNs {d y mo h mi sec : Int} {t u1 u2 u3 u4 u5 u6 u7 : Tok} {x : Addr} (d1 : 1 ≤ d) (d2 : d ≤ 31) (y1 : 1000 ≤ y) (y2 : y ≤ 9999) (h1 : 0 ≤ h) (h2 : h ≤ 23) (i1 : 0 ≤ mi) (i2 : mi ≤ 59) (s1 : 0 ≤ sec) (s2 : sec ≤ 59) :
    Meets (Builtin.«str.__mod__» ⟨[.str ⟨#[37,115,44,32,37,48,50,100,45,37,115,45,37,48,52,100,32,37,48,50,100,58,37,48,50,100,58,37,48,50,100,32,71,77,84]⟩ t, .ref x], []⟩) (fun _ R s => IsTup s.heap x #[.str (([Str.ofString "Mon", Str.ofString "Tue", Str.ofString "Wed", Str.ofString "Thu", Str.ofString "Fri", Str.ofString "Sat", Str.ofString "Sun"] : List Str).getD (Builtin._datetime.weekdayOf (Builtin._datetime.toOrdinal y mo d)).toNat Str.empty) u1, .int d u2, .str (([Str.ofString "Jan", Str.ofString "Feb", Str.ofString "Mar", Str.ofString "Apr", Str.ofString "May", Str.ofString "Jun", Str.ofString "Jul", Str.ofString "Aug", Str.ofString "Sep", Str.ofString "Oct", Str.ofString "Nov", Str.ofString "Dec"] : List Str).getD (mo - 1).toNat Str.empty) u3, .int y u4, .int h u5, .int mi u6, .int sec u7] ∧ ∀ t' k, R (.ok (.ret (.str (FM.nsText y mo d h mi sec) t'))) { s with toks := k }) :=
  fmt7' (getD_len (ws := dayNames) (by decide +kernel) _) (getD_len (ws := monthNames) (by decide +kernel) _) d1 d2 y1 y2 h1 h2 i1 i2 s1 s2
end FM

theorem t2n_ok (w : World) (mean : ExcName → Option Value) (mg mb : Str → Option Value) (n y mo da hh mi sec wd : Int) (t : Tok) (C : DZ.Civil n y mo da hh mi sec) (y1 : 1000 ≤ y) (y2 : y ≤ 9999) (m1 : 1 ≤ mo) (m2 : mo ≤ 12) (d1 : 1 ≤ da) (d2 : da ≤ 31) (h1 : 0 ≤ hh) (h2 : hh ≤ 23) (i1 : 0 ≤ mi) (i2 : mi ≤ 59) (s1 : 0 ≤ sec) (s2 : sec ≤ 59) (w1 : 0 ≤ Builtin._datetime.weekdayOf (Builtin._datetime.toOrdinal y mo da)) (w2 : Builtin._datetime.weekdayOf (Builtin._datetime.toOrdinal y mo da) < 7) :
    ClaimV w mean mg mb 91 12 (fun _ => True) [.int n t] (fun t => .str (FM.nsText y mo da hh mi sec) t) := by
  unfold ClaimV
  k_fill
  intros; rename_i hret
  refine wpAny_call ?_
  k_dflt (refine' code_def ?k1 ?k2 ?k3 ?k4 ?k5 ?kA ?kF ?kK ?k6 ?k7 ?k8 ?k9 ?kB ?_ ?c2 ?c3 ?c4 ?c5; (case kA => exact rfl); (case kF => exact rfl); (case kK => first | exact rfl | assumption); (case k1 => k_asm); (case k2 => k_asm); (case k3 => k_asm); (case k4 => k_asm); (case k5 => k_asm); (case k6 => k_is); (case k7 => k_is); (case k8 => ktr_room); (case k9 => first | exact BindsTo.of_eq rfl | exact binds_K (by k_in) rfl (by k_is) rfl rfl rfl); (case c5 => decide); (case kB => exact locs rfl); (case c2 => exact rfl); (case c3 => exact rfl); (case c4 => exact rfl); k_whole; intro g' L' h' FG' F' N' B' X' T'; (try dsimp only); (try k_fold))
  repeat' (first
      | (k_unfold; (try dsimp only))
      | (k_end; kc_close)
      | (with_reducible (k_here; (with_reducible show wpAny _ _ (binaryOp Operator.Mod (Value.str _ _) (Value.ref _)) _ _ _); k_dflt (refine' KPt.mod_tuple ?kptN ?kptb ?kptF ?kptm ?_; (case kptN => k_asm); (case kptb => k_mem); (case kptF => kpt_eq); (case kptm => exact FM.fmtNs (by assumption) (by assumption) (by assumption) (by assumption) (by assumption) (by assumption) (by assumption) (by assumption) (by assumption) (by assumption)); k_whole); intro _ _))
      | (with_reducible (k_here; (with_reducible show wpAny _ _ (subscriptTail _ _ (Value.ref 78) (Value.int _ _)) _ _ _); k_dflt (refine' glob_words (ss := ["Jan", "Feb", "Mar", "Apr", "May", "Jun", "Jul", "Aug", "Sep", "Oct", "Nov", "Dec"]) ?k1 ?k2 ?k3 ?k4 ?k5 ?k6 ?_ ?k7); (case k1 => k_asm); (case k2 => kernel_rfl); (case k3 => k_asm); (case k4 => omega); (case k5 => ((try simp only [List.length_cons, List.length_nil]); omega)); (case k6 => decide); (case k7 => with_unfolding_all rfl); intro _))
      | (with_reducible (k_here; (with_reducible show wpAny _ _ (subscriptTail _ _ (Value.ref 77) (Value.int _ _)) _ _ _); k_dflt (refine' glob_words (ss := ["Mon", "Tue", "Wed", "Thu", "Fri", "Sat", "Sun"]) ?k1 ?k2 ?k3 ?k4 ?k5 ?k6 ?_ ?k7); (case k1 => k_asm); (case k2 => kernel_rfl); (case k3 => k_asm); (case k4 => omega); (case k5 => ((try simp only [List.length_cons, List.length_nil]); omega)); (case k6 => decide); (case k7 => with_unfolding_all rfl); intro _))
      | (with_reducible ((with_reducible show wpAny _ _ (call (Value.builtin "datetime.date.weekday") _) _ _ _); (k_here; k_dflt (refine' DZ.call_weekday ?hx ?_; (case hx => exact News.get (by k_asm) (by k_mem)); k_whole); intro _ _)))
      | (with_reducible (k_here; (with_reducible show wpAny _ _ (getMethod (Value.ref _) (PySem.Str.ofString "weekday") _) _ _ _); k_dflt (refine' DZ.method_weekday ?hx ?_; (case hx => exact News.get (by k_asm) (by k_mem)); k_whole)))
      | (with_reducible (k_here; (with_reducible show wpAny _ _ (getAttr (Value.ref _) (PySem.Str.ofString "second") _) _ _ _); k_dflt (refine' DZ.getAttr_second ?hx ?_; (case hx => exact News.get (by k_asm) (by k_mem)); k_whole); intro _ _))
      | (with_reducible (k_here; (with_reducible show wpAny _ _ (getAttr (Value.ref _) (PySem.Str.ofString "minute") _) _ _ _); k_dflt (refine' DZ.getAttr_minute ?hx ?_; (case hx => exact News.get (by k_asm) (by k_mem)); k_whole); intro _ _))
      | (with_reducible (k_here; (with_reducible show wpAny _ _ (getAttr (Value.ref _) (PySem.Str.ofString "hour") _) _ _ _); k_dflt (refine' DZ.getAttr_hour ?hx ?_; (case hx => exact News.get (by k_asm) (by k_mem)); k_whole); intro _ _))
      | (with_reducible (k_here; (with_reducible show wpAny _ _ (getAttr (Value.ref _) (PySem.Str.ofString "day") _) _ _ _); k_dflt (refine' DZ.getAttr_day ?hx ?_; (case hx => exact News.get (by k_asm) (by k_mem)); k_whole); intro _ _))
      | (with_reducible (k_here; (with_reducible show wpAny _ _ (getAttr (Value.ref _) (PySem.Str.ofString "month") _) _ _ _); k_dflt (refine' DZ.getAttr_month ?hx ?_; (case hx => exact News.get (by k_asm) (by k_mem)); k_whole); intro _ _))
      | (with_reducible (k_here; (with_reducible show wpAny _ _ (getAttr (Value.ref _) (PySem.Str.ofString "year") _) _ _ _); k_dflt (refine' DZ.getAttr_year ?hx ?_; (case hx => exact News.get (by k_asm) (by k_mem)); k_whole); intro _ _))
      | (with_reducible (k_here; (with_reducible show wpAny _ _ (call (Value.ref _) [Value.int _ _] _) _ _ _); k_dflt (refine' DZ.call_ft (z := 50) (zd := 49) ?kzF ?kzN ?kzX ?kzC ?kzM ?kzZ ?kzD ?_; (case kzF => k_asm); (case kzN => k_asm); (case kzX => k_asm); (case kzC => assumption); (case kzM => k_mem); (case kzZ => with_unfolding_all rfl); (case kzD => with_unfolding_all rfl); k_whole); intro D' h' F' N' l1; (try k_lt l1); (try k_sweep)))
      | (with_reducible ((with_reducible show wpAny _ _ (getAttr (Value.type "datetime.timezone") _ _) _ _ _); (k_here; k_dflt (refine' DZ.getAttr_utc ?kzF ?kzX ?kzE ?_; (case kzF => k_asm); (case kzX => k_asm); (case kzE => k_is); k_whole))))
      | (with_reducible ((with_reducible show DF.StandsAt _ _ ∧ _); k_dflt (refine ⟨DF.at_of (by k_asm) (by k_mem), ?_⟩); (try dsimp only [List.nil_append, List.cons_append])))
      | (with_reducible (k_here; (with_reducible show wpAny _ _ (callWith _ (Value.ref _) _ (backTo _ (starEach (_ :: _) _)) (backToKw _ _)) _ _ _); k_dflt (refine' DF.callWith_kwR ?kfbN ?kfbM ?_; (case kfbN => k_asm); (case kfbM => k_mem); k_whole)))
      | (with_reducible ((with_reducible show wpAny _ _ (getMethod (Value.type "datetime.datetime") _ _) _ _ _); (k_here; k_dflt (refine' DF.getm ?kfbF ?kfbN ?kfbX ?kfbE ?_; (case kfbF => k_asm); (case kfbN => k_asm); (case kfbX => k_asm); (case kfbE => k_is); k_whole; intro x' h' F' N' l1; (try k_lt l1); (try k_sweep)))))
      | (with_reducible ((first | (with_reducible show wpAny _ _ (eval _ (Calls.envOf _ _ _ _ _)) _ _ _) | (with_reducible show wpAny _ _ (eval _ (Calls.envOfC _ _ _ _ _)) _ _ _)); refine Call_ ?_))
      | walk1
      | (k_here; (with_reducible show wpAny _ _ (binaryOp Operator.Mod (Value.str _ _) (Value.ref _)) _ _ _); k_dflt (refine' KPt.mod_tuple ?kptN ?kptb ?kptF ?kptm ?_; (case kptN => k_asm); (case kptb => k_mem); (case kptF => kpt_eq); (case kptm => exact FM.fmtNs (by assumption) (by assumption) (by assumption) (by assumption) (by assumption) (by assumption) (by assumption) (by assumption) (by assumption) (by assumption)); k_whole); intro _ _)
      | (k_here; (with_reducible show wpAny _ _ (subscriptTail _ _ (Value.ref 78) (Value.int _ _)) _ _ _); k_dflt (refine' glob_words (ss := ["Jan", "Feb", "Mar", "Apr", "May", "Jun", "Jul", "Aug", "Sep", "Oct", "Nov", "Dec"]) ?k1 ?k2 ?k3 ?k4 ?k5 ?k6 ?_ ?k7); (case k1 => k_asm); (case k2 => kernel_rfl); (case k3 => k_asm); (case k4 => omega); (case k5 => ((try simp only [List.length_cons, List.length_nil]); omega)); (case k6 => decide); (case k7 => with_unfolding_all rfl); intro _)
      | (k_here; (with_reducible show wpAny _ _ (subscriptTail _ _ (Value.ref 77) (Value.int _ _)) _ _ _); k_dflt (refine' glob_words (ss := ["Mon", "Tue", "Wed", "Thu", "Fri", "Sat", "Sun"]) ?k1 ?k2 ?k3 ?k4 ?k5 ?k6 ?_ ?k7); (case k1 => k_asm); (case k2 => kernel_rfl); (case k3 => k_asm); (case k4 => omega); (case k5 => ((try simp only [List.length_cons, List.length_nil]); omega)); (case k6 => decide); (case k7 => with_unfolding_all rfl); intro _)
      | ((with_reducible show wpAny _ _ (call (Value.builtin "datetime.date.weekday") _) _ _ _); (k_here; k_dflt (refine' DZ.call_weekday ?hx ?_; (case hx => exact News.get (by k_asm) (by k_mem)); k_whole); intro _ _))
      | (k_here; (with_reducible show wpAny _ _ (getMethod (Value.ref _) (PySem.Str.ofString "weekday") _) _ _ _); k_dflt (refine' DZ.method_weekday ?hx ?_; (case hx => exact News.get (by k_asm) (by k_mem)); k_whole))
      | (k_here; (with_reducible show wpAny _ _ (getAttr (Value.ref _) (PySem.Str.ofString "second") _) _ _ _); k_dflt (refine' DZ.getAttr_second ?hx ?_; (case hx => exact News.get (by k_asm) (by k_mem)); k_whole); intro _ _)
      | (k_here; (with_reducible show wpAny _ _ (getAttr (Value.ref _) (PySem.Str.ofString "minute") _) _ _ _); k_dflt (refine' DZ.getAttr_minute ?hx ?_; (case hx => exact News.get (by k_asm) (by k_mem)); k_whole); intro _ _)
      | (k_here; (with_reducible show wpAny _ _ (getAttr (Value.ref _) (PySem.Str.ofString "hour") _) _ _ _); k_dflt (refine' DZ.getAttr_hour ?hx ?_; (case hx => exact News.get (by k_asm) (by k_mem)); k_whole); intro _ _)
      | (k_here; (with_reducible show wpAny _ _ (getAttr (Value.ref _) (PySem.Str.ofString "day") _) _ _ _); k_dflt (refine' DZ.getAttr_day ?hx ?_; (case hx => exact News.get (by k_asm) (by k_mem)); k_whole); intro _ _)
      | (k_here; (with_reducible show wpAny _ _ (getAttr (Value.ref _) (PySem.Str.ofString "month") _) _ _ _); k_dflt (refine' DZ.getAttr_month ?hx ?_; (case hx => exact News.get (by k_asm) (by k_mem)); k_whole); intro _ _)
      | (k_here; (with_reducible show wpAny _ _ (getAttr (Value.ref _) (PySem.Str.ofString "year") _) _ _ _); k_dflt (refine' DZ.getAttr_year ?hx ?_; (case hx => exact News.get (by k_asm) (by k_mem)); k_whole); intro _ _)
      | (k_here; (with_reducible show wpAny _ _ (call (Value.ref _) [Value.int _ _] _) _ _ _); k_dflt (refine' DZ.call_ft (z := 50) (zd := 49) ?kzF ?kzN ?kzX ?kzC ?kzM ?kzZ ?kzD ?_; (case kzF => k_asm); (case kzN => k_asm); (case kzX => k_asm); (case kzC => assumption); (case kzM => k_mem); (case kzZ => with_unfolding_all rfl); (case kzD => with_unfolding_all rfl); k_whole); intro D' h' F' N' l1; (try k_lt l1); (try k_sweep))
      | ((with_reducible show wpAny _ _ (getAttr (Value.type "datetime.timezone") _ _) _ _ _); (k_here; k_dflt (refine' DZ.getAttr_utc ?kzF ?kzX ?kzE ?_; (case kzF => k_asm); (case kzX => k_asm); (case kzE => k_is); k_whole)))
      | ((with_reducible show DF.StandsAt _ _ ∧ _); k_dflt (refine ⟨DF.at_of (by k_asm) (by k_mem), ?_⟩); (try dsimp only [List.nil_append, List.cons_append]))
      | (k_here; (with_reducible show wpAny _ _ (callWith _ (Value.ref _) _ (backTo _ (starEach (_ :: _) _)) (backToKw _ _)) _ _ _); k_dflt (refine' DF.callWith_kwR ?kfbN ?kfbM ?_; (case kfbN => k_asm); (case kfbM => k_mem); k_whole))
      | ((with_reducible show wpAny _ _ (getMethod (Value.type "datetime.datetime") _ _) _ _ _); (k_here; k_dflt (refine' DF.getm ?kfbF ?kfbN ?kfbX ?kfbE ?_; (case kfbF => k_asm); (case kfbN => k_asm); (case kfbX => k_asm); (case kfbE => k_is); k_whole; intro x' h' F' N' l1; (try k_lt l1); (try k_sweep))))
      | ((first | (with_reducible show wpAny _ _ (eval _ (Calls.envOf _ _ _ _ _)) _ _ _) | (with_reducible show wpAny _ _ (eval _ (Calls.envOfC _ _ _ _ _)) _ _ _)); refine Call_ ?_)
      | (dsimp only; walk1)
      | (leave1; walk_say "STEP leave1"; (try dsimp only)))
  all_goals (refine cb_retS hret ?e1 ?e2 ?e3; (case e2 => k_asm); (case e3 => first | k_asm | (refine' cb_drop ?cbN ?cbS; (case cbN => assumption); (case cbS => first | (intro p hp; (repeat (first | with_reducible exact hp | with_reducible refine List.mem_cons_of_mem _ ?_)); done) | kcj_all))); (case e1 => exact rfl))
end D6s
noncomputable section MCs
open Builtin.Time (timeCivil timeIsLeap timeDaysBefore timeBroken)
open Builtin._datetime (toOrdinal daysInMonth ofOrdinal Stamp)
theorem leap_eq (y : Int) : timeIsLeap y = isLeap y := by
  rw [Bool.eq_iff_iff, isLeap_iff]
  unfold timeIsLeap
  simp
theorem before_eq {y m : Int} (h1 : 1 ≤ m) (h2 : m ≤ 12) : timeDaysBefore (timeIsLeap y) m = dbm y m := by
  rw [leap_eq]
  unfold timeDaysBefore dbm
  exact tab12 (Q := fun m => ∀ b : Bool, timeDaysBefore b m = dbmB b m) (by decide) m h1 h2 (isLeap y)
theorem toOrd_eq {y m : Int} (d : Int) (h1 : 1 ≤ m) (h2 : m ≤ 12) : toOrdinal y m d = ymdOrd y m d := by
  unfold toOrdinal ymdOrd
  rw [before_eq h1 h2, dby_eq]
theorem dim_eq {y m : Int} (h1 : 1 ≤ m) (h2 : m ≤ 12) : daysInMonth y m = dim y m := by
  unfold daysInMonth dim
  rw [leap_eq]
  rcases cases12 h1 h2 with h | h | h | h | h | h | h | h | h | h | h | h <;> subst h <;> cases isLeap y <;> decide
/-- the years' count ahead of the division in timeCivil -/
def gy (x : Int) : Int := x - x / 1460 + x / 36524 - x / 146096
theorem gy_step {x : Int} (h1 : 0 ≤ x) (h2 : x < 146096) : gy x ≤ gy (x + 1) := by unfold gy; lia
theorem gy_mono {x : Int} (k : Nat) (h1 : 0 ≤ x) (h2 : x + k ≤ 146096) : gy x ≤ gy (x + k) := by
  induction k with
  | zero => simp
  | succ k ih =>
    refine Int.le_trans (ih (by lia)) ?_
    have := gy_step (x := x + k) (by lia) (by lia)
    have e : x + ((k + 1 : Nat) : Int) = x + k + 1 := by lia
    rw [e]
    exact this
def yStart (y : Nat) : Int := 365 * (y : Int) + (y : Int) / 4 - (y : Int) / 100
theorem gy_ends : ∀ y < 400, gy (yStart y) / 365 = y ∧ gy (yStart (y + 1) - 1 + (if y = 399 then 1 else 0)) / 365 = y := by decide +kernel
theorem gy_year {y : Nat} {x : Int} (hy : y < 400) (h1 : yStart y ≤ x) (h2 : x ≤ yStart (y + 1) - 1 + (if y = 399 then 1 else 0)) : gy x / 365 = y := by
  obtain ⟨e1, e2⟩ := gy_ends y hy
  have h0 : 0 ≤ yStart y := by unfold yStart; lia
  have hT : yStart (y + 1) - 1 + (if y = 399 then 1 else 0) ≤ 146096 := by
    unfold yStart
    split <;> lia
  have a := gy_mono (x := yStart y) (x - yStart y).toNat h0 (by lia)
  have e3 : yStart y + ((x - yStart y).toNat : Int) = x := by lia
  rw [e3] at a
  have b := gy_mono (x := x) (yStart (y + 1) - 1 + (if y = 399 then 1 else 0) - x).toNat (by lia) (by lia)
  have e4 : x + ((yStart (y + 1) - 1 + (if y = 399 then 1 else 0) - x).toNat : Int) = yStart (y + 1) - 1 + (if y = 399 then 1 else 0) := by lia
  rw [e4] at b
  have c1 := Int.ediv_le_ediv (c := 365) (by decide) a
  have c2 := Int.ediv_le_ediv (c := 365) (by decide) b
  lia
theorem civil_march {era doy mp : Int} {y : Nat} (hy : y < 400) (hd0 : 0 ≤ doy) (hd1 : doy ≤ 365) (hd2 : doy = 365 → yStart (y + 1) - yStart y + (if y = 399 then 1 else 0) = 366) (hmp : (5 * doy + 2) / 153 = mp) :
    timeCivil (era * 146097 + yStart y + doy - 719468) = ((y : Int) + era * 400 + (if (if mp < 10 then mp + 3 else mp - 9) ≤ 2 then 1 else 0), (if mp < 10 then mp + 3 else mp - 9), doy - (153 * mp + 2) / 5 + 1) := by
  have h0 : 0 ≤ yStart y := by unfold yStart; lia
  have hlen : 365 ≤ yStart (y + 1) - yStart y + (if y = 399 then 1 else 0) := by unfold yStart; split <;> lia
  have hx : yStart y + doy ≤ yStart (y + 1) - 1 + (if y = 399 then 1 else 0) := by
    by_cases e : doy = 365
    · have := hd2 e; lia
    · lia
  have hT : yStart (y + 1) - 1 + (if y = 399 then 1 else 0) ≤ 146096 := by
    unfold yStart
    split <;> lia
  have hg := gy_year hy (by lia) hx
  have e1 : (era * 146097 + yStart y + doy - 719468 + 719468).fdiv 146097 = era := by rw [fd _ _ (by decide)]; lia
  have e2 : era * 146097 + yStart y + doy - 719468 + 719468 - era * 146097 = yStart y + doy := by lia
  have e3 : yStart y + doy - (365 * (y : Int) + (y : Int) / 4 - (y : Int) / 100) = doy := by unfold yStart; lia
  unfold timeCivil
  simp only [e1, e2]
  have e4 : (yStart y + doy - (yStart y + doy) / 1460 + (yStart y + doy) / 36524 - (yStart y + doy) / 146096) / 365 = (y : Int) := hg
  simp only [e4, e3, hmp]
def mT : List Int := [0, 31, 61, 92, 122, 153, 184, 214, 245, 275, 306, 337]
def mLen : List Nat := [31, 30, 31, 30, 31, 31, 30, 31, 30, 31, 31, 29]
theorem tab1 : ∀ i < 12, ∀ j < 31, j < mLen.getD i 0 → (5 * (mT.getD i 0 + (j : Int)) + 2) / 153 = (i : Int) := by decide +kernel
theorem tab2 : ∀ i < 12, mT.getD i 0 = (153 * (i : Int) + 2) / 5 ∧ 0 ≤ mT.getD i 0 := by decide +kernel
theorem tab3 : ∀ i < 12, ∀ j < 31, j < mLen.getD i 0 → mT.getD i 0 + (j : Int) ≤ 365 ∧ (i = 11 ∨ mT.getD i 0 + (j : Int) ≠ 365) := by decide +kernel
theorem month_tab {y m : Int} (h1 : 1 ≤ m) (h2 : m ≤ 12) : ∃ i : Nat, i < 12 ∧ (if (i : Int) < 10 then (i : Int) + 3 else (i : Int) - 9) = m ∧ dim y m ≤ (mLen.getD i 0 : Nat) ∧ dbm y m = mT.getD i 0 + (if m ≤ 2 then -306 else 59 + if isLeap y = true then 1 else 0) ∧ (i = 11 → m = 2) := by
  refine ⟨((m + 9) % 12).toNat, ?_⟩
  unfold dim dbm
  exact tab12 (Q := fun m => ∀ b : Bool, ((m + 9) % 12).toNat < 12 ∧ (if ((((m + 9) % 12).toNat : Nat) : Int) < 10 then ((((m + 9) % 12).toNat : Nat) : Int) + 3 else ((((m + 9) % 12).toNat : Nat) : Int) - 9) = m ∧ dimB b m ≤ (mLen.getD ((m + 9) % 12).toNat 0 : Nat) ∧ dbmB b m = mT.getD ((m + 9) % 12).toNat 0 + (if m ≤ 2 then -306 else 59 + if b = true then 1 else 0) ∧ (((m + 9) % 12).toNat = 11 → m = 2)) (by decide) m h1 h2 (isLeap y)
theorem div_step4 (y : Int) : y / 4 = (y - 1) / 4 + (if y % 4 = 0 then 1 else 0) := by split <;> omega
theorem div_step100 (y : Int) : y / 100 = (y - 1) / 100 + (if y % 100 = 0 then 1 else 0) := by split <;> omega
theorem div_step400 (y : Int) : y / 400 = (y - 1) / 400 + (if y % 400 = 0 then 1 else 0) := by split <;> omega
theorem mod_400 {y : Int} (h : y % 400 = 0) : y % 100 = 0 := by omega
theorem mod_100 {y : Int} (h : y % 100 = 0) : y % 4 = 0 := by omega
theorem leap_num (y : Int) : (if isLeap y = true then 1 else 0 : Int) = (if y % 4 = 0 then 1 else 0) - (if y % 100 = 0 then 1 else 0) + (if y % 400 = 0 then 1 else 0) := by
  have hl := isLeap_iff y
  by_cases h4 : y % 400 = 0
  · have h1 := mod_400 h4
    have h0 := mod_100 h1
    rw [if_pos (hl.mpr ⟨h0, .inr h4⟩), if_pos h0, if_pos h1, if_pos h4]
    rfl
  · by_cases h1 : y % 100 = 0
    · rw [if_neg (fun h => (hl.mp h).2.elim (fun g => g h1) h4), if_pos (mod_100 h1), if_pos h1, if_neg h4]
      rfl
    · by_cases h0 : y % 4 = 0
      · rw [if_pos (hl.mpr ⟨h0, .inl h1⟩), if_pos h0, if_neg h1, if_neg h4]
        rfl
      · rw [if_neg (fun h => h0 (hl.mp h).1), if_neg h0, if_neg h1, if_neg h4]
        rfl
theorem year_sum (y : Int) : y / 4 - y / 100 + y / 400 = (y - 1) / 4 - (y - 1) / 100 + (y - 1) / 400 + (if isLeap y = true then 1 else 0) := by
  rw [leap_num, div_step4 y, div_step100 y, div_step400 y]
  generalize (y - 1) / 4 = a
  generalize (y - 1) / 100 = b
  generalize (y - 1) / 400 = c
  generalize (if y % 4 = 0 then 1 else 0 : Int) = p
  generalize (if y % 100 = 0 then 1 else 0 : Int) = q
  generalize (if y % 400 = 0 then 1 else 0 : Int) = r
  omega
theorem march_late (y : Int) : (y - 1) * 365 + (y - 1) / 4 - (y - 1) / 100 + (y - 1) / 400 + (59 + (if isLeap y = true then 1 else 0)) + 306 = 365 * y + y / 4 - y / 100 + y / 400 := by
  have h := year_sum y
  revert h
  generalize (y - 1) / 4 = a
  generalize (y - 1) / 100 = b
  generalize (y - 1) / 400 = c
  generalize (if isLeap y = true then 1 else 0 : Int) = l
  generalize y / 4 = p
  generalize y / 100 = q
  generalize y / 400 = r
  intro h
  omega
theorem march_cut (y : Int) : 365 * y + y / 4 - y / 100 + y / 400 = y / 400 * 146097 + yStart (y % 400).toNat := by
  unfold yStart
  lia
theorem march_leap {y : Int} (hl : isLeap (y + 1) = true) : yStart ((y % 400).toNat + 1) - yStart (y % 400).toNat + (if (y % 400).toNat = 399 then 1 else 0) = 366 := by
  rw [isLeap_iff] at hl
  unfold yStart
  split <;> lia
theorem civil_fwd {y m d : Int} (_ : 1 ≤ y) (h1 : 1 ≤ m) (h2 : m ≤ 12) (h3 : 1 ≤ d) (h4 : d ≤ dim y m) : timeCivil (ymdOrd y m d - 719163) = (y, m, d) := by
  obtain ⟨i, i1, i2, i3, i4, i5⟩ := month_tab (y := y) h1 h2
  obtain ⟨j, hj⟩ : ∃ j : Nat, d = (j : Int) + 1 := ⟨(d - 1).toNat, by lia⟩
  have hb := dim_le (y := y) h1 h2
  have t1 := tab1 i i1 j (by lia) (by lia)
  obtain ⟨t2, t3⟩ := tab2 i i1
  obtain ⟨t4, t5⟩ := tab3 i i1 j (by lia) (by lia)
  have hY : ∃ Y : Int, Y = (if m ≤ 2 then y - 1 else y) := ⟨_, rfl⟩
  obtain ⟨Y, hY⟩ := hY
  have hS : ymdOrd y m d + 305 = (365 * Y + Y / 4 - Y / 100 + Y / 400) + (mT.getD i 0 + (j : Int)) := by
    unfold ymdOrd
    rw [dby_eq, i4]
    by_cases hm : m ≤ 2
    · rw [if_pos hm] at hY ⊢
      subst hY
      lia
    · rw [if_neg hm] at hY ⊢
      subst hY
      have := march_late Y
      lia
  rw [march_cut] at hS
  have hd : mT.getD i 0 + (j : Int) = 365 → yStart ((Y % 400).toNat + 1) - yStart (Y % 400).toNat + (if (Y % 400).toNat = 399 then 1 else 0) = 366 := by
    intro h
    have e1 := t5.resolve_right (fun q => q h)
    have em := i5 e1
    subst em
    refine march_leap ?_
    have e3 : Y + 1 = y := by rw [hY, if_pos (by decide)]; lia
    rw [e3]
    cases hq : isLeap y
    · exfalso
      have : dim y 2 = 28 := by unfold dim; rw [hq]; decide
      subst e1
      have e4 : mT.getD 11 0 = 337 := by decide
      lia
    · rfl
  have e : ymdOrd y m d - 719163 = Y / 400 * 146097 + yStart (Y % 400).toNat + (mT.getD i 0 + (j : Int)) - 719468 := by lia
  rw [e, civil_march (by lia) (by lia) t4 hd t1, i2, ← t2]
  have e1 : (((Y % 400).toNat : Nat) : Int) + Y / 400 * 400 = Y := by lia
  have e2 : mT.getD i 0 + (j : Int) - mT.getD i 0 + 1 = d := by lia
  rw [e1, e2, hY]
  split
  · congr 1; lia
  · congr 1; lia
theorem year_of (n : Int) (h1 : 1 ≤ n) : ∀ N : Nat, n ≤ dby ((N : Int) + 1) → ∃ y : Int, 1 ≤ y ∧ y ≤ N ∧ dby y < n ∧ n ≤ dby (y + 1)
  | 0, h => by
    have : dby ((0 : Nat) + 1 : Int) = 0 := by decide
    omega
  | N + 1, h => by
    by_cases e : n ≤ dby ((N : Int) + 1)
    · obtain ⟨y, a, b, c, d⟩ := year_of n h1 N e
      exact ⟨y, a, by omega, c, d⟩
    · exact ⟨(N : Int) + 1, by omega, by omega, by omega, by simpa using h⟩
theorem dby_next (y : Int) : dby (y + 1) = dby y + 365 + (if isLeap y = true then 1 else 0) := by
  have h := year_sum y
  have e : y + 1 - 1 = y := by omega
  rw [dby_eq, dby_eq, e]
  revert h
  generalize (y - 1) / 4 = a
  generalize (y - 1) / 100 = b
  generalize (y - 1) / 400 = c
  generalize (if isLeap y = true then 1 else 0 : Int) = l
  generalize y / 4 = p
  generalize y / 100 = q
  generalize y / 400 = r
  intro h
  omega
theorem dby_mono (y : Int) : ∀ k : Nat, dby y ≤ dby (y + k)
  | 0 => by simp
  | k + 1 => by
    refine Int.le_trans (dby_mono y k) ?_
    have e : y + ((k + 1 : Nat) : Int) = y + k + 1 := by lia
    rw [e, dby_next]
    split <;> lia
theorem ord_next {y m d : Int} (h1 : 1 ≤ m) (h2 : m ≤ 12) (h3 : 1 ≤ d) (h4 : d ≤ dim y m) : dby y < ymdOrd y m d ∧ ymdOrd y m d ≤ dby (y + 1) := by
  obtain ⟨a1, a2, _⟩ := doy_lt h1 h2 h3 h4
  have e : ymdOrd y m d = dby y + doy y m d + 1 := by unfold ymdOrd doy; lia
  rw [e, dby_next]
  constructor
  · lia
  · cases hq : isLeap y <;> simp [hq] at a2 ⊢ <;> lia
theorem date_tab (b : Bool) : ∀ q < 367, (1 ≤ q ∧ q ≤ 365 + (if b then 1 else 0)) → ∃ i < 13, 1 ≤ i ∧ DB b i < q ∧ q ≤ DB b i + DM b i := by cases b <;> decide +kernel
theorem date_of {n : Int} (h1 : 1 ≤ n) (h2 : n ≤ 3652059) : ∃ y m d : Int, 1 ≤ y ∧ y ≤ 9999 ∧ 1 ≤ m ∧ m ≤ 12 ∧ 1 ≤ d ∧ d ≤ dim y m ∧ ymdOrd y m d = n := by
  have hN : dby ((9999 : Nat) + 1 : Int) = 3652059 := by decide
  obtain ⟨y, a, b, c, e⟩ := year_of n h1 9999 (by rw [hN]; exact h2)
  rw [dby_next] at e
  obtain ⟨q, hq⟩ : ∃ q : Nat, n - dby y = q := ⟨(n - dby y).toNat, by lia⟩
  have hq1 : q < 367 ∧ 1 ≤ q ∧ q ≤ 365 + (if isLeap y = true then 1 else 0) := by
    clear h2 hN b a h1
    revert e
    generalize isLeap y = bb
    intro e
    cases bb <;> simp only [if_true, Bool.false_eq_true, if_false] at e ⊢ <;> lia
  obtain ⟨i, i2, i1, i3, i4⟩ := date_tab (isLeap y) q hq1.1 hq1.2
  obtain ⟨t1, t2⟩ := tabs_of (y := y) (m := (i : Int)) (by lia) (by lia)
  rw [Int.toNat_natCast] at t1 t2
  refine ⟨y, i, n - dby y - dbm y i, a, b, by lia, by lia, ?_, ?_, ?_⟩
  · rw [hq, t1]; lia
  · rw [hq, t1, t2]; lia
  · unfold ymdOrd; lia
/-- the moment of a date and a clock -/
def secOf (y m d h mi s : Int) : Int := (ymdOrd y m d - 719163) * 86400 + h * 3600 + mi * 60 + s
theorem good_of {y m d h mi s : Int} (hy : 1 ≤ y) (hy2 : y ≤ 9999) (h1 : 1 ≤ m) (h2 : m ≤ 12) (h3 : 1 ≤ d) (h4 : d ≤ dim y m) (a1 : 0 ≤ h) (a2 : h ≤ 23) (b1 : 0 ≤ mi) (b2 : mi ≤ 59) (c1 : 0 ≤ s) (c2 : s ≤ 59) : DZ.Good y m d h mi s :=
  ⟨hy, hy2, h1, h2, h3, by rw [dim_eq h1 h2]; exact h4, a1, a2, b1, b2, c1, c2⟩
theorem ord_ge {y m d : Int} (hy : 1970 ≤ y) (hy2 : y ≤ 9999) (h1 : 1 ≤ m) (h2 : m ≤ 12) (h3 : 1 ≤ d) (h4 : d ≤ dim y m) : 719163 ≤ ymdOrd y m d ∧ ymdOrd y m d ≤ 3652059 := by
  obtain ⟨a1, a2, _⟩ := doy_lt h1 h2 h3 h4
  have e : ymdOrd y m d = dby y + doy y m d + 1 := by unfold ymdOrd doy; omega
  have hl := isLeap_iff y
  rw [e, dby_eq]
  cases hq : isLeap y <;> simp [hq] at hl a2 <;> omega
theorem round_of {y m d h mi s : Int} (hy : 1970 ≤ y) (hy2 : y ≤ 9999) (h1 : 1 ≤ m) (h2 : m ≤ 12) (h3 : 1 ≤ d) (h4 : d ≤ dim y m) (a1 : 0 ≤ h) (a2 : h ≤ 23) (b1 : 0 ≤ mi) (b2 : mi ≤ 59) (c1 : 0 ≤ s) (c2 : s ≤ 59) : DZ.Round y m d h mi s := by
  obtain ⟨o1, o2⟩ := ord_ge hy hy2 h1 h2 h3 h4
  have hu : ∀ z : Addr, (DZ.stampOfObj y m d h mi s z).us = (ymdOrd y m d * 86400 + h * 3600 + mi * 60 + s) * 1000000 := by
    intro z
    unfold Stamp.us DZ.stampOfObj
    simp only [toOrd_eq _ h1 h2, Builtin._datetime.usPerSecond]
    lia
  have hd : Builtin._datetime.usPerDay = 86400000000 := by rfl
  refine ⟨?_, ?_, ?_⟩
  · rw [hu, hd]; lia
  · rw [hu, hd]; lia
  · intro z
    rw [hu]
    have e1 : ((ymdOrd y m d * 86400 + h * 3600 + mi * 60 + s) * 1000000 + 0).fdiv 86400000000 = ymdOrd y m d := by rw [fd _ _ (by decide)]; lia
    have e2 : ((ymdOrd y m d * 86400 + h * 3600 + mi * 60 + s) * 1000000 + 0).fmod 86400000000 = (h * 3600 + mi * 60 + s) * 1000000 := by rw [fm _ _ (by decide)]; lia
    unfold Stamp.ofUs ofOrdinal DZ.stampOfObj
    rw [hd, e1, e2, civil_fwd (by lia) h1 h2 h3 h4]
    have f1 : (h * 3600 + mi * 60 + s) * 1000000 / 3600000000 = h := by lia
    have f2 : (h * 3600 + mi * 60 + s) * 1000000 / 60000000 % 60 = mi := by lia
    have f3 : (h * 3600 + mi * 60 + s) * 1000000 / 1000000 % 60 = s := by lia
    have f4 : (h * 3600 + mi * 60 + s) * 1000000 % 1000000 = 0 := by lia
    simp only [f1, f2, f3, f4]
theorem civil_of {y m d h mi s : Int} (hy : 1970 ≤ y) (hy2 : y ≤ 9999) (h1 : 1 ≤ m) (h2 : m ≤ 12) (h3 : 1 ≤ d) (h4 : d ≤ dim y m) (a1 : 0 ≤ h) (a2 : h ≤ 23) (b1 : 0 ≤ mi) (b2 : mi ≤ 59) (c1 : 0 ≤ s) (c2 : s ≤ 59) :
    DZ.Civil (secOf y m d h mi s) y m d h mi s := by
  obtain ⟨o1, o2⟩ := ord_ge hy hy2 h1 h2 h3 h4
  refine ⟨good_of (by lia) hy2 h1 h2 h3 h4 a1 a2 b1 b2 c1 c2, round_of hy hy2 h1 h2 h3 h4 a1 a2 b1 b2 c1 c2, ?_, ?_, ?_⟩
  · unfold secOf; lia
  · unfold secOf; lia
  · have e1 : (secOf y m d h mi s + 0).fdiv 86400 = ymdOrd y m d - 719163 := by unfold secOf; rw [fd _ _ (by decide)]; lia
    have e2 : (secOf y m d h mi s + 0).fmod 86400 = h * 3600 + mi * 60 + s := by unfold secOf; rw [fm _ _ (by decide)]; lia
    unfold timeBroken
    simp only [e1, e2, civil_fwd (show 1 ≤ y by lia) h1 h2 h3 h4]
    have f1 : (h * 3600 + mi * 60 + s) / 3600 = h := by lia
    have f2 : (h * 3600 + mi * 60 + s) % 3600 / 60 = mi := by lia
    have f3 : (h * 3600 + mi * 60 + s) % 60 = s := by lia
    rw [f1, f2, f3]
    exact ⟨_, _, rfl⟩
/-- every moment of the law is the moment of a date and a clock -/
theorem moment_of {n : Int} (h1 : 0 ≤ n) (h2 : n < 253402300800) : ∃ y m d h mi s : Int, 1970 ≤ y ∧ y ≤ 9999 ∧ 1 ≤ m ∧ m ≤ 12 ∧ 1 ≤ d ∧ d ≤ dim y m ∧ 0 ≤ h ∧ h ≤ 23 ∧ 0 ≤ mi ∧ mi ≤ 59 ∧ 0 ≤ s ∧ s ≤ 59 ∧ n = secOf y m d h mi s := by
  obtain ⟨y, m, d, a1, a2, a3, a4, a5, a6, a7⟩ := date_of (n := 719163 + n / 86400) (by lia) (by lia)
  have hy : 1970 ≤ y := by
    by_cases e : y ≤ 1969
    · exfalso
      have b := (ord_next a3 a4 a5 a6).2
      have c := dby_mono (y + 1) (1969 - y).toNat
      have e2 : y + 1 + ((1969 - y).toNat : Int) = 1970 := by lia
      have e3 : dby 1970 = 719162 := by decide
      rw [e2, e3] at c
      lia
    · lia
  exact ⟨y, m, d, n % 86400 / 3600, n % 3600 / 60, n % 60, hy, a2, a3, a4, a5, a6, by lia, by lia, by lia, by lia, by lia, by lia, by unfold secOf; lia⟩
end MCs
noncomputable section PLs
namespace PT
open PySem.NumText (AllDigits digitsVal)
def Dig (c : Nat) : Prop := 48 ≤ c ∧ c ≤ 57
def Let (c : Nat) : Prop := 65 ≤ c ∧ c ≤ 122
theorem cons_inj {c : Nat} : ∀ {p q r s : List Nat}, c ∉ p → c ∉ q → p ++ c :: r = q ++ c :: s → p = q ∧ r = s
  | [], [], _, _, _, _, h => ⟨rfl, (List.cons.inj h).2⟩
  | [], b :: q, _, _, _, hq, h => absurd ((List.cons.inj h).1 ▸ List.mem_cons_self ..) hq
  | a :: p, [], _, _, hp, _, h => absurd ((List.cons.inj h).1 ▸ List.mem_cons_self ..) hp
  | a :: p, b :: q, r, s, hp, hq, h => by
    obtain ⟨e, h⟩ := List.cons.inj h
    obtain ⟨e1, e2⟩ := cons_inj (fun x => hp (List.mem_cons_of_mem _ x)) (fun x => hq (List.mem_cons_of_mem _ x)) h
    exact ⟨by rw [e, e1], e2⟩
theorem str_ext {x y : Str} (h : x.cps.toList = y.cps.toList) : x = y := by
  obtain ⟨⟨a⟩⟩ := x
  obtain ⟨⟨b⟩⟩ := y
  simp at h
  rw [h]
theorem join_list (c : Nat) (x : Str) : ∀ (y : Str) (r : List Str), (Str.join ⟨#[c]⟩ (x :: y :: r)).cps.toList = x.cps.toList ++ c :: (Str.join ⟨#[c]⟩ (y :: r)).cps.toList := by
  intro y r
  show (x ++ ⟨#[c]⟩ ++ Str.join ⟨#[c]⟩ (y :: r)).cps.toList = _
  rw [PySem.Str.cps_append, PySem.Str.cps_append, Array.toList_append, Array.toList_append]
  simp
theorem join_uniq {c : Nat} : ∀ {ps qs : List Str}, ps ≠ [] → qs ≠ [] → (∀ p ∈ ps, c ∉ p.cps.toList) → (∀ p ∈ qs, c ∉ p.cps.toList) → Str.join ⟨#[c]⟩ ps = Str.join ⟨#[c]⟩ qs → ps = qs
  | [], _, h, _, _, _, _ => absurd rfl h
  | _, [], _, h, _, _, _ => absurd rfl h
  | [x], [y], _, _, _, _, h => by rw [show x = y from h]
  | [x], y :: z :: r, _, _, hp, _, h => by
    exfalso
    have e := congrArg (fun s : Str => s.cps.toList) h
    simp only [join_list] at e
    refine hp x (List.mem_singleton.mpr rfl) ?_
    rw [show x.cps.toList = _ from e]
    simp
  | x :: z :: r, [y], _, _, _, hq, h => by
    exfalso
    have e := congrArg (fun s : Str => s.cps.toList) h
    simp only [join_list] at e
    refine hq y (List.mem_singleton.mpr rfl) ?_
    rw [show y.cps.toList = _ from e.symm]
    simp
  | x :: z :: r, y :: u :: t, _, _, hp, hq, h => by
    have e := congrArg (fun s : Str => s.cps.toList) h
    simp only [join_list] at e
    obtain ⟨e1, e2⟩ := cons_inj (hp x (List.mem_cons_self ..)) (hq y (List.mem_cons_self ..)) e
    rw [str_ext e1, join_uniq (by simp) (by simp) (fun p m => hp p (List.mem_cons_of_mem _ m)) (fun p m => hq p (List.mem_cons_of_mem _ m)) (str_ext e2)]
theorem split_is {c : Nat} {x : Str} {ps : List Str} (hne : ps ≠ []) (hx : x.cps.toList ≠ []) (hf : ∀ p ∈ ps, c ∉ p.cps.toList) (hj : Str.join ⟨#[c]⟩ ps = x) : Txt.split x ⟨#[c]⟩ = ps := by
  refine join_uniq ?_ hne (StrLaws.split_free x c) hf ?_
  · intro e
    have h := StrLaws.join_split x ⟨#[c]⟩
    rw [e] at h
    exact hx (by rw [← h]; rfl)
  · rw [StrLaws.join_split, hj]
theorem find_free {c : Nat} {x : Str} (h : c ∉ x.cps.toList) : Txt.find x ⟨#[c]⟩ = -1 := by
  rcases find_whole x ⟨#[c]⟩ with ⟨e, _⟩ | ⟨i, _, hi, _⟩
  · exact e
  · exact absurd (List.mem_of_getElem? ((StrLaws.subAt_one x c i).mp hi)) h
theorem words4 {l1 l2 l3 l4 : List Nat} (h1 : l1.all (fun c => !Unicode.isSpace c) = true) (h2 : l2.all (fun c => !Unicode.isSpace c) = true) (h3 : l3.all (fun c => !Unicode.isSpace c) = true) (h4 : l4.all (fun c => !Unicode.isSpace c) = true)
    (n1 : l1 ≠ []) (n2 : l2 ≠ []) (n3 : l3 ≠ []) (n4 : l4 ≠ []) : Txt.words ⟨(l1 ++ 32 :: (l2 ++ 32 :: (l3 ++ 32 :: l4))).toArray⟩ = [⟨l1.toArray⟩, ⟨l2.toArray⟩, ⟨l3.toArray⟩, ⟨l4.toArray⟩] := by
  have nz : ∀ {l : List Nat}, l ≠ [] → ¬ ((Str.empty ++ (⟨l.toArray⟩ : Str)).length = 0) := by
    intro l hl
    rw [PySem.Str.length_append]
    simp [PySem.Str.length, hl]
  have em : ∀ {l : List Nat}, Str.empty ++ (⟨l.toArray⟩ : Str) = ⟨l.toArray⟩ := by
    intro l
    refine str_ext ?_
    rw [PySem.Str.cps_append, Array.toList_append]
    rfl
  have st : ∀ {ws : List Str} {l : List Nat}, l ≠ [] → KWd.step (ws, Str.empty ++ ⟨l.toArray⟩) 32 = (ws ++ [⟨l.toArray⟩], Str.empty) := by
    intro ws l hl
    show (if Unicode.isSpace 32 = true then (if (Str.empty ++ (⟨l.toArray⟩ : Str)).length = 0 then _ else _) else _) = _
    rw [if_pos (by decide +kernel), if_neg (nz hl), em]
  have e : KWd.scan ⟨(l1 ++ 32 :: (l2 ++ 32 :: (l3 ++ 32 :: l4))).toArray⟩ = ([⟨l1.toArray⟩, ⟨l2.toArray⟩, ⟨l3.toArray⟩], ⟨l4.toArray⟩) := by
    unfold KWd.scan
    show List.foldl KWd.step ([], Str.empty) (l1 ++ 32 :: (l2 ++ 32 :: (l3 ++ 32 :: l4))) = _
    rw [List.foldl_append, KWk.fold_plain _ _ h1, List.foldl_cons, st n1, List.foldl_append, KWk.fold_plain _ _ h2, List.foldl_cons, st n2, List.foldl_append, KWk.fold_plain _ _ h3, List.foldl_cons, st n3, KWk.fold_plain _ _ h4, em]
    rfl
  rw [KWd.words_of e, if_neg (by simp [PySem.Str.length]; exact n4)]
  rfl
theorem nosp {c : Nat} (h1 : 33 ≤ c) (h2 : c ≤ 126) : (!Unicode.isSpace c) = true := by rw [KWk.nosp h1 h2]; rfl
theorem dig_isdigit : ∀ c < 58, 48 ≤ c → Txt.isdigit ⟨#[c]⟩ = true := by decide +kernel
def mons : List Str := ["Jan", "Feb", "Mar", "Apr", "May", "Jun", "Jul", "Aug", "Sep", "Oct", "Nov", "Dec"]
def lows : List Str := ["jan", "feb", "mar", "apr", "may", "jun", "jul", "aug", "sep", "oct", "nov", "dec", "january", "february", "march", "april", "may", "june", "july", "august", "september", "october", "november", "december"]
theorem mon_facts : ∀ j < 12, let x := mons.getD j Str.empty; x.cps.toList.length = 3 ∧ (x.cps.toList.all fun c => decide (65 ≤ c) && decide (c ≤ 122)) = true ∧ lows.any (· == Txt.lower x) = true ∧ lows.idxOf (Txt.lower x) = j ∧ (Txt.lower x).length ≤ 100 := by decide +kernel
theorem ad2 {a b : Nat} (ha : Dig a) (hb : Dig b) : AllDigits [a, b] := by
  intro c hc
  simp at hc
  rcases hc with rfl | rfl
  · exact ha
  · exact hb
theorem it {l : List Nat} (h : AllDigits l) (hn : l ≠ []) (hl : l.length ≤ 100) : PySem.intText? ⟨l.toArray⟩ = some ((digitsVal l : Nat) : Int) :=
  intText_digits (x := ⟨l.toArray⟩) h hn (by show l.toArray.size ≤ 4300; simp; lia)
theorem nos {l : List Nat} (h : ∀ c ∈ l, 33 ≤ c ∧ c ≤ 126) : l.all (fun c => !Unicode.isSpace c) = true :=
  List.all_eq_true.mpr fun c hc => nosp (h c hc).1 (h c hc).2
theorem last_at {l : List Nat} {c : Nat} : Txt.charAt ⟨(l ++ [c]).toArray⟩ (-1) = some c := by
  unfold Txt.charAt
  have h1 : seqIndex? (-1) ((⟨(l ++ [c]).toArray⟩ : Str).length) = some l.length := by
    unfold seqIndex?
    simp [PySem.Str.length]
    try lia
  rw [h1]
  simp
theorem first_at {l : List Nat} {c : Nat} : Txt.charAt ⟨(c :: l).toArray⟩ 0 = some c := by
  unfold Txt.charAt
  have h1 : seqIndex? 0 ((⟨(c :: l).toArray⟩ : Str).length) = some 0 := by
    unfold seqIndex?
    simp [PySem.Str.length]
    try omega
  rw [h1]
  simp
theorem ne_last {l : List Nat} {c k : Nat} (hc : c ≠ k) : (Txt.item ⟨(l ++ [c]).toArray⟩ (-1) == (⟨#[k]⟩ : Str)) = false := by
  have e : Txt.item ⟨(l ++ [c]).toArray⟩ (-1) = ⟨#[c]⟩ := by
    unfold Txt.item
    rw [last_at]
    rfl
  rw [e, beq_eq_false_iff_ne]
  intro h
  simp at h
  exact hc h
theorem parses_text {a1 a2 a3 d1 d2 h1 h2 m1 m2 s1 s2 j : Nat} {yl : List Nat} {yc : Nat} (hj : j < 12) (ha1 : Let a1) (ha2 : Let a2) (ha3 : Let a3) (hd1 : Dig d1) (hd2 : Dig d2) (hh1 : Dig h1) (hh2 : Dig h2) (hm1 : Dig m1) (hm2 : Dig m2) (hs1 : Dig s1) (hs2 : Dig s2)
    (hy : AllDigits (yl ++ [yc])) (hyl : yl.length ≤ 3) :
    Parses ⟨([a1, a2, a3, 44] ++ 32 :: (([d1, d2] ++ 45 :: ((mons.getD j Str.empty).cps.toList ++ 45 :: (yl ++ [yc]))) ++ 32 :: (([h1, h2] ++ 58 :: ([m1, m2] ++ 58 :: [s1, s2])) ++ 32 :: [71, 77, 84]))).toArray⟩
      ((digitsVal (yl ++ [yc]) : Nat) : Int) j ((digitsVal [d1, d2] : Nat) : Int) ((digitsVal [h1, h2] : Nat) : Int) ((digitsVal [m1, m2] : Nat) : Int) ((digitsVal [s1, s2] : Nat) : Int) := by
  obtain ⟨b1, b2, b3, b4, b5⟩ := mon_facts j hj
  have b2' : ∀ c ∈ (mons.getD j Str.empty).cps.toList, 65 ≤ c ∧ c ≤ 122 := fun c hc => by simpa using List.all_eq_true.mp b2 c hc
  generalize hx : mons.getD j Str.empty = x at b1 b2 b3 b4 b5 b2'
  clear hx b2
  have eM : (⟨x.cps.toList.toArray⟩ : Str) = x := congrArg Str.mk (Array.toArray_toList ..)
  have hy' : ∀ c ∈ yl ++ [yc], 48 ≤ c ∧ c ≤ 57 := hy
  have hyc : 48 ≤ yc ∧ yc ≤ 57 := hy' yc (by simp)
  have hcomma : Str.ofString "," = ⟨#[44]⟩ := by decide
  have hdash : Str.ofString "-" = ⟨#[45]⟩ := by decide
  have hcolon : Str.ofString ":" = ⟨#[58]⟩ := by decide
  have hgmt : Str.ofString "GMT" = ⟨[71, 77, 84].toArray⟩ := by decide
  unfold Dig Let at *
  refine ⟨⟨[a1, a2, a3, 44].toArray⟩, ⟨([d1, d2] ++ 45 :: (x.cps.toList ++ 45 :: (yl ++ [yc]))).toArray⟩, ⟨([h1, h2] ++ 58 :: ([m1, m2] ++ 58 :: [s1, s2])).toArray⟩, ⟨[d1, d2].toArray⟩, x, ⟨(yl ++ [yc]).toArray⟩, ⟨[h1, h2].toArray⟩, ⟨[m1, m2].toArray⟩, ⟨[s1, s2].toArray⟩, Txt.lower x, ?_⟩
  constructor
  case hT => (simp [PySem.Str.length]; omega)
  case hT2 => simp [PySem.Str.length, b1] at b1 ⊢; omega
  case hw =>
    rw [hgmt]
    exact words4 (nos (by simp; omega)) (nos (by
      intro c hc
      simp only [List.mem_append, List.mem_cons, List.not_mem_nil, or_false] at hc
      rcases hc with (rfl | rfl) | rfl | hc | rfl | hc | rfl
      · omega
      · omega
      · omega
      · have := b2' c hc; omega
      · omega
      · have := hy' c (by simp [hc]); omega
      · omega)) (nos (by simp; omega)) (nos (by simp)) (by simp) (by simp) (by simp) (by simp)
  case h0 => rw [hcomma]; rfl
  case h1 =>
    rw [hdash]
    refine split_is (by simp) (by simp) ?_ ?_
    · intro p hp
      simp only [List.mem_cons, List.not_mem_nil, or_false] at hp
      rcases hp with rfl | rfl | rfl
      · simp; omega
      · intro h; have := b2' _ h; omega
      · intro h; have := hy' _ h; omega
    · refine str_ext ?_
      rw [join_list, join_list]
      rfl
  case h1l => simp [PySem.Str.length] at b1 ⊢; omega
  case h2 =>
    rw [hcolon]
    refine split_is (by simp) (by simp) ?_ ?_
    · intro p hp
      simp only [List.mem_cons, List.not_mem_nil, or_false] at hp
      rcases hp with rfl | rfl | rfl <;> simp <;> omega
    · refine str_ext ?_
      rw [join_list, join_list]
      rfl
  case h2l => simp [PySem.Str.length]
  case d1 => rfl
  case d2 => simp [PySem.Str.length]
  case m1 => have e : x.length = 3 := by simpa [PySem.Str.length] using b1
             rw [e]; rfl
  case m2 => have e : x.length = 3 := by simpa [PySem.Str.length] using b1
             omega
  case y1 => (simp [PySem.Str.length]; try omega)
  case y2 => simp [PySem.Str.length]; omega
  case ml1 => rfl
  case ml2 => exact b5
  case hj1 => exact b3
  case hj2 => exact b4
  case hj3 => exact hj
  case dc => rfl
  case dl => rw [hcomma]; exact ne_last (l := [d1]) (by omega)
  case yf => rw [hcolon]; exact find_free (fun h => by have := hy' _ h; omega)
  case yc => rw [last_at]; rfl
  case yl => rw [hcomma]; exact ne_last (by omega)
  case yc0 => cases yl <;> exact Option.isSome_iff_exists.mpr ⟨_, first_at⟩
  case yd =>
    cases yl with
    | nil => exact dig_isdigit yc (by omega) (by omega)
    | cons q r =>
      have e : Txt.item ⟨(q :: r ++ [yc]).toArray⟩ 0 = ⟨#[q]⟩ := by
        unfold Txt.item
        rw [show q :: r ++ [yc] = q :: (r ++ [yc]) from rfl, first_at]
        rfl
      rw [e]
      exact dig_isdigit q (by have := hy' q (by simp); omega) (by have := hy' q (by simp); omega)
  case tc => rfl
  case tl => rw [hcomma]; exact ne_last (l := [h1, h2, 58, m1, m2, 58, s1]) (by omega)
  case iy => exact it hy (by simp) (by simp; omega)
  case id' => exact it (ad2 hd1 hd2) (by simp) (by simp)
  case ih => exact it (ad2 hh1 hh2) (by simp) (by simp)
  case im => exact it (ad2 hm1 hm2) (by simp) (by simp)
  case is' => exact it (ad2 hs1 hs2) (by simp) (by simp)
  case thl => simp [PySem.Str.length]
  case tml => simp [PySem.Str.length]
  case tsl => simp [PySem.Str.length]
end PT
end PLs
noncomputable section D4s
/-- a fact kept out of omega's sight -/
structure Hide (p : Prop) : Prop where
  out : p
abbrev tup3 (y m d : Int) (τ : Nat → Tok) : Obj := { cls := .type "tuple", data := .seq #[.int y (τ 0), .int m (τ 1), .int d (τ 2)] 0 }
theorem leap_ok {Y H F C : Int} (hl : isLeap Y = (decide (H = 3) && (decide (F ≠ 24) || decide (C = 3)))) : ((H == 3 && (F != 24 || C == 3)) == isLeap Y) = true := by
  rw [hl, beq_iff_eq, Bool.eq_iff_iff]
  simp
theorem leap_is {Y H F C : Int} (hl : isLeap Y = (decide (H = 3) && (decide (F ≠ 24) || decide (C = 3)))) : (H == 3 && (F != 24 || C == 3)) = isLeap Y := by
  rw [hl, Bool.eq_iff_iff]
  simp
theorem pre_is {Y M P H F C : Int} (hP : P = dbm Y M) (hl : isLeap Y = (decide (H = 3) && (decide (F ≠ 24) || decide (C = 3)))) : ([-1, 0, 31, 59, 90, 120, 151, 181, 212, 243, 273, 304, 334] : List Int).getD M.toNat 0 + (if (decide (M > 2) && (H == 3 && (F != 24 || C == 3))) = true then 1 else 0) = P := by
  rw [leap_is hl, hP]
  unfold dbm
  simp
theorem dim_is {Y M W H F C : Int} (hW : W = dim Y M) (hl : isLeap Y = (decide (H = 3) && (decide (F ≠ 24) || decide (C = 3)))) : ([-1, 31, 28, 31, 30, 31, 30, 31, 31, 30, 31, 30, 31] : List Int).getD M.toNat 0 + (if (M == 2 && (H == 3 && (F != 24 || C == 3))) = true then 1 else 0) = W := by
  rw [leap_is hl, hW]
  unfold dim
  by_cases h : M = 2
  · subst h
    cases isLeap Y <;> decide
  · simp [h]
theorem fill_in4 : True ∨ (∃ P, hd.heap_39 P = [] ∧ PySem.Challenge.rw_kl0452_01.row.toRowW.prog.main.body = []) := by
  k_fill
  exact .inl trivial
theorem o2y_stay (w : World) (mean : ExcName → Option Value) (mg mb : Str → Option Value) (n A B C D F G H R M P : Int) (t : Tok) (cu : Cut n A B C D F G H R) (hn1 : 1 ≤ n) (hn2 : n ≤ 4000000) (hA : 0 ≤ A) (hC0 : 0 ≤ C) (hC : C ≤ 3) (hF0 : 0 ≤ F) (hF : F ≤ 24) (hH0 : 0 ≤ H) (hH : H ≤ 3) (hA2 : A ≤ 1000) (hl : Hide (isLeap (A * 400 + 1 + (C * 100 + F * 4 + H)) = (decide (H = 3) && (decide (F ≠ 24) || decide (C = 3))))) (hMo : Hide ((R + 50).fdiv (2 ^ Int.toNat 5) = M)) (hM1 : 1 ≤ M) (hM2 : M ≤ 12) (hP : Hide (P = dbm (A * 400 + 1 + (C * 100 + F * 4 + H)) M)) (hP1 : P ≤ R) (hd : R - P < dim (A * 400 + 1 + (C * 100 + F * 4 + H)) M) :
    ClaimO w mean mg mb 201 4 (fun _ => True) [.int n t] (tup3 (A * 400 + 1 + (C * 100 + F * 4 + H)) M (R - P + 1)) := by
  refine' claimO_of (O := tup3 (A * 400 + 1 + (C * 100 + F * 4 + H)) M (R - P + 1)) (l := [("n", .int n t)]) (ρ := [("n", .int n)]) ?ho ?hcd ?hbind ?hloc ?hco ?hgen ?hk ?hcell ?hl ?hr ?hdd ?hb
  case ho => k_is
  case hcd => k_is
  case hbind => exact fun s => BindsTo.of_eq rfl
  case hloc => exact locs rfl
  case hco => exact rfl
  case hgen => exact rfl
  case hk => exact rfl
  case hcell => decide
  case hl => kernel_rfl
  case hr => exact ⟨_, _, rfl, ⟨_, rfl⟩, trivial⟩
  case hdd => decide
  case hb =>
    intro dyn9 hok
    have hB1 : 0 ≤ B ∧ B < 146097 := by have := cu.eB; rw [fm _ _ (by decide)] at this; omega
    have hD1 : 0 ≤ D ∧ D < 36524 := by have := cu.eD; rw [fm _ _ (by decide)] at this; omega
    have hG1 : 0 ≤ G ∧ G < 1461 := by have := cu.eG; rw [fm _ _ (by decide)] at this; omega
    have hR1 : 0 ≤ R ∧ R < 365 := by have := cu.eR; rw [fm _ _ (by decide)] at this; omega
    repeat' ((with_reducible show (_ : Prop)); (first
      | ((with_reducible show EvT _ _ _ _); (first | ((with_reducible show EvT _ _ (Expr.Name _ _) _); (first | ((with_reducible show EvT _ _ (Expr.Name _ _) _); (with_reducible apply ev_nameR); (· with_unfolding_all rfl); (· rfl); (· rfl); (· decide)) | ((with_reducible show EvT _ _ (Expr.Name _ _) _); (with_reducible apply ev_nameR); (· with_unfolding_all rfl); (· rfl); (· rfl); (· decide)) | ((with_reducible apply ev_glob (room := _) (by assumption)); (· k_is); (· exact ⟨_, rfl⟩); (· rfl); (· decide)))) | ((with_reducible show EvT _ _ (Expr.Constant _ _ _) _); (first | (with_reducible exact ev_int))) | ((with_reducible show EvT _ _ (Expr.BinOp _ _ _ _) _); (first | ((with_reducible show EvT _ _ (Expr.BinOp _ Operator.RShift _ _) _); (with_reducible apply ev_rshift)) | ((with_reducible show EvT _ _ (Expr.BinOp _ Operator.Add (Expr.BoolOp _ _ _) _) _); (with_reducible apply ev_addB)) | ((with_reducible show EvT _ _ (Expr.BinOp _ Operator.Add _ _) _); (with_reducible apply ev_add)) | ((with_reducible show EvT _ _ (Expr.BinOp _ Operator.Sub _ _) _); (with_reducible apply ev_sub)) | ((with_reducible show EvT _ _ (Expr.BinOp _ Operator.Mult _ _) _); (with_reducible apply ev_mul)) | ((with_reducible show EvT _ _ (Expr.BinOp _ Operator.Mod _ _) _); (with_reducible apply ev_mod)) | ((with_reducible show EvT _ _ (Expr.BinOp _ Operator.FloorDiv _ _) _); (with_reducible apply ev_div)))) | ((with_reducible show EvT _ _ (Expr.Subscript _ _ _) _); (first | ((with_reducible show EvT _ _ (Expr.Subscript (Expr.Name (PySem.Str.ofString "_DAYS_IN_MONTH") _) _ _) _); (with_reducible apply ev_nums (addr := 150) (ns := [-1, 31, 28, 31, 30, 31, 30, 31, 31, 30, 31, 30, 31]) (room := _) (by assumption))) | ((with_reducible show EvT _ _ (Expr.Subscript (Expr.Name (PySem.Str.ofString "_DAYS_BEFORE_MONTH") _) _ _) _); (with_reducible apply ev_nums (addr := 151) (ns := [-1, 0, 31, 59, 90, 120, 151, 181, 212, 243, 273, 304, 334]) (room := _) (by assumption))))) | ((with_reducible show EvT _ _ (Expr.Call _ _ _ _) _); (first | ((with_reducible show EvT _ _ (Expr.Call _ _ _ _) _); (with_reducible apply ev_call (room := _) (by assumption))))) | ((with_reducible show EvT _ _ (Expr.Compare _ _ _ _) _); (first | ((with_reducible show EvT _ _ (Expr.Compare _ _ _ _) _); (with_reducible apply ev_cmp)))) | ((with_reducible show EvT _ _ (Expr.BoolOp _ _ _) _); (first | ((with_reducible show EvT _ _ (Expr.BoolOp BoolOp.And (_ :: _ :: _) _) _); (with_reducible apply ev_and)) | ((with_reducible show EvT _ _ (Expr.BoolOp BoolOp.Or (_ :: _ :: _) _) _); (with_reducible apply ev_or)) | ((with_reducible show EvT _ _ (Expr.BoolOp _ [_] _) _); (with_reducible apply ev_one))))))
      | ((with_reducible show EvsT _ _ _ _); (first | (with_reducible exact evs_nil) | ((with_reducible show EvsT _ _ _ _); (with_reducible apply evs_cons))))
      | ((with_reducible show TrT _ _ _ _); (first | ((with_reducible show TrT _ _ (Expr.Compare _ _ _ _) _); (first | ((with_reducible show TrT _ _ (Expr.Compare (Expr.Name (PySem.Str.ofString "leapyear") _) _ _ _) _); (with_reducible apply tr_cmpB)) | ((with_reducible show TrT _ _ (Expr.Compare _ [_] [_] _) _); (with_reducible apply tr_cmp)) | ((with_reducible show TrT _ _ (Expr.Compare _ [_, _] _ _) _); (with_reducible apply tr_chain)))) | ((with_reducible show TrT _ _ (Expr.BoolOp _ _ _) _); (first | ((with_reducible show TrT _ _ (Expr.BoolOp _ _ _) _); (with_reducible apply tr_ch)))) | ((with_reducible show TrT _ _ (Expr.UnaryOp _ _ _) _); (first | ((with_reducible show TrT _ _ (Expr.UnaryOp UnaryOp.Not _ _) _); (with_reducible apply tr_not)))) | ((with_reducible show TrT _ _ _ _); (with_reducible apply tr_plain))))
      | ((with_reducible show ChT _ _ _ _ _); (first | (with_reducible exact ch_and_nil) | (with_reducible exact ch_or_nil) | ((with_reducible show ChT _ _ BoolOp.And _ _); (with_reducible apply ch_and)) | ((with_reducible show ChT _ _ BoolOp.Or _ _); (with_reducible apply ch_or))))
      | ((with_reducible show CallT _ _ _ _); (first | ((with_reducible show CallT _ (Value.ref 163) _ _); (with_reducible apply ct_leap (room := _) (by assumption) (by decide))) | ((with_reducible show CallT _ (Value.ref 177) _ _); (with_reducible apply ct_dim (room := _) (by assumption) (by decide)))))
      | ((with_reducible show X1T _ _ _ _); (first | (with_reducible apply x1_divmod (room := _) (by assumption)) | ((with_reducible apply x1_assign (x := Str.ofString "preceding")); (with_reducible apply ev_conv)) | ((with_reducible apply x1_isub (x := Str.ofString "preceding")); (· with_unfolding_all rfl); (with_reducible apply ev_conv)) | (with_reducible apply x1_iadd) | (with_reducible apply x1_isub) | ((with_reducible apply x1_ifF); (with_reducible apply tr_conv)) | ((with_reducible apply x1_assert); (with_reducible apply tr_conv)) | (with_reducible apply x1_assign)))
      | ((with_reducible show XsT _ _ _ _); (first | (with_reducible exact xs_nil) | (with_reducible apply xs_cons)))
      | ((with_reducible show BsT _ _ _ _); (first | ((with_reducible apply bs_retN); (apply ev_tup3)) | ((with_reducible apply bs_ifF); (with_reducible apply tr_conv)) | ((with_reducible apply bs_ret); (with_reducible apply ev_conv)) | (with_reducible apply bs_if) | (with_reducible apply bs_cons)))
      | ((with_reducible show _ = _); (first | with_reducible exact Cut.eA (by assumption) | with_reducible exact Cut.eB (by assumption) | with_reducible exact Cut.eC (by assumption) | with_reducible exact Cut.eD (by assumption) | with_reducible exact Cut.eF (by assumption) | with_reducible exact Cut.eG (by assumption) | with_reducible exact Cut.eH (by assumption) | with_reducible exact Cut.eR (by assumption)))
      | ((with_reducible show Int.fdiv _ _ = _); exact Hide.out (by with_reducible assumption))
      | ((with_reducible show Sh.int _ = _); exact congrArg Sh.int (pre_is (Hide.out (by with_reducible assumption)) (Hide.out (by with_reducible assumption))))
      | ((with_reducible show Sh.int _ = _); exact congrArg Sh.int (dim_is (Hide.out (by with_reducible assumption)) (Hide.out (by with_reducible assumption))))
      | ((with_reducible show _ = true); exact leap_ok (Hide.out (by with_reducible assumption)))
      | ((with_reducible show _ → _); intro _)
      | rfl
      | (with_unfolding_all rfl)
      | rfl
      | assumption
      | decide
      | k_is
      | ((with_reducible show KTD.datLooks _ _ _ = true); kernel_rfl)
      | mul_fits
      | (intro _; with_unfolding_all rfl)
      | omega
      | (simp; omega)))
theorem o2y_back (w : World) (mean : ExcName → Option Value) (mg mb : Str → Option Value) (n A B C D F G H R M P W : Int) (t : Tok) (cu : Cut n A B C D F G H R) (hn1 : 1 ≤ n) (hn2 : n ≤ 4000000) (hA : 0 ≤ A) (hC0 : 0 ≤ C) (hC : C ≤ 3) (hF0 : 0 ≤ F) (hF : F ≤ 24) (hH0 : 0 ≤ H) (hH : H ≤ 3) (hA2 : A ≤ 1000) (hl : Hide (isLeap (A * 400 + 1 + (C * 100 + F * 4 + H)) = (decide (H = 3) && (decide (F ≠ 24) || decide (C = 3))))) (hMo : Hide ((R + 50).fdiv (2 ^ Int.toNat 5) = M)) (hM1 : 2 ≤ M) (hM2 : M ≤ 12) (hP : Hide (P = dbm (A * 400 + 1 + (C * 100 + F * 4 + H)) M)) (hP1 : R < P) (hW : Hide (W = dim (A * 400 + 1 + (C * 100 + F * 4 + H)) (M - 1))) (hP3 : P - W ≤ R) (hd : R - (P - W) < dim (A * 400 + 1 + (C * 100 + F * 4 + H)) (M - 1)) :
    ClaimO w mean mg mb 201 4 (fun _ => True) [.int n t] (tup3 (A * 400 + 1 + (C * 100 + F * 4 + H)) (M - 1) (R - (P - W) + 1)) := by
  refine' claimO_of (O := tup3 (A * 400 + 1 + (C * 100 + F * 4 + H)) (M - 1) (R - (P - W) + 1)) (l := [("n", .int n t)]) (ρ := [("n", .int n)]) ?ho ?hcd ?hbind ?hloc ?hco ?hgen ?hk ?hcell ?hl ?hr ?hdd ?hb
  case ho => k_is
  case hcd => k_is
  case hbind => exact fun s => BindsTo.of_eq rfl
  case hloc => exact locs rfl
  case hco => exact rfl
  case hgen => exact rfl
  case hk => exact rfl
  case hcell => decide
  case hl => kernel_rfl
  case hr => exact ⟨_, _, rfl, ⟨_, rfl⟩, trivial⟩
  case hdd => decide
  case hb =>
    intro dyn9 hok
    have hB1 : 0 ≤ B ∧ B < 146097 := by have := cu.eB; rw [fm _ _ (by decide)] at this; omega
    have hD1 : 0 ≤ D ∧ D < 36524 := by have := cu.eD; rw [fm _ _ (by decide)] at this; omega
    have hG1 : 0 ≤ G ∧ G < 1461 := by have := cu.eG; rw [fm _ _ (by decide)] at this; omega
    have hR1 : 0 ≤ R ∧ R < 365 := by have := cu.eR; rw [fm _ _ (by decide)] at this; omega
    repeat' ((with_reducible show (_ : Prop)); (first
      | ((with_reducible show EvT _ _ _ _); (first | ((with_reducible show EvT _ _ (Expr.Name _ _) _); (first | ((with_reducible show EvT _ _ (Expr.Name _ _) _); (with_reducible apply ev_nameR); (· with_unfolding_all rfl); (· rfl); (· rfl); (· decide)) | ((with_reducible show EvT _ _ (Expr.Name _ _) _); (with_reducible apply ev_nameR); (· with_unfolding_all rfl); (· rfl); (· rfl); (· decide)) | ((with_reducible apply ev_glob (room := _) (by assumption)); (· k_is); (· exact ⟨_, rfl⟩); (· rfl); (· decide)))) | ((with_reducible show EvT _ _ (Expr.Constant _ _ _) _); (first | (with_reducible exact ev_int))) | ((with_reducible show EvT _ _ (Expr.BinOp _ _ _ _) _); (first | ((with_reducible show EvT _ _ (Expr.BinOp _ Operator.RShift _ _) _); (with_reducible apply ev_rshift)) | ((with_reducible show EvT _ _ (Expr.BinOp _ Operator.Add (Expr.BoolOp _ _ _) _) _); (with_reducible apply ev_addB)) | ((with_reducible show EvT _ _ (Expr.BinOp _ Operator.Add _ _) _); (with_reducible apply ev_add)) | ((with_reducible show EvT _ _ (Expr.BinOp _ Operator.Sub _ _) _); (with_reducible apply ev_sub)) | ((with_reducible show EvT _ _ (Expr.BinOp _ Operator.Mult _ _) _); (with_reducible apply ev_mul)) | ((with_reducible show EvT _ _ (Expr.BinOp _ Operator.Mod _ _) _); (with_reducible apply ev_mod)) | ((with_reducible show EvT _ _ (Expr.BinOp _ Operator.FloorDiv _ _) _); (with_reducible apply ev_div)))) | ((with_reducible show EvT _ _ (Expr.Subscript _ _ _) _); (first | ((with_reducible show EvT _ _ (Expr.Subscript (Expr.Name (PySem.Str.ofString "_DAYS_IN_MONTH") _) _ _) _); (with_reducible apply ev_nums (addr := 150) (ns := [-1, 31, 28, 31, 30, 31, 30, 31, 31, 30, 31, 30, 31]) (room := _) (by assumption))) | ((with_reducible show EvT _ _ (Expr.Subscript (Expr.Name (PySem.Str.ofString "_DAYS_BEFORE_MONTH") _) _ _) _); (with_reducible apply ev_nums (addr := 151) (ns := [-1, 0, 31, 59, 90, 120, 151, 181, 212, 243, 273, 304, 334]) (room := _) (by assumption))))) | ((with_reducible show EvT _ _ (Expr.Call _ _ _ _) _); (first | ((with_reducible show EvT _ _ (Expr.Call _ _ _ _) _); (with_reducible apply ev_call (room := _) (by assumption))))) | ((with_reducible show EvT _ _ (Expr.Compare _ _ _ _) _); (first | ((with_reducible show EvT _ _ (Expr.Compare _ _ _ _) _); (with_reducible apply ev_cmp)))) | ((with_reducible show EvT _ _ (Expr.BoolOp _ _ _) _); (first | ((with_reducible show EvT _ _ (Expr.BoolOp BoolOp.And (_ :: _ :: _) _) _); (with_reducible apply ev_and)) | ((with_reducible show EvT _ _ (Expr.BoolOp BoolOp.Or (_ :: _ :: _) _) _); (with_reducible apply ev_or)) | ((with_reducible show EvT _ _ (Expr.BoolOp _ [_] _) _); (with_reducible apply ev_one))))))
      | ((with_reducible show EvsT _ _ _ _); (first | (with_reducible exact evs_nil) | ((with_reducible show EvsT _ _ _ _); (with_reducible apply evs_cons))))
      | ((with_reducible show TrT _ _ _ _); (first | ((with_reducible show TrT _ _ (Expr.Compare _ _ _ _) _); (first | ((with_reducible show TrT _ _ (Expr.Compare (Expr.Name (PySem.Str.ofString "leapyear") _) _ _ _) _); (with_reducible apply tr_cmpB)) | ((with_reducible show TrT _ _ (Expr.Compare _ [_] [_] _) _); (with_reducible apply tr_cmp)) | ((with_reducible show TrT _ _ (Expr.Compare _ [_, _] _ _) _); (with_reducible apply tr_chain)))) | ((with_reducible show TrT _ _ (Expr.BoolOp _ _ _) _); (first | ((with_reducible show TrT _ _ (Expr.BoolOp _ _ _) _); (with_reducible apply tr_ch)))) | ((with_reducible show TrT _ _ (Expr.UnaryOp _ _ _) _); (first | ((with_reducible show TrT _ _ (Expr.UnaryOp UnaryOp.Not _ _) _); (with_reducible apply tr_not)))) | ((with_reducible show TrT _ _ _ _); (with_reducible apply tr_plain))))
      | ((with_reducible show ChT _ _ _ _ _); (first | (with_reducible exact ch_and_nil) | (with_reducible exact ch_or_nil) | ((with_reducible show ChT _ _ BoolOp.And _ _); (with_reducible apply ch_and)) | ((with_reducible show ChT _ _ BoolOp.Or _ _); (with_reducible apply ch_or))))
      | ((with_reducible show CallT _ _ _ _); (first | ((with_reducible show CallT _ (Value.ref 163) _ _); (with_reducible apply ct_leap (room := _) (by assumption) (by decide))) | ((with_reducible show CallT _ (Value.ref 177) _ _); (with_reducible apply ct_dim (room := _) (by assumption) (by decide)))))
      | ((with_reducible show X1T _ _ _ _); (first | (with_reducible apply x1_divmod (room := _) (by assumption)) | ((with_reducible apply x1_assign (x := Str.ofString "preceding")); (with_reducible apply ev_conv)) | ((with_reducible apply x1_isub (x := Str.ofString "preceding")); (· with_unfolding_all rfl); (with_reducible apply ev_conv)) | (with_reducible apply x1_iadd) | (with_reducible apply x1_isub) | ((with_reducible apply x1_ifT); (with_reducible apply tr_conv)) | ((with_reducible apply x1_assert); (with_reducible apply tr_conv)) | (with_reducible apply x1_assign)))
      | ((with_reducible show XsT _ _ _ _); (first | (with_reducible exact xs_nil) | (with_reducible apply xs_cons)))
      | ((with_reducible show BsT _ _ _ _); (first | ((with_reducible apply bs_retN); (apply ev_tup3)) | ((with_reducible show BsT _ _ (Stmt.If (Expr.Compare _ _ _ _) _ _ _ :: _) _); (with_reducible apply bs_cons)) | ((with_reducible apply bs_ifF); (with_reducible apply tr_conv)) | ((with_reducible apply bs_ret); (with_reducible apply ev_conv)) | (with_reducible apply bs_if) | (with_reducible apply bs_cons)))
      | ((with_reducible show _ = _); (first | with_reducible exact Cut.eA (by assumption) | with_reducible exact Cut.eB (by assumption) | with_reducible exact Cut.eC (by assumption) | with_reducible exact Cut.eD (by assumption) | with_reducible exact Cut.eF (by assumption) | with_reducible exact Cut.eG (by assumption) | with_reducible exact Cut.eH (by assumption) | with_reducible exact Cut.eR (by assumption)))
      | ((with_reducible show Int.fdiv _ _ = _); exact Hide.out (by with_reducible assumption))
      | ((with_reducible show Sh.int _ = _); exact congrArg Sh.int (pre_is (Hide.out (by with_reducible assumption)) (Hide.out (by with_reducible assumption))))
      | ((with_reducible show Sh.int _ = _); exact congrArg Sh.int (dim_is (Hide.out (by with_reducible assumption)) (Hide.out (by with_reducible assumption))))
      | ((with_reducible show _ = true); exact leap_ok (Hide.out (by with_reducible assumption)))
      | ((with_reducible show _ → _); intro _)
      | rfl
      | (with_unfolding_all rfl)
      | rfl
      | assumption
      | decide
      | k_is
      | ((with_reducible show KTD.datLooks _ _ _ = true); kernel_rfl)
      | mul_fits
      | (intro _; with_unfolding_all rfl)
      | omega
      | (simp; omega)))
theorem o2y_last (w : World) (mean : ExcName → Option Value) (mg mb : Str → Option Value) (n A B C D F G H : Int) (t : Tok) (cu : Cut n A B C D F G H 0) (hn1 : 1 ≤ n) (hn2 : n ≤ 4000000) (hA : 0 ≤ A) (hA2 : A ≤ 1000) (hHC : H = 4 ∨ (C = 4 ∧ H = 0)) :
    ClaimO w mean mg mb 201 4 (fun _ => True) [.int n t] (tup3 (A * 400 + 1 + (C * 100 + F * 4 + H) - 1) 12 31) := by
  refine' claimO_of (O := tup3 (A * 400 + 1 + (C * 100 + F * 4 + H) - 1) 12 31) (l := [("n", .int n t)]) (ρ := [("n", .int n)]) ?ho ?hcd ?hbind ?hloc ?hco ?hgen ?hk ?hcell ?hl ?hr ?hdd ?hb
  case ho => k_is
  case hcd => k_is
  case hbind => exact fun s => BindsTo.of_eq rfl
  case hloc => exact locs rfl
  case hco => exact rfl
  case hgen => exact rfl
  case hk => exact rfl
  case hcell => decide
  case hl => kernel_rfl
  case hr => exact ⟨_, _, rfl, ⟨_, rfl⟩, trivial⟩
  case hdd => decide
  case hb =>
    intro dyn9 hok
    have hB1 : 0 ≤ B ∧ B < 146097 := by have := cu.eB; rw [fm _ _ (by decide)] at this; omega
    have hD1 : 0 ≤ D ∧ D < 36524 := by have := cu.eD; rw [fm _ _ (by decide)] at this; omega
    have hG1 : 0 ≤ G ∧ G < 1461 := by have := cu.eG; rw [fm _ _ (by decide)] at this; omega
    repeat' ((with_reducible show (_ : Prop)); (first
      | ((with_reducible show EvT _ _ _ _); (first | ((with_reducible show EvT _ _ (Expr.Name _ _) _); (first | ((with_reducible show EvT _ _ (Expr.Name _ _) _); (with_reducible apply ev_nameR); (· with_unfolding_all rfl); (· rfl); (· rfl); (· decide)) | ((with_reducible show EvT _ _ (Expr.Name _ _) _); (with_reducible apply ev_nameR); (· with_unfolding_all rfl); (· rfl); (· rfl); (· decide)) | ((with_reducible apply ev_glob (room := _) (by assumption)); (· k_is); (· exact ⟨_, rfl⟩); (· rfl); (· decide)))) | ((with_reducible show EvT _ _ (Expr.Constant _ _ _) _); (first | (with_reducible exact ev_int))) | ((with_reducible show EvT _ _ (Expr.BinOp _ _ _ _) _); (first | ((with_reducible show EvT _ _ (Expr.BinOp _ Operator.RShift _ _) _); (with_reducible apply ev_rshift)) | ((with_reducible show EvT _ _ (Expr.BinOp _ Operator.Add (Expr.BoolOp _ _ _) _) _); (with_reducible apply ev_addB)) | ((with_reducible show EvT _ _ (Expr.BinOp _ Operator.Add _ _) _); (with_reducible apply ev_add)) | ((with_reducible show EvT _ _ (Expr.BinOp _ Operator.Sub _ _) _); (with_reducible apply ev_sub)) | ((with_reducible show EvT _ _ (Expr.BinOp _ Operator.Mult _ _) _); (with_reducible apply ev_mul)) | ((with_reducible show EvT _ _ (Expr.BinOp _ Operator.Mod _ _) _); (with_reducible apply ev_mod)) | ((with_reducible show EvT _ _ (Expr.BinOp _ Operator.FloorDiv _ _) _); (with_reducible apply ev_div)))) | ((with_reducible show EvT _ _ (Expr.Subscript _ _ _) _); (first | ((with_reducible show EvT _ _ (Expr.Subscript (Expr.Name (PySem.Str.ofString "_DAYS_IN_MONTH") _) _ _) _); (with_reducible apply ev_nums (addr := 150) (ns := [-1, 31, 28, 31, 30, 31, 30, 31, 31, 30, 31, 30, 31]) (room := _) (by assumption))) | ((with_reducible show EvT _ _ (Expr.Subscript (Expr.Name (PySem.Str.ofString "_DAYS_BEFORE_MONTH") _) _ _) _); (with_reducible apply ev_nums (addr := 151) (ns := [-1, 0, 31, 59, 90, 120, 151, 181, 212, 243, 273, 304, 334]) (room := _) (by assumption))))) | ((with_reducible show EvT _ _ (Expr.Call _ _ _ _) _); (first | ((with_reducible show EvT _ _ (Expr.Call _ _ _ _) _); (with_reducible apply ev_call (room := _) (by assumption))))) | ((with_reducible show EvT _ _ (Expr.Compare _ _ _ _) _); (first | ((with_reducible show EvT _ _ (Expr.Compare _ _ _ _) _); (with_reducible apply ev_cmp)))) | ((with_reducible show EvT _ _ (Expr.BoolOp _ _ _) _); (first | ((with_reducible show EvT _ _ (Expr.BoolOp BoolOp.And (_ :: _ :: _) _) _); (with_reducible apply ev_and)) | ((with_reducible show EvT _ _ (Expr.BoolOp BoolOp.Or (_ :: _ :: _) _) _); (with_reducible apply ev_or)) | ((with_reducible show EvT _ _ (Expr.BoolOp _ [_] _) _); (with_reducible apply ev_one))))))
      | ((with_reducible show EvsT _ _ _ _); (first | (with_reducible exact evs_nil) | ((with_reducible show EvsT _ _ _ _); (with_reducible apply evs_cons))))
      | ((with_reducible show TrT _ _ _ _); (first | ((with_reducible show TrT _ _ (Expr.Compare _ _ _ _) _); (first | ((with_reducible show TrT _ _ (Expr.Compare (Expr.Name (PySem.Str.ofString "leapyear") _) _ _ _) _); (with_reducible apply tr_cmpB)) | ((with_reducible show TrT _ _ (Expr.Compare _ [_] [_] _) _); (with_reducible apply tr_cmp)) | ((with_reducible show TrT _ _ (Expr.Compare _ [_, _] _ _) _); (with_reducible apply tr_chain)))) | ((with_reducible show TrT _ _ (Expr.BoolOp _ _ _) _); (first | ((with_reducible show TrT _ _ (Expr.BoolOp _ _ _) _); (with_reducible apply tr_ch)))) | ((with_reducible show TrT _ _ (Expr.UnaryOp _ _ _) _); (first | ((with_reducible show TrT _ _ (Expr.UnaryOp UnaryOp.Not _ _) _); (with_reducible apply tr_not)))) | ((with_reducible show TrT _ _ _ _); (with_reducible apply tr_plain))))
      | ((with_reducible show ChT _ _ _ _ _); (first | (with_reducible exact ch_and_nil) | (with_reducible exact ch_or_nil) | ((with_reducible show ChT _ _ BoolOp.And _ _); (with_reducible apply ch_and)) | ((with_reducible show ChT _ _ BoolOp.Or _ _); (with_reducible apply ch_or))))
      | ((with_reducible show CallT _ _ _ _); (first | ((with_reducible show CallT _ (Value.ref 163) _ _); (with_reducible apply ct_leap (room := _) (by assumption) (by decide))) | ((with_reducible show CallT _ (Value.ref 177) _ _); (with_reducible apply ct_dim (room := _) (by assumption) (by decide)))))
      | ((with_reducible show X1T _ _ _ _); (first | (with_reducible apply x1_divmod (room := _) (by assumption)) | ((with_reducible apply x1_assign (x := Str.ofString "preceding")); (with_reducible apply ev_conv)) | ((with_reducible apply x1_isub (x := Str.ofString "preceding")); (· with_unfolding_all rfl); (with_reducible apply ev_conv)) | (with_reducible apply x1_iadd) | (with_reducible apply x1_isub) | ((with_reducible apply x1_assert); (with_reducible apply tr_conv)) | (with_reducible apply x1_assign)))
      | ((with_reducible show XsT _ _ _ _); (first | (with_reducible exact xs_nil) | (with_reducible apply xs_cons)))
      | ((with_reducible show BsT _ _ _ _); (first | ((with_reducible apply bs_retN); (apply ev_tup3)) | ((with_reducible apply bs_ifT); (with_reducible apply tr_conv)) | ((with_reducible apply bs_ret); (with_reducible apply ev_conv)) | (with_reducible apply bs_if) | (with_reducible apply bs_cons)))
      | ((with_reducible show _ = _); (first | with_reducible exact Cut.eA (by assumption) | with_reducible exact Cut.eB (by assumption) | with_reducible exact Cut.eC (by assumption) | with_reducible exact Cut.eD (by assumption) | with_reducible exact Cut.eF (by assumption) | with_reducible exact Cut.eG (by assumption) | with_reducible exact Cut.eH (by assumption) | with_reducible exact Cut.eR (by assumption)))
      | ((with_reducible show Int.fdiv _ _ = _); exact Hide.out (by with_reducible assumption))
      | ((with_reducible show Sh.int _ = _); exact congrArg Sh.int (pre_is (Hide.out (by with_reducible assumption)) (Hide.out (by with_reducible assumption))))
      | ((with_reducible show Sh.int _ = _); exact congrArg Sh.int (dim_is (Hide.out (by with_reducible assumption)) (Hide.out (by with_reducible assumption))))
      | ((with_reducible show _ = true); exact leap_ok (Hide.out (by with_reducible assumption)))
      | ((with_reducible show _ → _); intro _)
      | rfl
      | (with_unfolding_all rfl)
      | rfl
      | assumption
      | decide
      | k_is
      | ((with_reducible show KTD.datLooks _ _ _ = true); kernel_rfl)
      | mul_fits
      | (intro _; with_unfolding_all rfl)
      | omega
      | (simp; omega)))
end D4s
noncomputable section D4bs
theorem ymd_bounds {y m d : Int} (hy1 : 1 ≤ y) (hy2 : y ≤ 9999) (h1 : 1 ≤ m) (h2 : m ≤ 12) (h3 : 1 ≤ d) (h4 : d ≤ dim y m) : 1 ≤ ymdOrd y m d ∧ ymdOrd y m d ≤ 3652060 := by
  obtain ⟨a1, a2, _⟩ := doy_lt h1 h2 h3 h4
  have e : ymdOrd y m d = dby y + doy y m d + 1 := by unfold ymdOrd doy; omega
  rw [e, dby_eq]
  split at a2 <;> omega
theorem dbm_step {y m : Int} (h1 : 1 ≤ m) (h2 : m ≤ 11) : dbm y (m + 1) = dbm y m + dim y m :=
  tab12 (Q := fun m => ∀ b : Bool, m ≤ 11 → dbmB b (m + 1) = dbmB b m + dimB b m) (by decide) m h1 (Int.le_trans h2 (by decide)) (isLeap y) h2
theorem o2y_ok (w : World) (mean : ExcName → Option Value) (mg mb : Str → Option Value) (y m d : Int) (t : Tok) (hy1 : 1 ≤ y) (hy2 : y ≤ 9999) (h1 : 1 ≤ m) (h2 : m ≤ 12) (h3 : 1 ≤ d) (h4 : d ≤ dim y m) :
    ClaimO w mean mg mb 201 4 (fun _ => True) [.int (ymdOrd y m d) t] (tup3 y m d) := by
  obtain ⟨b1, b2⟩ := ymd_bounds hy1 hy2 h1 h2 h3 h4
  by_cases hl : doy y m d = 365
  · obtain ⟨A, B, C, D, F, G, H, cu, hh, hA, hy, rfl, rfl⟩ := cut_last hy1 h1 h2 h3 h4 hl
    have hF := cu.eF
    have hC := cu.eC
    rw [fd _ _ (by decide)] at hF hC
    have hD : 0 ≤ D := by have := cu.eD; rw [fm _ _ (by decide)] at this; lia
    have hB : 0 ≤ B := by have := cu.eB; rw [fm _ _ (by decide)] at this; lia
    have r := o2y_last w mean mg mb _ A B C D F G H t cu b1 (by lia) hA (by lia) hh
    rwa [hy] at r
  · obtain ⟨A, B, C, D, F, G, H, cu, hA, hC0, hC, hF0, hF, hH0, hH, hy, hle⟩ := cut_plain hy1 h1 h2 h3 h4 hl
    obtain ⟨m1, m2, m3, m4⟩ := month_est h1 h2 h3 h4
    by_cases hp : dbm y ((doy y m d + 50).fdiv (2 ^ Int.toNat 5)) ≤ doy y m d
    · have e := m3 hp
      have r := o2y_stay w mean mg mb _ A B C D F G H (doy y m d) m (dbm y m) t cu b1 (by lia) hA hC0 hC hF0 hF hH0 hH (by lia) ⟨by rw [hy]; exact hle⟩ ⟨e⟩ h1 h2 ⟨by rw [hy]⟩ (by rw [e] at hp; exact hp) (by rw [hy]; unfold doy; lia)
      rw [hy] at r
      have e2 : doy y m d - dbm y m + 1 = d := by unfold doy; lia
      rwa [e2] at r
    · obtain ⟨e, e5⟩ := m4 (by lia)
      have hw : dbm y (m + 1) = dbm y m + dim y m := by
        have m12 : m ≤ 11 := by lia
        exact dbm_step h1 m12
      have hq : doy y m d - (dbm y (m + 1) - dim y m) < dim (A * 400 + 1 + (C * 100 + F * 4 + H)) (m + 1 - 1) := by
        have e9 : m + 1 - 1 = m := by lia
        rw [hy, hw, e9]
        unfold doy
        lia
      have r := o2y_back w mean mg mb _ A B C D F G H (doy y m d) (m + 1) (dbm y (m + 1)) (dim y m) t cu b1 (by lia) hA hC0 hC hF0 hF hH0 hH (by lia) ⟨by rw [hy]; exact hle⟩ ⟨e⟩ (by lia) (by lia) ⟨by rw [hy]⟩ (by rw [e] at hp; lia) ⟨by rw [hy]; congr 1; lia⟩ (by rw [hw]; unfold doy; lia) hq
      rw [hy] at r
      have e2 : doy y m d - (dbm y (m + 1) - dim y m) + 1 = d := by rw [hw]; unfold doy; lia
      have e3 : m + 1 - 1 = m := by lia
      rwa [e2, e3] at r
end D4bs
noncomputable section D2s
def lawDay (n : Int) : Str := Txt.slice (Str.ofString "SunMonTueWedThuFriSat") (some (n.fmod 7 * 3)) (some (n.fmod 7 * 3 + 3))
def keyTab (m : Int) : Int := ([0, 3, 3, 6, 1, 4, 6, 2, 5, 0, 3, 5] : List Int).getD (m - 1).toNat 0
def lawLeap (y : Int) : Bool := decide (y.fmod 16 = 0) || (decide (y.fmod 4 = 0) && decide (y.fmod 25 ≠ 0))
def lawKey (y m : Int) : Int := if lawLeap y = true ∧ 2 < m then keyTab m + 1 else keyTab m
theorem find_key {m : Int} (h1 : 1 ≤ m) (h2 : m ≤ 12) : Txt.find (Str.ofString "ABCDEFG") (Txt.item (Str.ofString "ADDGBEGCFADF") (m - 1)) = keyTab m ∧ 0 ≤ keyTab m ∧ keyTab m ≤ 6 := by
  rcases cases12 h1 h2 with h | h | h | h | h | h | h | h | h | h | h | h <;> subst h <;> decide +kernel
theorem law_day_ok (w : World) (mean : ExcName → Option Value) (mg mb : Str → Option Value) (n : Int) (t : Tok) :
    ClaimV w mean mg mb 222 1 (fun _ => True) [.int n t] (fun t => .str (lawDay n) t) := by
  unfold ClaimV
  k_fill
  intros; rename_i hret
  refine wpAny_call ?_
  k_dflt cell_enter
  repeat' (first
      | (k_unfold; (try dsimp only))
      | (k_end; kc_close)
      | (with_reducible (k_here; (with_reducible show wpAny _ _ (call (Value.ref 184) [Value.int _ _, Value.int _ _]) _ _ _); k_dflt (refine' ClaimV.use (dbm_ok _ _ _ _ _ _ _ _ ?s0 ?s1) ?k1 ?k2 ?k3 ?k4 ?k5 ?kK ?kp ?kd ?ku ?_); (case s0 => omega); (case s1 => omega); (case k1 => k_asm); (case k2 => k_asm); (case k3 => k_asm); (case k4 => k_asm); (case k5 => k_asm); (case kK => first | exact rfl | assumption); (case kp => trivial); (case kd => ktr_room); (case ku => ktr_units); intro t9 h9 tk9 F9 N9; (try dsimp only); (try k_fold)))
      | (with_reducible (k_here; (with_reducible show wpAny _ _ (call (Value.ref 177) [Value.int _ _, Value.int _ _]) _ _ _); k_dflt (refine' ClaimV.use (dim_ok _ _ _ _ _ _ _ _ ?s0 ?s1) ?k1 ?k2 ?k3 ?k4 ?k5 ?kK ?kp ?kd ?ku ?_); (case s0 => omega); (case s1 => omega); (case k1 => k_asm); (case k2 => k_asm); (case k3 => k_asm); (case k4 => k_asm); (case k5 => k_asm); (case kK => first | exact rfl | assumption); (case kp => trivial); (case kd => ktr_room); (case ku => ktr_units); intro t9 h9 tk9 F9 N9; (try dsimp only); (try k_fold)))
      | (with_reducible (k_here; (with_reducible show wpAny _ _ (subscriptTail _ _ (Value.ref 151) (Value.int _ _)) _ _ _); (refine' glob_nums (ns := [-1, 0, 31, 59, 90, 120, 151, 181, 212, 243, 273, 304, 334]) ?k1 ?k2 ?k3 ?k4 ?k5 ?k6 ?_ ?k7); (case k1 => k_asm); (case k2 => kernel_rfl); (case k3 => k_asm); (case k4 => omega); (case k5 => ((try simp only [List.length_cons, List.length_nil]); omega)); (case k6 => decide); (case k7 => with_unfolding_all rfl); intro _))
      | (with_reducible (k_here; (with_reducible show wpAny _ _ (subscriptTail _ _ (Value.ref 150) (Value.int _ _)) _ _ _); (refine' glob_nums (ns := [-1, 31, 28, 31, 30, 31, 30, 31, 31, 30, 31, 30, 31]) ?k1 ?k2 ?k3 ?k4 ?k5 ?k6 ?_ ?k7); (case k1 => k_asm); (case k2 => kernel_rfl); (case k3 => k_asm); (case k4 => omega); (case k5 => ((try simp only [List.length_cons, List.length_nil]); omega)); (case k6 => decide); (case k7 => with_unfolding_all rfl); intro _))
      | (with_reducible (k_here; (with_reducible show wpAny _ _ (call (Value.ref 170) [Value.int _ _]) _ _ _); k_dflt (refine' ClaimV.use (dby_ok _ _ _ _ _ _ ?s0 ?s1) ?k1 ?k2 ?k3 ?k4 ?k5 ?kK ?kp ?kd ?ku ?_); (case s0 => omega); (case s1 => omega); (case k1 => k_asm); (case k2 => k_asm); (case k3 => k_asm); (case k4 => k_asm); (case k5 => k_asm); (case kK => first | exact rfl | assumption); (case kp => trivial); (case kd => ktr_room); (case ku => ktr_units); intro t9 h9 tk9 F9 N9; (try dsimp only); (try k_fold)))
      | (with_reducible (k_here; (with_reducible show wpAny _ _ (call (Value.ref 163) [Value.int _ _]) _ _ _); k_dflt (refine' ClaimV.use (is_leap_ok _ _ _ _ _ _) ?k1 ?k2 ?k3 ?k4 ?k5 ?kK ?kp ?kd ?ku ?_); (case k1 => k_asm); (case k2 => k_asm); (case k3 => k_asm); (case k4 => k_asm); (case k5 => k_asm); (case kK => first | exact rfl | assumption); (case kp => trivial); (case kd => ktr_room); (case ku => ktr_units); intro t9 h9 tk9 F9 N9; (try dsimp only); (try k_fold)))
      | (with_reducible (k_here; (with_reducible show wpAny _ _ (call (Value.ref 191) [Value.int _ _, Value.int _ _, Value.int _ _]) _ _ _); k_dflt (refine' ClaimV.use (ymd_ok _ _ _ _ _ _ _ _ _ _ ?s0 ?s1 ?s2 ?s3 ?s4 ?s5) ?k1 ?k2 ?k3 ?k4 ?k5 ?kK ?kp ?kd ?ku ?_); (case s0 => omega); (case s1 => omega); (case s2 => omega); (case s3 => omega); (case s4 => omega); (case s5 => omega); (case k1 => k_asm); (case k2 => k_asm); (case k3 => k_asm); (case k4 => k_asm); (case k5 => k_asm); (case kK => first | exact rfl | assumption); (case kp => trivial); (case kd => ktr_room); (case ku => ktr_units); intro t9 h9 tk9 F9 N9; (try dsimp only); (try k_fold)))
      | (with_reducible (k_here; k_inBlock; (with_reducible rename Fr _ _ _ _ => kF); k_dflt (refine' nameG_B kF ?k1 ?k2 ?k3 ?k8 ?k9 ?_ ?k4 ?kb ?k5 ?k6 ?k7; (case k4 => rfl); (case kb => rfl); (case k5 => rfl); (case k6 => rfl); (case k7 => decide); (case k1 => k_asm); (case k2 => k_asm); (case k3 => k_is); (case k8 => boot_by_name); (case k9 => decide); k_whole)))
      | (with_reducible ((first | (with_reducible show wpAny _ _ (eval _ (Calls.envOf _ _ _ _ _)) _ _ _) | (with_reducible show wpAny _ _ (eval _ (Calls.envOfC _ _ _ _ _)) _ _ _)); refine Call_ ?_))
      | walk1
      | (k_here; (with_reducible show wpAny _ _ (call (Value.ref 184) [Value.int _ _, Value.int _ _]) _ _ _); k_dflt (refine' ClaimV.use (dbm_ok _ _ _ _ _ _ _ _ ?s0 ?s1) ?k1 ?k2 ?k3 ?k4 ?k5 ?kK ?kp ?kd ?ku ?_); (case s0 => omega); (case s1 => omega); (case k1 => k_asm); (case k2 => k_asm); (case k3 => k_asm); (case k4 => k_asm); (case k5 => k_asm); (case kK => first | exact rfl | assumption); (case kp => trivial); (case kd => ktr_room); (case ku => ktr_units); intro t9 h9 tk9 F9 N9; (try dsimp only); (try k_fold))
      | (k_here; (with_reducible show wpAny _ _ (call (Value.ref 177) [Value.int _ _, Value.int _ _]) _ _ _); k_dflt (refine' ClaimV.use (dim_ok _ _ _ _ _ _ _ _ ?s0 ?s1) ?k1 ?k2 ?k3 ?k4 ?k5 ?kK ?kp ?kd ?ku ?_); (case s0 => omega); (case s1 => omega); (case k1 => k_asm); (case k2 => k_asm); (case k3 => k_asm); (case k4 => k_asm); (case k5 => k_asm); (case kK => first | exact rfl | assumption); (case kp => trivial); (case kd => ktr_room); (case ku => ktr_units); intro t9 h9 tk9 F9 N9; (try dsimp only); (try k_fold))
      | (k_here; (with_reducible show wpAny _ _ (subscriptTail _ _ (Value.ref 151) (Value.int _ _)) _ _ _); (refine' glob_nums (ns := [-1, 0, 31, 59, 90, 120, 151, 181, 212, 243, 273, 304, 334]) ?k1 ?k2 ?k3 ?k4 ?k5 ?k6 ?_ ?k7); (case k1 => k_asm); (case k2 => kernel_rfl); (case k3 => k_asm); (case k4 => omega); (case k5 => ((try simp only [List.length_cons, List.length_nil]); omega)); (case k6 => decide); (case k7 => with_unfolding_all rfl); intro _)
      | (k_here; (with_reducible show wpAny _ _ (subscriptTail _ _ (Value.ref 150) (Value.int _ _)) _ _ _); (refine' glob_nums (ns := [-1, 31, 28, 31, 30, 31, 30, 31, 31, 30, 31, 30, 31]) ?k1 ?k2 ?k3 ?k4 ?k5 ?k6 ?_ ?k7); (case k1 => k_asm); (case k2 => kernel_rfl); (case k3 => k_asm); (case k4 => omega); (case k5 => ((try simp only [List.length_cons, List.length_nil]); omega)); (case k6 => decide); (case k7 => with_unfolding_all rfl); intro _)
      | (k_here; (with_reducible show wpAny _ _ (call (Value.ref 170) [Value.int _ _]) _ _ _); k_dflt (refine' ClaimV.use (dby_ok _ _ _ _ _ _ ?s0 ?s1) ?k1 ?k2 ?k3 ?k4 ?k5 ?kK ?kp ?kd ?ku ?_); (case s0 => omega); (case s1 => omega); (case k1 => k_asm); (case k2 => k_asm); (case k3 => k_asm); (case k4 => k_asm); (case k5 => k_asm); (case kK => first | exact rfl | assumption); (case kp => trivial); (case kd => ktr_room); (case ku => ktr_units); intro t9 h9 tk9 F9 N9; (try dsimp only); (try k_fold))
      | (k_here; (with_reducible show wpAny _ _ (call (Value.ref 163) [Value.int _ _]) _ _ _); k_dflt (refine' ClaimV.use (is_leap_ok _ _ _ _ _ _) ?k1 ?k2 ?k3 ?k4 ?k5 ?kK ?kp ?kd ?ku ?_); (case k1 => k_asm); (case k2 => k_asm); (case k3 => k_asm); (case k4 => k_asm); (case k5 => k_asm); (case kK => first | exact rfl | assumption); (case kp => trivial); (case kd => ktr_room); (case ku => ktr_units); intro t9 h9 tk9 F9 N9; (try dsimp only); (try k_fold))
      | (k_here; (with_reducible show wpAny _ _ (call (Value.ref 191) [Value.int _ _, Value.int _ _, Value.int _ _]) _ _ _); k_dflt (refine' ClaimV.use (ymd_ok _ _ _ _ _ _ _ _ _ _ ?s0 ?s1 ?s2 ?s3 ?s4 ?s5) ?k1 ?k2 ?k3 ?k4 ?k5 ?kK ?kp ?kd ?ku ?_); (case s0 => omega); (case s1 => omega); (case s2 => omega); (case s3 => omega); (case s4 => omega); (case s5 => omega); (case k1 => k_asm); (case k2 => k_asm); (case k3 => k_asm); (case k4 => k_asm); (case k5 => k_asm); (case kK => first | exact rfl | assumption); (case kp => trivial); (case kd => ktr_room); (case ku => ktr_units); intro t9 h9 tk9 F9 N9; (try dsimp only); (try k_fold))
      | (k_here; k_inBlock; (with_reducible rename Fr _ _ _ _ => kF); k_dflt (refine' nameG_B kF ?k1 ?k2 ?k3 ?k8 ?k9 ?_ ?k4 ?kb ?k5 ?k6 ?k7; (case k4 => rfl); (case kb => rfl); (case k5 => rfl); (case k6 => rfl); (case k7 => decide); (case k1 => k_asm); (case k2 => k_asm); (case k3 => k_is); (case k8 => boot_by_name); (case k9 => decide); k_whole))
      | ((first | (with_reducible show wpAny _ _ (eval _ (Calls.envOf _ _ _ _ _)) _ _ _) | (with_reducible show wpAny _ _ (eval _ (Calls.envOfC _ _ _ _ _)) _ _ _)); refine Call_ ?_)
      | (dsimp only; walk1)
      | (leave1; walk_say "STEP leave1"; (try dsimp only)))
  all_goals (refine cb_retS hret ?e1 ?e2 ?e3; (case e2 => k_asm); (case e3 => k_asm); (case e1 => rfl))
theorem law_key_ok (w : World) (mean : ExcName → Option Value) (mg mb : Str → Option Value) (y m : Int) (t u : Tok) (h1 : 1 ≤ m) (h2 : m ≤ 12) :
    ClaimV w mean mg mb 208 1 (fun _ => True) [.int y t, .int m u] (fun t => .int (lawKey y m) t) := by
  unfold ClaimV
  k_fill
  intros; rename_i hret
  refine wpAny_call ?_
  k_dflt cell_enter
  obtain ⟨hk, hk0, hk6⟩ := find_key h1 h2
  repeat' (first
      | (k_unfold; (try dsimp only))
      | (k_end; kc_close)
      | (with_reducible (k_here; (with_reducible show wpAny _ _ (call (Value.ref 184) [Value.int _ _, Value.int _ _]) _ _ _); k_dflt (refine' ClaimV.use (dbm_ok _ _ _ _ _ _ _ _ ?s0 ?s1) ?k1 ?k2 ?k3 ?k4 ?k5 ?kK ?kp ?kd ?ku ?_); (case s0 => lia); (case s1 => lia); (case k1 => k_asm); (case k2 => k_asm); (case k3 => k_asm); (case k4 => k_asm); (case k5 => k_asm); (case kK => first | exact rfl | assumption); (case kp => trivial); (case kd => ktr_room); (case ku => ktr_units); intro t9 h9 tk9 F9 N9; (try dsimp only); (try k_fold)))
      | (with_reducible (k_here; (with_reducible show wpAny _ _ (call (Value.ref 177) [Value.int _ _, Value.int _ _]) _ _ _); k_dflt (refine' ClaimV.use (dim_ok _ _ _ _ _ _ _ _ ?s0 ?s1) ?k1 ?k2 ?k3 ?k4 ?k5 ?kK ?kp ?kd ?ku ?_); (case s0 => lia); (case s1 => lia); (case k1 => k_asm); (case k2 => k_asm); (case k3 => k_asm); (case k4 => k_asm); (case k5 => k_asm); (case kK => first | exact rfl | assumption); (case kp => trivial); (case kd => ktr_room); (case ku => ktr_units); intro t9 h9 tk9 F9 N9; (try dsimp only); (try k_fold)))
      | (with_reducible (k_here; (with_reducible show wpAny _ _ (subscriptTail _ _ (Value.ref 151) (Value.int _ _)) _ _ _); (refine' glob_nums (ns := [-1, 0, 31, 59, 90, 120, 151, 181, 212, 243, 273, 304, 334]) ?k1 ?k2 ?k3 ?k4 ?k5 ?k6 ?_ ?k7); (case k1 => k_asm); (case k2 => kernel_rfl); (case k3 => k_asm); (case k4 => lia); (case k5 => ((try simp only [List.length_cons, List.length_nil]); lia)); (case k6 => decide); (case k7 => with_unfolding_all rfl); intro _))
      | (with_reducible (k_here; (with_reducible show wpAny _ _ (subscriptTail _ _ (Value.ref 150) (Value.int _ _)) _ _ _); (refine' glob_nums (ns := [-1, 31, 28, 31, 30, 31, 30, 31, 31, 30, 31, 30, 31]) ?k1 ?k2 ?k3 ?k4 ?k5 ?k6 ?_ ?k7); (case k1 => k_asm); (case k2 => kernel_rfl); (case k3 => k_asm); (case k4 => lia); (case k5 => ((try simp only [List.length_cons, List.length_nil]); lia)); (case k6 => decide); (case k7 => with_unfolding_all rfl); intro _))
      | (with_reducible (k_here; (with_reducible show wpAny _ _ (call (Value.ref 170) [Value.int _ _]) _ _ _); k_dflt (refine' ClaimV.use (dby_ok _ _ _ _ _ _ ?s0 ?s1) ?k1 ?k2 ?k3 ?k4 ?k5 ?kK ?kp ?kd ?ku ?_); (case s0 => lia); (case s1 => lia); (case k1 => k_asm); (case k2 => k_asm); (case k3 => k_asm); (case k4 => k_asm); (case k5 => k_asm); (case kK => first | exact rfl | assumption); (case kp => trivial); (case kd => ktr_room); (case ku => ktr_units); intro t9 h9 tk9 F9 N9; (try dsimp only); (try k_fold)))
      | (with_reducible (k_here; (with_reducible show wpAny _ _ (call (Value.ref 163) [Value.int _ _]) _ _ _); k_dflt (refine' ClaimV.use (is_leap_ok _ _ _ _ _ _) ?k1 ?k2 ?k3 ?k4 ?k5 ?kK ?kp ?kd ?ku ?_); (case k1 => k_asm); (case k2 => k_asm); (case k3 => k_asm); (case k4 => k_asm); (case k5 => k_asm); (case kK => first | exact rfl | assumption); (case kp => trivial); (case kd => ktr_room); (case ku => ktr_units); intro t9 h9 tk9 F9 N9; (try dsimp only); (try k_fold)))
      | (with_reducible (k_here; (with_reducible show wpAny _ _ (call (Value.ref 191) [Value.int _ _, Value.int _ _, Value.int _ _]) _ _ _); k_dflt (refine' ClaimV.use (ymd_ok _ _ _ _ _ _ _ _ _ _ ?s0 ?s1 ?s2 ?s3 ?s4 ?s5) ?k1 ?k2 ?k3 ?k4 ?k5 ?kK ?kp ?kd ?ku ?_); (case s0 => lia); (case s1 => lia); (case s2 => lia); (case s3 => lia); (case s4 => lia); (case s5 => lia); (case k1 => k_asm); (case k2 => k_asm); (case k3 => k_asm); (case k4 => k_asm); (case k5 => k_asm); (case kK => first | exact rfl | assumption); (case kp => trivial); (case kd => ktr_room); (case ku => ktr_units); intro t9 h9 tk9 F9 N9; (try dsimp only); (try k_fold)))
      | (with_reducible (k_here; k_inBlock; (with_reducible rename Fr _ _ _ _ => kF); k_dflt (refine' nameG_B kF ?k1 ?k2 ?k3 ?k8 ?k9 ?_ ?k4 ?kb ?k5 ?k6 ?k7; (case k4 => rfl); (case kb => rfl); (case k5 => rfl); (case k6 => rfl); (case k7 => decide); (case k1 => k_asm); (case k2 => k_asm); (case k3 => k_is); (case k8 => boot_by_name); (case k9 => decide); k_whole)))
      | (with_reducible ((first | (with_reducible show wpAny _ _ (eval _ (Calls.envOf _ _ _ _ _)) _ _ _) | (with_reducible show wpAny _ _ (eval _ (Calls.envOfC _ _ _ _ _)) _ _ _)); refine Call_ ?_))
      | walk1
      | (k_here; (with_reducible show wpAny _ _ (call (Value.ref 184) [Value.int _ _, Value.int _ _]) _ _ _); k_dflt (refine' ClaimV.use (dbm_ok _ _ _ _ _ _ _ _ ?s0 ?s1) ?k1 ?k2 ?k3 ?k4 ?k5 ?kK ?kp ?kd ?ku ?_); (case s0 => lia); (case s1 => lia); (case k1 => k_asm); (case k2 => k_asm); (case k3 => k_asm); (case k4 => k_asm); (case k5 => k_asm); (case kK => first | exact rfl | assumption); (case kp => trivial); (case kd => ktr_room); (case ku => ktr_units); intro t9 h9 tk9 F9 N9; (try dsimp only); (try k_fold))
      | (k_here; (with_reducible show wpAny _ _ (call (Value.ref 177) [Value.int _ _, Value.int _ _]) _ _ _); k_dflt (refine' ClaimV.use (dim_ok _ _ _ _ _ _ _ _ ?s0 ?s1) ?k1 ?k2 ?k3 ?k4 ?k5 ?kK ?kp ?kd ?ku ?_); (case s0 => lia); (case s1 => lia); (case k1 => k_asm); (case k2 => k_asm); (case k3 => k_asm); (case k4 => k_asm); (case k5 => k_asm); (case kK => first | exact rfl | assumption); (case kp => trivial); (case kd => ktr_room); (case ku => ktr_units); intro t9 h9 tk9 F9 N9; (try dsimp only); (try k_fold))
      | (k_here; (with_reducible show wpAny _ _ (subscriptTail _ _ (Value.ref 151) (Value.int _ _)) _ _ _); (refine' glob_nums (ns := [-1, 0, 31, 59, 90, 120, 151, 181, 212, 243, 273, 304, 334]) ?k1 ?k2 ?k3 ?k4 ?k5 ?k6 ?_ ?k7); (case k1 => k_asm); (case k2 => kernel_rfl); (case k3 => k_asm); (case k4 => lia); (case k5 => ((try simp only [List.length_cons, List.length_nil]); lia)); (case k6 => decide); (case k7 => with_unfolding_all rfl); intro _)
      | (k_here; (with_reducible show wpAny _ _ (subscriptTail _ _ (Value.ref 150) (Value.int _ _)) _ _ _); (refine' glob_nums (ns := [-1, 31, 28, 31, 30, 31, 30, 31, 31, 30, 31, 30, 31]) ?k1 ?k2 ?k3 ?k4 ?k5 ?k6 ?_ ?k7); (case k1 => k_asm); (case k2 => kernel_rfl); (case k3 => k_asm); (case k4 => lia); (case k5 => ((try simp only [List.length_cons, List.length_nil]); lia)); (case k6 => decide); (case k7 => with_unfolding_all rfl); intro _)
      | (k_here; (with_reducible show wpAny _ _ (call (Value.ref 170) [Value.int _ _]) _ _ _); k_dflt (refine' ClaimV.use (dby_ok _ _ _ _ _ _ ?s0 ?s1) ?k1 ?k2 ?k3 ?k4 ?k5 ?kK ?kp ?kd ?ku ?_); (case s0 => lia); (case s1 => lia); (case k1 => k_asm); (case k2 => k_asm); (case k3 => k_asm); (case k4 => k_asm); (case k5 => k_asm); (case kK => first | exact rfl | assumption); (case kp => trivial); (case kd => ktr_room); (case ku => ktr_units); intro t9 h9 tk9 F9 N9; (try dsimp only); (try k_fold))
      | (k_here; (with_reducible show wpAny _ _ (call (Value.ref 163) [Value.int _ _]) _ _ _); k_dflt (refine' ClaimV.use (is_leap_ok _ _ _ _ _ _) ?k1 ?k2 ?k3 ?k4 ?k5 ?kK ?kp ?kd ?ku ?_); (case k1 => k_asm); (case k2 => k_asm); (case k3 => k_asm); (case k4 => k_asm); (case k5 => k_asm); (case kK => first | exact rfl | assumption); (case kp => trivial); (case kd => ktr_room); (case ku => ktr_units); intro t9 h9 tk9 F9 N9; (try dsimp only); (try k_fold))
      | (k_here; (with_reducible show wpAny _ _ (call (Value.ref 191) [Value.int _ _, Value.int _ _, Value.int _ _]) _ _ _); k_dflt (refine' ClaimV.use (ymd_ok _ _ _ _ _ _ _ _ _ _ ?s0 ?s1 ?s2 ?s3 ?s4 ?s5) ?k1 ?k2 ?k3 ?k4 ?k5 ?kK ?kp ?kd ?ku ?_); (case s0 => lia); (case s1 => lia); (case s2 => lia); (case s3 => lia); (case s4 => lia); (case s5 => lia); (case k1 => k_asm); (case k2 => k_asm); (case k3 => k_asm); (case k4 => k_asm); (case k5 => k_asm); (case kK => first | exact rfl | assumption); (case kp => trivial); (case kd => ktr_room); (case ku => ktr_units); intro t9 h9 tk9 F9 N9; (try dsimp only); (try k_fold))
      | (k_here; k_inBlock; (with_reducible rename Fr _ _ _ _ => kF); k_dflt (refine' nameG_B kF ?k1 ?k2 ?k3 ?k8 ?k9 ?_ ?k4 ?kb ?k5 ?k6 ?k7; (case k4 => rfl); (case kb => rfl); (case k5 => rfl); (case k6 => rfl); (case k7 => decide); (case k1 => k_asm); (case k2 => k_asm); (case k3 => k_is); (case k8 => boot_by_name); (case k9 => decide); k_whole))
      | ((first | (with_reducible show wpAny _ _ (eval _ (Calls.envOf _ _ _ _ _)) _ _ _) | (with_reducible show wpAny _ _ (eval _ (Calls.envOfC _ _ _ _ _)) _ _ _)); refine Call_ ?_)
      | (dsimp only; walk1)
      | (leave1; walk_say "STEP leave1"; (try dsimp only)))
  all_goals (first | (exfalso; lia) | skip)
  all_goals (refine cb_retI hret ?e1 ?e2 ?e3; (case e2 => k_asm); (case e3 => k_asm); (case e1 => first | (simp_all [lawKey, lawLeap]; done) | (simp_all [lawKey, lawLeap]; lia)))
def lawLast (y m : Int) : Int := if m = 2 then 28 + lawKey y 3 - lawKey y 2 else if m = 4 ∨ m = 6 ∨ m = 9 ∨ m = 11 then 30 else 31
theorem law_last_ok (w : World) (mean : ExcName → Option Value) (mg mb : Str → Option Value) (y m : Int) (t u : Tok) (h1 : 1 ≤ m) (h2 : m ≤ 12) :
    ClaimV w mean mg mb 215 2 (fun _ => True) [.int y t, .int m u] (fun t => .int (lawLast y m) t) := by
  unfold ClaimV
  k_fill
  intros; rename_i hret
  refine wpAny_call ?_
  k_dflt cell_enter
  repeat' (first
      | (k_unfold; (try dsimp only))
      | (k_end; kc_close)
      | (with_reducible (k_here; (with_reducible show wpAny _ _ (call (Value.ref 208) [Value.int _ _, Value.int _ _]) _ _ _); k_dflt (refine' ClaimV.use (law_key_ok _ _ _ _ _ _ _ _ ?s0 ?s1) ?k1 ?k2 ?k3 ?k4 ?k5 ?kK ?kp ?kd ?ku ?_); (case s0 => lia); (case s1 => lia); (case k1 => k_asm); (case k2 => k_asm); (case k3 => k_asm); (case k4 => k_asm); (case k5 => k_asm); (case kK => first | exact rfl | assumption); (case kp => trivial); (case kd => ktr_room); (case ku => ktr_units); intro t9 h9 tk9 F9 N9; (try dsimp only); (try k_fold)))
      | (with_reducible (k_here; (with_reducible show wpAny _ _ (call (Value.ref 222) [Value.int _ _]) _ _ _); k_dflt (refine' ClaimV.use (law_day_ok _ _ _ _ _ _) ?k1 ?k2 ?k3 ?k4 ?k5 ?kK ?kp ?kd ?ku ?_); (case k1 => k_asm); (case k2 => k_asm); (case k3 => k_asm); (case k4 => k_asm); (case k5 => k_asm); (case kK => first | exact rfl | assumption); (case kp => trivial); (case kd => ktr_room); (case ku => ktr_units); intro t9 h9 tk9 F9 N9; (try dsimp only); (try k_fold)))
      | (with_reducible (k_here; (with_reducible show wpAny _ _ (call (Value.ref 184) [Value.int _ _, Value.int _ _]) _ _ _); k_dflt (refine' ClaimV.use (dbm_ok _ _ _ _ _ _ _ _ ?s0 ?s1) ?k1 ?k2 ?k3 ?k4 ?k5 ?kK ?kp ?kd ?ku ?_); (case s0 => lia); (case s1 => lia); (case k1 => k_asm); (case k2 => k_asm); (case k3 => k_asm); (case k4 => k_asm); (case k5 => k_asm); (case kK => first | exact rfl | assumption); (case kp => trivial); (case kd => ktr_room); (case ku => ktr_units); intro t9 h9 tk9 F9 N9; (try dsimp only); (try k_fold)))
      | (with_reducible (k_here; (with_reducible show wpAny _ _ (call (Value.ref 177) [Value.int _ _, Value.int _ _]) _ _ _); k_dflt (refine' ClaimV.use (dim_ok _ _ _ _ _ _ _ _ ?s0 ?s1) ?k1 ?k2 ?k3 ?k4 ?k5 ?kK ?kp ?kd ?ku ?_); (case s0 => lia); (case s1 => lia); (case k1 => k_asm); (case k2 => k_asm); (case k3 => k_asm); (case k4 => k_asm); (case k5 => k_asm); (case kK => first | exact rfl | assumption); (case kp => trivial); (case kd => ktr_room); (case ku => ktr_units); intro t9 h9 tk9 F9 N9; (try dsimp only); (try k_fold)))
      | (with_reducible (k_here; (with_reducible show wpAny _ _ (subscriptTail _ _ (Value.ref 151) (Value.int _ _)) _ _ _); (refine' glob_nums (ns := [-1, 0, 31, 59, 90, 120, 151, 181, 212, 243, 273, 304, 334]) ?k1 ?k2 ?k3 ?k4 ?k5 ?k6 ?_ ?k7); (case k1 => k_asm); (case k2 => kernel_rfl); (case k3 => k_asm); (case k4 => lia); (case k5 => ((try simp only [List.length_cons, List.length_nil]); lia)); (case k6 => decide); (case k7 => with_unfolding_all rfl); intro _))
      | (with_reducible (k_here; (with_reducible show wpAny _ _ (subscriptTail _ _ (Value.ref 150) (Value.int _ _)) _ _ _); (refine' glob_nums (ns := [-1, 31, 28, 31, 30, 31, 30, 31, 31, 30, 31, 30, 31]) ?k1 ?k2 ?k3 ?k4 ?k5 ?k6 ?_ ?k7); (case k1 => k_asm); (case k2 => kernel_rfl); (case k3 => k_asm); (case k4 => lia); (case k5 => ((try simp only [List.length_cons, List.length_nil]); lia)); (case k6 => decide); (case k7 => with_unfolding_all rfl); intro _))
      | (with_reducible (k_here; (with_reducible show wpAny _ _ (call (Value.ref 170) [Value.int _ _]) _ _ _); k_dflt (refine' ClaimV.use (dby_ok _ _ _ _ _ _ ?s0 ?s1) ?k1 ?k2 ?k3 ?k4 ?k5 ?kK ?kp ?kd ?ku ?_); (case s0 => lia); (case s1 => lia); (case k1 => k_asm); (case k2 => k_asm); (case k3 => k_asm); (case k4 => k_asm); (case k5 => k_asm); (case kK => first | exact rfl | assumption); (case kp => trivial); (case kd => ktr_room); (case ku => ktr_units); intro t9 h9 tk9 F9 N9; (try dsimp only); (try k_fold)))
      | (with_reducible (k_here; (with_reducible show wpAny _ _ (call (Value.ref 163) [Value.int _ _]) _ _ _); k_dflt (refine' ClaimV.use (is_leap_ok _ _ _ _ _ _) ?k1 ?k2 ?k3 ?k4 ?k5 ?kK ?kp ?kd ?ku ?_); (case k1 => k_asm); (case k2 => k_asm); (case k3 => k_asm); (case k4 => k_asm); (case k5 => k_asm); (case kK => first | exact rfl | assumption); (case kp => trivial); (case kd => ktr_room); (case ku => ktr_units); intro t9 h9 tk9 F9 N9; (try dsimp only); (try k_fold)))
      | (with_reducible (k_here; (with_reducible show wpAny _ _ (call (Value.ref 191) [Value.int _ _, Value.int _ _, Value.int _ _]) _ _ _); k_dflt (refine' ClaimV.use (ymd_ok _ _ _ _ _ _ _ _ _ _ ?s0 ?s1 ?s2 ?s3 ?s4 ?s5) ?k1 ?k2 ?k3 ?k4 ?k5 ?kK ?kp ?kd ?ku ?_); (case s0 => lia); (case s1 => lia); (case s2 => lia); (case s3 => lia); (case s4 => lia); (case s5 => lia); (case k1 => k_asm); (case k2 => k_asm); (case k3 => k_asm); (case k4 => k_asm); (case k5 => k_asm); (case kK => first | exact rfl | assumption); (case kp => trivial); (case kd => ktr_room); (case ku => ktr_units); intro t9 h9 tk9 F9 N9; (try dsimp only); (try k_fold)))
      | (with_reducible (k_here; k_inBlock; (with_reducible rename Fr _ _ _ _ => kF); k_dflt (refine' nameG_B kF ?k1 ?k2 ?k3 ?k8 ?k9 ?_ ?k4 ?kb ?k5 ?k6 ?k7; (case k4 => rfl); (case kb => rfl); (case k5 => rfl); (case k6 => rfl); (case k7 => decide); (case k1 => k_asm); (case k2 => k_asm); (case k3 => k_is); (case k8 => boot_by_name); (case k9 => decide); k_whole)))
      | (with_reducible ((first | (with_reducible show wpAny _ _ (eval _ (Calls.envOf _ _ _ _ _)) _ _ _) | (with_reducible show wpAny _ _ (eval _ (Calls.envOfC _ _ _ _ _)) _ _ _)); refine Call_ ?_))
      | walk1
      | (k_here; (with_reducible show wpAny _ _ (call (Value.ref 208) [Value.int _ _, Value.int _ _]) _ _ _); k_dflt (refine' ClaimV.use (law_key_ok _ _ _ _ _ _ _ _ ?s0 ?s1) ?k1 ?k2 ?k3 ?k4 ?k5 ?kK ?kp ?kd ?ku ?_); (case s0 => lia); (case s1 => lia); (case k1 => k_asm); (case k2 => k_asm); (case k3 => k_asm); (case k4 => k_asm); (case k5 => k_asm); (case kK => first | exact rfl | assumption); (case kp => trivial); (case kd => ktr_room); (case ku => ktr_units); intro t9 h9 tk9 F9 N9; (try dsimp only); (try k_fold))
      | (k_here; (with_reducible show wpAny _ _ (call (Value.ref 222) [Value.int _ _]) _ _ _); k_dflt (refine' ClaimV.use (law_day_ok _ _ _ _ _ _) ?k1 ?k2 ?k3 ?k4 ?k5 ?kK ?kp ?kd ?ku ?_); (case k1 => k_asm); (case k2 => k_asm); (case k3 => k_asm); (case k4 => k_asm); (case k5 => k_asm); (case kK => first | exact rfl | assumption); (case kp => trivial); (case kd => ktr_room); (case ku => ktr_units); intro t9 h9 tk9 F9 N9; (try dsimp only); (try k_fold))
      | (k_here; (with_reducible show wpAny _ _ (call (Value.ref 184) [Value.int _ _, Value.int _ _]) _ _ _); k_dflt (refine' ClaimV.use (dbm_ok _ _ _ _ _ _ _ _ ?s0 ?s1) ?k1 ?k2 ?k3 ?k4 ?k5 ?kK ?kp ?kd ?ku ?_); (case s0 => lia); (case s1 => lia); (case k1 => k_asm); (case k2 => k_asm); (case k3 => k_asm); (case k4 => k_asm); (case k5 => k_asm); (case kK => first | exact rfl | assumption); (case kp => trivial); (case kd => ktr_room); (case ku => ktr_units); intro t9 h9 tk9 F9 N9; (try dsimp only); (try k_fold))
      | (k_here; (with_reducible show wpAny _ _ (call (Value.ref 177) [Value.int _ _, Value.int _ _]) _ _ _); k_dflt (refine' ClaimV.use (dim_ok _ _ _ _ _ _ _ _ ?s0 ?s1) ?k1 ?k2 ?k3 ?k4 ?k5 ?kK ?kp ?kd ?ku ?_); (case s0 => lia); (case s1 => lia); (case k1 => k_asm); (case k2 => k_asm); (case k3 => k_asm); (case k4 => k_asm); (case k5 => k_asm); (case kK => first | exact rfl | assumption); (case kp => trivial); (case kd => ktr_room); (case ku => ktr_units); intro t9 h9 tk9 F9 N9; (try dsimp only); (try k_fold))
      | (k_here; (with_reducible show wpAny _ _ (subscriptTail _ _ (Value.ref 151) (Value.int _ _)) _ _ _); (refine' glob_nums (ns := [-1, 0, 31, 59, 90, 120, 151, 181, 212, 243, 273, 304, 334]) ?k1 ?k2 ?k3 ?k4 ?k5 ?k6 ?_ ?k7); (case k1 => k_asm); (case k2 => kernel_rfl); (case k3 => k_asm); (case k4 => lia); (case k5 => ((try simp only [List.length_cons, List.length_nil]); lia)); (case k6 => decide); (case k7 => with_unfolding_all rfl); intro _)
      | (k_here; (with_reducible show wpAny _ _ (subscriptTail _ _ (Value.ref 150) (Value.int _ _)) _ _ _); (refine' glob_nums (ns := [-1, 31, 28, 31, 30, 31, 30, 31, 31, 30, 31, 30, 31]) ?k1 ?k2 ?k3 ?k4 ?k5 ?k6 ?_ ?k7); (case k1 => k_asm); (case k2 => kernel_rfl); (case k3 => k_asm); (case k4 => lia); (case k5 => ((try simp only [List.length_cons, List.length_nil]); lia)); (case k6 => decide); (case k7 => with_unfolding_all rfl); intro _)
      | (k_here; (with_reducible show wpAny _ _ (call (Value.ref 170) [Value.int _ _]) _ _ _); k_dflt (refine' ClaimV.use (dby_ok _ _ _ _ _ _ ?s0 ?s1) ?k1 ?k2 ?k3 ?k4 ?k5 ?kK ?kp ?kd ?ku ?_); (case s0 => lia); (case s1 => lia); (case k1 => k_asm); (case k2 => k_asm); (case k3 => k_asm); (case k4 => k_asm); (case k5 => k_asm); (case kK => first | exact rfl | assumption); (case kp => trivial); (case kd => ktr_room); (case ku => ktr_units); intro t9 h9 tk9 F9 N9; (try dsimp only); (try k_fold))
      | (k_here; (with_reducible show wpAny _ _ (call (Value.ref 163) [Value.int _ _]) _ _ _); k_dflt (refine' ClaimV.use (is_leap_ok _ _ _ _ _ _) ?k1 ?k2 ?k3 ?k4 ?k5 ?kK ?kp ?kd ?ku ?_); (case k1 => k_asm); (case k2 => k_asm); (case k3 => k_asm); (case k4 => k_asm); (case k5 => k_asm); (case kK => first | exact rfl | assumption); (case kp => trivial); (case kd => ktr_room); (case ku => ktr_units); intro t9 h9 tk9 F9 N9; (try dsimp only); (try k_fold))
      | (k_here; (with_reducible show wpAny _ _ (call (Value.ref 191) [Value.int _ _, Value.int _ _, Value.int _ _]) _ _ _); k_dflt (refine' ClaimV.use (ymd_ok _ _ _ _ _ _ _ _ _ _ ?s0 ?s1 ?s2 ?s3 ?s4 ?s5) ?k1 ?k2 ?k3 ?k4 ?k5 ?kK ?kp ?kd ?ku ?_); (case s0 => lia); (case s1 => lia); (case s2 => lia); (case s3 => lia); (case s4 => lia); (case s5 => lia); (case k1 => k_asm); (case k2 => k_asm); (case k3 => k_asm); (case k4 => k_asm); (case k5 => k_asm); (case kK => first | exact rfl | assumption); (case kp => trivial); (case kd => ktr_room); (case ku => ktr_units); intro t9 h9 tk9 F9 N9; (try dsimp only); (try k_fold))
      | (k_here; k_inBlock; (with_reducible rename Fr _ _ _ _ => kF); k_dflt (refine' nameG_B kF ?k1 ?k2 ?k3 ?k8 ?k9 ?_ ?k4 ?kb ?k5 ?k6 ?k7; (case k4 => rfl); (case kb => rfl); (case k5 => rfl); (case k6 => rfl); (case k7 => decide); (case k1 => k_asm); (case k2 => k_asm); (case k3 => k_is); (case k8 => boot_by_name); (case k9 => decide); k_whole))
      | ((first | (with_reducible show wpAny _ _ (eval _ (Calls.envOf _ _ _ _ _)) _ _ _) | (with_reducible show wpAny _ _ (eval _ (Calls.envOfC _ _ _ _ _)) _ _ _)); refine Call_ ?_)
      | (dsimp only; walk1)
      | (leave1; walk_say "STEP leave1"; (try dsimp only)))
  all_goals (refine cb_retI hret ?e1 ?e2 ?e3; (case e2 => k_asm); (case e3 => first | k_asm | (refine' cb_drop ?cbN ?cbS; (case cbN => assumption); (case cbS => first | (intro p hp; (repeat (first | with_reducible exact hp | with_reducible refine List.mem_cons_of_mem _ ?_)); done) | kcj_all))); (case e1 => first | (simp_all [lawLast]; done) | (simp_all [lawLast]; lia)))
theorem law_plain_ok (w : World) (mean : ExcName → Option Value) (mg mb : Str → Option Value) (x : Addr) (vs : List Value) (ns : List Int) (n : Nat) (hi : IntsAre vs ns) (hn : ns.length ≤ 100) :
    ClaimV w mean mg mb 234 12 (fun news => (x, ({ cls := .type "tuple", data := .seq vs.toArray n } : Obj)) ∈ news) [.ref x] (fun t => .bool true) := by
  unfold ClaimV
  k_fill
  intro news dp un gd cn cs a ccd cl outer A₀ base h₀ L m1 s Q E k1 k2 k3 k4 k5 kK kp kd ku hret
  have k4' : News h₀ L s.heap ((x, ({ cls := .type "tuple", data := .seq vs.toArray n } : Obj)) :: news) := fun p hp => k4 p ((List.mem_cons.mp hp).elim (fun e => e ▸ kp) id)
  refine wpAny_call ?_
  k_dflt cell_enter
  repeat' (first
      | (k_unfold; (try dsimp only))
      | (k_end; kc_close)
      | (with_reducible (k_here; (with_reducible show wpAny _ _ (pyIter (Value.ref _)) (CompPost _ _ _ _ _ _ _ _ _) _ _); k_dflt (refine' comp_nothing ?c1 ?c2 ?c3 ?c4 ?c5 ?c6 ?_ ?_); (case c1 => with_unfolding_all rfl); (case c5 => k_asm); (case c6 => k_asm); (case c3 => k_dflt assumption); (case c2 => k_dflt (exact News.isTup (by assumption) (.head _))); (case c4 => k_dflt assumption)))
      | (with_reducible (k_here; (with_reducible show wpAny _ _ (call (Value.ref 208) [Value.int _ _, Value.int _ _]) _ _ _); k_dflt (refine' ClaimV.use (law_key_ok _ _ _ _ _ _ _ _ ?s0 ?s1) ?k1 ?k2 ?k3 ?k4 ?k5 ?kK ?kp ?kd ?ku ?_); (case s0 => omega); (case s1 => omega); (case k1 => k_asm); (case k2 => k_asm); (case k3 => k_asm); (case k4 => k_asm); (case k5 => k_asm); (case kK => first | exact rfl | assumption); (case kp => trivial); (case kd => ktr_room); (case ku => ktr_units); intro t9 h9 tk9 F9 N9; (try dsimp only); (try k_fold)))
      | (with_reducible (k_here; (with_reducible show wpAny _ _ (call (Value.ref 222) [Value.int _ _]) _ _ _); k_dflt (refine' ClaimV.use (law_day_ok _ _ _ _ _ _) ?k1 ?k2 ?k3 ?k4 ?k5 ?kK ?kp ?kd ?ku ?_); (case k1 => k_asm); (case k2 => k_asm); (case k3 => k_asm); (case k4 => k_asm); (case k5 => k_asm); (case kK => first | exact rfl | assumption); (case kp => trivial); (case kd => ktr_room); (case ku => ktr_units); intro t9 h9 tk9 F9 N9; (try dsimp only); (try k_fold)))
      | (with_reducible (k_here; (with_reducible show wpAny _ _ (call (Value.ref 184) [Value.int _ _, Value.int _ _]) _ _ _); k_dflt (refine' ClaimV.use (dbm_ok _ _ _ _ _ _ _ _ ?s0 ?s1) ?k1 ?k2 ?k3 ?k4 ?k5 ?kK ?kp ?kd ?ku ?_); (case s0 => omega); (case s1 => omega); (case k1 => k_asm); (case k2 => k_asm); (case k3 => k_asm); (case k4 => k_asm); (case k5 => k_asm); (case kK => first | exact rfl | assumption); (case kp => trivial); (case kd => ktr_room); (case ku => ktr_units); intro t9 h9 tk9 F9 N9; (try dsimp only); (try k_fold)))
      | (with_reducible (k_here; (with_reducible show wpAny _ _ (call (Value.ref 177) [Value.int _ _, Value.int _ _]) _ _ _); k_dflt (refine' ClaimV.use (dim_ok _ _ _ _ _ _ _ _ ?s0 ?s1) ?k1 ?k2 ?k3 ?k4 ?k5 ?kK ?kp ?kd ?ku ?_); (case s0 => omega); (case s1 => omega); (case k1 => k_asm); (case k2 => k_asm); (case k3 => k_asm); (case k4 => k_asm); (case k5 => k_asm); (case kK => first | exact rfl | assumption); (case kp => trivial); (case kd => ktr_room); (case ku => ktr_units); intro t9 h9 tk9 F9 N9; (try dsimp only); (try k_fold)))
      | (with_reducible (k_here; (with_reducible show wpAny _ _ (subscriptTail _ _ (Value.ref 151) (Value.int _ _)) _ _ _); (refine' glob_nums (ns := [-1, 0, 31, 59, 90, 120, 151, 181, 212, 243, 273, 304, 334]) ?k1 ?k2 ?k3 ?k4 ?k5 ?k6 ?_ ?k7); (case k1 => k_asm); (case k2 => kernel_rfl); (case k3 => k_asm); (case k4 => omega); (case k5 => ((try simp only [List.length_cons, List.length_nil]); omega)); (case k6 => decide); (case k7 => with_unfolding_all rfl); intro _))
      | (with_reducible (k_here; (with_reducible show wpAny _ _ (subscriptTail _ _ (Value.ref 150) (Value.int _ _)) _ _ _); (refine' glob_nums (ns := [-1, 31, 28, 31, 30, 31, 30, 31, 31, 30, 31, 30, 31]) ?k1 ?k2 ?k3 ?k4 ?k5 ?k6 ?_ ?k7); (case k1 => k_asm); (case k2 => kernel_rfl); (case k3 => k_asm); (case k4 => omega); (case k5 => ((try simp only [List.length_cons, List.length_nil]); omega)); (case k6 => decide); (case k7 => with_unfolding_all rfl); intro _))
      | (with_reducible (k_here; (with_reducible show wpAny _ _ (call (Value.ref 170) [Value.int _ _]) _ _ _); k_dflt (refine' ClaimV.use (dby_ok _ _ _ _ _ _ ?s0 ?s1) ?k1 ?k2 ?k3 ?k4 ?k5 ?kK ?kp ?kd ?ku ?_); (case s0 => omega); (case s1 => omega); (case k1 => k_asm); (case k2 => k_asm); (case k3 => k_asm); (case k4 => k_asm); (case k5 => k_asm); (case kK => first | exact rfl | assumption); (case kp => trivial); (case kd => ktr_room); (case ku => ktr_units); intro t9 h9 tk9 F9 N9; (try dsimp only); (try k_fold)))
      | (with_reducible (k_here; (with_reducible show wpAny _ _ (call (Value.ref 163) [Value.int _ _]) _ _ _); k_dflt (refine' ClaimV.use (is_leap_ok _ _ _ _ _ _) ?k1 ?k2 ?k3 ?k4 ?k5 ?kK ?kp ?kd ?ku ?_); (case k1 => k_asm); (case k2 => k_asm); (case k3 => k_asm); (case k4 => k_asm); (case k5 => k_asm); (case kK => first | exact rfl | assumption); (case kp => trivial); (case kd => ktr_room); (case ku => ktr_units); intro t9 h9 tk9 F9 N9; (try dsimp only); (try k_fold)))
      | (with_reducible (k_here; (with_reducible show wpAny _ _ (call (Value.ref 191) [Value.int _ _, Value.int _ _, Value.int _ _]) _ _ _); k_dflt (refine' ClaimV.use (ymd_ok _ _ _ _ _ _ _ _ _ _ ?s0 ?s1 ?s2 ?s3 ?s4 ?s5) ?k1 ?k2 ?k3 ?k4 ?k5 ?kK ?kp ?kd ?ku ?_); (case s0 => omega); (case s1 => omega); (case s2 => omega); (case s3 => omega); (case s4 => omega); (case s5 => omega); (case k1 => k_asm); (case k2 => k_asm); (case k3 => k_asm); (case k4 => k_asm); (case k5 => k_asm); (case kK => first | exact rfl | assumption); (case kp => trivial); (case kd => ktr_room); (case ku => ktr_units); intro t9 h9 tk9 F9 N9; (try dsimp only); (try k_fold)))
      | (with_reducible (k_here; k_inBlock; (with_reducible rename Fr _ _ _ _ => kF); k_dflt (refine' nameG_B kF ?k1 ?k2 ?k3 ?k8 ?k9 ?_ ?k4 ?kb ?k5 ?k6 ?k7; (case k4 => rfl); (case kb => rfl); (case k5 => rfl); (case k6 => rfl); (case k7 => decide); (case k1 => k_asm); (case k2 => k_asm); (case k3 => k_is); (case k8 => boot_by_name); (case k9 => decide); k_whole)))
      | (with_reducible ((first | (with_reducible show wpAny _ _ (eval _ (Calls.envOf _ _ _ _ _)) _ _ _) | (with_reducible show wpAny _ _ (eval _ (Calls.envOfC _ _ _ _ _)) _ _ _)); refine Call_ ?_))
      | walk1
      | (k_here; (with_reducible show wpAny _ _ (pyIter (Value.ref _)) (CompPost _ _ _ _ _ _ _ _ _) _ _); k_dflt (refine' comp_nothing ?c1 ?c2 ?c3 ?c4 ?c5 ?c6 ?_ ?_); (case c1 => with_unfolding_all rfl); (case c5 => k_asm); (case c6 => k_asm); (case c3 => k_dflt assumption); (case c2 => k_dflt (exact News.isTup (by assumption) (.head _))); (case c4 => k_dflt assumption))
      | (k_here; (with_reducible show wpAny _ _ (call (Value.ref 208) [Value.int _ _, Value.int _ _]) _ _ _); k_dflt (refine' ClaimV.use (law_key_ok _ _ _ _ _ _ _ _ ?s0 ?s1) ?k1 ?k2 ?k3 ?k4 ?k5 ?kK ?kp ?kd ?ku ?_); (case s0 => omega); (case s1 => omega); (case k1 => k_asm); (case k2 => k_asm); (case k3 => k_asm); (case k4 => k_asm); (case k5 => k_asm); (case kK => first | exact rfl | assumption); (case kp => trivial); (case kd => ktr_room); (case ku => ktr_units); intro t9 h9 tk9 F9 N9; (try dsimp only); (try k_fold))
      | (k_here; (with_reducible show wpAny _ _ (call (Value.ref 222) [Value.int _ _]) _ _ _); k_dflt (refine' ClaimV.use (law_day_ok _ _ _ _ _ _) ?k1 ?k2 ?k3 ?k4 ?k5 ?kK ?kp ?kd ?ku ?_); (case k1 => k_asm); (case k2 => k_asm); (case k3 => k_asm); (case k4 => k_asm); (case k5 => k_asm); (case kK => first | exact rfl | assumption); (case kp => trivial); (case kd => ktr_room); (case ku => ktr_units); intro t9 h9 tk9 F9 N9; (try dsimp only); (try k_fold))
      | (k_here; (with_reducible show wpAny _ _ (call (Value.ref 184) [Value.int _ _, Value.int _ _]) _ _ _); k_dflt (refine' ClaimV.use (dbm_ok _ _ _ _ _ _ _ _ ?s0 ?s1) ?k1 ?k2 ?k3 ?k4 ?k5 ?kK ?kp ?kd ?ku ?_); (case s0 => omega); (case s1 => omega); (case k1 => k_asm); (case k2 => k_asm); (case k3 => k_asm); (case k4 => k_asm); (case k5 => k_asm); (case kK => first | exact rfl | assumption); (case kp => trivial); (case kd => ktr_room); (case ku => ktr_units); intro t9 h9 tk9 F9 N9; (try dsimp only); (try k_fold))
      | (k_here; (with_reducible show wpAny _ _ (call (Value.ref 177) [Value.int _ _, Value.int _ _]) _ _ _); k_dflt (refine' ClaimV.use (dim_ok _ _ _ _ _ _ _ _ ?s0 ?s1) ?k1 ?k2 ?k3 ?k4 ?k5 ?kK ?kp ?kd ?ku ?_); (case s0 => omega); (case s1 => omega); (case k1 => k_asm); (case k2 => k_asm); (case k3 => k_asm); (case k4 => k_asm); (case k5 => k_asm); (case kK => first | exact rfl | assumption); (case kp => trivial); (case kd => ktr_room); (case ku => ktr_units); intro t9 h9 tk9 F9 N9; (try dsimp only); (try k_fold))
      | (k_here; (with_reducible show wpAny _ _ (subscriptTail _ _ (Value.ref 151) (Value.int _ _)) _ _ _); (refine' glob_nums (ns := [-1, 0, 31, 59, 90, 120, 151, 181, 212, 243, 273, 304, 334]) ?k1 ?k2 ?k3 ?k4 ?k5 ?k6 ?_ ?k7); (case k1 => k_asm); (case k2 => kernel_rfl); (case k3 => k_asm); (case k4 => omega); (case k5 => ((try simp only [List.length_cons, List.length_nil]); omega)); (case k6 => decide); (case k7 => with_unfolding_all rfl); intro _)
      | (k_here; (with_reducible show wpAny _ _ (subscriptTail _ _ (Value.ref 150) (Value.int _ _)) _ _ _); (refine' glob_nums (ns := [-1, 31, 28, 31, 30, 31, 30, 31, 31, 30, 31, 30, 31]) ?k1 ?k2 ?k3 ?k4 ?k5 ?k6 ?_ ?k7); (case k1 => k_asm); (case k2 => kernel_rfl); (case k3 => k_asm); (case k4 => omega); (case k5 => ((try simp only [List.length_cons, List.length_nil]); omega)); (case k6 => decide); (case k7 => with_unfolding_all rfl); intro _)
      | (k_here; (with_reducible show wpAny _ _ (call (Value.ref 170) [Value.int _ _]) _ _ _); k_dflt (refine' ClaimV.use (dby_ok _ _ _ _ _ _ ?s0 ?s1) ?k1 ?k2 ?k3 ?k4 ?k5 ?kK ?kp ?kd ?ku ?_); (case s0 => omega); (case s1 => omega); (case k1 => k_asm); (case k2 => k_asm); (case k3 => k_asm); (case k4 => k_asm); (case k5 => k_asm); (case kK => first | exact rfl | assumption); (case kp => trivial); (case kd => ktr_room); (case ku => ktr_units); intro t9 h9 tk9 F9 N9; (try dsimp only); (try k_fold))
      | (k_here; (with_reducible show wpAny _ _ (call (Value.ref 163) [Value.int _ _]) _ _ _); k_dflt (refine' ClaimV.use (is_leap_ok _ _ _ _ _ _) ?k1 ?k2 ?k3 ?k4 ?k5 ?kK ?kp ?kd ?ku ?_); (case k1 => k_asm); (case k2 => k_asm); (case k3 => k_asm); (case k4 => k_asm); (case k5 => k_asm); (case kK => first | exact rfl | assumption); (case kp => trivial); (case kd => ktr_room); (case ku => ktr_units); intro t9 h9 tk9 F9 N9; (try dsimp only); (try k_fold))
      | (k_here; (with_reducible show wpAny _ _ (call (Value.ref 191) [Value.int _ _, Value.int _ _, Value.int _ _]) _ _ _); k_dflt (refine' ClaimV.use (ymd_ok _ _ _ _ _ _ _ _ _ _ ?s0 ?s1 ?s2 ?s3 ?s4 ?s5) ?k1 ?k2 ?k3 ?k4 ?k5 ?kK ?kp ?kd ?ku ?_); (case s0 => omega); (case s1 => omega); (case s2 => omega); (case s3 => omega); (case s4 => omega); (case s5 => omega); (case k1 => k_asm); (case k2 => k_asm); (case k3 => k_asm); (case k4 => k_asm); (case k5 => k_asm); (case kK => first | exact rfl | assumption); (case kp => trivial); (case kd => ktr_room); (case ku => ktr_units); intro t9 h9 tk9 F9 N9; (try dsimp only); (try k_fold))
      | (k_here; k_inBlock; (with_reducible rename Fr _ _ _ _ => kF); k_dflt (refine' nameG_B kF ?k1 ?k2 ?k3 ?k8 ?k9 ?_ ?k4 ?kb ?k5 ?k6 ?k7; (case k4 => rfl); (case kb => rfl); (case k5 => rfl); (case k6 => rfl); (case k7 => decide); (case k1 => k_asm); (case k2 => k_asm); (case k3 => k_is); (case k8 => boot_by_name); (case k9 => decide); k_whole))
      | ((first | (with_reducible show wpAny _ _ (eval _ (Calls.envOf _ _ _ _ _)) _ _ _) | (with_reducible show wpAny _ _ (eval _ (Calls.envOfC _ _ _ _ _)) _ _ _)); refine Call_ ?_)
      | (dsimp only; walk1)
      | (leave1; walk_say "STEP leave1"; (try dsimp only)))
  all_goals (first | exact ⟨_, _, rfl, fun b o e => e⟩ | skip)
  all_goals (refine cb_retB hret ?e1 ?e2 ?e3; (case e2 => k_asm); (case e3 => first | k_asm | (refine' cb_drop ?cbN ?cbS; (case cbN => assumption); (case cbS => first | (intro p hp; (repeat (first | with_reducible exact hp | with_reducible refine List.mem_cons_of_mem _ ?_)); done) | kcj_all))); (case e1 => rfl))
end D2s
noncomputable section D3s
def lawFits (y m d : Int) (x : Str) : Bool := decide (1 ≤ m ∧ m ≤ 12 ∧ 1 ≤ d ∧ d ≤ dim y m) && (lawDay (ymdOrd y m d) == x)
theorem fits_ok (w : World) (mean : ExcName → Option Value) (mg mb : Str → Option Value) (y m d : Int) (t u v r : Tok) (x : Str) (hy1 : 1 ≤ y) (hy2 : y ≤ 100000) :
    ClaimT w mean mg mb 229 6 [.int y t, .int m u, .int d v, .str x r] (fun t => .bool (lawFits y m d x)) := by
  unfold ClaimT
  k_fill
  intros; rename_i hret
  have hdm : 1 ≤ m → m ≤ 12 → 28 ≤ dim y m ∧ dim y m ≤ 31 := fun h1 h2 => dim_le h1 h2
  refine wpAny_call ?_
  k_dflt (refine' code_tryX ?k1 ?k2 ?k3 ?k4 ?k5 ?kA ?kF ?kK ?k6 ?k7 ?k8 ?k9 ?kB ?_ ?c2 ?c3 ?c4 ?c5; (case kA => exact rfl); (case kF => exact rfl); (case kK => assumption); (case k1 => k_asm); (case k2 => k_asm); (case k3 => k_asm); (case k4 => k_asm); (case k5 => k_asm); (case k6 => k_is); (case k7 => k_is); (case k8 => ktr_room); (case k9 => exact BindsTo.of_eq rfl); (case c5 => decide); (case kB => exact locs rfl); (case c2 => exact rfl); (case c3 => exact rfl); (case c4 => exact rfl); k_whole; intro g' L' h' FG' F' N' B' X' T' D'; (try dsimp only); (try k_fold))
  repeat' (first
      | (k_unfold; (try dsimp only))
      | (k_end; kc_close)
      | (with_reducible (k_here; (with_reducible show wpAny _ _ (call (Value.ref 191) _) _ _ _); (refine wpAny_call ?_); k_dflt (refine' code_def ?k1 ?k2 ?k3 ?k4 ?k5 ?kA ?kF ?kK ?k6 ?k7 ?k8 ?k9 ?kB ?_ ?c2 ?c3 ?c4 ?c5; (case kA => exact rfl); (case kF => exact rfl); (case kK => first | exact rfl | assumption); (case k1 => k_asm); (case k2 => k_asm); (case k3 => k_asm); (case k4 => k_asm); (case k5 => k_asm); (case k6 => k_is); (case k7 => k_is); (case k8 => ktr_room); (case k9 => first | exact BindsTo.of_eq rfl | exact binds_K (by k_in) rfl (by k_is) rfl rfl rfl); (case c5 => decide); (case kB => exact locs rfl); (case c2 => exact rfl); (case c3 => exact rfl); (case c4 => exact rfl); k_whole; intro g' L' h' FG' F' N' B' X' T'; (try dsimp only); (try k_fold))))
      | (with_reducible (k_here; (with_reducible show wpAny _ _ (call (Value.ref 215) [Value.int _ _, Value.int _ _]) _ _ _); k_dflt (refine' ClaimV.use (law_last_ok _ _ _ _ _ _ _ _ ?s0 ?s1) ?k1 ?k2 ?k3 ?k4 ?k5 ?kK ?kp ?kd ?ku ?_); (case s0 => omega); (case s1 => omega); (case k1 => k_asm); (case k2 => k_asm); (case k3 => k_asm); (case k4 => k_asm); (case k5 => k_asm); (case kK => first | exact rfl | assumption); (case kp => trivial); (case kd => ktr_room); (case ku => ktr_units); intro t9 h9 tk9 F9 N9; (try dsimp only); (try k_fold)))
      | (with_reducible (k_here; (with_reducible show wpAny _ _ (call (Value.ref 208) [Value.int _ _, Value.int _ _]) _ _ _); k_dflt (refine' ClaimV.use (law_key_ok _ _ _ _ _ _ _ _ ?s0 ?s1) ?k1 ?k2 ?k3 ?k4 ?k5 ?kK ?kp ?kd ?ku ?_); (case s0 => omega); (case s1 => omega); (case k1 => k_asm); (case k2 => k_asm); (case k3 => k_asm); (case k4 => k_asm); (case k5 => k_asm); (case kK => first | exact rfl | assumption); (case kp => trivial); (case kd => ktr_room); (case ku => ktr_units); intro t9 h9 tk9 F9 N9; (try dsimp only); (try k_fold)))
      | (with_reducible (k_here; (with_reducible show wpAny _ _ (call (Value.ref 222) [Value.int _ _]) _ _ _); k_dflt (refine' ClaimV.use (law_day_ok _ _ _ _ _ _) ?k1 ?k2 ?k3 ?k4 ?k5 ?kK ?kp ?kd ?ku ?_); (case k1 => k_asm); (case k2 => k_asm); (case k3 => k_asm); (case k4 => k_asm); (case k5 => k_asm); (case kK => first | exact rfl | assumption); (case kp => trivial); (case kd => ktr_room); (case ku => ktr_units); intro t9 h9 tk9 F9 N9; (try dsimp only); (try k_fold)))
      | (with_reducible (k_here; (with_reducible show wpAny _ _ (call (Value.ref 184) [Value.int _ _, Value.int _ _]) _ _ _); k_dflt (refine' ClaimV.use (dbm_ok _ _ _ _ _ _ _ _ ?s0 ?s1) ?k1 ?k2 ?k3 ?k4 ?k5 ?kK ?kp ?kd ?ku ?_); (case s0 => omega); (case s1 => omega); (case k1 => k_asm); (case k2 => k_asm); (case k3 => k_asm); (case k4 => k_asm); (case k5 => k_asm); (case kK => first | exact rfl | assumption); (case kp => trivial); (case kd => ktr_room); (case ku => ktr_units); intro t9 h9 tk9 F9 N9; (try dsimp only); (try k_fold)))
      | (with_reducible (k_here; (with_reducible show wpAny _ _ (call (Value.ref 177) [Value.int _ _, Value.int _ _]) _ _ _); k_dflt (refine' ClaimV.use (dim_ok _ _ _ _ _ _ _ _ ?s0 ?s1) ?k1 ?k2 ?k3 ?k4 ?k5 ?kK ?kp ?kd ?ku ?_); (case s0 => omega); (case s1 => omega); (case k1 => k_asm); (case k2 => k_asm); (case k3 => k_asm); (case k4 => k_asm); (case k5 => k_asm); (case kK => first | exact rfl | assumption); (case kp => trivial); (case kd => ktr_room); (case ku => ktr_units); intro t9 h9 tk9 F9 N9; (try dsimp only); (try k_fold)))
      | (with_reducible (k_here; (with_reducible show wpAny _ _ (subscriptTail _ _ (Value.ref 151) (Value.int _ _)) _ _ _); (refine' glob_nums (ns := [-1, 0, 31, 59, 90, 120, 151, 181, 212, 243, 273, 304, 334]) ?k1 ?k2 ?k3 ?k4 ?k5 ?k6 ?_ ?k7); (case k1 => k_asm); (case k2 => kernel_rfl); (case k3 => k_asm); (case k4 => omega); (case k5 => ((try simp only [List.length_cons, List.length_nil]); omega)); (case k6 => decide); (case k7 => with_unfolding_all rfl); intro _))
      | (with_reducible (k_here; (with_reducible show wpAny _ _ (subscriptTail _ _ (Value.ref 150) (Value.int _ _)) _ _ _); (refine' glob_nums (ns := [-1, 31, 28, 31, 30, 31, 30, 31, 31, 30, 31, 30, 31]) ?k1 ?k2 ?k3 ?k4 ?k5 ?k6 ?_ ?k7); (case k1 => k_asm); (case k2 => kernel_rfl); (case k3 => k_asm); (case k4 => omega); (case k5 => ((try simp only [List.length_cons, List.length_nil]); omega)); (case k6 => decide); (case k7 => with_unfolding_all rfl); intro _))
      | (with_reducible (k_here; (with_reducible show wpAny _ _ (call (Value.ref 170) [Value.int _ _]) _ _ _); k_dflt (refine' ClaimV.use (dby_ok _ _ _ _ _ _ ?s0 ?s1) ?k1 ?k2 ?k3 ?k4 ?k5 ?kK ?kp ?kd ?ku ?_); (case s0 => omega); (case s1 => omega); (case k1 => k_asm); (case k2 => k_asm); (case k3 => k_asm); (case k4 => k_asm); (case k5 => k_asm); (case kK => first | exact rfl | assumption); (case kp => trivial); (case kd => ktr_room); (case ku => ktr_units); intro t9 h9 tk9 F9 N9; (try dsimp only); (try k_fold)))
      | (with_reducible (k_here; (with_reducible show wpAny _ _ (call (Value.ref 163) [Value.int _ _]) _ _ _); k_dflt (refine' ClaimV.use (is_leap_ok _ _ _ _ _ _) ?k1 ?k2 ?k3 ?k4 ?k5 ?kK ?kp ?kd ?ku ?_); (case k1 => k_asm); (case k2 => k_asm); (case k3 => k_asm); (case k4 => k_asm); (case k5 => k_asm); (case kK => first | exact rfl | assumption); (case kp => trivial); (case kd => ktr_room); (case ku => ktr_units); intro t9 h9 tk9 F9 N9; (try dsimp only); (try k_fold)))
      | (with_reducible (k_here; (with_reducible show wpAny _ _ (call (Value.ref 191) [Value.int _ _, Value.int _ _, Value.int _ _]) _ _ _); k_dflt (refine' ClaimV.use (ymd_ok _ _ _ _ _ _ _ _ _ _ ?s0 ?s1 ?s2 ?s3 ?s4 ?s5) ?k1 ?k2 ?k3 ?k4 ?k5 ?kK ?kp ?kd ?ku ?_); (case s0 => omega); (case s1 => omega); (case s2 => omega); (case s3 => omega); (case s4 => omega); (case s5 => omega); (case k1 => k_asm); (case k2 => k_asm); (case k3 => k_asm); (case k4 => k_asm); (case k5 => k_asm); (case kK => first | exact rfl | assumption); (case kp => trivial); (case kd => ktr_room); (case ku => ktr_units); intro t9 h9 tk9 F9 N9; (try dsimp only); (try k_fold)))
      | (with_reducible (k_here; k_inBlock; (with_reducible rename Fr _ _ _ _ => kF); k_dflt (refine' nameG_B kF ?k1 ?k2 ?k3 ?k8 ?k9 ?_ ?k4 ?kb ?k5 ?k6 ?k7; (case k4 => rfl); (case kb => rfl); (case k5 => rfl); (case k6 => rfl); (case k7 => decide); (case k1 => k_asm); (case k2 => k_asm); (case k3 => k_is); (case k8 => boot_by_name); (case k9 => decide); k_whole)))
      | (with_reducible ((first | (with_reducible show wpAny _ _ (eval _ (Calls.envOf _ _ _ _ _)) _ _ _) | (with_reducible show wpAny _ _ (eval _ (Calls.envOfC _ _ _ _ _)) _ _ _)); refine Call_ ?_))
      | walk1
      | (k_here; (with_reducible show wpAny _ _ (call (Value.ref 191) _) _ _ _); (refine wpAny_call ?_); k_dflt (refine' code_def ?k1 ?k2 ?k3 ?k4 ?k5 ?kA ?kF ?kK ?k6 ?k7 ?k8 ?k9 ?kB ?_ ?c2 ?c3 ?c4 ?c5; (case kA => exact rfl); (case kF => exact rfl); (case kK => first | exact rfl | assumption); (case k1 => k_asm); (case k2 => k_asm); (case k3 => k_asm); (case k4 => k_asm); (case k5 => k_asm); (case k6 => k_is); (case k7 => k_is); (case k8 => ktr_room); (case k9 => first | exact BindsTo.of_eq rfl | exact binds_K (by k_in) rfl (by k_is) rfl rfl rfl); (case c5 => decide); (case kB => exact locs rfl); (case c2 => exact rfl); (case c3 => exact rfl); (case c4 => exact rfl); k_whole; intro g' L' h' FG' F' N' B' X' T'; (try dsimp only); (try k_fold)))
      | (k_here; (with_reducible show wpAny _ _ (call (Value.ref 215) [Value.int _ _, Value.int _ _]) _ _ _); k_dflt (refine' ClaimV.use (law_last_ok _ _ _ _ _ _ _ _ ?s0 ?s1) ?k1 ?k2 ?k3 ?k4 ?k5 ?kK ?kp ?kd ?ku ?_); (case s0 => omega); (case s1 => omega); (case k1 => k_asm); (case k2 => k_asm); (case k3 => k_asm); (case k4 => k_asm); (case k5 => k_asm); (case kK => first | exact rfl | assumption); (case kp => trivial); (case kd => ktr_room); (case ku => ktr_units); intro t9 h9 tk9 F9 N9; (try dsimp only); (try k_fold))
      | (k_here; (with_reducible show wpAny _ _ (call (Value.ref 208) [Value.int _ _, Value.int _ _]) _ _ _); k_dflt (refine' ClaimV.use (law_key_ok _ _ _ _ _ _ _ _ ?s0 ?s1) ?k1 ?k2 ?k3 ?k4 ?k5 ?kK ?kp ?kd ?ku ?_); (case s0 => omega); (case s1 => omega); (case k1 => k_asm); (case k2 => k_asm); (case k3 => k_asm); (case k4 => k_asm); (case k5 => k_asm); (case kK => first | exact rfl | assumption); (case kp => trivial); (case kd => ktr_room); (case ku => ktr_units); intro t9 h9 tk9 F9 N9; (try dsimp only); (try k_fold))
      | (k_here; (with_reducible show wpAny _ _ (call (Value.ref 222) [Value.int _ _]) _ _ _); k_dflt (refine' ClaimV.use (law_day_ok _ _ _ _ _ _) ?k1 ?k2 ?k3 ?k4 ?k5 ?kK ?kp ?kd ?ku ?_); (case k1 => k_asm); (case k2 => k_asm); (case k3 => k_asm); (case k4 => k_asm); (case k5 => k_asm); (case kK => first | exact rfl | assumption); (case kp => trivial); (case kd => ktr_room); (case ku => ktr_units); intro t9 h9 tk9 F9 N9; (try dsimp only); (try k_fold))
      | (k_here; (with_reducible show wpAny _ _ (call (Value.ref 184) [Value.int _ _, Value.int _ _]) _ _ _); k_dflt (refine' ClaimV.use (dbm_ok _ _ _ _ _ _ _ _ ?s0 ?s1) ?k1 ?k2 ?k3 ?k4 ?k5 ?kK ?kp ?kd ?ku ?_); (case s0 => omega); (case s1 => omega); (case k1 => k_asm); (case k2 => k_asm); (case k3 => k_asm); (case k4 => k_asm); (case k5 => k_asm); (case kK => first | exact rfl | assumption); (case kp => trivial); (case kd => ktr_room); (case ku => ktr_units); intro t9 h9 tk9 F9 N9; (try dsimp only); (try k_fold))
      | (k_here; (with_reducible show wpAny _ _ (call (Value.ref 177) [Value.int _ _, Value.int _ _]) _ _ _); k_dflt (refine' ClaimV.use (dim_ok _ _ _ _ _ _ _ _ ?s0 ?s1) ?k1 ?k2 ?k3 ?k4 ?k5 ?kK ?kp ?kd ?ku ?_); (case s0 => omega); (case s1 => omega); (case k1 => k_asm); (case k2 => k_asm); (case k3 => k_asm); (case k4 => k_asm); (case k5 => k_asm); (case kK => first | exact rfl | assumption); (case kp => trivial); (case kd => ktr_room); (case ku => ktr_units); intro t9 h9 tk9 F9 N9; (try dsimp only); (try k_fold))
      | (k_here; (with_reducible show wpAny _ _ (subscriptTail _ _ (Value.ref 151) (Value.int _ _)) _ _ _); (refine' glob_nums (ns := [-1, 0, 31, 59, 90, 120, 151, 181, 212, 243, 273, 304, 334]) ?k1 ?k2 ?k3 ?k4 ?k5 ?k6 ?_ ?k7); (case k1 => k_asm); (case k2 => kernel_rfl); (case k3 => k_asm); (case k4 => omega); (case k5 => ((try simp only [List.length_cons, List.length_nil]); omega)); (case k6 => decide); (case k7 => with_unfolding_all rfl); intro _)
      | (k_here; (with_reducible show wpAny _ _ (subscriptTail _ _ (Value.ref 150) (Value.int _ _)) _ _ _); (refine' glob_nums (ns := [-1, 31, 28, 31, 30, 31, 30, 31, 31, 30, 31, 30, 31]) ?k1 ?k2 ?k3 ?k4 ?k5 ?k6 ?_ ?k7); (case k1 => k_asm); (case k2 => kernel_rfl); (case k3 => k_asm); (case k4 => omega); (case k5 => ((try simp only [List.length_cons, List.length_nil]); omega)); (case k6 => decide); (case k7 => with_unfolding_all rfl); intro _)
      | (k_here; (with_reducible show wpAny _ _ (call (Value.ref 170) [Value.int _ _]) _ _ _); k_dflt (refine' ClaimV.use (dby_ok _ _ _ _ _ _ ?s0 ?s1) ?k1 ?k2 ?k3 ?k4 ?k5 ?kK ?kp ?kd ?ku ?_); (case s0 => omega); (case s1 => omega); (case k1 => k_asm); (case k2 => k_asm); (case k3 => k_asm); (case k4 => k_asm); (case k5 => k_asm); (case kK => first | exact rfl | assumption); (case kp => trivial); (case kd => ktr_room); (case ku => ktr_units); intro t9 h9 tk9 F9 N9; (try dsimp only); (try k_fold))
      | (k_here; (with_reducible show wpAny _ _ (call (Value.ref 163) [Value.int _ _]) _ _ _); k_dflt (refine' ClaimV.use (is_leap_ok _ _ _ _ _ _) ?k1 ?k2 ?k3 ?k4 ?k5 ?kK ?kp ?kd ?ku ?_); (case k1 => k_asm); (case k2 => k_asm); (case k3 => k_asm); (case k4 => k_asm); (case k5 => k_asm); (case kK => first | exact rfl | assumption); (case kp => trivial); (case kd => ktr_room); (case ku => ktr_units); intro t9 h9 tk9 F9 N9; (try dsimp only); (try k_fold))
      | (k_here; (with_reducible show wpAny _ _ (call (Value.ref 191) [Value.int _ _, Value.int _ _, Value.int _ _]) _ _ _); k_dflt (refine' ClaimV.use (ymd_ok _ _ _ _ _ _ _ _ _ _ ?s0 ?s1 ?s2 ?s3 ?s4 ?s5) ?k1 ?k2 ?k3 ?k4 ?k5 ?kK ?kp ?kd ?ku ?_); (case s0 => omega); (case s1 => omega); (case s2 => omega); (case s3 => omega); (case s4 => omega); (case s5 => omega); (case k1 => k_asm); (case k2 => k_asm); (case k3 => k_asm); (case k4 => k_asm); (case k5 => k_asm); (case kK => first | exact rfl | assumption); (case kp => trivial); (case kd => ktr_room); (case ku => ktr_units); intro t9 h9 tk9 F9 N9; (try dsimp only); (try k_fold))
      | (k_here; k_inBlock; (with_reducible rename Fr _ _ _ _ => kF); k_dflt (refine' nameG_B kF ?k1 ?k2 ?k3 ?k8 ?k9 ?_ ?k4 ?kb ?k5 ?k6 ?k7; (case k4 => rfl); (case kb => rfl); (case k5 => rfl); (case k6 => rfl); (case k7 => decide); (case k1 => k_asm); (case k2 => k_asm); (case k3 => k_is); (case k8 => boot_by_name); (case k9 => decide); k_whole))
      | ((first | (with_reducible show wpAny _ _ (eval _ (Calls.envOf _ _ _ _ _)) _ _ _) | (with_reducible show wpAny _ _ (eval _ (Calls.envOfC _ _ _ _ _)) _ _ _)); refine Call_ ?_)
      | (dsimp only; walk1)
      | (leave1; walk_say "STEP leave1"; (try dsimp only)))
  all_goals (refine cb_retB hret ?e1 ?e2 ?e3; (case e2 => k_asm); (case e3 => first | k_asm | (refine' cb_drop ?cbN ?cbS; (case cbN => assumption); (case cbS => first | (intro p hp; (repeat (first | with_reducible exact hp | with_reducible refine List.mem_cons_of_mem _ ?_)); done) | kcj_all))); (case e1 => first | (simp_all [lawFits, ymdOrd]; done) | (simp [lawFits, ymdOrd]; omega)))
end D3s
noncomputable section KLs
section
variable {prog : Program} {w : World} {A : Around} {E : Value → Shared → Prop} {s : Shared} {a b c : Int} {t u : Tok} {x y z : Str} {Q : Value → Shared → Prop}
theorem ne_str_same (h : Q (.bool false) s) : wpAny (model prog w) A (compareOp .NotEq (.str x t) (.str x u)) Q E s := ne_str (by
  first | (have e : (x != x) = false := by simp
           rw [e]; exact h) | (simpa using h))
end
/-- the moment n is written as T -/
def CivT (n : Int) (T : Str) : Prop := ∃ y mo da hh mi sec : Int, DZ.Civil n y mo da hh mi sec ∧ 1000 ≤ y ∧ FM.nsText y mo da hh mi sec = T
theorem t2n_use (w : World) (mean : ExcName → Option Value) (mg mb : Str → Option Value) (n : Int) (T : Str) (t : Tok) (h : CivT n T) : ClaimV w mean mg mb 91 12 (fun _ => True) [.int n t] (fun t => .str T t) := by
  obtain ⟨y, mo, da, hh, mi, sec, C, hy, rfl⟩ := h
  obtain ⟨g1, g2, g3, g4, g5, g6, g7, g8, g9, g10, g11, g12⟩ := C.good
  have hd : da ≤ 31 := by rw [dim_eq g3 g4] at g6; have := dim_le (y := y) g3 g4; lia
  exact t2n_ok w mean mg mb n y mo da hh mi sec 0 t C hy g2 g3 g4 g5 hd g7 g8 g9 g10 g11 g12 (by unfold Builtin._datetime.weekdayOf; lia) (by unfold Builtin._datetime.weekdayOf; lia)
/-- the text T is read as this date and clock -/
def ToldT (T : Str) (Y M D H Mi S : Int) : Prop := ∃ (Y0 : Int) (j : Nat), Parses T Y0 j D H Mi S ∧ fullYear Y0 = Y ∧ (j : Int) + 1 = M
theorem pd_use (w : World) (mean : ExcName → Option Value) (mg mb : Str → Option Value) (T : Str) (t : Tok) (Y M D H Mi S : Int) (h : ToldT T Y M D H Mi S) : ClaimO w mean mg mb 149 20 (fun _ => True) [.str T t] (tup9 Y M D H Mi S) := by
  obtain ⟨Y0, j, hp, rfl, rfl⟩ := h
  exact pd_ok w mean mg mb T t Y0 j D H Mi S hp
/-- _timegm's value of this date and clock -/
structure SecT (y m d h mi s V : Int) : Prop where
  y1 : 1970 ≤ y
  y2 : y ≤ 9999
  m1 : 1 ≤ m
  m2 : m ≤ 12
  d1 : 1 ≤ d
  d2 : d ≤ 31
  h1 : 0 ≤ h
  h2 : h ≤ 24
  i1 : 0 ≤ mi
  i2 : mi ≤ 59
  s1 : 0 ≤ s
  s2 : s ≤ 61
  e : secs y m d h mi s = V
theorem tg_use (w : World) (mean : ExcName → Option Value) (mg mb : Str → Option Value) (x : Addr) (items : Array Value) (hsz : 6 < items.size) (y m d h mi s : Int) (t1 t2 t3 t4 t5 t6 : Tok) (ez : ((List.range 6).filterMap fun (k : Nat) => items[((0 : Int) + (k : Int) * 1).toNat]?) = [.int y t1, .int m t2, .int d t3, .int h t4, .int mi t5, .int s t6]) (V : Int) (hv : SecT y m d h mi s V) : ClaimV w mean mg mb 76 16 (fun news => (x, ({ cls := .type "tuple", data := .seq items } : Obj)) ∈ news) [.ref x] (fun t => .int V t) := by
  obtain ⟨a1, a2, a3, a4, a5, a6, a7, a8, a9, a10, a11, a12, rfl⟩ := hv
  exact utimegm_ok w mean mg mb x items hsz y m d h mi s t1 t2 t3 t4 t5 t6 ez a1 a2 a3 a4 a5 a6 a7 a8 a9 a10 a11 a12
/-- the day's number -/
structure OrdT (y m d N : Int) : Prop where
  y1 : 1 ≤ y
  y2 : y ≤ 9999
  m1 : 1 ≤ m
  m2 : m ≤ 12
  d1 : 1 ≤ d
  d2 : d ≤ dim y m
  e : ymdOrd y m d = N
theorem ymd_use (w : World) (mean : ExcName → Option Value) (mg mb : Str → Option Value) (y m d N : Int) (t u v : Tok) (h : OrdT y m d N) : ClaimV w mean mg mb 191 4 (fun _ => True) [.int y t, .int m u, .int d v] (fun t => .int N t) := by
  obtain ⟨a1, a2, a3, a4, a5, a6, rfl⟩ := h
  exact ymd_ok w mean mg mb y m d t u v a1 (by lia) a3 a4 a5 a6
theorem o2y_use (w : World) (mean : ExcName → Option Value) (mg mb : Str → Option Value) (y m d N : Int) (t : Tok) (h : OrdT y m d N) : ClaimO w mean mg mb 201 4 (fun _ => True) [.int N t] (tup3 y m d) := by
  obtain ⟨a1, a2, a3, a4, a5, a6, rfl⟩ := h
  exact o2y_ok w mean mg mb y m d t a1 a2 a3 a4 a5 a6
section
variable {prog : Program} {w : World} {A : Around} {E : Value → Shared → Prop} {s : Shared} {h₀ : Heap} {L D : Addr} {m : Str → Option Value} {news : List (Addr × Obj)} {i j a b c : Int} {ui uj t u : Tok} {x y z : Str} {value slice : Expr} {Q : Value → Shared → Prop}
theorem short_fits (h : x.length ≤ 100) : x.length ≤ sizeLine := by rw [PySem.sizeLine_eq]; lia
theorem sl_ns (e : Txt.slice x none (some j) = y) (hl : x.length ≤ 100) (hF : Fr h₀ L s.heap m) (hN : News h₀ L s.heap news) (h : ∀ h' t' k, Fr h₀ L h' m → News h₀ L h' news → Q (.str y t') { s with heap := h', toks := k })
    (hs : subscripted slice false (.str x t) (.ref s.heap.objs.size) = operate [.ref s.heap.objs.size, .str x t] (getItem (.str x t) (.ref s.heap.objs.size))) (ht : ∀ r, letTemporaryGo value (.str x t) r = pure ()) :
    wpAny (model prog w) A (subscriptTail value slice (.str x t) (.ref s.heap.objs.size)) Q E { s with heap := s.heap.push { cls := .type "slice", data := .fields #[.none, .int j uj, .none] } } :=
  slice_strN_ns hF hN (fun h' t' k a b => by rw [e]; exact h h' t' k a b) hs ht (short_fits hl)
theorem sl_sn (e : Txt.slice x (some i) none = y) (hl : x.length ≤ 100) (hF : Fr h₀ L s.heap m) (hN : News h₀ L s.heap news) (h : ∀ h' t' k, Fr h₀ L h' m → News h₀ L h' news → Q (.str y t') { s with heap := h', toks := k })
    (hs : subscripted slice false (.str x t) (.ref s.heap.objs.size) = operate [.ref s.heap.objs.size, .str x t] (getItem (.str x t) (.ref s.heap.objs.size))) (ht : ∀ r, letTemporaryGo value (.str x t) r = pure ()) :
    wpAny (model prog w) A (subscriptTail value slice (.str x t) (.ref s.heap.objs.size)) Q E { s with heap := s.heap.push { cls := .type "slice", data := .fields #[.int i ui, .none, .none] } } :=
  slice_strN_sn hF hN (fun h' t' k a b => by rw [e]; exact h h' t' k a b) hs ht (short_fits hl)
theorem sl_ss (e : Txt.slice x (some i) (some j) = y) (hl : x.length ≤ 100) (hF : Fr h₀ L s.heap m) (hN : News h₀ L s.heap news) (h : ∀ h' t' k, Fr h₀ L h' m → News h₀ L h' news → Q (.str y t') { s with heap := h', toks := k })
    (hs : subscripted slice false (.str x t) (.ref s.heap.objs.size) = operate [.ref s.heap.objs.size, .str x t] (getItem (.str x t) (.ref s.heap.objs.size))) (ht : ∀ r, letTemporaryGo value (.str x t) r = pure ()) :
    wpAny (model prog w) A (subscriptTail value slice (.str x t) (.ref s.heap.objs.size)) Q E { s with heap := s.heap.push { cls := .type "slice", data := .fields #[.int i ui, .int j uj, .none] } } :=
  slice_strN_ss hF hN (fun h' t' k a b => by rw [e]; exact h h' t' k a b) hs ht (short_fits hl)
theorem cat_known (e : x ++ y = z) (hl : z.length ≤ 100) (h : ∀ t' k, Q (.str z t') { s with toks := k }) : wpAny (model prog w) A (binaryOp .Add (.str x t) (.str y u)) Q E s :=
  SBL.add (fun t' k _ => by rw [e]; exact h t' k) (by
    have := congrArg Str.length e
    rw [PySem.Str.length_append] at this
    rw [PySem.sizeLine_eq]; lia)
end
theorem fmtT {a b T : Str} {d y h mi sec : Int} {t u1 u2 u3 u4 u5 u6 u7 : Tok} {x : Addr} (eT : FM.stampText a b d y h mi sec = T) (ha : a.length ≤ 3) (hb : b.length ≤ 3) (d1 : 1 ≤ d) (d2 : d ≤ 31) (y1 : 1000 ≤ y) (y2 : y ≤ 9999) (h1 : 0 ≤ h) (h2 : h ≤ 23) (i1 : 0 ≤ mi) (i2 : mi ≤ 59) (s1 : 0 ≤ sec) (s2 : sec ≤ 59) :
    Meets (Builtin.«str.__mod__» ⟨[.str ⟨#[37,115,44,32,37,48,50,100,45,37,115,45,37,48,52,100,32,37,48,50,100,58,37,48,50,100,58,37,48,50,100,32,71,77,84]⟩ t, .ref x], []⟩) (fun _ R s => IsTup s.heap x #[.str a u1, .int d u2, .str b u3, .int y u4, .int h u5, .int mi u6, .int sec u7] ∧ ∀ t' k, R (.ok (.ret (.str T t'))) { s with toks := k }) :=
  eT ▸ FM.fmt7 ha hb (by lia) (by lia) y1 y2 h1 (by lia) i1 (by lia) s1 (by lia)
theorem law_day_use (w : World) (mean : ExcName → Option Value) (mg mb : Str → Option Value) (n : Int) (x : Str) (t : Tok) (h : lawDay n = x) : ClaimV w mean mg mb 222 1 (fun _ => True) [.int n t] (fun t => .str x t) := by
  rw [← h]
  exact law_day_ok w mean mg mb n t
def isIntV : Value → Bool
  | .int _ _ => true
  | _ => false
noncomputable def intsOf : List Value → List Int
  | .int n _ :: r => n :: intsOf r
  | _ => []
theorem ints_of : ∀ {vs : List Value}, vs.all isIntV = true → IntsAre vs (intsOf vs)
  | [], _ => .nil
  | .int n t :: r, h => .cons n t (ints_of (by simpa [isIntV] using h))
  | .none :: _, h => by cases h
  | .bool _ :: _, h => by cases h
  | .str _ _ :: _, h => by cases h
  | .ref _ :: _, h => by cases h
  | .type _ :: _, h => by cases h
  | .builtin _ :: _, h => by cases h
  | .float _ _ :: _, h => by cases h
  | .bytes _ _ :: _, h => by cases h
theorem plain_use (w : World) (mean : ExcName → Option Value) (mg mb : Str → Option Value) (x : Addr) (vs : List Value) (n : Nat) (h : vs.all isIntV = true) (hl : vs.length ≤ 100) :
    ClaimV w mean mg mb 234 12 (fun news => (x, ({ cls := .type "tuple", data := .seq vs.toArray n } : Obj)) ∈ news) [.ref x] (fun _ => .bool true) :=
  law_plain_ok w mean mg mb x vs (intsOf vs) n (ints_of h) (by rw [← (ints_of h).length]; exact hl)
theorem last_le {y m : Int} (h1 : 1 ≤ m) (h2 : m ≤ 12) : 28 ≤ lawLast y m ∧ lawLast y m ≤ 31 := by
  unfold lawLast
  split
  · unfold lawKey
    split <;> split <;> first | decide | lia | (simp_all; done)
  · split <;> decide
theorem last_hi {y m : Int} (h1 : 1 ≤ m) (h2 : m ≤ 12) : lawLast y m + 1 ≤ 1000 := by have := last_le (y := y) h1 h2; lia
theorem last_lo {y m : Int} (h1 : 1 ≤ m) (h2 : m ≤ 12) : 1 < lawLast y m + 1 := by have := last_le (y := y) h1 h2; lia
/-- the numbers and the texts of the law -/
structure LawF (tot mo N q0 q1 q2 y m d h mi s r c0 c c1 : Int) (T wd mon S12 S14 T2 : Str) : Prop where
  eMo : tot.fmod 253402300800 = mo
  eq0 : mo.fdiv 86400 = q0
  eN : 719163 + q0 = N
  eq1 : mo.fdiv 3600 = q1
  eh : q1.fmod 24 = h
  eq2 : mo.fdiv 60 = q2
  emi : q2.fmod 60 = mi
  es : mo.fmod 60 = s
  t2n : CivT mo T
  told : ToldT T y m d h mi s
  sec : SecT y m d h mi s mo
  ord : OrdT y m d N
  day : lawDay N = wd
  mn : FM.monthNames.getD (m - 1).toNat Str.empty = mon
  fmt : FM.stampText wd mon d y h mi s = T
  wdl : wd.length ≤ 3
  monl : mon.length ≤ 3
  lT : T.length ≤ 100
  s12 : Txt.slice T none (some 12) = S12
  s3 : Txt.slice T none (some 3) = wd
  s14 : Txt.slice T (some 14) none = S14
  cat2 : S12 ++ S14 = T2
  l2 : T2.length ≤ 100
  told2 : ToldT T2 (1969 + r) m d h mi s
  er : (y - 1969).fmod 100 = r
  ec0 : tot.fdiv 253402300800 = c0
  ec : c0.fmod 100 = c
  f1 : List.filter (fun a => lawFits a m d wd) [1969 + r + c * 100, 1969 + r + c * 100 + 100, 1969 + r + c * 100 + 200, 1969 + r + c * 100 + 300] = List.filter (fun a => (a - y).fmod 400 == 0) [1969 + r + c * 100, 1969 + r + c * 100 + 100, 1969 + r + c * 100 + 200, 1969 + r + c * 100 + 300]
  f2 : (rangeL 0 33).filter (fun a => lawFits y m a wd) = (rangeL 1 (lawLast y m + 1)).filter (fun a => (a - d).fmod 7 == 0)
  f3 : (rangeL 0 14).filter (fun a => lawFits y a d wd) = ((rangeL 1 13).filter (fun a => (lawKey y a - lawKey y m).fmod 7 == 0)).filter (fun a => decide (d ≤ lawLast y a))
end KLs
noncomputable section MFs
def wkTab : List Str := ["Sun", "Mon", "Tue", "Wed", "Thu", "Fri", "Sat"]
theorem mod7 (n : Int) : n % 7 = 0 ∨ n % 7 = 1 ∨ n % 7 = 2 ∨ n % 7 = 3 ∨ n % 7 = 4 ∨ n % 7 = 5 ∨ n % 7 = 6 := by lia
theorem lawDay_tab (n : Int) : lawDay n = wkTab.getD (n % 7).toNat Str.empty := by
  unfold lawDay
  rw [fm _ _ (by decide)]
  have h := mod7 n
  rcases h with h | h | h | h | h | h | h <;> rw [h] <;> decide +kernel
theorem lawDay_mod {a b : Int} (h : a % 7 = b % 7) : lawDay a = lawDay b := by rw [lawDay_tab, lawDay_tab, h]
theorem lawDay_inj {a b : Int} (h : lawDay a = lawDay b) : a % 7 = b % 7 := by
  rw [lawDay_tab, lawDay_tab] at h
  have key : ∀ i < 7, ∀ j < 7, wkTab.getD i Str.empty = wkTab.getD j Str.empty → i = j := by decide +kernel
  have := key (a % 7).toNat (by lia) (b % 7).toNat (by lia) h
  lia
theorem lawDay_beq (a b : Int) : (lawDay a == lawDay b) = decide (a % 7 = b % 7) := by
  rw [Bool.eq_iff_iff, beq_iff_eq, decide_eq_true_eq]
  exact ⟨lawDay_inj, lawDay_mod⟩
theorem lawLeap_eq (y : Int) : lawLeap y = isLeap y := by
  rw [Bool.eq_iff_iff, isLeap_iff]
  unfold lawLeap
  rw [fm _ _ (by decide), fm _ _ (by decide), fm _ _ (by decide)]
  simp
  omega
def lawKeyB (b : Bool) (m : Int) : Int := if b = true ∧ 2 < m then keyTab m + 1 else keyTab m
def lawLastB (b : Bool) (m : Int) : Int := if m = 2 then 28 + lawKeyB b 3 - lawKeyB b 2 else if m = 4 ∨ m = 6 ∨ m = 9 ∨ m = 11 then 30 else 31
theorem lawKey_mod {y a : Int} (h1 : 1 ≤ a) (h2 : a ≤ 12) : lawKey y a % 7 = dbm y a % 7 := by
  unfold lawKey dbm
  rw [lawLeap_eq]
  exact tab12 (Q := fun m => ∀ b : Bool, lawKeyB b m % 7 = dbmB b m % 7) (by decide) a h1 h2 (isLeap y)
theorem lawLast_dim {y m : Int} (h1 : 1 ≤ m) (h2 : m ≤ 12) : lawLast y m = dim y m := by
  unfold lawLast lawKey dim
  rw [lawLeap_eq]
  exact tab12 (Q := fun m => ∀ b : Bool, lawLastB b m = dimB b m) (by decide) m h1 h2 (isLeap y)
theorem rangeL_split {a b c : Int} (h1 : a ≤ b) (h2 : b ≤ c) : rangeL a c = rangeL a b ++ rangeL b c := by
  unfold rangeL
  have e : (c - a).toNat = (b - a).toNat + (c - b).toNat := by lia
  rw [e, List.range_add, List.map_append, List.map_map]
  congr 1
  apply List.map_congr_left
  intro i _
  show a + (((b - a).toNat + i : Nat) : Int) = b + (i : Int)
  lia
theorem filter_none {p : Int → Bool} {a b : Int} (h : ∀ x, a ≤ x → x < b → p x = false) : (rangeL a b).filter p = [] := by
  rw [List.filter_eq_nil_iff]
  intro x hx
  have := mem_rangeL hx
  simp [h x this.1 this.2]
theorem filter_same {p q : Int → Bool} {l : List Int} (h : ∀ x ∈ l, p x = q x) : l.filter p = l.filter q := List.filter_congr h
theorem days_eq {y m d : Int} (h1 : 1 ≤ m) (h2 : m ≤ 12) :
    (rangeL 0 33).filter (fun a => lawFits y m a (lawDay (ymdOrd y m d))) = (rangeL 1 (lawLast y m + 1)).filter (fun a => (a - d).fmod 7 == 0) := by
  have hb := dim_le (y := y) h1 h2
  rw [lawLast_dim h1 h2, rangeL_split (a := 0) (b := 1) (c := 33) (by decide) (by decide), rangeL_split (a := 1) (b := dim y m + 1) (c := 33) (by lia) (by lia), List.filter_append, List.filter_append]
  rw [filter_none (a := 0) (b := 1) (fun x a b => by unfold lawFits; simp; lia), filter_none (a := dim y m + 1) (b := 33) (fun x a b => by unfold lawFits; simp; lia), List.nil_append, List.append_nil]
  refine filter_same fun x hx => ?_
  obtain ⟨x1, x2⟩ := mem_rangeL hx
  unfold lawFits
  rw [lawDay_beq, fm _ _ (by decide)]
  unfold ymdOrd
  rw [Bool.eq_iff_iff]
  simp
  lia
theorem months_eq {y m d : Int} (h1 : 1 ≤ m) (h2 : m ≤ 12) (h3 : 1 ≤ d) :
    (rangeL 0 14).filter (fun a => lawFits y a d (lawDay (ymdOrd y m d))) = ((rangeL 1 13).filter (fun a => (lawKey y a - lawKey y m).fmod 7 == 0)).filter (fun a => decide (d ≤ lawLast y a)) := by
  rw [rangeL_split (a := 0) (b := 1) (c := 14) (by decide) (by decide), rangeL_split (a := 1) (b := 13) (c := 14) (by decide) (by decide), List.filter_append, List.filter_append]
  rw [filter_none (a := 0) (b := 1) (fun x a b => by unfold lawFits; simp; lia), filter_none (a := 13) (b := 14) (fun x a b => by unfold lawFits; simp; lia), List.nil_append, List.append_nil, List.filter_filter]
  refine filter_same fun x hx => ?_
  obtain ⟨x1, x2⟩ := mem_r13 hx
  have k1 := lawKey_mod (y := y) x1 x2
  have k2 := lawKey_mod (y := y) h1 h2
  unfold lawFits
  rw [lawDay_beq, fm _ _ (by decide), lawLast_dim x1 x2]
  unfold ymdOrd
  rw [Bool.eq_iff_iff]
  simp
  lia
theorem dby_cent (y j : Int) : dby (y + 100 * j) = dby y + 36524 * j + (((y - 1) / 100 + j) / 4 - (y - 1) / 100 / 4) := by
  rw [dby_eq, dby_eq]
  omega
theorem leap_cent {y q b : Int} (hy : y = 100 * q + b + 1) (b0 : 0 ≤ b) (b1 : b ≤ 99) : (b ≠ 99 → isLeap y = decide ((b + 1) % 4 = 0)) ∧ (b = 99 → isLeap y = decide ((q + 1) % 4 = 0)) := by
  refine ⟨fun h => ?_, fun h => ?_⟩
  · rw [Bool.eq_iff_iff, isLeap_iff, decide_eq_true_eq]
    lia
  · rw [Bool.eq_iff_iff, isLeap_iff, decide_eq_true_eq]
    lia
theorem cent_arith {j q x z : Int} (hj : j % 4 ≠ 0) (hx : (x = z ∧ 0 ≤ x ∧ x ≤ 1) ∨ (x = (if (q + 1) % 4 = 0 then 1 else 0) ∧ z = (if (q + j + 1) % 4 = 0 then 1 else 0)) ∨ (x = 0 ∧ z = 0)) :
    (36524 * j + ((q + j) / 4 - q / 4) + z - x) % 7 ≠ 0 := by
  obtain ⟨p, f, hq, hf⟩ : ∃ p f, q = 4 * p + f ∧ (f = 0 ∨ f = 1 ∨ f = 2 ∨ f = 3) := ⟨q / 4, q % 4, by lia, by lia⟩
  obtain ⟨i, e, hi, he⟩ : ∃ i e, j = 4 * i + e ∧ (e = 1 ∨ e = 2 ∨ e = 3) := ⟨j / 4, j % 4, by lia, by lia⟩
  clear hj
  subst hq hi
  have b2 : (4 * p + f + 1) % 4 = (f + 1) % 4 := by clear hx hf he; lia
  have b3 : (4 * p + f + (4 * i + e) + 1) % 4 = (f + e + 1) % 4 := by clear hx hf he; lia
  rw [b2, b3] at hx
  have hw : z - x = 0 ∨ z - x = (if (f + e + 1) % 4 = 0 then 1 else 0) - (if (f + 1) % 4 = 0 then 1 else 0) := by
    rcases hx with ⟨h, _, _⟩ | ⟨h1, h2⟩ | ⟨h1, h2⟩
    · exact .inl (by rw [h]; exact Int.sub_self z)
    · exact .inr (by rw [h1, h2])
    · exact .inl (by rw [h1, h2]; decide)
  have b1 : (4 * p + f + (4 * i + e)) / 4 - (4 * p + f) / 4 = i + (f + e) / 4 := by
    have c : 0 ≤ f ∧ f ≤ 3 := by clear hx hw he b2 b3; lia
    clear hx hw he b2 b3 hf
    lia
  have e7 : (36524 * (4 * i + e) + (i + (f + e) / 4) + z - x) % 7 = (36524 * e + (f + e) / 4 + (z - x)) % 7 := by
    clear hx hw he b1 b2 b3 hf
    generalize (f + e) / 4 = g
    lia
  rw [b1, e7]
  clear e7 b1 b2 b3 hx
  generalize z - x = w at hw ⊢
  rcases hf with h | h | h | h <;> subst h <;> rcases he with h | h | h <;> subst h <;> rcases hw with h | h <;> subst h <;> decide
theorem cent_diff {y m d j : Int} (h1 : 1 ≤ m) (h2 : m ≤ 12) (hj : j % 4 ≠ 0) : ymdOrd (y + 100 * j) m d % 7 ≠ ymdOrd y m d % 7 := by
  obtain ⟨q, b, hy, b0, b1⟩ : ∃ q b, y = 100 * q + b + 1 ∧ 0 ≤ b ∧ b ≤ 99 := ⟨(y - 1) / 100, (y - 1) % 100, by lia, by lia, by lia⟩
  obtain ⟨l1, l2⟩ := leap_cent hy b0 b1
  obtain ⟨l3, l4⟩ := leap_cent (y := y + 100 * j) (q := q + j) (b := b) (by lia) b0 b1
  have hq : (y - 1) / 100 = q := by lia
  have key := cent_arith (j := j) (q := q) (x := if 2 < m ∧ isLeap y = true then 1 else 0) (z := if 2 < m ∧ isLeap (y + 100 * j) = true then 1 else 0) hj (by
    by_cases hm : 2 < m
    · by_cases hb : b = 99
      · right; left
        rw [l2 hb, l4 hb]
        simp [hm]
      · left
        rw [l1 hb, l3 hb]
        refine ⟨rfl, ?_, ?_⟩ <;> split <;> decide
    · right; right
      simp [hm])
  unfold ymdOrd dbm
  rw [dby_cent, hq]
  generalize (if 2 < m ∧ isLeap y = true then (1 : Int) else 0) = x at *
  generalize (if 2 < m ∧ isLeap (y + 100 * j) = true then (1 : Int) else 0) = z at *
  generalize (q + j) / 4 - q / 4 = w at *
  lia
theorem cent_same {y m d j : Int} (h1 : 1 ≤ m) (h2 : m ≤ 12) (hj : j % 4 = 0) : ymdOrd (y + 100 * j) m d % 7 = ymdOrd y m d % 7 ∧ dim (y + 100 * j) m = dim y m := by
  have l : isLeap (y + 100 * j) = isLeap y := by
    rw [Bool.eq_iff_iff, isLeap_iff, isLeap_iff]
    lia
  constructor
  · unfold ymdOrd dbm
    rw [dby_cent, l]
    lia
  · unfold dim
    rw [l]
theorem years_eq {y m d r c : Int} (h1 : 1 ≤ m) (h2 : m ≤ 12) (h3 : 1 ≤ d) (h4 : d ≤ dim y m) (hr : (y - 1969).fmod 100 = r) :
    List.filter (fun a => lawFits a m d (lawDay (ymdOrd y m d))) [1969 + r + c * 100, 1969 + r + c * 100 + 100, 1969 + r + c * 100 + 200, 1969 + r + c * 100 + 300] = List.filter (fun a => (a - y).fmod 400 == 0) [1969 + r + c * 100, 1969 + r + c * 100 + 100, 1969 + r + c * 100 + 200, 1969 + r + c * 100 + 300] := by
  rw [fm _ _ (by decide)] at hr
  refine filter_same fun x hx => ?_
  have hx4 := mem4 hx
  obtain ⟨j, rfl⟩ : ∃ j, x = y + 100 * j := ⟨(x - y) / 100, by lia⟩
  unfold lawFits
  rw [lawDay_beq, fm _ _ (by decide)]
  by_cases hj : j % 4 = 0
  · obtain ⟨e1, e2⟩ := cent_same (y := y) (d := d) h1 h2 hj
    rw [e1, e2]
    rw [Bool.eq_iff_iff]
    simp
    lia
  · have e1 := cent_diff (y := y) (d := d) h1 h2 hj
    rw [Bool.eq_iff_iff]
    simp [e1]
    lia
end MFs
noncomputable section MGs
open PySem.NumText (AllDigits digitsVal)
theorem wk_day (n : Int) : FM.dayNames.getD (Builtin._datetime.weekdayOf n).toNat Str.empty = lawDay n := by
  rw [lawDay_tab]
  unfold Builtin._datetime.weekdayOf
  have h := mod7 n
  rcases h with h | h | h | h | h | h | h
  · rw [h, show (n + 6) % 7 = 6 by lia]; decide +kernel
  · rw [h, show (n + 6) % 7 = 0 by lia]; decide +kernel
  · rw [h, show (n + 6) % 7 = 1 by lia]; decide +kernel
  · rw [h, show (n + 6) % 7 = 2 by lia]; decide +kernel
  · rw [h, show (n + 6) % 7 = 3 by lia]; decide +kernel
  · rw [h, show (n + 6) % 7 = 4 by lia]; decide +kernel
  · rw [h, show (n + 6) % 7 = 5 by lia]; decide +kernel
/-- the signs of a weekday's name -/
theorem wk_signs (n : Int) : ∃ a1 a2 a3 : Nat, lawDay n = ⟨#[a1, a2, a3]⟩ ∧ PT.Let a1 ∧ PT.Let a2 ∧ PT.Let a3 := by
  rw [lawDay_tab]
  unfold PT.Let
  have h := mod7 n
  rcases h with h | h | h | h | h | h | h <;> rw [h]
  · exact ⟨83, 117, 110, by decide +kernel, by decide, by decide, by decide⟩
  · exact ⟨77, 111, 110, by decide +kernel, by decide, by decide, by decide⟩
  · exact ⟨84, 117, 101, by decide +kernel, by decide, by decide, by decide⟩
  · exact ⟨87, 101, 100, by decide +kernel, by decide, by decide, by decide⟩
  · exact ⟨84, 104, 117, by decide +kernel, by decide, by decide, by decide⟩
  · exact ⟨70, 114, 105, by decide +kernel, by decide, by decide, by decide⟩
  · exact ⟨83, 97, 116, by decide +kernel, by decide, by decide, by decide⟩
/-- a date's text, sign by sign -/
theorem stamp_signs {a1 a2 a3 : Nat} {b : Str} {d y h mi s : Int} : FM.stampText ⟨#[a1, a2, a3]⟩ b d y h mi s =
    ⟨([a1, a2, a3, 44] ++ 32 :: (([48 + d.toNat / 10, 48 + d.toNat % 10] ++ 45 :: (b.cps.toList ++ 45 :: ([48 + y.toNat / 1000, 48 + y.toNat / 100 % 10, 48 + y.toNat / 10 % 10] ++ [48 + y.toNat % 10]))) ++ 32 :: (([48 + h.toNat / 10, 48 + h.toNat % 10] ++ 58 :: ([48 + mi.toNat / 10, 48 + mi.toNat % 10] ++ 58 :: [48 + s.toNat / 10, 48 + s.toNat % 10])) ++ 32 :: [71, 77, 84]))).toArray⟩ := by
  have e1 : Str.ofString ", " = ⟨#[44, 32]⟩ := by decide
  have e2 : Str.ofString "-" = ⟨#[45]⟩ := by decide
  have e3 : Str.ofString " " = ⟨#[32]⟩ := by decide
  have e4 : Str.ofString ":" = ⟨#[58]⟩ := by decide
  have e5 : Str.ofString " GMT" = ⟨#[32, 71, 77, 84]⟩ := by decide
  unfold FM.stampText FM.pad2 FM.pad4
  rw [e1, e2, e3, e4, e5]
  refine PT.str_ext ?_
  simp only [PySem.Str.cps_append, Array.toList_append]
  simp
theorem dig_ok {n : Nat} (h : n < 10) : PT.Dig (48 + n) := by unfold PT.Dig; lia
/-- a date's text is read back -/
theorem stamp_parses {a1 a2 a3 : Nat} {d y h mi s : Int} {j : Nat} (ha1 : PT.Let a1) (ha2 : PT.Let a2) (ha3 : PT.Let a3) (hj : j < 12) (d0 : 0 ≤ d) (d1 : d ≤ 99) (y0 : 0 ≤ y) (y1 : y ≤ 9999) (h0 : 0 ≤ h) (h1 : h ≤ 99) (i0 : 0 ≤ mi) (i1 : mi ≤ 99) (s0 : 0 ≤ s) (s1 : s ≤ 99) :
    Parses (FM.stampText ⟨#[a1, a2, a3]⟩ (PT.mons.getD j Str.empty) d y h mi s) y j d h mi s := by
  have hd : AllDigits ([48 + y.toNat / 1000, 48 + y.toNat / 100 % 10, 48 + y.toNat / 10 % 10] ++ [48 + y.toNat % 10]) := by
    intro c hc
    simp at hc
    omega
  have p := PT.parses_text (a1 := a1) (a2 := a2) (a3 := a3) (d1 := 48 + d.toNat / 10) (d2 := 48 + d.toNat % 10) (h1 := 48 + h.toNat / 10) (h2 := 48 + h.toNat % 10) (m1 := 48 + mi.toNat / 10) (m2 := 48 + mi.toNat % 10) (s1 := 48 + s.toNat / 10) (s2 := 48 + s.toNat % 10) hj ha1 ha2 ha3
    (dig_ok (by omega)) (dig_ok (by omega)) (dig_ok (by omega)) (dig_ok (by omega)) (dig_ok (by omega)) (dig_ok (by omega)) (dig_ok (by omega)) (dig_ok (by omega)) hd (by simp)
  have v2 : ∀ n : Int, 0 ≤ n → n ≤ 99 → ((digitsVal [48 + n.toNat / 10, 48 + n.toNat % 10] : Nat) : Int) = n := by
    intro n a b
    unfold digitsVal
    simp
    omega
  have v4 : ((digitsVal ([48 + y.toNat / 1000, 48 + y.toNat / 100 % 10, 48 + y.toNat / 10 % 10] ++ [48 + y.toNat % 10]) : Nat) : Int) = y := by
    unfold digitsVal
    simp
    omega
  rw [v2 d d0 d1, v2 h h0 h1, v2 mi i0 i1, v2 s s0 s1, v4] at p
  rw [stamp_signs]
  exact p
end MGs
noncomputable section MHs
open PySem.NumText (AllDigits digitsVal)
theorem mon_signs : ∀ j < 12, ∃ b1 b2 b3 : Nat, PT.mons.getD j Str.empty = ⟨#[b1, b2, b3]⟩ := by
  intro j hj
  have h : j = 0 ∨ j = 1 ∨ j = 2 ∨ j = 3 ∨ j = 4 ∨ j = 5 ∨ j = 6 ∨ j = 7 ∨ j = 8 ∨ j = 9 ∨ j = 10 ∨ j = 11 := by lia
  rcases h with h | h | h | h | h | h | h | h | h | h | h | h <;> subst h
  · exact ⟨74, 97, 110, by decide⟩
  · exact ⟨70, 101, 98, by decide⟩
  · exact ⟨77, 97, 114, by decide⟩
  · exact ⟨65, 112, 114, by decide⟩
  · exact ⟨77, 97, 121, by decide⟩
  · exact ⟨74, 117, 110, by decide⟩
  · exact ⟨74, 117, 108, by decide⟩
  · exact ⟨65, 117, 103, by decide⟩
  · exact ⟨83, 101, 112, by decide⟩
  · exact ⟨79, 99, 116, by decide⟩
  · exact ⟨78, 111, 118, by decide⟩
  · exact ⟨68, 101, 99, by decide⟩
/-- the text as an array of its signs -/
theorem stamp_sg {a1 a2 a3 b1 b2 b3 : Nat} {d y h mi s : Int} : FM.stampText ⟨#[a1, a2, a3]⟩ ⟨#[b1, b2, b3]⟩ d y h mi s =
    ⟨#[a1, a2, a3, 44, 32, 48 + d.toNat / 10, 48 + d.toNat % 10, 45, b1, b2, b3, 45, 48 + y.toNat / 1000, 48 + y.toNat / 100 % 10, 48 + y.toNat / 10 % 10, 48 + y.toNat % 10, 32, 48 + h.toNat / 10, 48 + h.toNat % 10, 58, 48 + mi.toNat / 10, 48 + mi.toNat % 10, 58, 48 + s.toNat / 10, 48 + s.toNat % 10, 32, 71, 77, 84]⟩ := by
  rw [stamp_signs]
  rfl
theorem full_year {y : Int} (h : 100 ≤ y) : fullYear y = y := by unfold fullYear; rw [if_neg (by lia)]
theorem told_full {a1 a2 a3 : Nat} {d m y h mi s : Int} (ha1 : PT.Let a1) (ha2 : PT.Let a2) (ha3 : PT.Let a3) (m0 : 1 ≤ m) (m1 : m ≤ 12) (d0 : 0 ≤ d) (d1 : d ≤ 99) (y0 : 100 ≤ y) (y1 : y ≤ 9999) (h0 : 0 ≤ h) (h1 : h ≤ 99) (i0 : 0 ≤ mi) (i1 : mi ≤ 99) (s0 : 0 ≤ s) (s1 : s ≤ 99) :
    ToldT (FM.stampText ⟨#[a1, a2, a3]⟩ (FM.monthNames.getD (m - 1).toNat Str.empty) d y h mi s) y m d h mi s :=
  ⟨y, (m - 1).toNat, stamp_parses ha1 ha2 ha3 (by lia) d0 d1 (by lia) y1 h0 h1 i0 i1 s0 s1, full_year y0, by lia⟩
/-- the year's first two figures left out -/
theorem told_short {a1 a2 a3 b1 b2 b3 : Nat} {d m y h mi s r : Int} (ha1 : PT.Let a1) (ha2 : PT.Let a2) (ha3 : PT.Let a3) (m0 : 1 ≤ m) (m1 : m ≤ 12) (hb : PT.mons.getD (m - 1).toNat Str.empty = ⟨#[b1, b2, b3]⟩) (d0 : 0 ≤ d) (d1 : d ≤ 99) (y0 : 100 ≤ y) (y1 : y ≤ 9999) (h0 : 0 ≤ h) (h1 : h ≤ 99) (i0 : 0 ≤ mi) (i1 : mi ≤ 99) (s0 : 0 ≤ s) (s1 : s ≤ 99) (hr : (y - 1969).fmod 100 = r) :
    ToldT ⟨#[a1, a2, a3, 44, 32, 48 + d.toNat / 10, 48 + d.toNat % 10, 45, b1, b2, b3, 45, 48 + y.toNat / 10 % 10, 48 + y.toNat % 10, 32, 48 + h.toNat / 10, 48 + h.toNat % 10, 58, 48 + mi.toNat / 10, 48 + mi.toNat % 10, 58, 48 + s.toNat / 10, 48 + s.toNat % 10, 32, 71, 77, 84]⟩ (1969 + r) m d h mi s := by
  rw [fm _ _ (by decide)] at hr
  have hd : AllDigits ([48 + y.toNat / 10 % 10] ++ [48 + y.toNat % 10]) := by
    intro c hc
    simp at hc
    lia
  have p := PT.parses_text (a1 := a1) (a2 := a2) (a3 := a3) (j := (m - 1).toNat) (d1 := 48 + d.toNat / 10) (d2 := 48 + d.toNat % 10) (h1 := 48 + h.toNat / 10) (h2 := 48 + h.toNat % 10) (m1 := 48 + mi.toNat / 10) (m2 := 48 + mi.toNat % 10) (s1 := 48 + s.toNat / 10) (s2 := 48 + s.toNat % 10) (by lia) ha1 ha2 ha3
    (dig_ok (by lia)) (dig_ok (by lia)) (dig_ok (by lia)) (dig_ok (by lia)) (dig_ok (by lia)) (dig_ok (by lia)) (dig_ok (by lia)) (dig_ok (by lia)) hd (by simp)
  have v2 : ∀ n : Int, 0 ≤ n → n ≤ 99 → ((digitsVal [48 + n.toNat / 10, 48 + n.toNat % 10] : Nat) : Int) = n := by
    intro n a b
    unfold digitsVal
    simp
    lia
  have v4 : ((digitsVal ([48 + y.toNat / 10 % 10] ++ [48 + y.toNat % 10]) : Nat) : Int) = y % 100 := by
    unfold digitsVal
    simp
    lia
  rw [v2 d d0 d1, v2 h h0 h1, v2 mi i0 i1, v2 s s0 s1, v4, hb] at p
  refine ⟨y % 100, (m - 1).toNat, p, ?_, by lia⟩
  unfold fullYear
  split
  · split <;> lia
  · lia
/-- a moment's writing -/
theorem civ_of {y m d h mi s : Int} (hy : 1970 ≤ y) (hy2 : y ≤ 9999) (h1 : 1 ≤ m) (h2 : m ≤ 12) (h3 : 1 ≤ d) (h4 : d ≤ dim y m) (a1 : 0 ≤ h) (a2 : h ≤ 23) (b1 : 0 ≤ mi) (b2 : mi ≤ 59) (c1 : 0 ≤ s) (c2 : s ≤ 59) :
    CivT (secOf y m d h mi s) (FM.stampText (lawDay (ymdOrd y m d)) (FM.monthNames.getD (m - 1).toNat Str.empty) d y h mi s) := by
  refine ⟨y, m, d, h, mi, s, civil_of hy hy2 h1 h2 h3 h4 a1 a2 b1 b2 c1 c2, by lia, ?_⟩
  unfold FM.nsText
  rw [toOrd_eq _ h1 h2, wk_day]
theorem secs_of {y m d h mi s : Int} (h1 : 1 ≤ m) (h2 : m ≤ 12) : secs y m d h mi s = secOf y m d h mi s := by
  unfold secs secOf
  rw [toOrd_eq _ h1 h2]
  unfold ymdOrd
  lia
end MHs
noncomputable section MIs
theorem k12 (x0 x1 x2 x3 x4 x5 x6 x7 x8 x9 x10 x11 x12 x13 x14 x15 x16 x17 x18 x19 x20 x21 x22 x23 x24 x25 x26 x27 x28 : Nat) : Txt.slice ⟨#[x0, x1, x2, x3, x4, x5, x6, x7, x8, x9, x10, x11, x12, x13, x14, x15, x16, x17, x18, x19, x20, x21, x22, x23, x24, x25, x26, x27, x28]⟩ none (some 12) = ⟨#[x0, x1, x2, x3, x4, x5, x6, x7, x8, x9, x10, x11]⟩ := by kernel_rfl
theorem k3 (x0 x1 x2 x3 x4 x5 x6 x7 x8 x9 x10 x11 x12 x13 x14 x15 x16 x17 x18 x19 x20 x21 x22 x23 x24 x25 x26 x27 x28 : Nat) : Txt.slice ⟨#[x0, x1, x2, x3, x4, x5, x6, x7, x8, x9, x10, x11, x12, x13, x14, x15, x16, x17, x18, x19, x20, x21, x22, x23, x24, x25, x26, x27, x28]⟩ none (some 3) = ⟨#[x0, x1, x2]⟩ := by kernel_rfl
theorem k14 (x0 x1 x2 x3 x4 x5 x6 x7 x8 x9 x10 x11 x12 x13 x14 x15 x16 x17 x18 x19 x20 x21 x22 x23 x24 x25 x26 x27 x28 : Nat) : Txt.slice ⟨#[x0, x1, x2, x3, x4, x5, x6, x7, x8, x9, x10, x11, x12, x13, x14, x15, x16, x17, x18, x19, x20, x21, x22, x23, x24, x25, x26, x27, x28]⟩ (some 14) none = ⟨#[x14, x15, x16, x17, x18, x19, x20, x21, x22, x23, x24, x25, x26, x27, x28]⟩ := by first | with_unfolding_all rfl | kernel_rfl
theorem kcat (x0 x1 x2 x3 x4 x5 x6 x7 x8 x9 x10 x11 x12 x13 x14 x15 x16 x17 x18 x19 x20 x21 x22 x23 x24 x25 x26 : Nat) : (⟨#[x0, x1, x2, x3, x4, x5, x6, x7, x8, x9, x10, x11]⟩ : Str) ++ (⟨#[x12, x13, x14, x15, x16, x17, x18, x19, x20, x21, x22, x23, x24, x25, x26]⟩ : Str) = ⟨#[x0, x1, x2, x3, x4, x5, x6, x7, x8, x9, x10, x11, x12, x13, x14, x15, x16, x17, x18, x19, x20, x21, x22, x23, x24, x25, x26]⟩ := by kernel_rfl
theorem kl2 (x0 x1 x2 x3 x4 x5 x6 x7 x8 x9 x10 x11 x12 x13 x14 x15 x16 x17 x18 x19 x20 x21 x22 x23 x24 x25 x26 : Nat) : (⟨#[x0, x1, x2, x3, x4, x5, x6, x7, x8, x9, x10, x11, x12, x13, x14, x15, x16, x17, x18, x19, x20, x21, x22, x23, x24, x25, x26]⟩ : Str).length ≤ 100 := Nat.le_of_ble_eq_true rfl
theorem kl1 (x0 x1 x2 x3 x4 x5 x6 x7 x8 x9 x10 x11 x12 x13 x14 x15 x16 x17 x18 x19 x20 x21 x22 x23 x24 x25 x26 x27 x28 : Nat) : (⟨#[x0, x1, x2, x3, x4, x5, x6, x7, x8, x9, x10, x11, x12, x13, x14, x15, x16, x17, x18, x19, x20, x21, x22, x23, x24, x25, x26, x27, x28]⟩ : Str).length ≤ 100 := Nat.le_of_ble_eq_true rfl
theorem law_facts_ok {vs : List Value} {ns : List Int} (_ : IntsAre vs ns) : ∃ (mo N q0 q1 q2 y m d h mi s r c0 c c1 : Int) (T wd mon S12 S14 T2 : Str), LawF (13598627696 + ns.sum) mo N q0 q1 q2 y m d h mi s r c0 c c1 T wd mon S12 S14 T2 ∧ 1970 ≤ y ∧ y ≤ 9999 ∧ 1 ≤ m ∧ m ≤ 12 ∧ 1 ≤ d ∧ d ≤ 31 ∧ 0 ≤ h ∧ h ≤ 23 ∧ 0 ≤ mi ∧ mi ≤ 59 ∧ 0 ≤ s ∧ s ≤ 59 ∧ 0 ≤ r ∧ r ≤ 99 ∧ 0 ≤ c ∧ c ≤ 99 := by
  generalize 13598627696 + ns.sum = tot
  have hmo : ∃ mo, tot.fmod 253402300800 = mo ∧ 0 ≤ mo ∧ mo < 253402300800 := ⟨_, rfl, by rw [fm _ _ (by decide)]; lia, by rw [fm _ _ (by decide)]; lia⟩
  obtain ⟨mo, eMo, mo0, mo1⟩ := hmo
  obtain ⟨y, m, d, h, mi, s, y1, y2, m1, m2, d1, d2, h1, h2, i1, i2, s1, s2, hs⟩ := moment_of mo0 mo1
  have d3 : d ≤ 31 := by have := (dim_le (y := y) m1 m2).2; lia
  obtain ⟨o1, o2⟩ := ord_ge y1 y2 m1 m2 d1 d2
  obtain ⟨a1, a2, a3, hwd, l1, l2, l3⟩ := wk_signs (ymdOrd y m d)
  obtain ⟨b1, b2, b3, hb⟩ := mon_signs (m - 1).toNat (by lia)
  have hmn : FM.monthNames.getD (m - 1).toNat Str.empty = ⟨#[b1, b2, b3]⟩ := hb
  have hN : 719163 + mo.fdiv 86400 = ymdOrd y m d := by rw [fd _ _ (by decide), hs]; unfold secOf; lia
  have hT := stamp_sg (a1 := a1) (a2 := a2) (a3 := a3) (b1 := b1) (b2 := b2) (b3 := b3) (d := d) (y := y) (h := h) (mi := mi) (s := s)
  have t1 := told_full (a1 := a1) (a2 := a2) (a3 := a3) l1 l2 l3 m1 m2 (d := d) (y := y) (h := h) (mi := mi) (s := s) (by lia) (by lia) (by lia) y2 h1 (by lia) i1 (by lia) s1 (by lia)
  have t2 := told_short (a1 := a1) (a2 := a2) (a3 := a3) l1 l2 l3 m1 m2 hb (d := d) (y := y) (h := h) (mi := mi) (s := s) (by lia) (by lia) (by lia) y2 h1 (by lia) i1 (by lia) s1 (by lia) rfl
  have cv := civ_of y1 y2 m1 m2 d1 d2 h1 h2 i1 i2 s1 s2
  have f1 := years_eq (c := (tot.fdiv 253402300800).fmod 100) m1 m2 d1 d2 (y := y) rfl
  have f2 := days_eq (y := y) (d := d) m1 m2
  have f3 := months_eq (y := y) m1 m2 d1
  rw [hmn] at t1
  rw [hwd, hmn, ← hs] at cv
  rw [hwd] at f1 f2 f3
  rw [hT] at t1 cv
  refine ⟨mo, ymdOrd y m d, mo.fdiv 86400, mo.fdiv 3600, mo.fdiv 60, y, m, d, h, mi, s, (y - 1969).fmod 100, tot.fdiv 253402300800, (tot.fdiv 253402300800).fmod 100, 0, ⟨#[a1, a2, a3, 44, 32, 48 + d.toNat / 10, 48 + d.toNat % 10, 45, b1, b2, b3, 45, 48 + y.toNat / 1000, 48 + y.toNat / 100 % 10, 48 + y.toNat / 10 % 10, 48 + y.toNat % 10, 32, 48 + h.toNat / 10, 48 + h.toNat % 10, 58, 48 + mi.toNat / 10, 48 + mi.toNat % 10, 58, 48 + s.toNat / 10, 48 + s.toNat % 10, 32, 71, 77, 84]⟩, ⟨#[a1, a2, a3]⟩, ⟨#[b1, b2, b3]⟩,
    ⟨#[a1, a2, a3, 44, 32, 48 + d.toNat / 10, 48 + d.toNat % 10, 45, b1, b2, b3, 45]⟩, ⟨#[48 + y.toNat / 10 % 10, 48 + y.toNat % 10, 32, 48 + h.toNat / 10, 48 + h.toNat % 10, 58, 48 + mi.toNat / 10, 48 + mi.toNat % 10, 58, 48 + s.toNat / 10, 48 + s.toNat % 10, 32, 71, 77, 84]⟩, ⟨#[a1, a2, a3, 44, 32, 48 + d.toNat / 10, 48 + d.toNat % 10, 45, b1, b2, b3, 45, 48 + y.toNat / 10 % 10, 48 + y.toNat % 10, 32, 48 + h.toNat / 10, 48 + h.toNat % 10, 58, 48 + mi.toNat / 10, 48 + mi.toNat % 10, 58, 48 + s.toNat / 10, 48 + s.toNat % 10, 32, 71, 77, 84]⟩,
    { eMo := eMo, eq0 := rfl, eN := hN, eq1 := rfl, eh := ?_, eq2 := rfl, emi := ?_, es := ?_, t2n := cv, told := t1, sec := ⟨y1, y2, m1, m2, d1, d3, h1, by lia, i1, i2, s1, by lia, by rw [secs_of m1 m2]; exact hs.symm⟩, ord := ⟨by lia, y2, m1, m2, d1, d2, rfl⟩, day := hwd, mn := hmn, fmt := hT, wdl := Nat.le_refl 3, monl := Nat.le_refl 3, lT := kl1 _ _ _ _ _ _ _ _ _ _ _ _ _ _ _ _ _ _ _ _ _ _ _ _ _ _ _ _ _, s12 := k12 _ _ _ _ _ _ _ _ _ _ _ _ _ _ _ _ _ _ _ _ _ _ _ _ _ _ _ _ _, s3 := k3 _ _ _ _ _ _ _ _ _ _ _ _ _ _ _ _ _ _ _ _ _ _ _ _ _ _ _ _ _, s14 := k14 _ _ _ _ _ _ _ _ _ _ _ _ _ _ _ _ _ _ _ _ _ _ _ _ _ _ _ _ _, cat2 := kcat _ _ _ _ _ _ _ _ _ _ _ _ _ _ _ _ _ _ _ _ _ _ _ _ _ _ _, l2 := kl2 _ _ _ _ _ _ _ _ _ _ _ _ _ _ _ _ _ _ _ _ _ _ _ _ _ _ _, told2 := t2, er := rfl, ec0 := rfl, ec := rfl, f1 := f1, f2 := f2, f3 := f3 },
    y1, y2, m1, m2, d1, d3, h1, h2, i1, i2, s1, s2, ?_, ?_, ?_, ?_⟩
  · rw [fd _ _ (by decide), fm _ _ (by decide), hs]; unfold secOf; lia
  · rw [fd _ _ (by decide), fm _ _ (by decide), hs]; unfold secOf; lia
  · rw [fm _ _ (by decide), hs]; unfold secOf; lia
  · rw [fm _ _ (by decide)]; lia
  · rw [fm _ _ (by decide)]; lia
  · rw [fm _ _ (by decide)]; lia
  · rw [fm _ _ (by decide)]; lia
end MIs
noncomputable section KL2s
theorem nm_lo {m : Int} (h : 1 ≤ m) : 0 ≤ m - 1 := by omega
theorem nm_hi {m : Int} (h : m ≤ 12) : m - 1 < 12 := by omega
section
variable {prog : Program} {w : World} {A : Around} {E : Value → Shared → Prop} {s : Shared} {a b c : Int} {t u : Tok} {Q : Value → Shared → Prop}
end
theorem fmt2T {b T : Str} {d : Int} {t u1 u2 : Tok} {x : Addr} (eT : FM.pad2 d ++ Str.ofString "-" ++ b = T) (hb : b.length ≤ 3) (d1 : 0 ≤ d) (d2 : d ≤ 99) :
    Meets (Builtin.«str.__mod__» ⟨[.str ⟨#[37,48,50,100,45,37,115]⟩ t, .ref x], []⟩) (fun _ R s => IsTup s.heap x #[.int d u1, .str b u2] ∧ ∀ t' k, R (.ok (.ret (.str T t'))) { s with toks := k }) := eT ▸ FM.fmt2 hb d1 d2
/-- the numbers and the texts of one turn of the law's for -/
structure TurnF (y m d h mi s N k V ov : Int) (T S8 S11 mk mk1 A1 Tk wk D1 D2 sp Td : Str) : Prop where
  s8 : Txt.slice T none (some 8) = S8
  s11 : Txt.slice T (some 11) none = S11
  mn : FM.monthNames.getD (k - 1).toNat Str.empty = mk
  mn1 : FM.monthNames.getD k.toNat Str.empty = mk1
  c1 : S8 ++ mk = A1
  c2 : A1 ++ S11 = Tk
  l1 : A1.length ≤ 100
  l2 : Tk.length ≤ 100
  told : ToldT Tk y k d h mi s
  sec : SecT y k d h mi s V
  t2n : CivT V Td
  ov : d - lawLast y k = ov
  day : lawDay (N + lawKey y k - lawKey y m) = wk
  d1 : wk ++ Str.ofString ", " = D1
  d2 : D1 ++ sp = D2
  d3 : D2 ++ S11 = Td
  m1 : D1.length ≤ 100
  m2 : D2.length ≤ 100
  m3 : Td.length ≤ 100
end KL2s
noncomputable section MJs
theorem k8 (x0 x1 x2 x3 x4 x5 x6 x7 x8 x9 x10 x11 x12 x13 x14 x15 x16 x17 x18 x19 x20 x21 x22 x23 x24 x25 x26 x27 x28 : Nat) : Txt.slice (⟨#[x0, x1, x2, x3, x4, x5, x6, x7, x8, x9, x10, x11, x12, x13, x14, x15, x16, x17, x18, x19, x20, x21, x22, x23, x24, x25, x26, x27, x28]⟩ : Str) none (some 8) = (⟨#[x0, x1, x2, x3, x4, x5, x6, x7]⟩ : Str) := by kernel_rfl
theorem k11 (x0 x1 x2 x3 x4 x5 x6 x7 x8 x9 x10 x11 x12 x13 x14 x15 x16 x17 x18 x19 x20 x21 x22 x23 x24 x25 x26 x27 x28 : Nat) : Txt.slice (⟨#[x0, x1, x2, x3, x4, x5, x6, x7, x8, x9, x10, x11, x12, x13, x14, x15, x16, x17, x18, x19, x20, x21, x22, x23, x24, x25, x26, x27, x28]⟩ : Str) (some 11) none = (⟨#[x11, x12, x13, x14, x15, x16, x17, x18, x19, x20, x21, x22, x23, x24, x25, x26, x27, x28]⟩ : Str) := by kernel_rfl
theorem kc83 (x0 x1 x2 x3 x4 x5 x6 x7 x8 x9 x10 : Nat) : (⟨#[x0, x1, x2, x3, x4, x5, x6, x7]⟩ : Str) ++ (⟨#[x8, x9, x10]⟩ : Str) = (⟨#[x0, x1, x2, x3, x4, x5, x6, x7, x8, x9, x10]⟩ : Str) := by kernel_rfl
theorem kc1118 (x0 x1 x2 x3 x4 x5 x6 x7 x8 x9 x10 x11 x12 x13 x14 x15 x16 x17 x18 x19 x20 x21 x22 x23 x24 x25 x26 x27 x28 : Nat) : (⟨#[x0, x1, x2, x3, x4, x5, x6, x7, x8, x9, x10]⟩ : Str) ++ (⟨#[x11, x12, x13, x14, x15, x16, x17, x18, x19, x20, x21, x22, x23, x24, x25, x26, x27, x28]⟩ : Str) = (⟨#[x0, x1, x2, x3, x4, x5, x6, x7, x8, x9, x10, x11, x12, x13, x14, x15, x16, x17, x18, x19, x20, x21, x22, x23, x24, x25, x26, x27, x28]⟩ : Str) := by kernel_rfl
theorem kc56 (x0 x1 x2 x3 x4 x5 x6 x7 x8 x9 x10 : Nat) : (⟨#[x0, x1, x2, x3, x4]⟩ : Str) ++ (⟨#[x5, x6, x7, x8, x9, x10]⟩ : Str) = (⟨#[x0, x1, x2, x3, x4, x5, x6, x7, x8, x9, x10]⟩ : Str) := by kernel_rfl
theorem kl11 (x0 x1 x2 x3 x4 x5 x6 x7 x8 x9 x10 : Nat) : ((⟨#[x0, x1, x2, x3, x4, x5, x6, x7, x8, x9, x10]⟩ : Str)).length ≤ 100 := Nat.le_of_ble_eq_true rfl
theorem kl29 (x0 x1 x2 x3 x4 x5 x6 x7 x8 x9 x10 x11 x12 x13 x14 x15 x16 x17 x18 x19 x20 x21 x22 x23 x24 x25 x26 x27 x28 : Nat) : ((⟨#[x0, x1, x2, x3, x4, x5, x6, x7, x8, x9, x10, x11, x12, x13, x14, x15, x16, x17, x18, x19, x20, x21, x22, x23, x24, x25, x26, x27, x28]⟩ : Str)).length ≤ 100 := Nat.le_of_ble_eq_true rfl
theorem kl5 (x0 x1 x2 x3 x4 : Nat) : ((⟨#[x0, x1, x2, x3, x4]⟩ : Str)).length ≤ 100 := Nat.le_of_ble_eq_true rfl
theorem kc32 (x0 x1 x2 : Nat) : (⟨#[x0, x1, x2]⟩ : Str) ++ Str.ofString ", " = ⟨#[x0, x1, x2, 44, 32]⟩ := by rfl
theorem ksp (x0 x1 x2 x3 x4 : Nat) : (⟨#[x0, x1]⟩ : Str) ++ Str.ofString "-" ++ ⟨#[x2, x3, x4]⟩ = ⟨#[x0, x1, 45, x2, x3, x4]⟩ := by rfl
theorem turn_day {y m d k N : Int} (m1 : 1 ≤ m) (m2 : m ≤ 12) (k1 : 1 ≤ k) (k2 : k ≤ 12) (hN : ymdOrd y m d = N) : lawDay (N + lawKey y k - lawKey y m) = lawDay (ymdOrd y k d) := by
  have e1 := lawKey_mod (y := y) k1 k2
  have e2 := lawKey_mod (y := y) m1 m2
  refine lawDay_mod ?_
  subst hN
  unfold ymdOrd
  lia
theorem over_date {y k d : Int} (k1 : 1 ≤ k) (k2 : k ≤ 12) (d2 : d ≤ 31) (h : 0 < d - lawLast y k) : k < 12 ∧ d - lawLast y k ≤ 3 ∧ d - lawLast y k ≤ dim y (k + 1) ∧ ymdOrd y (k + 1) (d - lawLast y k) = ymdOrd y k d := by
  rw [lawLast_dim k1 k2] at h ⊢
  have a := dim_le (y := y) k1 k2
  have hk : k < 12 := by
    rcases cases12 k1 k2 with e | e | e | e | e | e | e | e | e | e | e | e <;> subst e <;> first | decide | (exfalso; have e12 : dim y 12 = 31 := (by unfold dim; simp); lia)
  have b := dim_le (y := y) (m := k + 1) (by lia) (by lia)
  have e : dbm y (k + 1) = dbm y k + dim y k := by
    unfold dbm dim
    rcases cases12 k1 k2 with e | e | e | e | e | e | e | e | e | e | e | e <;> subst e <;> cases isLeap y <;> first | decide | lia
  refine ⟨hk, by lia, by lia, ?_⟩
  unfold ymdOrd
  lia
theorem LawF.turn_ok {tot mo N q0 q1 q2 y m d h mi s r c0 c c1 k : Int} {T wd mon S12 S14 T2 : Str} (LF : LawF tot mo N q0 q1 q2 y m d h mi s r c0 c c1 T wd mon S12 S14 T2) (k1 : 1 ≤ k) (k2 : k ≤ 12) :
    ∃ (V ov : Int) (S8 S11 mk mk1 A1 Tk wk D1 D2 sp Td : Str), TurnF y m d h mi s N k V ov T S8 S11 mk mk1 A1 Tk wk D1 D2 sp Td ∧ mk.length ≤ 3 ∧ 0 ≤ d ∧ d ≤ 99 ∧ 0 ≤ k ∧
      ((0 < ov ∧ ov ≤ 99 ∧ 0 ≤ ov ∧ k < 12 ∧ mk1.length ≤ 3 ∧ FM.pad2 ov ++ Str.ofString "-" ++ mk1 = sp) ∨ (¬ 0 < ov ∧ FM.pad2 d ++ Str.ofString "-" ++ mk = sp)) := by
  obtain ⟨_, y2, m1, m2, d1, d2, hN⟩ := LF.ord
  obtain ⟨z1, _, _, _, _, d3, h1, _, i1, i2, s1, _, hV⟩ := LF.sec
  have h2 : h ≤ 23 := by have := LF.eh; rw [fm _ _ (by decide)] at this; lia
  have s2 : s ≤ 59 := by have := LF.es; rw [fm _ _ (by decide)] at this; lia
  obtain ⟨a1, a2, a3, hwd, l1, l2, l3⟩ := wk_signs N
  obtain ⟨b1, b2, b3, hb⟩ := mon_signs (m - 1).toNat (by lia)
  have hmn : mon = ⟨#[b1, b2, b3]⟩ := LF.mn.symm.trans hb
  have hwn : wd = ⟨#[a1, a2, a3]⟩ := LF.day.symm.trans hwd
  have hT : T = ⟨#[a1, a2, a3, 44, 32, 48 + (d).toNat / 10, 48 + (d).toNat % 10, 45, b1, b2, b3, 45, 48 + y.toNat / 1000, 48 + y.toNat / 100 % 10, 48 + y.toNat / 10 % 10, 48 + y.toNat % 10, 32, 48 + h.toNat / 10, 48 + h.toNat % 10, 58, 48 + mi.toNat / 10, 48 + mi.toNat % 10, 58, 48 + s.toNat / 10, 48 + s.toNat % 10, 32, 71, 77, 84]⟩ := by rw [← LF.fmt, hmn, hwn]; exact stamp_sg
  obtain ⟨e1, e2, e3, he'⟩ := mon_signs (k - 1).toNat (by lia)
  have he : FM.monthNames.getD (k - 1).toNat Str.empty = ⟨#[e1, e2, e3]⟩ := he'
  obtain ⟨w1, w2, w3, hw, _, _, _⟩ := wk_signs (ymdOrd y k d)
  have hdy : lawDay (N + lawKey y k - lawKey y m) = ⟨#[w1, w2, w3]⟩ := (turn_day m1 m2 k1 k2 hN).trans hw
  have tk := told_full (a1 := a1) (a2 := a2) (a3 := a3) l1 l2 l3 k1 k2 (d := d) (y := y) (h := h) (mi := mi) (s := s) (by lia) (by lia) (by lia) y2 h1 (by lia) i1 (by lia) s1 (by lia)
  rw [he, stamp_sg] at tk
  by_cases ho : 0 < d - lawLast y k
  · obtain ⟨o1, o2, o3, o4⟩ := over_date k1 k2 d3 ho
    obtain ⟨f1, f2, f3, hf⟩ := mon_signs k.toNat (by lia)
    have hf' : FM.monthNames.getD (k + 1 - 1).toNat Str.empty = ⟨#[f1, f2, f3]⟩ := by rw [show k + 1 - 1 = k by lia]; exact hf
    have cv := civ_of (m := k + 1) (d := d - lawLast y k) z1 y2 (by lia) (by lia) (by lia) o3 h1 h2 i1 i2 s1 s2
    rw [hf', o4, hw, stamp_sg] at cv
    have hV2 : secOf y (k + 1) (d - lawLast y k) h mi s = secs y k d h mi s := by
      rw [secs_of k1 k2]
      unfold secOf
      rw [o4]
    rw [hV2] at cv
    refine ⟨secs y k d h mi s, d - lawLast y k, ⟨#[a1, a2, a3, 44, 32, 48 + (d).toNat / 10, 48 + (d).toNat % 10, 45]⟩, ⟨#[45, 48 + y.toNat / 1000, 48 + y.toNat / 100 % 10, 48 + y.toNat / 10 % 10, 48 + y.toNat % 10, 32, 48 + h.toNat / 10, 48 + h.toNat % 10, 58, 48 + mi.toNat / 10, 48 + mi.toNat % 10, 58, 48 + s.toNat / 10, 48 + s.toNat % 10, 32, 71, 77, 84]⟩, ⟨#[e1, e2, e3]⟩, ⟨#[f1, f2, f3]⟩, ⟨#[a1, a2, a3, 44, 32, 48 + (d).toNat / 10, 48 + (d).toNat % 10, 45, e1, e2, e3]⟩, ⟨#[a1, a2, a3, 44, 32, 48 + (d).toNat / 10, 48 + (d).toNat % 10, 45, e1, e2, e3, 45, 48 + y.toNat / 1000, 48 + y.toNat / 100 % 10, 48 + y.toNat / 10 % 10, 48 + y.toNat % 10, 32, 48 + h.toNat / 10, 48 + h.toNat % 10, 58, 48 + mi.toNat / 10, 48 + mi.toNat % 10, 58, 48 + s.toNat / 10, 48 + s.toNat % 10, 32, 71, 77, 84]⟩, ⟨#[w1, w2, w3]⟩, ⟨#[w1, w2, w3, 44, 32]⟩, ⟨#[w1, w2, w3, 44, 32, 48 + (d - lawLast y k).toNat / 10, 48 + (d - lawLast y k).toNat % 10, 45, f1, f2, f3]⟩, ⟨#[48 + (d - lawLast y k).toNat / 10, 48 + (d - lawLast y k).toNat % 10, 45, f1, f2, f3]⟩, ⟨#[w1, w2, w3, 44, 32, 48 + (d - lawLast y k).toNat / 10, 48 + (d - lawLast y k).toNat % 10, 45, f1, f2, f3, 45, 48 + y.toNat / 1000, 48 + y.toNat / 100 % 10, 48 + y.toNat / 10 % 10, 48 + y.toNat % 10, 32, 48 + h.toNat / 10, 48 + h.toNat % 10, 58, 48 + mi.toNat / 10, 48 + mi.toNat % 10, 58, 48 + s.toNat / 10, 48 + s.toNat % 10, 32, 71, 77, 84]⟩,
      { s8 := hT ▸ k8 _ _ _ _ _ _ _ _ _ _ _ _ _ _ _ _ _ _ _ _ _ _ _ _ _ _ _ _ _, s11 := hT ▸ k11 _ _ _ _ _ _ _ _ _ _ _ _ _ _ _ _ _ _ _ _ _ _ _ _ _ _ _ _ _, mn := he, mn1 := hf, c1 := kc83 _ _ _ _ _ _ _ _ _ _ _, c2 := kc1118 _ _ _ _ _ _ _ _ _ _ _ _ _ _ _ _ _ _ _ _ _ _ _ _ _ _ _ _ _, l1 := kl11 _ _ _ _ _ _ _ _ _ _ _, l2 := kl29 _ _ _ _ _ _ _ _ _ _ _ _ _ _ _ _ _ _ _ _ _ _ _ _ _ _ _ _ _, told := tk, sec := ⟨z1, y2, k1, k2, d1, d3, h1, by lia, i1, i2, s1, by lia, rfl⟩, t2n := cv, ov := rfl, day := hdy, d1 := kc32 _ _ _, d2 := kc56 _ _ _ _ _ _ _ _ _ _ _, d3 := kc1118 _ _ _ _ _ _ _ _ _ _ _ _ _ _ _ _ _ _ _ _ _ _ _ _ _ _ _ _ _, m1 := kl5 _ _ _ _ _, m2 := kl11 _ _ _ _ _ _ _ _ _ _ _, m3 := kl29 _ _ _ _ _ _ _ _ _ _ _ _ _ _ _ _ _ _ _ _ _ _ _ _ _ _ _ _ _ }, Nat.le_refl 3, by lia, by lia, by lia, Or.inl ⟨ho, by lia, by lia, o1, Nat.le_refl 3, ksp _ _ _ _ _⟩⟩
  · have hd : d ≤ dim y k := by rw [lawLast_dim k1 k2] at ho; lia
    have cv := civ_of z1 y2 k1 k2 d1 hd h1 h2 i1 i2 s1 s2
    rw [he, hw, stamp_sg, ← secs_of k1 k2] at cv
    refine ⟨secs y k d h mi s, d - lawLast y k, ⟨#[a1, a2, a3, 44, 32, 48 + (d).toNat / 10, 48 + (d).toNat % 10, 45]⟩, ⟨#[45, 48 + y.toNat / 1000, 48 + y.toNat / 100 % 10, 48 + y.toNat / 10 % 10, 48 + y.toNat % 10, 32, 48 + h.toNat / 10, 48 + h.toNat % 10, 58, 48 + mi.toNat / 10, 48 + mi.toNat % 10, 58, 48 + s.toNat / 10, 48 + s.toNat % 10, 32, 71, 77, 84]⟩, ⟨#[e1, e2, e3]⟩, FM.monthNames.getD k.toNat Str.empty, ⟨#[a1, a2, a3, 44, 32, 48 + (d).toNat / 10, 48 + (d).toNat % 10, 45, e1, e2, e3]⟩, ⟨#[a1, a2, a3, 44, 32, 48 + (d).toNat / 10, 48 + (d).toNat % 10, 45, e1, e2, e3, 45, 48 + y.toNat / 1000, 48 + y.toNat / 100 % 10, 48 + y.toNat / 10 % 10, 48 + y.toNat % 10, 32, 48 + h.toNat / 10, 48 + h.toNat % 10, 58, 48 + mi.toNat / 10, 48 + mi.toNat % 10, 58, 48 + s.toNat / 10, 48 + s.toNat % 10, 32, 71, 77, 84]⟩, ⟨#[w1, w2, w3]⟩, ⟨#[w1, w2, w3, 44, 32]⟩, ⟨#[w1, w2, w3, 44, 32, 48 + (d).toNat / 10, 48 + (d).toNat % 10, 45, e1, e2, e3]⟩, ⟨#[48 + (d).toNat / 10, 48 + (d).toNat % 10, 45, e1, e2, e3]⟩, ⟨#[w1, w2, w3, 44, 32, 48 + (d).toNat / 10, 48 + (d).toNat % 10, 45, e1, e2, e3, 45, 48 + y.toNat / 1000, 48 + y.toNat / 100 % 10, 48 + y.toNat / 10 % 10, 48 + y.toNat % 10, 32, 48 + h.toNat / 10, 48 + h.toNat % 10, 58, 48 + mi.toNat / 10, 48 + mi.toNat % 10, 58, 48 + s.toNat / 10, 48 + s.toNat % 10, 32, 71, 77, 84]⟩,
      { s8 := hT ▸ k8 _ _ _ _ _ _ _ _ _ _ _ _ _ _ _ _ _ _ _ _ _ _ _ _ _ _ _ _ _, s11 := hT ▸ k11 _ _ _ _ _ _ _ _ _ _ _ _ _ _ _ _ _ _ _ _ _ _ _ _ _ _ _ _ _, mn := he, mn1 := rfl, c1 := kc83 _ _ _ _ _ _ _ _ _ _ _, c2 := kc1118 _ _ _ _ _ _ _ _ _ _ _ _ _ _ _ _ _ _ _ _ _ _ _ _ _ _ _ _ _, l1 := kl11 _ _ _ _ _ _ _ _ _ _ _, l2 := kl29 _ _ _ _ _ _ _ _ _ _ _ _ _ _ _ _ _ _ _ _ _ _ _ _ _ _ _ _ _, told := tk, sec := ⟨z1, y2, k1, k2, d1, d3, h1, by lia, i1, i2, s1, by lia, rfl⟩, t2n := cv, ov := rfl, day := hdy, d1 := kc32 _ _ _, d2 := kc56 _ _ _ _ _ _ _ _ _ _ _, d3 := kc1118 _ _ _ _ _ _ _ _ _ _ _ _ _ _ _ _ _ _ _ _ _ _ _ _ _ _ _ _ _, m1 := kl5 _ _ _ _ _, m2 := kl11 _ _ _ _ _ _ _ _ _ _ _, m3 := kl29 _ _ _ _ _ _ _ _ _ _ _ _ _ _ _ _ _ _ _ _ _ _ _ _ _ _ _ _ _ }, Nat.le_refl 3, by lia, by lia, by lia, Or.inr ⟨ho, ksp _ _ _ _ _⟩⟩
end MJs
noncomputable section KL3s
structure S2T (dd mm yy th tm ts ml : Str) (Y D H M S : Int) : Prop where
  ml1 : Txt.lower mm = ml
  ml2 : ml.length ≤ 100
  iy : PySem.intText? yy = some Y
  idd : PySem.intText? dd = some D
  ih : PySem.intText? th = some H
  im : PySem.intText? tm = some M
  iss : PySem.intText? ts = some S
  ddl : dd.length ≤ 100
  yyl : yy.length ≤ 100
  thl : th.length ≤ 100
  tml : tm.length ≤ 100
  tsl : ts.length ≤ 100
  hy1 : 1970 ≤ Y
  hy2 : Y ≤ 9999
  hd1 : 1 ≤ D
  hd2 : D ≤ 31
  hh1 : 0 ≤ H
  hh2 : H ≤ 24
  hm1 : 0 ≤ M
  hm2 : M ≤ 59
  hs1 : 0 ≤ S
  hs2 : S ≤ 61
def WordT (dd mm yy th tm ts : Str) (V : Int) : Prop := ∃ (ml : Str) (Y D H M S : Int) (j : Nat), S2T dd mm yy th tm ts ml Y D H M S ∧ (["jan", "feb", "mar", "apr", "may", "jun", "jul", "aug", "sep", "oct", "nov", "dec"] : List Str).idxOf ml = j ∧ j < 12 ∧ secs Y (j + 1) D H M S = V
def NumT (dd mm yy th tm ts : Str) (V : Int) : Prop := ∃ (ml : Str) (Y D H M S I : Int), S2T dd mm yy th tm ts ml Y D H M S ∧ (["jan", "feb", "mar", "apr", "may", "jun", "jul", "aug", "sep", "oct", "nov", "dec"] : List Str).any (· == ml) = false ∧ (PySem.reprText ml).length ≤ 1000 ∧ PySem.intText? mm = some I ∧ mm.length ≤ 100 ∧ 1 ≤ I ∧ I ≤ 12 ∧ secs Y I D H M S = V
def NoneT (dd mm yy th tm ts : Str) : Prop := ∃ (ml : Str) (Y D H M S I : Int), S2T dd mm yy th tm ts ml Y D H M S ∧ (["jan", "feb", "mar", "apr", "may", "jun", "jul", "aug", "sep", "oct", "nov", "dec"] : List Str).any (· == ml) = false ∧ (PySem.reprText ml).length ≤ 1000 ∧ PySem.intText? mm = some I ∧ mm.length ≤ 100 ∧ 13 ≤ I
theorem word_use (w : World) (mean : ExcName → Option Value) (mg mb : Str → Option Value) (dd mm yy th tm ts : Str) (t1 t2 t3 t4 t5 t6 t7 : Tok) (V : Int) (h : WordT dd mm yy th tm ts V) : ClaimV w mean mg mb 125 30 (fun _ => True) [.str dd t1, .str mm t2, .str yy t3, .str th t4, .str tm t5, .str ts t6, .str (Str.ofString "GMT") t7] (fun t => .int V t) := by
  obtain ⟨ml, Y, D, H, M, S, j, P, h1, h2, rfl⟩ := h
  exact s2t_word w mean mg mb dd mm yy th tm ts ml t1 t2 t3 t4 t5 t6 t7 Y D H M S P.ml1 P.ml2 P.iy P.idd P.ih P.im P.iss P.ddl P.yyl P.thl P.tml P.tsl P.hy1 P.hy2 P.hd1 P.hd2 P.hh1 P.hh2 P.hm1 P.hm2 P.hs1 P.hs2 j h1 h2 (by omega) (by omega)
theorem num_use (w : World) (mean : ExcName → Option Value) (mg mb : Str → Option Value) (dd mm yy th tm ts : Str) (t1 t2 t3 t4 t5 t6 t7 : Tok) (V : Int) (h : NumT dd mm yy th tm ts V) : ClaimT w mean mg mb 125 30 [.str dd t1, .str mm t2, .str yy t3, .str th t4, .str tm t5, .str ts t6, .str (Str.ofString "GMT") t7] (fun t => .int V t) := by
  obtain ⟨ml, Y, D, H, M, S, I, P, h1, h2, h3, h4, h5, h6, rfl⟩ := h
  exact s2t_num w mean mg mb dd mm yy th tm ts ml t1 t2 t3 t4 t5 t6 t7 Y D H M S P.ml1 P.ml2 P.iy P.idd P.ih P.im P.iss P.ddl P.yyl P.thl P.tml P.tsl P.hy1 P.hy2 P.hd1 P.hd2 P.hh1 P.hh2 P.hm1 P.hm2 P.hs1 P.hs2 I h1 h2 h3 h4 h5 h6
theorem none_use (w : World) (mean : ExcName → Option Value) (mg mb : Str → Option Value) (dd mm yy th tm ts : Str) (t1 t2 t3 t4 t5 t6 t7 : Tok) (h : NoneT dd mm yy th tm ts) : ClaimT w mean mg mb 125 30 [.str dd t1, .str mm t2, .str yy t3, .str th t4, .str tm t5, .str ts t6, .str (Str.ofString "GMT") t7] (fun _ => .none) := by
  obtain ⟨ml, Y, D, H, M, S, I, P, h1, h2, h3, h4, h5⟩ := h
  exact s2t_none w mean mg mb dd mm yy th tm ts ml t1 t2 t3 t4 t5 t6 t7 Y D H M S P.ml1 P.ml2 P.iy P.idd P.ih P.im P.iss P.ddl P.yyl P.thl P.tml P.tsl P.hy1 P.hy2 P.hd1 P.hd2 P.hh1 P.hh2 P.hm1 P.hm2 P.hs1 P.hs2 I h1 h2 h3 h4 h5
theorem fmt3T {b T : Str} {d : Int} {t u1 u2 : Tok} {x : Addr} (eT : Str.ofString ", " ++ FM.pad2 d ++ Str.ofString "-" ++ b = T) (hb : b.length ≤ 3) (d1 : 0 ≤ d) (d2 : d ≤ 99) :
    Meets (Builtin.«str.__mod__» ⟨[.str ⟨#[44,32,37,48,50,100,45,37,115]⟩ t, .ref x], []⟩) (fun _ R s => IsTup s.heap x #[.int d u1, .str b u2] ∧ ∀ t' k, R (.ok (.ret (.str T t'))) { s with toks := k }) := eT ▸ FM.fmt3 hb d1 d2
section
variable {prog : Program} {w : World} {A : Around} {E : Value → Shared → Prop} {s : Shared} {t u : Tok} {x : Str} {Q : Value → Shared → Prop}
end
/-- the texts that _str2time is handed -/
structure LawS (T mon S57 Y4 H2 M2 C2 S11 : Str) (m mo : Int) : Prop where
  s57 : Txt.slice T (some 5) (some 7) = S57
  s811 : Txt.slice T (some 8) (some 11) = mon
  s1216 : Txt.slice T (some 12) (some 16) = Y4
  s1719 : Txt.slice T (some 17) (some 19) = H2
  s2022 : Txt.slice T (some 20) (some 22) = M2
  s2325 : Txt.slice T (some 23) (some 25) = C2
  s26 : Txt.slice T (some 26) none = Str.ofString "GMT"
  s11 : Txt.slice T (some 11) none = S11
  word : WordT S57 mon Y4 H2 M2 C2 mo
  num : NumT S57 (Str.ofString (toString m)) Y4 H2 M2 C2 mo
/-- the exchange of day and month, where the day is a month's number -/
structure LawX (y m d N V2 : Int) (S11 md wt F3 E1 X : Str) : Prop where
  mn : FM.monthNames.getD (d - 1).toNat Str.empty = md
  day : lawDay (N + lawKey y d + m - lawKey y m - d) = wt
  d1 : wt ++ F3 = E1
  d2 : E1 ++ S11 = X
  m1 : E1.length ≤ 100
  m2 : X.length ≤ 100
  t2n : CivT V2 X
end KL3s
noncomputable section MKs
open PySem.NumText (AllDigits digitsVal)
theorem j57 (x0 x1 x2 x3 x4 x5 x6 x7 x8 x9 x10 x11 x12 x13 x14 x15 x16 x17 x18 x19 x20 x21 x22 x23 x24 x25 x26 x27 x28 : Nat) : Txt.slice (⟨#[x0, x1, x2, x3, x4, x5, x6, x7, x8, x9, x10, x11, x12, x13, x14, x15, x16, x17, x18, x19, x20, x21, x22, x23, x24, x25, x26, x27, x28]⟩ : Str) (some 5) (some 7) = (⟨#[x5, x6]⟩ : Str) := by kernel_rfl
theorem j811 (x0 x1 x2 x3 x4 x5 x6 x7 x8 x9 x10 x11 x12 x13 x14 x15 x16 x17 x18 x19 x20 x21 x22 x23 x24 x25 x26 x27 x28 : Nat) : Txt.slice (⟨#[x0, x1, x2, x3, x4, x5, x6, x7, x8, x9, x10, x11, x12, x13, x14, x15, x16, x17, x18, x19, x20, x21, x22, x23, x24, x25, x26, x27, x28]⟩ : Str) (some 8) (some 11) = (⟨#[x8, x9, x10]⟩ : Str) := by kernel_rfl
theorem j1216 (x0 x1 x2 x3 x4 x5 x6 x7 x8 x9 x10 x11 x12 x13 x14 x15 x16 x17 x18 x19 x20 x21 x22 x23 x24 x25 x26 x27 x28 : Nat) : Txt.slice (⟨#[x0, x1, x2, x3, x4, x5, x6, x7, x8, x9, x10, x11, x12, x13, x14, x15, x16, x17, x18, x19, x20, x21, x22, x23, x24, x25, x26, x27, x28]⟩ : Str) (some 12) (some 16) = (⟨#[x12, x13, x14, x15]⟩ : Str) := by kernel_rfl
theorem j1719 (x0 x1 x2 x3 x4 x5 x6 x7 x8 x9 x10 x11 x12 x13 x14 x15 x16 x17 x18 x19 x20 x21 x22 x23 x24 x25 x26 x27 x28 : Nat) : Txt.slice (⟨#[x0, x1, x2, x3, x4, x5, x6, x7, x8, x9, x10, x11, x12, x13, x14, x15, x16, x17, x18, x19, x20, x21, x22, x23, x24, x25, x26, x27, x28]⟩ : Str) (some 17) (some 19) = (⟨#[x17, x18]⟩ : Str) := by kernel_rfl
theorem j2022 (x0 x1 x2 x3 x4 x5 x6 x7 x8 x9 x10 x11 x12 x13 x14 x15 x16 x17 x18 x19 x20 x21 x22 x23 x24 x25 x26 x27 x28 : Nat) : Txt.slice (⟨#[x0, x1, x2, x3, x4, x5, x6, x7, x8, x9, x10, x11, x12, x13, x14, x15, x16, x17, x18, x19, x20, x21, x22, x23, x24, x25, x26, x27, x28]⟩ : Str) (some 20) (some 22) = (⟨#[x20, x21]⟩ : Str) := by kernel_rfl
theorem j2325 (x0 x1 x2 x3 x4 x5 x6 x7 x8 x9 x10 x11 x12 x13 x14 x15 x16 x17 x18 x19 x20 x21 x22 x23 x24 x25 x26 x27 x28 : Nat) : Txt.slice (⟨#[x0, x1, x2, x3, x4, x5, x6, x7, x8, x9, x10, x11, x12, x13, x14, x15, x16, x17, x18, x19, x20, x21, x22, x23, x24, x25, x26, x27, x28]⟩ : Str) (some 23) (some 25) = (⟨#[x23, x24]⟩ : Str) := by kernel_rfl
theorem j26 (x0 x1 x2 x3 x4 x5 x6 x7 x8 x9 x10 x11 x12 x13 x14 x15 x16 x17 x18 x19 x20 x21 x22 x23 x24 x25 x26 x27 x28 : Nat) : Txt.slice (⟨#[x0, x1, x2, x3, x4, x5, x6, x7, x8, x9, x10, x11, x12, x13, x14, x15, x16, x17, x18, x19, x20, x21, x22, x23, x24, x25, x26, x27, x28]⟩ : Str) (some 26) none = (⟨#[x26, x27, x28]⟩ : Str) := by kernel_rfl
theorem kc38 (x0 x1 x2 x3 x4 x5 x6 x7 x8 x9 x10 : Nat) : (⟨#[x0, x1, x2]⟩ : Str) ++ (⟨#[x3, x4, x5, x6, x7, x8, x9, x10]⟩ : Str) = (⟨#[x0, x1, x2, x3, x4, x5, x6, x7, x8, x9, x10]⟩ : Str) := by kernel_rfl
theorem kf3 (x0 x1 x2 x3 x4 : Nat) : Str.ofString ", " ++ (⟨#[x0, x1]⟩ : Str) ++ Str.ofString "-" ++ ⟨#[x2, x3, x4]⟩ = ⟨#[44, 32, x0, x1, 45, x2, x3, x4]⟩ := by rfl
theorem it2 {n : Int} (h0 : 0 ≤ n) (h1 : n ≤ 99) : PySem.intText? ⟨#[48 + n.toNat / 10, 48 + n.toNat % 10]⟩ = some n := by
  have e := PT.it (l := [48 + n.toNat / 10, 48 + n.toNat % 10]) (PT.ad2 (dig_ok (by lia)) (dig_ok (by lia))) (by simp) (by simp)
  rw [show ((digitsVal [48 + n.toNat / 10, 48 + n.toNat % 10] : Nat) : Int) = n by unfold digitsVal; simp; lia] at e
  exact e
theorem it4 {n : Int} (h0 : 0 ≤ n) (h1 : n ≤ 9999) : PySem.intText? ⟨#[48 + n.toNat / 1000, 48 + n.toNat / 100 % 10, 48 + n.toNat / 10 % 10, 48 + n.toNat % 10]⟩ = some n := by
  have hd : AllDigits [48 + n.toNat / 1000, 48 + n.toNat / 100 % 10, 48 + n.toNat / 10 % 10, 48 + n.toNat % 10] := by
    intro c hc
    simp at hc
    omega
  have e := PT.it hd (by simp) (by simp)
  rw [show ((digitsVal [48 + n.toNat / 1000, 48 + n.toNat / 100 % 10, 48 + n.toNat / 10 % 10, 48 + n.toNat % 10] : Nat) : Int) = n by unfold digitsVal; simp; omega] at e
  exact e
theorem low_mon : ∀ j < 12, (["jan", "feb", "mar", "apr", "may", "jun", "jul", "aug", "sep", "oct", "nov", "dec"] : List Str).idxOf (Txt.lower (PT.mons.getD j Str.empty)) = j ∧ (Txt.lower (PT.mons.getD j Str.empty)).length ≤ 100 := by decide +kernel
theorem low_fig : ∀ n < 100, (["jan", "feb", "mar", "apr", "may", "jun", "jul", "aug", "sep", "oct", "nov", "dec"] : List Str).any (· == Txt.lower ⟨#[48 + n / 10, 48 + n % 10]⟩) = false ∧ (PySem.reprText (Txt.lower ⟨#[48 + n / 10, 48 + n % 10]⟩)).length ≤ 1000 ∧ (Txt.lower ⟨#[48 + n / 10, 48 + n % 10]⟩).length ≤ 100 := by decide +kernel
theorem low_num {m : Int} (h1 : 1 ≤ m) (h2 : m ≤ 12) : (["jan", "feb", "mar", "apr", "may", "jun", "jul", "aug", "sep", "oct", "nov", "dec"] : List Str).any (· == Txt.lower (Str.ofString (toString m))) = false ∧ (PySem.reprText (Txt.lower (Str.ofString (toString m)))).length ≤ 1000 ∧ (Txt.lower (Str.ofString (toString m))).length ≤ 100 ∧ PySem.intText? (Str.ofString (toString m)) = some m ∧ (Str.ofString (toString m)).length ≤ 100 := by
  rcases cases12 h1 h2 with e | e | e | e | e | e | e | e | e | e | e | e <;> subst e <;> decide +kernel
theorem swap_day {y m d N : Int} (m1 : 1 ≤ m) (m2 : m ≤ 12) (k1 : 1 ≤ d) (k2 : d ≤ 12) (hN : ymdOrd y m d = N) : lawDay (N + lawKey y d + m - lawKey y m - d) = lawDay (ymdOrd y d m) := by
  have e1 := lawKey_mod (y := y) k1 k2
  have e2 := lawKey_mod (y := y) m1 m2
  refine lawDay_mod ?_
  subst hN
  unfold ymdOrd
  lia
theorem lg2 (a b : Nat) : (⟨#[a, b]⟩ : Str).length ≤ 100 := Nat.le_of_ble_eq_true rfl
theorem lg4 (a b c d : Nat) : (⟨#[a, b, c, d]⟩ : Str).length ≤ 100 := Nat.le_of_ble_eq_true rfl
theorem LawF.rest_ok {tot mo N q0 q1 q2 y m d h mi s r c0 c c1 : Int} {T wd mon S12 S14 T2 : Str} (LF : LawF tot mo N q0 q1 q2 y m d h mi s r c0 c c1 T wd mon S12 S14 T2) :
    ∃ (S57 Y4 H2 M2 C2 S11 : Str), LawS T mon S57 Y4 H2 M2 C2 S11 m mo ∧ 0 ≤ m ∧ m ≤ 99 ∧ m < 10 ^ 10 ∧ ((12 < d ∧ NoneT (Str.ofString (toString m)) S57 Y4 H2 M2 C2) ∨ (¬ 12 < d ∧ d ≤ 12 ∧ ∃ (V2 : Int) (md wt F3 E1 X : Str), NumT (Str.ofString (toString m)) S57 Y4 H2 M2 C2 V2 ∧ LawX y m d N V2 S11 md wt F3 E1 X ∧ md.length ≤ 3 ∧ Str.ofString ", " ++ FM.pad2 m ++ Str.ofString "-" ++ md = F3)) := by
  obtain ⟨_, y2, m1, m2, d1, d2, hN⟩ := LF.ord
  obtain ⟨z1, _, _, _, _, d3, h1, _, i1, i2, s1, _, hV⟩ := LF.sec
  have h2 : h ≤ 23 := by have := LF.eh; rw [fm _ _ (by decide)] at this; lia
  have s2 : s ≤ 59 := by have := LF.es; rw [fm _ _ (by decide)] at this; lia
  obtain ⟨a1, a2, a3, hwd, l1, l2, l3⟩ := wk_signs N
  obtain ⟨b1, b2, b3, hb⟩ := mon_signs (m - 1).toNat (by lia)
  have hmn : mon = ⟨#[b1, b2, b3]⟩ := LF.mn.symm.trans hb
  have hwn : wd = ⟨#[a1, a2, a3]⟩ := LF.day.symm.trans hwd
  have hT : T = ⟨#[a1, a2, a3, 44, 32, 48 + (d).toNat / 10, 48 + (d).toNat % 10, 45, b1, b2, b3, 45, 48 + y.toNat / 1000, 48 + y.toNat / 100 % 10, 48 + y.toNat / 10 % 10, 48 + y.toNat % 10, 32, 48 + h.toNat / 10, 48 + h.toNat % 10, 58, 48 + mi.toNat / 10, 48 + mi.toNat % 10, 58, 48 + s.toNat / 10, 48 + s.toNat % 10, 32, 71, 77, 84]⟩ := by rw [← LF.fmt, hmn, hwn]; exact stamp_sg
  have hg : Str.ofString "GMT" = ⟨#[71, 77, 84]⟩ := by decide
  obtain ⟨n1, n2, n3, n4, n5⟩ := low_num m1 m2
  obtain ⟨o1, o2⟩ := low_mon (m - 1).toNat (by lia)
  obtain ⟨g1, g2, g3⟩ := low_fig d.toNat (by lia)
  rw [hb, ← hmn] at o1 o2
  have lm : mon.length ≤ 100 := by rw [hmn]; exact Nat.le_of_ble_eq_true rfl
  have hm10 : m < 10 ^ 10 := Int.lt_of_le_of_lt m2 (by decide)
  have word : WordT ⟨#[48 + (d).toNat / 10, 48 + (d).toNat % 10]⟩ mon ⟨#[48 + y.toNat / 1000, 48 + y.toNat / 100 % 10, 48 + y.toNat / 10 % 10, 48 + y.toNat % 10]⟩ ⟨#[48 + h.toNat / 10, 48 + h.toNat % 10]⟩ ⟨#[48 + mi.toNat / 10, 48 + mi.toNat % 10]⟩ ⟨#[48 + s.toNat / 10, 48 + s.toNat % 10]⟩ mo := ⟨Txt.lower mon, y, d, h, mi, s, (m - 1).toNat, { ml1 := rfl, ml2 := o2, iy := it4 (by lia) y2, idd := it2 (by lia) (by lia), ih := it2 h1 (by lia), im := it2 i1 (by lia), iss := it2 s1 (by lia), ddl := lg2 _ _, yyl := lg4 _ _ _ _, thl := lg2 _ _, tml := lg2 _ _, tsl := lg2 _ _, hy1 := z1, hy2 := y2, hd1 := d1, hd2 := d3, hh1 := h1, hh2 := by lia, hm1 := i1, hm2 := i2, hs1 := s1, hs2 := by lia }, o1, by lia, by rw [show (((m - 1).toNat : Nat) : Int) + 1 = m by lia]; exact hV⟩
  have num : NumT ⟨#[48 + (d).toNat / 10, 48 + (d).toNat % 10]⟩ (Str.ofString (toString m)) ⟨#[48 + y.toNat / 1000, 48 + y.toNat / 100 % 10, 48 + y.toNat / 10 % 10, 48 + y.toNat % 10]⟩ ⟨#[48 + h.toNat / 10, 48 + h.toNat % 10]⟩ ⟨#[48 + mi.toNat / 10, 48 + mi.toNat % 10]⟩ ⟨#[48 + s.toNat / 10, 48 + s.toNat % 10]⟩ mo := ⟨Txt.lower (Str.ofString (toString m)), y, d, h, mi, s, m, { ml1 := rfl, ml2 := n3, iy := it4 (by lia) y2, idd := it2 (by lia) (by lia), ih := it2 h1 (by lia), im := it2 i1 (by lia), iss := it2 s1 (by lia), ddl := lg2 _ _, yyl := lg4 _ _ _ _, thl := lg2 _ _, tml := lg2 _ _, tsl := lg2 _ _, hy1 := z1, hy2 := y2, hd1 := d1, hd2 := d3, hh1 := h1, hh2 := by lia, hm1 := i1, hm2 := i2, hs1 := s1, hs2 := by lia }, n1, n2, n4, n5, m1, m2, hV⟩
  refine ⟨⟨#[48 + (d).toNat / 10, 48 + (d).toNat % 10]⟩, ⟨#[48 + y.toNat / 1000, 48 + y.toNat / 100 % 10, 48 + y.toNat / 10 % 10, 48 + y.toNat % 10]⟩, ⟨#[48 + h.toNat / 10, 48 + h.toNat % 10]⟩, ⟨#[48 + mi.toNat / 10, 48 + mi.toNat % 10]⟩, ⟨#[48 + s.toNat / 10, 48 + s.toNat % 10]⟩, ⟨#[45, 48 + y.toNat / 1000, 48 + y.toNat / 100 % 10, 48 + y.toNat / 10 % 10, 48 + y.toNat % 10, 32, 48 + h.toNat / 10, 48 + h.toNat % 10, 58, 48 + mi.toNat / 10, 48 + mi.toNat % 10, 58, 48 + s.toNat / 10, 48 + s.toNat % 10, 32, 71, 77, 84]⟩, { s57 := hT ▸ j57 _ _ _ _ _ _ _ _ _ _ _ _ _ _ _ _ _ _ _ _ _ _ _ _ _ _ _ _ _, s811 := by rw [hT, hmn]; exact j811 _ _ _ _ _ _ _ _ _ _ _ _ _ _ _ _ _ _ _ _ _ _ _ _ _ _ _ _ _, s1216 := hT ▸ j1216 _ _ _ _ _ _ _ _ _ _ _ _ _ _ _ _ _ _ _ _ _ _ _ _ _ _ _ _ _, s1719 := hT ▸ j1719 _ _ _ _ _ _ _ _ _ _ _ _ _ _ _ _ _ _ _ _ _ _ _ _ _ _ _ _ _, s2022 := hT ▸ j2022 _ _ _ _ _ _ _ _ _ _ _ _ _ _ _ _ _ _ _ _ _ _ _ _ _ _ _ _ _, s2325 := hT ▸ j2325 _ _ _ _ _ _ _ _ _ _ _ _ _ _ _ _ _ _ _ _ _ _ _ _ _ _ _ _ _, s26 := by rw [hT, hg]; exact j26 _ _ _ _ _ _ _ _ _ _ _ _ _ _ _ _ _ _ _ _ _ _ _ _ _ _ _ _ _, s11 := hT ▸ k11 _ _ _ _ _ _ _ _ _ _ _ _ _ _ _ _ _ _ _ _ _ _ _ _ _ _ _ _ _, word := word, num := num }, by lia, by lia, hm10, ?_⟩
  by_cases h12 : 12 < d
  · refine Or.inl ⟨h12, Txt.lower ⟨#[48 + (d).toNat / 10, 48 + (d).toNat % 10]⟩, y, m, h, mi, s, d, { ml1 := rfl, ml2 := g3, iy := it4 (by lia) y2, idd := n4, ih := it2 h1 (by lia), im := it2 i1 (by lia), iss := it2 s1 (by lia), ddl := n5, yyl := lg4 _ _ _ _, thl := lg2 _ _, tml := lg2 _ _, tsl := lg2 _ _, hy1 := z1, hy2 := y2, hd1 := m1, hd2 := by lia, hh1 := h1, hh2 := by lia, hm1 := i1, hm2 := i2, hs1 := s1, hs2 := by lia }, g1, g2, it2 (by lia) (by lia), lg2 _ _, by lia⟩
  · obtain ⟨e1, e2, e3, he⟩ := mon_signs (d - 1).toNat (by lia)
    have he' : FM.monthNames.getD (d - 1).toNat Str.empty = ⟨#[e1, e2, e3]⟩ := he
    obtain ⟨w1, w2, w3, hw, _, _, _⟩ := wk_signs (ymdOrd y d m)
    have hdy : lawDay (N + lawKey y d + m - lawKey y m - d) = ⟨#[w1, w2, w3]⟩ := (swap_day m1 m2 d1 (by lia) hN).trans hw
    have hdim := dim_le (y := y) d1 (by lia : d ≤ 12)
    have cv := civ_of (m := d) (d := m) z1 y2 d1 (by lia) m1 (by lia) h1 h2 i1 i2 s1 s2
    rw [he', hw, stamp_sg, ← secs_of d1 (by lia)] at cv
    refine Or.inr ⟨h12, by lia, secs y d m h mi s, ⟨#[e1, e2, e3]⟩, ⟨#[w1, w2, w3]⟩, ⟨#[44, 32, 48 + (m).toNat / 10, 48 + (m).toNat % 10, 45, e1, e2, e3]⟩, ⟨#[w1, w2, w3, 44, 32, 48 + (m).toNat / 10, 48 + (m).toNat % 10, 45, e1, e2, e3]⟩, ⟨#[w1, w2, w3, 44, 32, 48 + (m).toNat / 10, 48 + (m).toNat % 10, 45, e1, e2, e3, 45, 48 + y.toNat / 1000, 48 + y.toNat / 100 % 10, 48 + y.toNat / 10 % 10, 48 + y.toNat % 10, 32, 48 + h.toNat / 10, 48 + h.toNat % 10, 58, 48 + mi.toNat / 10, 48 + mi.toNat % 10, 58, 48 + s.toNat / 10, 48 + s.toNat % 10, 32, 71, 77, 84]⟩, ⟨Txt.lower ⟨#[48 + (d).toNat / 10, 48 + (d).toNat % 10]⟩, y, m, h, mi, s, d, { ml1 := rfl, ml2 := g3, iy := it4 (by lia) y2, idd := n4, ih := it2 h1 (by lia), im := it2 i1 (by lia), iss := it2 s1 (by lia), ddl := n5, yyl := lg4 _ _ _ _, thl := lg2 _ _, tml := lg2 _ _, tsl := lg2 _ _, hy1 := z1, hy2 := y2, hd1 := m1, hd2 := by lia, hh1 := h1, hh2 := by lia, hm1 := i1, hm2 := i2, hs1 := s1, hs2 := by lia }, g1, g2, it2 (by lia) (by lia), lg2 _ _, d1, by lia, rfl⟩, { mn := he', day := hdy, d1 := kc38 _ _ _ _ _ _ _ _ _ _ _, d2 := kc1118 _ _ _ _ _ _ _ _ _ _ _ _ _ _ _ _ _ _ _ _ _ _ _ _ _ _ _ _ _, m1 := kl11 _ _ _ _ _ _ _ _ _ _ _, m2 := kl29 _ _ _ _ _ _ _ _ _ _ _ _ _ _ _ _ _ _ _ _ _ _ _ _ _ _ _ _ _, t2n := cv }, Nat.le_refl 3, kf3 _ _ _ _ _⟩
/-- what the text of a turn says of the day: both ways -/
structure TurnC (ov k d : Int) (mk mk1 sp : Str) : Prop where
  mkl : mk.length ≤ 3
  d0 : 0 ≤ d
  d9 : d ≤ 99
  k0 : 0 ≤ k
  yes : 0 < ov → ov ≤ 99 ∧ 0 ≤ ov ∧ k < 12 ∧ mk1.length ≤ 3 ∧ FM.pad2 ov ++ Str.ofString "-" ++ mk1 = sp
  no : ¬ 0 < ov → FM.pad2 d ++ Str.ofString "-" ++ mk = sp
theorem LawF.turnC {tot mo N q0 q1 q2 y m d h mi s r c0 c c1 k : Int} {T wd mon S12 S14 T2 : Str} (LF : LawF tot mo N q0 q1 q2 y m d h mi s r c0 c c1 T wd mon S12 S14 T2) (k1 : 1 ≤ k) (k2 : k ≤ 12) :
    ∃ (V ov : Int) (S8 S11 mk mk1 A1 Tk wk D1 D2 sp Td : Str), TurnF y m d h mi s N k V ov T S8 S11 mk mk1 A1 Tk wk D1 D2 sp Td ∧ TurnC ov k d mk mk1 sp := by
  obtain ⟨V, ov, S8, S11, mk, mk1, A1, Tk, wk, D1, D2, sp, Td, TF, a1, a2, a3, a4, ho⟩ := LF.turn_ok k1 k2
  refine ⟨V, ov, S8, S11, mk, mk1, A1, Tk, wk, D1, D2, sp, Td, TF, a1, a2, a3, a4, fun h => ?_, fun h => ?_⟩
  · rcases ho with ⟨_, b1, b2, b3, b4, b5⟩ | ⟨b, _⟩
    · exact ⟨b1, b2, b3, b4, b5⟩
    · exact absurd h b
  · rcases ho with ⟨b, _⟩ | ⟨_, b⟩
    · exact absurd b h
    · exact b
end MKs
noncomputable section EWs
section
variable {C : EC} {En : Env} {K : Kn} {V : Sh} {e l r : Expr} {pos : Pos} {x y z : Str} {a b n : Int} {xs ys : List Int} {room : Nat}
theorem ev_cat (h1 : EvG C En K l (.str x)) (h2 : EvG C En K r (.str y)) (he : x ++ y = z) (hl : z.length ≤ 100) : EvG C En K (.BinOp l .Add r pos) (.str z) :=
  ev_bin h1 h2 fun E Q s u v ne ⟨t, hu⟩ ⟨t', hv⟩ k => by subst hu; subst hv; exact cat_known he hl fun t' j => k _ j ⟨_, rfl⟩
theorem tr_neS (h1 : EvG C En K l (.str x)) (h2 : EvG C En K r (.str x)) (hm : behindInMarks .NotEq r = false) : TrG C En K (.Compare l [.NotEq] [r] pos) false := by
  intro E Q s m ne hK F N k
  refine wpAny_isTrue_Compare1 (h1 E _ s m ne hK F N fun u h1' k1 ne1 x1 hu F1 N1 => ?_) hm
  refine h2 E _ _ m ne1 (Kn.more hK x1) F1 N1 fun v h2' k2 ne2 x2 hv F2 N2 => ?_
  obtain ⟨t, rfl⟩ := hu
  obtain ⟨t', rfl⟩ := hv
  exact ne_str_same (wpAny_truthy_bool (k _ _ _ (x1.trans x2) F2 N2))
theorem ev_sl {lo hi : Option Expr} {p : Pos} (h : EvG C En K e (.str x)) (hl : x.length ≤ 100)
    (hsl : ∀ (E Q : Value → Shared → Prop) (s : Shared) (m : Str → Option Value) (ne : List (Addr × Obj)) (t : Tok), K.is m ne → Fr C.h₀ C.L s.heap m → News C.h₀ C.L s.heap ne →
      (∀ h' k ne' t', Ext ne ne' → Fr C.h₀ C.L h' m → News C.h₀ C.L h' ne' → Q (.str y t') { s with heap := h', toks := k }) →
      wpAny (model PG C.w) C.A (eval (.Slice lo hi none p) En) (fun i s₂ => wpAny (model PG C.w) C.A (subscriptTail e (.Slice lo hi none p) (.str x t) i) Q E s₂) E s) :
    EvG C En K (.Subscript e (.Slice lo hi none p) pos) (.str y) := by
  intro E Q s m ne hK F N k
  refine Subscript_ (h E _ s m ne hK F N fun v h' k' ne1 x1 ⟨t, hv⟩ F1 N1 => ?_)
  subst hv
  exact hsl E Q _ m ne1 t (Kn.more hK x1) F1 N1 fun h'' k'' ne2 t' x2 F2 N2 => k _ _ _ _ (x1.trans x2) ⟨_, rfl⟩ F2 N2
theorem ev_slN {hi : Expr} {j : Int} {p : Pos} (h : EvG C En K e (.str x)) (h2 : EvG C En K hi (.int j)) (he : Txt.slice x none (some j) = y) (hl : x.length ≤ 100)
    (hs : ∀ t c, subscripted (.Slice none (some hi) none p) false (.str x t) (.ref c) = operate [.ref c, .str x t] (getItem (.str x t) (.ref c))) (ht : ∀ t r, letTemporaryGo e (.str x t) r = pure ()) :
    EvG C En K (.Subscript e (.Slice none (some hi) none p) pos) (.str y) :=
  ev_sl h hl fun E Q s m ne t hK F N k => wpAny_Slice (evalPart_none_step (evalPart_some_step (h2 E _ s m ne hK F N fun v h' k' ne1 x1 ⟨u, hv⟩ F1 N1 => by
    subst hv
    exact evalPart_none_step (sl_ns he hl F1 N1 (fun h'' t' k'' F2 N2 => k h'' k'' ne1 t' x1 F2 N2) (hs _ _) (ht _)))))
theorem ev_slS {lo : Expr} {j : Int} {p : Pos} (h : EvG C En K e (.str x)) (h2 : EvG C En K lo (.int j)) (he : Txt.slice x (some j) none = y) (hl : x.length ≤ 100)
    (hs : ∀ t c, subscripted (.Slice (some lo) none none p) false (.str x t) (.ref c) = operate [.ref c, .str x t] (getItem (.str x t) (.ref c))) (ht : ∀ t r, letTemporaryGo e (.str x t) r = pure ()) :
    EvG C En K (.Subscript e (.Slice (some lo) none none p) pos) (.str y) :=
  ev_sl h hl fun E Q s m ne t hK F N k => wpAny_Slice (evalPart_some_step (h2 E _ s m ne hK F N fun v h' k' ne1 x1 ⟨u, hv⟩ F1 N1 => by
    subst hv
    exact evalPart_none_step (evalPart_none_step (sl_sn he hl F1 N1 (fun h'' t' k'' F2 N2 => k h'' k'' ne1 t' x1 F2 N2) (hs _ _) (ht _)))))
theorem ev_slSS {lo hi : Expr} {i j : Int} {p : Pos} (h : EvG C En K e (.str x)) (h2 : EvG C En K lo (.int i)) (h3 : EvG C En K hi (.int j)) (he : Txt.slice x (some i) (some j) = y) (hl : x.length ≤ 100)
    (hs : ∀ t c, subscripted (.Slice (some lo) (some hi) none p) false (.str x t) (.ref c) = operate [.ref c, .str x t] (getItem (.str x t) (.ref c))) (ht : ∀ t r, letTemporaryGo e (.str x t) r = pure ()) :
    EvG C En K (.Subscript e (.Slice (some lo) (some hi) none p) pos) (.str y) :=
  ev_sl h hl fun E Q s m ne t hK F N k => wpAny_Slice (evalPart_some_step (h2 E _ s m ne hK F N fun v h' k' ne1 x1 ⟨u, hv⟩ F1 N1 => by
    subst hv
    exact evalPart_some_step (h3 E _ _ m ne1 (Kn.more hK x1) F1 N1 fun v h'' k'' ne2 x2 ⟨u', hv'⟩ F2 N2 => by
      subst hv'
      exact evalPart_none_step (sl_ss he hl F2 N2 (fun h3' t' k3 F3 N3 => k h3' k3 ne2 t' (x1.trans x2) F3 N3) (hs _ _) (ht _)))))
/-- a tuple of numbers -/
theorem ints_all : ∀ {ls : List Int} {vs : List Value} {ne : List (Addr × Obj)}, IsAll (ls.map .int) vs ne → IntsAre vs ls
  | [], _, _, h => by cases h; exact .nil
  | n :: ls, _, _, ⟨v, ws, e, ⟨t, hv⟩, hr⟩ => by subst e; subst hv; exact .cons n t (ints_all hr)
theorem ev_tup {es : List Expr} {j : Nat} (h : EvsG C En K es (xs.map .int)) (hl : xs.length ≤ 1000) : EvG C En K (.Tuple es j pos) (.tup xs) := by
  intro E Q s m ne hK F N k
  refine Tuple_ (h E _ s m ne pos hK F N fun vs h' k' ne1 x1 hvs F1 N1 => ?_)
  have hi := ints_all hvs
  refine kup_newTuple F1 N1 (fun D h'' F2 N2 l2 => ?_) (by rw [PySem.sizeLine_eq, hi.length]; lia)
  exact k _ h'' _ _ (x1.trans Ext.cons) ⟨D, vs, rfl, List.mem_cons_self .., hi⟩ F2 N2
theorem ints_append : ∀ {vs ws : List Value} {ns ms : List Int}, IntsAre vs ns → IntsAre ws ms → IntsAre (vs ++ ws) (ns ++ ms)
  | _, _, _, _, .nil, h => h
  | _, _, _, _, .cons n t g, h => .cons n t (ints_append g h)
theorem ev_catT (h1 : EvG C En K l (.tup xs)) (h2 : EvG C En K r (.tup ys)) (hx : xs ≠ []) (hy : ys ≠ []) (hl : xs.length + ys.length ≤ 1000) : EvG C En K (.BinOp l .Add r pos) (.tup (xs ++ ys)) := by
  intro E Q s m ne hK F N k
  refine wpAny_BinOp (h1 E _ s m ne hK F N fun u h1' k1 ne1 x1 hu F1 N1 => ?_)
  refine h2 E _ _ m ne1 (Kn.more hK x1) F1 N1 fun v h2' k2 ne2 x2 hv F2 N2 => ?_
  obtain ⟨a, vs, rfl, ha, hi⟩ := hu
  obtain ⟨b, ws, rfl, hb, hj⟩ := hv
  have e1 := hi.length
  have e2 := hj.length
  refine kde_addT F2 N2 (News.isTup N2 (x2 _ ha)) (News.isTup N2 hb) (fun h => hx ?_) (fun h => hy ?_) (by simpa [e1, e2] using (by lia : xs.length + ys.length ≤ 16384)) rfl fun D h' F3 N3 l3 => ?_
  · exact List.length_eq_zero_iff.mp (by rw [← e1]; exact List.length_eq_zero_iff.mpr h)
  · exact List.length_eq_zero_iff.mp (by rw [← e2]; exact List.length_eq_zero_iff.mpr h)
  · exact k _ h' _ _ ((x1.trans x2).trans Ext.cons) ⟨D, vs ++ ws, rfl, List.mem_cons_self .., ints_append hi hj⟩ F3 N3
theorem lay_ints : ∀ ls : List Int, PyData.canLayAll0 (ls.map .int) = true
  | [] => by simp [PyData.canLayAll0]
  | n :: ls => by
    have := lay_ints ls
    simp [PyData.canLayAll0, PyData.canLay0, this]
theorem depth_ints : ∀ ls : List Int, PyData.depthAll (ls.map .int) ≤ 1
  | [] => by simp [PyData.depthAll]
  | n :: ls => by
    have := depth_ints ls
    simp only [List.map_cons, PyData.depthAll, PyData.depth]
    lia
theorem lay_tup (ls : List Int) : (PyData.tuple (ls.map .int)).canLay0 = true := by
  have := lay_ints ls
  simp [PyData.canLay0, this]
theorem shape_tup (ls : List Int) : SeqAt.shaped (PyData.tuple (ls.map .int)) = true := by
  have h := depth_ints ls
  unfold SeqAt.shaped
  rw [lay_tup]
  simp only [PyData.depth, Bool.true_and]
  exact decide_eq_true (by lia)
theorem eqv_ints (ls : List Int) : PyData.eqv (.tuple (ls.map .int)) (.tuple (ls.map .int)) = true := SeqAt.eqv_refl _ (lay_tup ls)
theorem tr_neT (hok : OkC C room) (hr : 9 ≤ room) (h1 : EvG C En K l (.tup xs)) (h2 : EvG C En K r (.tup xs)) (hm : behindInMarks .NotEq r = false) : TrG C En K (.Compare l [.NotEq] [r] pos) false := by
  intro E Q s m ne hK F N k
  have hu9 := hok.u
  refine wpAny_isTrue_Compare1 (h1 E _ s m ne hK F N fun u h1' k1 ne1 x1 hu F1 N1 => ?_) hm
  refine h2 E _ _ m ne1 (Kn.more hK x1) F1 N1 fun v h2' k2 ne2 x2 hv F2 N2 => ?_
  obtain ⟨a, vs, rfl, ha, hi⟩ := hu
  obtain ⟨b, ws, rfl, hb, hj⟩ := hv
  refine ne_dataH (Reads.tuple (N2 _ (x2 _ ha)).1 rfl rfl (hi.reads _)) (Reads.tuple (N2 _ hb).1 rfl rfl (hj.reads _)) ?_ ?_ (by show C.un + 64 < cLine; lia) ?_
  · exact shape_tup xs
  · exact shape_tup xs
  · rw [eqv_ints]
    exact wpAny_truthy_bool (k _ _ _ (x1.trans x2) F2 N2)
/-- an item of a tuple of numbers -/
theorem ints_get : ∀ {vs : List Value} {ns : List Int} {j : Nat} {n : Int}, IntsAre vs ns → ns[j]? = some n → ∃ t, vs[j]? = some (.int n t)
  | _, _, j, _, .nil, h => by simp at h
  | _, _, 0, _, .cons n t g, h => by simp only [List.getElem?_cons_zero, Option.some.injEq] at h; subst h; exact ⟨t, rfl⟩
  | _, _, j + 1, _, .cons n t g, h => by simp only [List.getElem?_cons_succ] at h ⊢; exact ints_get g h
theorem ev_item {i : Expr} {j : Nat} (h1 : EvG C En K e (.tup xs)) (h2 : EvG C En K i (.int (j : Int))) (hj : xs[j]? = some n) (hb : xs.length ≤ 1000)
    (hs : ∀ c u, subscripted i false (.ref c) (.int (j : Int) u) = operate [.ref c, .int (j : Int) u] (getItem (.ref c) (.int (j : Int) u))) (ht : ∀ c r, letTemporaryGo e (.ref c) r = pure ()) : EvG C En K (.Subscript e i pos) (.int n) := by
  intro E Q s m ne hK F N k
  refine Subscript_ (h1 E _ s m ne hK F N fun u h1' k1 ne1 x1 hu F1 N1 => ?_)
  refine h2 E _ _ m ne1 (Kn.more hK x1) F1 N1 fun v h2' k2 ne2 x2 ⟨t, hv⟩ F2 N2 => ?_
  subst hv
  obtain ⟨a, vs, rfl, ha, hi⟩ := hu
  obtain ⟨t', ht'⟩ := ints_get hi hj
  have hlt : j < xs.length := (List.getElem?_eq_some_iff.mp hj).1
  exact kim_tup N2 (x2 _ ha) rfl rfl (by lia) (by lia) (by rw [hi.length]; unfold seqIndex?; simp; lia) ht' (k _ _ _ _ (x1.trans x2) ⟨_, rfl⟩ F2 N2) (hs _ _) (ht _)
end

section
variable {C : EC} {En : Env} {K : Kn} {V : Sh} {e l r : Expr} {pos : Pos} {x y z : Str} {a b n : Int} {xs ys : List Int} {room : Nat} {m : Str → Option Value} {news : List (Addr × Obj)} {t : Tok} {c : Addr}
theorem ct_t2n {T : Str} (hok : OkC C room) (hr : 12 ≤ room) (h : CivT n T) : CallT C (.ref 91) [.int n] (.str T) :=
  callV (pre := fun _ => True) hok hr fun vs ne hv => by
    obtain ⟨_, _, e0, ⟨t0, f0⟩, en⟩ := hv
    subst en; subst e0; subst f0
    exact ⟨_, t2n_use _ _ _ _ n T t0 h, trivial, fun t' ne' => ⟨t', rfl⟩⟩
theorem ct_day {X : Str} (hok : OkC C room) (hr : 1 ≤ room) (h : lawDay n = X) : CallT C (.ref 222) [.int n] (.str X) :=
  callV (pre := fun _ => True) hok hr fun vs ne hv => by
    obtain ⟨_, _, e0, ⟨t0, f0⟩, en⟩ := hv
    subst en; subst e0; subst f0
    exact ⟨_, law_day_use _ _ _ _ n X t0 h, trivial, fun t' ne' => ⟨t', rfl⟩⟩
theorem ct_tg {Y M D H Mi S W : Int} (hok : OkC C room) (hr : 16 ≤ room) (h : SecT Y M D H Mi S W) : CallT C (.ref 76) [.tup [Y, M, D, H, Mi, S, 0, 1, -1]] (.int W) := by
  intro E Q vs s m news hvs F N k
  obtain ⟨_, _, e0, ⟨a, ws, f0, hm, hi⟩, en⟩ := hvs
  subst en; subst e0; subst f0
  cases hi with | cons _ t1 hi => cases hi with | cons _ t2 hi => cases hi with | cons _ t3 hi => cases hi with | cons _ t4 hi => cases hi with | cons _ t5 hi => cases hi with | cons _ t6 hi => cases hi with | cons _ t7 hi => cases hi with | cons _ t8 hi => cases hi with | cons _ t9 hi => cases hi with | nil =>
  have h1 := hok.d
  have h2 := hok.u
  exact (tg_use C.w C.mean C.mg C.mb a _ (by with_unfolding_all exact Nat.le_of_ble_eq_true rfl) Y M D H Mi S t1 t2 t3 t4 t5 t6 (by with_unfolding_all rfl) W h).use hok.below F hok.hin N hok.top hok.kind hm (by lia) (by lia) fun t h' tk F' N' => k _ h' tk news Ext.refl ⟨t, rfl⟩ F' N'
theorem ct_pd {T : Str} {Y M D H Mi S : Int} (hok : OkC C room) (hr : 20 ≤ room) (h : ToldT T Y M D H Mi S) : CallT C (.ref 149) [.str T] (.tup [Y, M, D, H, Mi, S, 0, 1, -1]) := by
  intro E Q vs s m news hvs F N k
  obtain ⟨_, _, e0, ⟨t0, f0⟩, en⟩ := hvs
  subst en; subst e0; subst f0
  have h1 := hok.d
  have h2 := hok.u
  exact (pd_use C.w C.mean C.mg C.mb T t0 Y M D H Mi S h).use hok.below F hok.hin N hok.top hok.kind trivial (by lia) (by lia) fun τ a h' tk F' N' _ => k _ h' tk _ Ext.cons ⟨a, _, rfl, List.mem_cons_self .., .cons _ _ (.cons _ _ (.cons _ _ (.cons _ _ (.cons _ _ (.cons _ _ (.cons _ _ (.cons _ _ (.cons _ _ .nil))))))))⟩ F' N'
theorem ct_ord {Y M D W : Int} (hok : OkC C room) (hr : 4 ≤ room) (h : OrdT Y M D W) : CallT C (.ref 201) [.int W] (.tup [Y, M, D]) := by
  intro E Q vs s m news hvs F N k
  obtain ⟨_, _, e0, ⟨t0, f0⟩, en⟩ := hvs
  subst en; subst e0; subst f0
  have h1 := hok.d
  have h2 := hok.u
  exact (o2y_use C.w C.mean C.mg C.mb Y M D W t0 h).use hok.below F hok.hin N hok.top hok.kind trivial (by lia) (by lia) fun τ a h' tk F' N' _ => k _ h' tk _ Ext.cons ⟨a, _, rfl, List.mem_cons_self .., .cons _ _ (.cons _ _ (.cons _ _ .nil))⟩ F' N'
theorem ct_num {Y M D W : Int} (hok : OkC C room) (hr : 4 ≤ room) (h : OrdT Y M D W) : CallT C (.ref 191) [.int Y, .int M, .int D] (.int W) :=
  callV (pre := fun _ => True) hok hr fun vs ne hv => by
    obtain ⟨_, _, e0, ⟨t0, f0⟩, _, _, e1, ⟨t1, f1⟩, _, _, e2, ⟨t2, f2⟩, en⟩ := hv
    subst en; subst e2; subst f2; subst e1; subst f1; subst e0; subst f0
    exact ⟨_, ymd_use _ _ _ _ Y M D W t0 t1 t2 h, trivial, fun t' ne' => ⟨t', rfl⟩⟩
theorem ints_isInt : ∀ {vs : List Value} {ns : List Int}, IntsAre vs ns → vs.all isIntV = true
  | _, _, .nil => rfl
  | _, _, .cons n t h => by simp [isIntV, ints_isInt h]
theorem ct_plain (hok : OkC C room) (hr : 12 ≤ room) (hl : xs.length ≤ 100) : CallT C (.ref 234) [.tup xs] (.bool true) := by
  intro E Q vs s m news hvs F N k
  obtain ⟨_, _, e0, ⟨a, ws, f0, hm, hi⟩, en⟩ := hvs
  subst en; subst e0; subst f0
  have h1 := hok.d
  have h2 := hok.u
  exact (plain_use C.w C.mean C.mg C.mb a ws 0 (ints_isInt hi) (by rw [hi.length]; exact hl)).use hok.below F hok.hin N hok.top hok.kind hm (by lia) (by lia) fun t h' tk F' N' => k _ h' tk news Ext.refl rfl F' N'
/-- the date's format -/
theorem ev_fmt7 {es : List Expr} {j : Nat} {tp fp : Pos} {A B T : Str} {d y h mi sec : Int} {fk : Nat} (he : EvsG C En K es [.str A, .int d, .str B, .int y, .int h, .int mi, .int sec]) (eT : FM.stampText A B d y h mi sec = T) (ha : A.length ≤ 3) (hb : B.length ≤ 3) (d1 : 1 ≤ d) (d2 : d ≤ 31) (y1 : 1000 ≤ y) (y2 : y ≤ 9999) (h1 : 0 ≤ h) (h2 : h ≤ 23) (i1 : 0 ≤ mi) (i2 : mi ≤ 59) (s1 : 0 ≤ sec) (s2 : sec ≤ 59) :
    EvG C En K (.BinOp (.Constant (.str "%s, %02d-%s-%04d %02d:%02d:%02d GMT") fk fp) .Mod (.Tuple es j tp) pos) (.str T) := by
  intro E Q s m ne hK F N k
  refine wpAny_BinOp (PySem.Calls.Constant_str (Tuple_ (he E _ _ m ne tp hK F N fun vs h' k' ne1 x1 hvs F1 N1 => ?_)))
  obtain ⟨_, _, e0, ⟨t0, f0⟩, _, _, e1, ⟨t1, f1⟩, _, _, e2, ⟨t2, f2⟩, _, _, e3, ⟨t3, f3⟩, _, _, e4, ⟨t4, f4⟩, _, _, e5, ⟨t5, f5⟩, _, _, e6, ⟨t6, f6⟩, en⟩ := hvs
  subst en; subst e6; subst f6; subst e5; subst f5; subst e4; subst f4; subst e3; subst f3; subst e2; subst f2; subst e1; subst f1; subst e0; subst f0
  refine kup_newTuple F1 N1 (fun D h'' F2 N2 l2 => ?_) (by rw [PySem.sizeLine_eq]; simp)
  exact KPt.mod_tuple N2 (List.mem_cons_self ..) (by kpt_eq) (fmtT eT ha hb d1 d2 y1 y2 h1 h2 i1 i2 s1 s2) fun t' j' => k _ _ _ _ (x1.trans Ext.cons) ⟨_, rfl⟩ F2 N2
theorem ev_fmt2 {es : List Expr} {j : Nat} {tp fp : Pos} {B T : Str} {d : Int} {fk : Nat} (he : EvsG C En K es [.int d, .str B]) (eT : FM.pad2 d ++ Str.ofString "-" ++ B = T) (hb : B.length ≤ 3) (d1 : 0 ≤ d) (d2 : d ≤ 99) :
    EvG C En K (.BinOp (.Constant (.str "%02d-%s") fk fp) .Mod (.Tuple es j tp) pos) (.str T) := by
  intro E Q s m ne hK F N k
  refine wpAny_BinOp (PySem.Calls.Constant_str (Tuple_ (he E _ _ m ne tp hK F N fun vs h' k' ne1 x1 hvs F1 N1 => ?_)))
  obtain ⟨_, _, e0, ⟨t0, f0⟩, _, _, e1, ⟨t1, f1⟩, en⟩ := hvs
  subst en; subst e1; subst f1; subst e0; subst f0
  refine kup_newTuple F1 N1 (fun D h'' F2 N2 l2 => ?_) (by rw [PySem.sizeLine_eq]; simp)
  exact KPt.mod_tuple N2 (List.mem_cons_self ..) (by kpt_eq) (fmt2T eT hb d1 d2) fun t' j' => k _ _ _ _ (x1.trans Ext.cons) ⟨_, rfl⟩ F2 N2
theorem ev_fmt3 {es : List Expr} {j : Nat} {tp fp : Pos} {B T : Str} {d : Int} {fk : Nat} (he : EvsG C En K es [.int d, .str B]) (eT : Str.ofString ", " ++ FM.pad2 d ++ Str.ofString "-" ++ B = T) (hb : B.length ≤ 3) (d1 : 0 ≤ d) (d2 : d ≤ 99) :
    EvG C En K (.BinOp (.Constant (.str ", %02d-%s") fk fp) .Mod (.Tuple es j tp) pos) (.str T) := by
  intro E Q s m ne hK F N k
  refine wpAny_BinOp (PySem.Calls.Constant_str (Tuple_ (he E _ _ m ne tp hK F N fun vs h' k' ne1 x1 hvs F1 N1 => ?_)))
  obtain ⟨_, _, e0, ⟨t0, f0⟩, _, _, e1, ⟨t1, f1⟩, en⟩ := hvs
  subst en; subst e1; subst f1; subst e0; subst f0
  refine kup_newTuple F1 N1 (fun D h'' F2 N2 l2 => ?_) (by rw [PySem.sizeLine_eq]; simp)
  exact KPt.mod_tuple N2 (List.mem_cons_self ..) (by kpt_eq) (fmt3T eT hb d1 d2) fun t' j' => k _ _ _ _ (x1.trans Ext.cons) ⟨_, rfl⟩ F2 N2
end
section
variable {w : World} {mean : ExcName → Option Value} {mg mb : Str → Option Value} {dp un : Nat} {gd : Option (List Code)} {cn : Str} {cs : Scope} {L a : Addr} {ccd : Value} {cl : List (Str × Addr)} {outer : List Env} {A₀ : Around} {base h₀ : Heap} {m : Str → Option Value} {news : List (Addr × Obj)} {e : Expr} {n : Int} {y : Str} {b : Bool} {E Q : Value → Shared → Prop} {s : Shared}
end
section
variable {C : EC} {En : Env} {K : Kn} {e l r : Expr} {pos : Pos} {a b c : Int}
theorem ev_modK (h1 : EvG C En K l (.int a)) (h2 : EvG C En K r (.int b)) (hb : b ≠ 0) (hc : a.fmod b = c) : EvG C En K (.BinOp l .Mod r pos) (.int c) := hc ▸ ev_mod h1 h2 hb
theorem ev_divK (h1 : EvG C En K l (.int a)) (h2 : EvG C En K r (.int b)) (hb : b ≠ 0 ∧ b.natAbs.log2 < 1000) (hc : a.fdiv b = c) : EvG C En K (.BinOp l .FloorDiv r pos) (.int c) := hc ▸ ev_div h1 h2 hb
theorem ev_addK (h1 : EvG C En K l (.int a)) (h2 : EvG C En K r (.int b)) (hc : a + b = c) : EvG C En K (.BinOp l .Add r pos) (.int c) := hc ▸ ev_add h1 h2
theorem ev_subK (h1 : EvG C En K l (.int a)) (h2 : EvG C En K r (.int b)) (hc : a - b = c) : EvG C En K (.BinOp l .Sub r pos) (.int c) := hc ▸ ev_sub h1 h2
theorem ev_neg (h : EvG C En K e (.int a)) : EvG C En K (.UnaryOp .USub e pos) (.int (-a)) := by
  intro E Q s m ne hK F N k
  refine UnaryOp_ (h E _ s m ne hK F N fun v h' k' ne1 x1 ⟨t, hv⟩ F1 N1 => ?_)
  subst hv
  exact neg_int (k _ _ _ _ x1 ⟨_, rfl⟩ F1 N1)
end
/-- numbers as arguments -/
def EvsI (C : EC) (En : Env) (K : Kn) (es : List Expr) (ls : List Int) : Prop := EvsG C En K es (ls.map .int)
section
variable {C : EC} {En : Env} {K : Kn} {V : Sh} {e l r : Expr} {pos : Pos} {x y : Str} {a b n : Int} {m : Str → Option Value} {news : List (Addr × Obj)} {v : Value} {c : Addr} {es : List Expr} {ls : List Int}
theorem evsI_nil : EvsI C En K [] [] := evs_nil
theorem evsI_cons (h1 : EvG C En K e (.int n)) (h2 : EvsI C En K es ls) (hs : starEach (e :: es) En = (false, eval e En) :: starEach es En) : EvsI C En K (e :: es) (n :: ls) := evs_cons h1 h2 hs
theorem ev_tupI {j : Nat} (h : EvsI C En K es ls) (hl : ls.length ≤ 1000) : EvG C En K (.Tuple es j pos) (.tup ls) := ev_tup h hl
theorem tr_isI (h : EvG C En K l (.int a)) {np : Pos} {nk : Nat} (hm : behindInMarks .Is (.Constant .none nk np) = false) : TrG C En K (.Compare l [.Is] [.Constant .none nk np] pos) false := by
  intro E Q s m ne hK F N k
  refine wpAny_isTrue_Compare1 (h E _ s m ne hK F N fun u h' k1 ne1 x1 ⟨t, hu⟩ F1 N1 => ?_) hm
  subst hu
  exact wpAny_Constant_none (is_int_none (wpAny_truthy_bool (k _ _ _ x1 F1 N1)))
theorem tr_isN (h : EvG C En K l (.val .none)) {np : Pos} {nk : Nat} (hm : behindInMarks .Is (.Constant .none nk np) = false) : TrG C En K (.Compare l [.Is] [.Constant .none nk np] pos) true := by
  intro E Q s m ne hK F N k
  refine wpAny_isTrue_Compare1 (h E _ s m ne hK F N fun u h' k1 ne1 x1 hu F1 N1 => ?_) hm
  cases hu
  exact wpAny_Constant_none (is_none_none (wpAny_truthy_bool (k _ _ _ x1 F1 N1)))
end
theorem gt_no {d : Int} (h : ¬ 12 < d) : (decide (d > 12) || false) = false := by simp; lia
theorem gt_yes {d : Int} {c : Bool} (h : 12 < d) : (decide (d > 12) || c) = true := by
  have : decide (d > 12) = true := decide_eq_true h
  rw [this]; rfl
section
variable {C : EC} {En : Env} {K : Kn} {e l r : Expr} {pos : Pos} {xs ys zs : List Int} {room : Nat}
theorem ev_catTK (h1 : EvG C En K l (.tup xs)) (h2 : EvG C En K r (.tup ys)) (hx : xs ≠ []) (hy : ys ≠ []) (hl : xs.length + ys.length ≤ 1000) (he : xs ++ ys = zs) : EvG C En K (.BinOp l .Add r pos) (.tup zs) := he ▸ ev_catT h1 h2 hx hy hl
theorem tr_neTK (hok : OkC C room) (hr : 9 ≤ room) (h1 : EvG C En K l (.tup xs)) (h2 : EvG C En K r (.tup ys)) (he : xs = ys) (hm : behindInMarks .NotEq r = false) : TrG C En K (.Compare l [.NotEq] [r] pos) false := by
  subst he
  exact tr_neT hok hr h1 h2 hm
theorem ints_drop : ∀ {vs : List Value} {ns : List Int} (j : Nat), IntsAre vs ns → IntsAre (vs.drop j) (ns.drop j)
  | _, _, 0, h => h
  | _, _, _ + 1, .nil => .nil
  | _, _, j + 1, .cons n t h => ints_drop j h
theorem ev_slT {lo : Expr} {j : Nat} {p : Pos} (h : EvG C En K e (.tup xs)) (h2 : EvG C En K lo (.int (j : Int))) (hj : 1 ≤ j ∧ j ≤ xs.length ∧ xs.length ≤ 1000) (hz : xs.drop j = zs)
    (hs : ∀ c d, subscripted (.Slice (some lo) none none p) false (.ref c) (.ref d) = operate [.ref d, .ref c] (getItem (.ref c) (.ref d))) (ht : ∀ c r, letTemporaryGo e (.ref c) r = pure ()) :
    EvG C En K (.Subscript e (.Slice (some lo) none none p) pos) (.tup zs) := by
  intro E Q s m ne hK F N k
  refine Subscript_ (h E _ s m ne hK F N fun v h' k' ne1 x1 hv F1 N1 => ?_)
  obtain ⟨a, vs, rfl, ha, hi⟩ := hv
  refine wpAny_Slice (evalPart_some_step (h2 E _ _ m ne1 (Kn.more hK x1) F1 N1 fun v h'' k'' ne2 x2 ⟨u, hv⟩ F2 N2 => ?_))
  subst hv
  have e1 := hi.length
  refine evalPart_none_step (evalPart_none_step (slice_tup_from (items := vs.toArray) F2 N2 (News.isTup N2 (x2 _ ha)) hj.1 (by simpa [e1] using hj.2.1) rfl (by rw [PySem.sizeLine_eq]; simp [e1]; lia) (fun D h3' F3 N3 l3 => ?_) (hs _ _) (ht _)))
  subst hz
  exact k _ h3' _ _ ((x1.trans x2).trans Ext.cons) ⟨D, vs.drop j, rfl, List.mem_cons_self .., ints_drop j hi⟩ F3 N3
end
section
variable {C : EC} {En : Env} {K : Kn} {e : Expr} {pos : Pos} {xs zs : List Int} {n k : Int}
theorem ev_itemK {i : Expr} (j : Nat) (h1 : EvG C En K e (.tup xs)) (h2 : EvG C En K i (.int k)) (hk : k = (j : Int)) (hj : xs[j]? = some n) (hb : xs.length ≤ 1000)
    (hs : ∀ c u, subscripted i false (.ref c) (.int k u) = operate [.ref c, .int k u] (getItem (.ref c) (.int k u))) (ht : ∀ c r, letTemporaryGo e (.ref c) r = pure ()) : EvG C En K (.Subscript e i pos) (.int n) := by
  subst hk
  exact ev_item h1 h2 hj hb hs ht
theorem ev_slTK {lo : Expr} (j : Nat) {p : Pos} (h : EvG C En K e (.tup xs)) (h2 : EvG C En K lo (.int k)) (hk : k = (j : Int)) (hj : 1 ≤ j ∧ j ≤ xs.length ∧ xs.length ≤ 1000) (hz : xs.drop j = zs)
    (hs : ∀ c d, subscripted (.Slice (some lo) none none p) false (.ref c) (.ref d) = operate [.ref d, .ref c] (getItem (.ref c) (.ref d))) (ht : ∀ c r, letTemporaryGo e (.ref c) r = pure ()) :
    EvG C En K (.Subscript e (.Slice (some lo) none none p) pos) (.tup zs) := by
  subst hk
  exact ev_slT h h2 hj hz hs ht
end

section
variable {C : EC} {En : Env} {K : Kn} {V : Sh} {e : Expr} {pos gp : Pos} {n W : Int} {room : Nat} {dd mm yy th tm ts : Str}
/-- seven texts as arguments -/
abbrev s7 (dd mm yy th tm ts : Str) : List Sh := [.str dd, .str mm, .str yy, .str th, .str tm, .str ts, .str (Str.ofString "GMT")]
theorem s7_vals {vs : List Value} {ne : List (Addr × Obj)} (h : IsAll (s7 dd mm yy th tm ts) vs ne) : ∃ t1 t2 t3 t4 t5 t6 t7, vs = [.str dd t1, .str mm t2, .str yy t3, .str th t4, .str tm t5, .str ts t6, .str (Str.ofString "GMT") t7] := by
  obtain ⟨_, _, e0, ⟨t0, f0⟩, _, _, e1, ⟨t1, f1⟩, _, _, e2, ⟨t2, f2⟩, _, _, e3, ⟨t3, f3⟩, _, _, e4, ⟨t4, f4⟩, _, _, e5, ⟨t5, f5⟩, _, _, e6, ⟨t6, f6⟩, en⟩ := h
  subst en; subst e6; subst f6; subst e5; subst f5; subst e4; subst f4; subst e3; subst f3; subst e2; subst f2; subst e1; subst f1; subst e0; subst f0
  exact ⟨t0, t1, t2, t3, t4, t5, t6, rfl⟩
theorem ct_word (hok : OkC C room) (hr : 30 ≤ room) (h : WordT dd mm yy th tm ts W) : CallT C (.ref 125) (s7 dd mm yy th tm ts) (.int W) :=
  callV (pre := fun _ => True) hok hr fun vs ne hv => by
    obtain ⟨t1, t2, t3, t4, t5, t6, t7, rfl⟩ := s7_vals hv
    exact ⟨_, word_use _ _ _ _ dd mm yy th tm ts t1 t2 t3 t4 t5 t6 t7 W h, trivial, fun t' ne' => ⟨t', rfl⟩⟩
/-- a ClaimT out of the law's own frame -/
theorem callT {f : Addr} {Vs : List Sh} {dp : Nat} (hok : OkC C room) (hd : dp ≤ room) (ho : C.outer = []) (hb : C.base = C.h₀)
    (h : ∀ vs ne, IsAll Vs vs ne → ∃ R : Tok → Value, ClaimT C.w C.mean C.mg C.mb f dp vs R ∧ ∀ t ne', V.is (R t) ne') : CallT C (.ref f) Vs V := by
  intro E Q vs s m ne hvs F N k
  obtain ⟨R, hc, hR⟩ := h vs ne hvs
  have h1 := hok.d
  have h2 := hok.u
  have hB := hok.below
  rw [ho, hb] at hB
  show wpAny (model PG C.w) (ktrTop C.dp C.un C.gd C.cn C.cs C.L C.a C.ccd C.cl C.outer) (call (.ref f) vs) Q E s
  rw [ho]
  exact hc.use hB F hok.hin N hok.top hok.kind (by lia) (by lia) fun t h' tk F' N' => k _ h' tk ne Ext.refl (hR t _) F' N'
theorem ct_num7 (hok : OkC C room) (hr : 30 ≤ room) (ho : C.outer = []) (hb : C.base = C.h₀) (h : NumT dd mm yy th tm ts W) : CallT C (.ref 125) (s7 dd mm yy th tm ts) (.int W) :=
  callT hok hr ho hb fun vs ne hv => by
    obtain ⟨t1, t2, t3, t4, t5, t6, t7, rfl⟩ := s7_vals hv
    exact ⟨_, num_use _ _ _ _ dd mm yy th tm ts t1 t2 t3 t4 t5 t6 t7 W h, fun t' ne' => ⟨t', rfl⟩⟩
theorem ct_none7 (hok : OkC C room) (hr : 30 ≤ room) (ho : C.outer = []) (hb : C.base = C.h₀) (h : NoneT dd mm yy th tm ts) : CallT C (.ref 125) (s7 dd mm yy th tm ts) (.val .none) :=
  callT hok hr ho hb fun vs ne hv => by
    obtain ⟨t1, t2, t3, t4, t5, t6, t7, rfl⟩ := s7_vals hv
    exact ⟨_, none_use _ _ _ _ dd mm yy th tm ts t1 t2 t3 t4 t5 t6 t7 h, fun t' ne' => rfl⟩
/-- str of a number -/
theorem ev_strI (hok : OkC C room) (hn : nsIn (hd.heap_39 C.w.params) mainGlobals "str" = some none) (hx : C.env.kindOf "str" = some .globalImplicit) (h : EvT C K e (.int n)) (hl : n.natAbs.log2 < 1920)
    (hcall : eval (.Call (.Name "str" gp) [e] [] pos) C.env = do
          let __do_lift ← eval (.Name "str" gp) C.env
          callWith pos __do_lift [] (backTo pos (starEach [e] C.env)) (backToKw pos (keywordEach [] C.env)))
    (hs : starEach [e] C.env = (false, eval e C.env) :: starEach [] C.env) (hb : (List.any (backTo pos (starEach [] C.env)) fun x => x.1) = false) : EvT C K (.Call (.Name "str" gp) [e] [] pos) (.str (Str.ofString (toString n))) := by
  intro E Q s m ne hK F N k
  refine Call_ (nameX_B F hok.hin (topRead_of hok.top) hn rfl (by decide) ?_ hok.kind hx (by decide)) hcall
  refine PyProof.Rows.callWith_type1 (args_cons (h E _ s m ne hK F N fun v h' k' ne1 x1 ⟨t, hv⟩ F1 N1 => ?_) hs) hs hb
  subst hv
  exact args_nil (PySem.P.str_of_int hl (k _ _ _ _ x1 ⟨_, rfl⟩ F1 N1))
end
theorem log_small {m : Int} (h0 : 0 ≤ m) (h1 : m ≤ 99) : m.natAbs.log2 < 1920 := by
  have h : m.natAbs ≤ 99 := by lia
  have a : m.natAbs.log2 ≤ (99 : Nat).log2 := by
    by_cases hz : m.natAbs = 0
    · rw [hz]; decide
    · rw [Nat.le_log2 (by decide)]
      exact Nat.le_trans (Nat.log2_self_le hz) h
  exact Nat.lt_of_le_of_lt a (by decide)
end EWs
noncomputable section EXs
section
variable {C : EC} {En : Env} {K K' K₁ : Kn} {V : Sh} {e l r i : Expr} {pos : Pos} {x y z : Str} {a b n : Int} {xs ys : List Int} {room : Nat} {cl cl' : List (Str × Addr)} {ρ κ : List (Str × Sh)} {es : List Expr} {scope : Scope} {c : Addr}
/-- a name of the frame -/
theorem ev_loc (hv : ρ.lookup x = some V) (hk : C.cs.kind = .function) (hx : C.env.kindOf x = some .local) (hd : (x == ("__debug__" : Str)) = false) : EvT C (.law cl ρ κ) (.Name x pos) V := by
  intro E Q s m ne h F N k
  obtain ⟨_, v, e1, e2⟩ := h.1 x V hv
  exact nameX_L F e1 (k v s.heap s.toks ne Ext.refl e2 F N) hk hx hd
/-- a name that stands in a cell -/
theorem ev_cel (hcl : C.cl = cl) (hv : κ.lookup x = some V) (hc : cl.lookup x = some c) (hk : C.cs.kind = .function) (hx : C.env.kindOf x = some .cell) (hd : (x == ("__debug__" : Str)) = false) : EvT C (.law cl ρ κ) (.Name x pos) V := by
  intro E Q s m ne h F N k
  subst hcl
  obtain ⟨o, u, hm, ho, hV⟩ := h.2 x c hc
  obtain ⟨_, v, rfl, e2⟩ := hV V hv
  exact nameX_C N hc hm ho (k v s.heap s.toks ne Ext.refl e2 F N) hk hx hd
/-- the name that a comprehension's turn gives -/
theorem ev_own (hk : (compEnvC scope cl' c C.env).scope.kind = .function) (hx : (compEnvC scope cl' c C.env).kindOf z = some .local) (hd : (z == ("__debug__" : Str)) = false) :
    EvG C (compEnvC scope cl' c C.env) (.comp cl κ c z n) (.Name z pos) (.int n) := by
  intro E Q s m ne h F N k
  obtain ⟨_, oC, m₂, t, hm, hC, hx'⟩ := h
  exact LCgL.ld_own N hm hC hx' (k _ s.heap s.toks ne Ext.refl ⟨t, rfl⟩ F N) hk hx hd
/-- a name of the law's own frame, within a comprehension -/
theorem ev_celC {c' : Addr} (hv : κ.lookup x = some V) (hc' : cl'.lookup x = some c') (hc : cl.lookup x = some c') (hk : (compEnvC scope cl' c C.env).scope.kind = .function) (hx : (compEnvC scope cl' c C.env).kindOf x = some .cell) (hd : (x == ("__debug__" : Str)) = false) :
    EvG C (compEnvC scope cl' c C.env) (.comp cl κ c z n) (.Name x pos) V := by
  intro E Q s m ne h F N k
  obtain ⟨o, u, hm, ho, hV⟩ := h.1 x c' hc
  obtain ⟨_, v, rfl, e2⟩ := hV V hv
  exact lcf_cell N hc' hm ho (k v s.heap s.toks ne Ext.refl e2 F N) hk hx hd
/-- a constant of the text, within a comprehension -/
theorem ev_globC {v : Value} (hok : OkC C room) (hg : nsIn (hd.heap_39 C.w.params) mainGlobals x = some (some v)) (hV : V.is v []) (hge : C.env.globals = mainGlobals) (hk : (compEnvC scope cl' c C.env).scope.kind = .function) (hx : (compEnvC scope cl' c C.env).kindOf x = some .globalImplicit) (hd : (x == ("__debug__" : Str)) = false) :
    EvG C (compEnvC scope cl' c C.env) K (.Name x pos) V := by
  intro E Q s m ne _ F N k
  exact LCgL.ld_global F hok.hin hok.top hg (k v s.heap s.toks ne Ext.refl (Sh.more hV fun _ h => by cases h) F N) hge hk hx hd
/-- a range of numbers -/
def RgT (C : EC) (K : Kn) (e : Expr) (a b : Int) : Prop :=
  ∀ (E Q : Value → Shared → Prop) (s : Shared) (m : Str → Option Value) (news : List (Addr × Obj)), K.is m news → Fr C.h₀ C.L s.heap m → News C.h₀ C.L s.heap news →
    (∀ (r : Addr) (h' : Heap) (k : Nat) (ne : List (Addr × Obj)) (t u v : Tok), Ext news ne → IsRange h' r a b 1 t u v → Fr C.h₀ C.L h' m → News C.h₀ C.L h' ne → Q (.ref r) { s with heap := h', toks := k }) →
    wpAny (model PG C.w) C.A (eval e C.env) Q E s
theorem rg_call {gp cp : Pos} {e1 e2 : Expr} (hok : OkC C room) (hn : nsIn (hd.heap_39 C.w.params) mainGlobals "range" = some none) (hg : C.env.kindOf "range" = some .globalImplicit) (h1 : EvT C K e1 (.int a)) (h2 : EvT C K e2 (.int b))
    (hs1 : starEach [e1, e2] C.env = (false, eval e1 C.env) :: starEach [e2] C.env) (hs2 : starEach [e2] C.env = (false, eval e2 C.env) :: starEach [] C.env)
    (hcall : eval (.Call (.Name "range" gp) [e1, e2] [] cp) C.env = do
          let __do_lift ← eval (.Name "range" gp) C.env
          callWith cp __do_lift [] (backTo cp (starEach [e1, e2] C.env)) (backToKw cp (keywordEach [] C.env)))
    (hb1 : (List.any (backTo cp (starEach [e2] C.env)) fun x => x.1) = false) : RgT C K (.Call (.Name "range" gp) [e1, e2] [] cp) a b := by
  intro E Q s m ne hK F N k
  refine Call_ (nameX_B F hok.hin (topRead_of hok.top) hn rfl (by decide) ?_ hok.kind hg (by decide)) hcall
  refine PyProof.Rows.callWith_type1 (args_cons (h1 E _ s m ne hK F N fun u h1' k1 ne1 x1 ⟨t, hu⟩ F1 N1 => ?_) hs1) hs1 hb1
  subst hu
  refine args_cons (h2 E _ _ m ne1 (Kn.more hK x1) F1 N1 fun v h2' k2 ne2 x2 ⟨t', hv⟩ F2 N2 => ?_) hs2
  subst hv
  refine args_nil ?_
  exact range2_rows F2 N2 fun h' tk t₁ u₁ v₁ hr F3 N3 _ => k _ h' tk ne2 t₁ u₁ v₁ (x1.trans x2) hr F3 N3
section
variable {ct elt iter : Expr} {zp yp spos : Pos} {all : List Int} {p : Int → Bool} {m : Str → Option Value} {ne : List (Addr × Obj)}
theorem turn_of (hK : (Kn.law cl ρ κ).is m ne) (ht : ∀ (c : Addr) (a : Int), a ∈ all → TrG C (compEnvC scope cl' c C.env) (.comp cl κ c z a) ct (p a)) : TurnOf PG C.w C.A C.h₀ C.L m C.env ct z scope cl' ne p all := by
  intro s a t I c D oI oC ys m₂ h tk E' ha hC hx F N off n3
  refine ht c a ha E' _ { s with heap := h, toks := tk } m _ ⟨hK.2.more fun q hq => List.mem_cons_of_mem _ (List.mem_cons_of_mem _ (List.mem_cons_of_mem _ hq)), oC, m₂, t, List.mem_cons_of_mem _ (List.mem_cons_self ..), hC, hx⟩ F N fun h' k' ne2 x2 F2 N2 => ?_
  exact ⟨rfl, h', k', rfl, F2, fun q hq => N2 q (x2 q hq)⟩
/-- the element is the name itself -/
theorem item_own (hk : ∀ c, (compEnvC scope cl' c C.env).scope.kind = .function) (hl : ∀ c, (compEnvC scope cl' c C.env).kindOf z = some .local) (hd : (z == ("__debug__" : Str)) = false) : ItemOf PG C.w C.A C.h₀ C.L m C.env (.Name z pos) z scope cl' ne := by
  intro s a t I c D oI oC ys m₂ h tk E' hC hx F N off n3
  exact LCgL.ld_own N (List.mem_cons_of_mem _ (List.mem_cons_self ..)) hC hx ⟨rfl, h, tk, rfl, F, N⟩ (hk c) (hl c) hd
variable (hclos : closureFor scope C.env = pure cl') (hcell : ∀ y ∈ scope.names, y.2 ≠ .cell) (hkind : scope.kind = .function)
  (hnames : ∀ y ∈ scope.names, y.2 = .local → scope.names.lookup y.1 = some .local) (hx : scope.names.lookup z = some .local)
  (hk : ∀ c, (compEnvC scope cl' c C.env).scope.kind = .function) (hl : ∀ c, (compEnvC scope cl' c C.env).kindOf z = some .local) (hd : (z == ("__debug__" : Str)) = false)
  (hs : ∀ x, foldedSetIterable iter C.env x = pure x)
  (ht : ∀ (c : Addr) (a : Int), a ∈ all → TrG C (compEnvC scope cl' c C.env) (.comp cl κ c z a) ct (p a))
include hclos hcell hkind hnames hx hk hl hd hs ht
theorem ev_compL (hi : EvT C (.law cl ρ κ) iter (.lsi all)) (hsz : all.length ≤ 1000) : EvT C (.law cl ρ κ) (.ListComp (.Name z pos) [⟨.Name z zp, iter, [ct], 0⟩] scope spos) (.lsi (all.filter p)) := by
  intro E Q s m ne hK F N k
  refine LCt.ListComp_T F hclos hcell hkind hnames hx (hi E _ s m ne hK F N fun v h' k' ne1 x1 hv F1 N1 => ?_) hs
  obtain ⟨ax, vs, j, rfl, hm, hI⟩ := hv
  refine comp_list (its := vs.toArray) rfl F1 N1 hm (by simpa using hI) hsz (turn_of (Kn.more hK x1) ht) (item_own hk hl hd) fun g zs hz D h2 tk F2 N2 _ => ?_
  exact k _ h2 tk _ (x1.trans Ext.cons) ⟨D, zs, zs.length, rfl, List.mem_cons_self .., hz⟩ F2 N2
theorem ev_compR {lo hi : Int} (hi' : RgT C (.law cl ρ κ) iter lo hi) (h1 : -1000 ≤ lo) (h2 : hi ≤ 1000) (hlt : lo < hi) (hall : rangeL lo hi = all) : EvT C (.law cl ρ κ) (.ListComp (.Name z pos) [⟨.Name z zp, iter, [ct], 0⟩] scope spos) (.lsi (all.filter p)) := by
  intro E Q s m ne hK F N k
  subst hall
  refine LCt.ListComp_T F hclos hcell hkind hnames hx (hi' E _ s m ne hK F N fun r h' k' ne1 t u v x1 hr F1 N1 => ?_) hs
  refine comp_range rfl F1 N1 hr h1 h2 hlt (turn_of (Kn.more hK x1) ht) (item_own hk hl hd) fun g zs hz D h2 tk F2 N2 _ => ?_
  exact k _ h2 tk _ (x1.trans Ext.cons) ⟨D, zs, zs.length, rfl, List.mem_cons_self .., hz⟩ F2 N2
end
theorem Kn.put2 {m : Str → Option Value} {ne : List (Addr × Obj)} {v : Value} (h : (Kn.law cl ρ κ).is m ne) (hv : V.is v ne) (hf : V.firm = true) : (Kn.law cl ((x, V) :: ρ) κ).is (fun y => if y = x then some v else m y) ne := by
  refine ⟨fun y W e => ?_, h.2⟩
  rw [List.lookup_cons] at e
  by_cases hy : y = x
  · subst hy
    simp only [beq_self_eq_true, Option.some.injEq] at e
    subst e
    exact ⟨hf, v, if_pos rfl, hv⟩
  · rw [beq_eq_false_iff_ne.mpr hy] at e
    obtain ⟨hf', u, e1, e2⟩ := h.1 y W e
    exact ⟨hf', u, (if_neg hy).trans e1, e2⟩
/-- a list that a comprehension makes, bound to a name -/
theorem x1_comp {zp yp spos : Pos} {ct elt iter : Expr} {all : List Int} {p : Int → Bool} (hkk : C.cs.kind = .function) (hy : C.env.kindOf y = some .local) (hsw : swapsWith (.ListComp elt [⟨.Name z zp, iter, [ct], 0⟩] scope pos) (some (.Name y yp)) spos.line C.env = pure true) (hclos : closureFor scope C.env = pure cl') (hcell : ∀ y ∈ scope.names, y.2 ≠ .cell) (hkind : scope.kind = .function)
    (hnames : ∀ y ∈ scope.names, y.2 = .local → scope.names.lookup y.1 = some .local) (hx : scope.names.lookup z = some .local)
    (hk : ∀ c, (compEnvC scope cl' c C.env).scope.kind = .function) (hl : ∀ c, (compEnvC scope cl' c C.env).kindOf z = some .local) (hd : (z == ("__debug__" : Str)) = false)
    (hs : ∀ x, foldedSetIterable iter C.env x = pure x)
    (ht : ∀ (c : Addr) (a : Int), a ∈ all → TrG C (compEnvC scope cl' c C.env) (.comp cl κ c z a) ct (p a)) {np : Pos} {lo hi : Int} (he : elt = .Name z np)
    (hi' : RgT C (.law cl ρ κ) iter lo hi) (h1 : -1000 ≤ lo) (h2 : hi ≤ 1000) (hlt : lo < hi) (hall : rangeL lo hi = all) :
    X1T C (.law cl ρ κ) (.Assign [.Name y yp] (.ListComp elt [⟨.Name z zp, iter, [ct], 0⟩] scope pos) spos) (.law cl ((y, .lsi (all.filter p)) :: ρ) κ) := by
  intro E Q s m ne hK F N k
  subst hall; subst he
  refine LCt.Assign_ListComp_T F rfl hsw hclos hcell hkind hnames hx hy (by show (C.cs.kind == .class || (C.cs.kind == .module && C.L != mainGlobals)) = false; rw [hkk]; rfl) (hi' E _ s m ne hK F N fun r h' k' ne1 t u v x1 hr F1 N1 => ?_) hs
  refine comp_range rfl F1 N1 hr h1 h2 hlt (turn_of (Kn.more hK x1) ht) (item_own hk hl hd) fun g zs hz D h2 tk F2 N2 _ => ?_
  exact k h2 tk _ _ (x1.trans Ext.cons) (Kn.put2 (Kn.more hK (x1.trans Ext.cons)) ⟨D, zs, zs.length, rfl, List.mem_cons_self .., hz⟩ rfl) F2 N2
theorem x1_set {xp : Pos} (h : EvT C (.law cl ρ κ) e V) (hf : V.firm = true) (hsw : swapsWith e (some (.Name x xp)) pos.line C.env = pure false) (hkk : C.cs.kind = .function) (hx : C.env.kindOf x = some .local) :
    X1T C (.law cl ρ κ) (.Assign [.Name x xp] e pos) (.law cl ((x, V) :: ρ) κ) := fun E Q s m ne hK F N k =>
  wpAny_Assign_Name (h E _ s m ne hK F N fun v h' k' ne1 x1 hv F1 N1 => storeX_L F1 N1 (fun h'' F2 N2 => k h'' _ _ ne1 x1 (Kn.put2 (Kn.more hK x1) hv hf) F2 N2) hkk hx) hsw
/-! the statements of the law's own frame: a cell may change -/
def Y1T (C : EC) (K : Kn) (st : Stmt) (K' : Kn) : Prop :=
  ∀ (E : Value → Shared → Prop) (Q : Flow → Shared → Prop) (s : Shared) (m : Str → Option Value) (news : List (Addr × Obj)), K.is m news → Fr C.h₀ C.L s.heap m → News C.h₀ C.L s.heap news →
    (∀ (h' : Heap) (k : Nat) (m' : Str → Option Value) (ne : List (Addr × Obj)), K'.is m' ne → Fr C.h₀ C.L h' m' → News C.h₀ C.L h' ne → Q .next { s with heap := h', toks := k }) →
    wpAny (model PG C.w) C.A (exec st C.env) Q E s
def LsT (C : EC) (K : Kn) (body : List Stmt) (V : Sh) : Prop :=
  ∀ (E : Value → Shared → Prop) (Q : Flow → Shared → Prop) (s : Shared) (m : Str → Option Value) (news : List (Addr × Obj)), K.is m news → Fr C.h₀ C.L s.heap m → News C.h₀ C.L s.heap news →
    (∀ (v : Value) (h' : Heap) (k : Nat) (m' : Str → Option Value) (ne : List (Addr × Obj)), V.is v ne → Fr C.h₀ C.L h' m' → News C.h₀ C.L h' ne → Q (.ret v) { s with heap := h', toks := k }) →
    wpAny (model PG C.w) C.A (execs body C.env) Q E s
variable {st : Stmt} {rest : List Stmt}
theorem ls_y (h1 : Y1T C K st K₁) (h2 : LsT C K₁ rest V) : LsT C K (st :: rest) V := fun E Q s m ne hK F N k =>
  wpAny_execs_cons (h1 E _ s m ne hK F N fun h' k' m' ne1 hK1 F1 N1 => h2 E Q _ m' ne1 hK1 F1 N1 fun v h'' k'' m'' ne2 hv F2 N2 => k v h'' k'' m'' ne2 hv F2 N2)
theorem ls_x (h1 : X1T C K st K₁) (h2 : LsT C K₁ rest V) : LsT C K (st :: rest) V := ls_y (fun E Q s m ne hK F N k => h1 E Q s m ne hK F N fun h' k' m' ne1 _ hK1 F1 N1 => k h' k' m' ne1 hK1 F1 N1) h2
theorem ls_ret (h : EvT C K e V) : LsT C K (.Return (some e) pos :: rest) V := fun E Q s m ne hK F N k =>
  wpAny_execs_cons (wpAny_Return_some (h E _ s m ne hK F N fun v h' k' ne1 x1 hv F1 N1 => k v h' k' m ne1 hv F1 N1))
theorem ls_ifF {thn : List Stmt} (h : TrT C K e false) (h2 : LsT C K rest V) : LsT C K (.If e thn [] pos :: rest) V := fun E Q s m ne hK F N k =>
  wpAny_execs_cons (wpAny_If (h E _ s m ne hK F N fun h' k' ne1 x1 F1 N1 => wpAny_execs_nil (h2 E Q _ m ne1 (Kn.more hK x1) F1 N1 k)))
theorem ls_ifT {thn : List Stmt} (h : TrT C K e true) (h2 : LsT C K thn V) : LsT C K (.If e thn [] pos :: rest) V := by
  intro E Q s m ne hK F N k
  refine wpAny_execs_cons (wpAny_If (h E _ s m ne hK F N fun h' k' ne1 x1 F1 N1 => ?_))
  exact h2 E _ _ m ne1 (Kn.more hK x1) F1 N1 fun v h'' k'' m' ne2 hv F2 N2 => k v h'' k'' m' ne2 hv F2 N2
theorem Sh.drop {v : Value} {ne : List (Addr × Obj)} {I : Addr} (hf : V.firm = true) (hI : ∀ o, (I, o) ∈ ne → ∀ xs k, o.data ≠ .seq xs k) (h : V.is v ne) : V.is v (ne.filter fun p => decide (p.1 ≠ I)) := by
  have key : ∀ {a : Addr} {o : Obj} {xs k}, (a, o) ∈ ne → o.data = .seq xs k → (a, o) ∈ ne.filter fun p => decide (p.1 ≠ I) := fun {a o xs k} hm hd => List.mem_filter.mpr ⟨hm, decide_eq_true fun (q : a = I) => hI o (q ▸ hm) xs k hd⟩
  cases V with
  | obj O => cases hf
  | tup l => obtain ⟨x, vs, e, hm, hi⟩ := h; exact ⟨x, vs, e, key hm rfl, hi⟩
  | lsi l => obtain ⟨x, vs, j, e, hm, hi⟩ := h; exact ⟨x, vs, j, e, key hm rfl, hi⟩
  | lss l => obtain ⟨x, vs, j, e, hm, hi⟩ := h; exact ⟨x, vs, j, e, key hm rfl, hi⟩
  | _ => exact h
/-- the iterator of a loop is let go of -/
theorem Kn.drop {m : Str → Option Value} {ne : List (Addr × Obj)} {I : Addr} (h : (Kn.law cl ρ κ).is m ne) (hI : ∀ o, (I, o) ∈ ne → (∀ xs k, o.data ≠ .seq xs k) ∧ ∀ u, o.data ≠ .cell u) : (Kn.law cl ρ κ).is m (ne.filter fun p => decide (p.1 ≠ I)) := by
  refine ⟨fun x V e => ?_, fun x c e => ?_⟩
  · obtain ⟨hf, v, e1, e2⟩ := h.1 x V e
    exact ⟨hf, v, e1, Sh.drop hf (fun o ho => (hI o ho).1) e2⟩
  · obtain ⟨o, u, hm, hd, hV⟩ := h.2 x c e
    refine ⟨o, u, List.mem_filter.mpr ⟨hm, decide_eq_true fun (q : c = I) => (hI o (q ▸ hm)).2 u hd⟩, hd, fun V e => ?_⟩
    obtain ⟨hf, v, e1, e2⟩ := hV V e
    exact ⟨hf, v, e1, Sh.drop hf (fun o ho => (hI o ho).1) e2⟩
/-- a cell takes a value -/
theorem store_cel {v : Value} {m : Str → Option Value} {ne : List (Addr × Obj)} {E : Value → Shared → Prop} {Q : Unit → Shared → Prop} {s : Shared} (hcl : C.cl = cl) (hinj : ∀ x y c, cl.lookup x = some c → cl.lookup y = some c → x = y) (hc : cl.lookup x = some c) (hK : (Kn.law cl ρ κ).is m ne) (hv : V.is v ne) (hf : V.firm = true) (F : Fr C.h₀ C.L s.heap m) (N : News C.h₀ C.L s.heap ne)
    (k : ∀ h' ne', (Kn.law cl ρ ((x, V) :: κ)).is m ne' → (∀ (W : Sh) (u : Value), W.firm = true → W.is u ne → W.is u ne') → Fr C.h₀ C.L h' m → News C.h₀ C.L h' ne' → Q () { s with heap := h' }) (hkk : C.cs.kind = .function) (hx : C.env.kindOf x = some .cell) :
    wpAny (model PG C.w) C.A (storeName C.env x v) Q E s := by
  subst hcl
  obtain ⟨o, u, hm, hd, _⟩ := hK.2 x c hc
  have hfun : ∀ o', (c, o') ∈ ne → o' = o := fun o' h' => by
    have e1 := (N _ h').1
    have e2 := (N _ hm).1
    rw [e1] at e2
    exact Option.some.inj e2
  have hns : ∀ o', (c, o') ∈ ne → ∀ xs k, o'.data ≠ .seq xs k := fun o' h' xs k q => by rw [hfun o' h', hd] at q; cases q
  have Nf : News C.h₀ C.L s.heap ((c, o) :: ne.filter fun p => decide (p.1 ≠ c)) := fun p hp => by
    rcases List.mem_cons.mp hp with rfl | hp
    · exact N _ hm
    · exact N _ (List.mem_filter.mp hp).1
  refine storeX_C F Nf hc (.head fun p hp => of_decide_eq_true (List.mem_filter.mp hp).2) hd (fun h' o' F' N' hd' => ?_) hkk hx
  have up : ∀ (W : Sh) (u : Value), W.firm = true → W.is u ne → W.is u ((c, o') :: ne.filter fun p => decide (p.1 ≠ c)) := fun W u hW h => Sh.more (Sh.drop hW hns h) Ext.cons
  refine k h' _ ⟨fun y W e => ?_, fun y cy e => ?_⟩ up F' N'
  · obtain ⟨hW, w, e1, e2⟩ := hK.1 y W e
    exact ⟨hW, w, e1, up W w hW e2⟩
  · by_cases hy : y = x
    · subst hy
      rw [hc] at e
      cases e
      refine ⟨o', some v, List.mem_cons_self .., hd', fun W e => ?_⟩
      rw [List.lookup_cons, beq_self_eq_true] at e
      cases e
      exact ⟨hf, v, rfl, up V v hf hv⟩
    · obtain ⟨oy, uy, hmy, hdy, hVy⟩ := hK.2 y cy e
      refine ⟨oy, uy, List.mem_cons_of_mem _ (List.mem_filter.mpr ⟨hmy, decide_eq_true fun (q : cy = c) => hy (hinj y x cy e (q ▸ hc))⟩), hdy, fun W e => ?_⟩
      rw [List.lookup_cons, beq_eq_false_iff_ne.mpr hy] at e
      obtain ⟨hW, w, e1, e2⟩ := hVy W e
      exact ⟨hW, w, e1, up W w hW e2⟩
theorem y1_setC {xp : Pos} (h : EvT C (.law cl ρ κ) e V) (hf : V.firm = true) (hcl : C.cl = cl) (hinj : ∀ x y c, cl.lookup x = some c → cl.lookup y = some c → x = y) (hc : cl.lookup x = some c) (hsw : swapsWith e (some (.Name x xp)) pos.line C.env = pure false) (hkk : C.cs.kind = .function) (hx : C.env.kindOf x = some .cell) :
    Y1T C (.law cl ρ κ) (.Assign [.Name x xp] e pos) (.law cl ρ ((x, V) :: κ)) := fun E Q s m ne hK F N k =>
  wpAny_Assign_Name (h E _ s m ne hK F N fun v h' k' ne1 x1 hv F1 N1 => store_cel hcl hinj hc (Kn.more hK x1) hv hf F1 N1 (fun h'' ne2 hK2 _ F2 N2 => k h'' _ _ ne2 hK2 F2 N2) hkk hx) hsw
/-- three cells take a tuple's numbers -/
theorem y1_unpack {n1 n2 n3 : Int} {x1 x2 x3 : Str} {c1 c2 c3 : Addr} {p1 p2 p3 tp : Pos} {j : Nat} (h : EvT C (.law cl ρ κ) e (.tup [n1, n2, n3])) (hcl : C.cl = cl) (hinj : ∀ x y c, cl.lookup x = some c → cl.lookup y = some c → x = y) (hc1 : cl.lookup x1 = some c1) (hc2 : cl.lookup x2 = some c2) (hc3 : cl.lookup x3 = some c3)
    (hkk : C.cs.kind = .function) (hx1 : C.env.kindOf x1 = some .cell) (hx2 : C.env.kindOf x2 = some .cell) (hx3 : C.env.kindOf x3 = some .cell)
    (hw1 : swapsWithSole [.Tuple [.Name x1 p1, .Name x2 p2, .Name x3 p3] j tp] e pos.line C.env = pure false)
    (hw2 : swappedStores [.Tuple [.Name x1 p1, .Name x2 p2, .Name x3 p3] j tp] e C.env = pure none)
    (hae : (assignEach [.Name x1 p1, .Name x2 p2, .Name x3 p3] C.env).map (·.2) = [assign (.Name x1 p1) C.env, assign (.Name x2 p2) C.env, assign (.Name x3 p3) C.env]) (haf : List.findIdx? (fun x => x.1) (assignEach [.Name x1 p1, .Name x2 p2, .Name x3 p3] C.env) = none) :
    Y1T C (.law cl ρ κ) (.Assign [.Tuple [.Name x1 p1, .Name x2 p2, .Name x3 p3] j tp] e pos) (.law cl ρ ((x3, .int n3) :: (x2, .int n2) :: (x1, .int n1) :: κ)) := by
  intro E Q s m ne hK F N k
  refine Assign_Tuple (h E _ s m ne hK F N fun v h' k' ne1 xx1 hv F1 N1 => ?_) hw1 hw2
  obtain ⟨a, vs, rfl, hm, hi⟩ := hv
  cases hi with | cons _ t1 hi => cases hi with | cons _ t2 hi => cases hi with | cons _ t3 hi => cases hi with | nil =>
  refine unpackN_ F1 N1 (News.isTup N1 hm) rfl (by
    have := congrArg List.length hae
    simpa using this) haf fun h2' F2 N2 => ?_
  rw [hae]
  refine assignInOrder_cons (PyProof.Rows.assign_Name (store_cel hcl hinj hc1 (Kn.more hK xx1) (V := .int n1) ⟨t1, rfl⟩ rfl F2 N2 (fun h3 ne3 K3 _ F3 N3 => ?_) hkk hx1))
  refine assignInOrder_cons (PyProof.Rows.assign_Name (store_cel hcl hinj hc2 K3 (V := .int n2) ⟨t2, rfl⟩ rfl F3 N3 (fun h4 ne4 K4 _ F4 N4 => ?_) hkk hx2))
  refine assignInOrder_cons (PyProof.Rows.assign_Name (store_cel hcl hinj hc3 K4 (V := .int n3) ⟨t3, rfl⟩ rfl F4 N4 (fun h5 ne5 K5 _ F5 N5 => ?_) hkk hx3))
  exact assignInOrder_nil (k h5 _ _ ne5 K5 F5 N5)
end
end EXs
noncomputable section EYs
section
variable {C : EC} {En : Env} {K K' K₁ : Kn} {V : Sh} {e l r i : Expr} {pos gp : Pos} {x y z : Str} {a b n k : Int} {xs ys : List Int} {ss : List Str} {room : Nat} {cl cl' : List (Str × Addr)} {ρ κ : List (Str × Sh)} {es : List Expr} {c : Addr}
/-- a list of numbers, written -/
theorem ev_listI (h : EvsI C En K es xs) (hl : xs.length ≤ 1000) : EvG C En K (.List es pos) (.lsi xs) := by
  intro E Q s m ne hK F N k
  refine List_ (h E _ s m ne pos hK F N fun vs h' k' ne1 x1 hvs F1 N1 => ?_)
  have hi := ints_all hvs
  refine newList_K F1 N1 (fun l h'' F2 N2 _ => ?_) (by rw [PySem.sizeLine_eq, hi.length]; lia)
  exact k _ h'' _ _ (x1.trans Ext.cons) ⟨l, vs, 0, rfl, List.mem_cons_self .., hi⟩ F2 N2
theorem strs_all : ∀ {ls : List Str} {vs : List Value} {ne : List (Addr × Obj)}, IsAll (ls.map .str) vs ne → StrsAre vs ls
  | [], _, _, h => by cases h; exact .nil
  | n :: ls, _, _, ⟨v, ws, e, ⟨t, hv⟩, hr⟩ => by subst e; subst hv; exact .cons n t (strs_all hr)
theorem strs_len : ∀ {vs : List Value} {ls : List Str}, StrsAre vs ls → vs.length = ls.length
  | _, _, .nil => rfl
  | _, _, .cons _ _ h => by simp [strs_len h]
/-- texts as arguments -/
def EvsS (C : EC) (En : Env) (K : Kn) (es : List Expr) (ls : List Str) : Prop := EvsG C En K es (ls.map .str)
theorem evsS_nil : EvsS C En K [] [] := evs_nil
theorem evsS_cons (h1 : EvG C En K e (.str x)) (h2 : EvsS C En K es ss) (hs : starEach (e :: es) En = (false, eval e En) :: starEach es En) : EvsS C En K (e :: es) (x :: ss) := evs_cons h1 h2 hs
theorem ev_listS (h : EvsS C En K es ss) (hl : ss.length ≤ 1000) : EvG C En K (.List es pos) (.lss ss) := by
  intro E Q s m ne hK F N k
  refine List_ (h E _ s m ne pos hK F N fun vs h' k' ne1 x1 hvs F1 N1 => ?_)
  have hi := strs_all hvs
  refine newList_K F1 N1 (fun l h'' F2 N2 _ => ?_) (by rw [PySem.sizeLine_eq, strs_len hi]; lia)
  exact k _ h'' _ _ (x1.trans Ext.cons) ⟨l, vs, 0, rfl, List.mem_cons_self .., hi⟩ F2 N2
/-- an item of a list of texts -/
theorem ev_itemS (h1 : EvG C En K e (.lss ss)) (h2 : EvG C En K i (.int k)) (he : ss.getD k.toNat Str.empty = y) (h0 : 0 ≤ k) (hk : k < ss.length) (hl : ss.length ≤ 1000)
    (hs : ∀ a u, subscripted i false (.ref a) (.int k u) = operate [.ref a, .int k u] (getItem (.ref a) (.int k u))) : EvG C En K (.Subscript e i pos) (.str y) := by
  intro E Q s m ne hK F N kk
  refine Subscript_ (h1 E _ s m ne hK F N fun u h1' k1 ne1 x1 hu F1 N1 => ?_)
  refine h2 E _ _ m ne1 (Kn.more hK x1) F1 N1 fun v h2' k2 ne2 x2 ⟨t, hv⟩ F2 N2 => ?_
  subst hv
  obtain ⟨a, vs, j, rfl, hm, hi⟩ := hu
  have hL := PySem.IsL.isList (n := j) (N2 _ (x2 _ hm)).1
  obtain ⟨t', ht⟩ := StrsAre_get hi k.toNat _ (getD_some (d := Str.empty) (by lia))
  rw [he] at ht
  exact tail_any hL.typeIs slot_list_getitem.lookup (wpAny_getItem_list hL h0 (by lia) (by simpa using ht) (kk _ _ _ _ (x1.trans x2) ⟨_, rfl⟩ F2 N2)) (hs _ _)
/-- the sum of a list that the caller gave -/
theorem ev_sum {f : Addr} {vs : List Value} {ns : List Int} (hok : OkC C room) (hn : nsIn (hd.heap_39 C.w.params) mainGlobals "sum" = some none) (hx : C.env.kindOf "sum" = some .globalImplicit) (h : EvT C K e (.val (.ref f))) (hl : C.h₀.IsList f vs.toArray) (hi : IntsAre vs ns)
    (hcall : eval (.Call (.Name "sum" gp) [e] [] pos) C.env = do
          let __do_lift ← eval (.Name "sum" gp) C.env
          callWith pos __do_lift [] (backTo pos (starEach [e] C.env)) (backToKw pos (keywordEach [] C.env)))
    (hs : starEach [e] C.env = (false, eval e C.env) :: starEach [] C.env) (hb : (List.any (backTo pos (starEach [] C.env)) fun x => x.1) = false) : EvT C K (.Call (.Name "sum" gp) [e] [] pos) (.int ns.sum) := by
  intro E Q s m ne hK F N k
  refine Call_ (nameX_B F hok.hin (topRead_of hok.top) hn rfl (by decide) ?_ hok.kind hx (by decide)) hcall
  refine PyProof.Rows.callWith_builtin1 (args_cons (h E _ s m ne hK F N fun v h' k' ne1 x1 hv F1 N1 => ?_) hs) hs hb
  cases hv
  exact args_nil (sumK rfl F1 N1 (let ⟨o, ho, r⟩ := hl; ⟨o, F1.keep _ _ ho, r⟩) hi fun h'' tk t' F2 N2 => k _ h'' tk ne1 x1 ⟨t', rfl⟩ F2 N2)
theorem tr_neL (hok : OkC C room) (hr : 9 ≤ room) (h1 : EvG C En K l (.lsi xs)) (h2 : EvG C En K r (.lsi ys)) (he : xs = ys) (hm : behindInMarks .NotEq r = false) : TrG C En K (.Compare l [.NotEq] [r] pos) false := by
  intro E Q s m ne hK F N k
  have hu9 := hok.u
  refine wpAny_isTrue_Compare1 (h1 E _ s m ne hK F N fun u h1' k1 ne1 x1 hu F1 N1 => ?_) hm
  refine h2 E _ _ m ne1 (Kn.more hK x1) F1 N1 fun v h2' k2 ne2 x2 hv F2 N2 => ?_
  obtain ⟨a, vs, i, rfl, ha, hi⟩ := hu
  obtain ⟨b, ws, j, rfl, hb, hj⟩ := hv
  exact ne_lists N2 (x2 _ ha) hb hi hj he (by show C.un + 64 < cLine; lia) (wpAny_truthy_bool (k _ _ _ (x1.trans x2) F2 N2))
theorem ev_eqS (h1 : EvG C En K l (.str x)) (h2 : EvG C En K r (.str x)) (hm : behindInMarks .Eq r = false) : EvG C En K (.Compare l [.Eq] [r] pos) (.bool true) := by
  intro E Q s m ne hK F N k
  refine wpAny_Compare1 (h1 E _ s m ne hK F N fun u h1' k1 ne1 x1 hu F1 N1 => ?_) hm
  refine h2 E _ _ m ne1 (Kn.more hK x1) F1 N1 fun v h2' k2 ne2 x2 hv F2 N2 => ?_
  obtain ⟨t, rfl⟩ := hu
  obtain ⟨t', rfl⟩ := hv
  refine PyProof.Rows.eq_str ?_
  rw [beq_self_eq_true]
  exact k _ _ _ _ (x1.trans x2) rfl F2 N2
theorem ev_isN (h : EvG C En K l (.val .none)) {np : Pos} {nk : Nat} (hm : behindInMarks .Is (.Constant .none nk np) = false) : EvG C En K (.Compare l [.Is] [.Constant .none nk np] pos) (.bool true) := by
  intro E Q s m ne hK F N k
  refine wpAny_Compare1 (h E _ s m ne hK F N fun u h' k1 ne1 x1 hu F1 N1 => ?_) hm
  cases hu
  exact wpAny_Constant_none (is_none_none (k _ _ _ _ x1 rfl F1 N1))
theorem ints_take : ∀ {vs : List Value} {ns : List Int} (j : Nat), IntsAre vs ns → IntsAre (vs.take j) (ns.take j)
  | _, _, 0, _ => by simpa using IntsAre.nil
  | _, _, _ + 1, .nil => .nil
  | _, _, j + 1, .cons n t h => .cons n t (ints_take j h)
theorem ev_slTu {hi : Expr} {p : Pos} {zs : List Int} (j : Nat) (h : EvG C En K e (.tup xs)) (h2 : EvG C En K hi (.int k)) (hk : k = (j : Int)) (hj : j < xs.length ∧ xs.length ≤ 1000) (hz : xs.take j = zs)
    (hs : ∀ c d, subscripted (.Slice none (some hi) none p) false (.ref c) (.ref d) = operate [.ref d, .ref c] (getItem (.ref c) (.ref d))) (ht : ∀ c r, letTemporaryGo e (.ref c) r = pure ()) :
    EvG C En K (.Subscript e (.Slice none (some hi) none p) pos) (.tup zs) := by
  intro E Q s m ne hK F N kk
  subst hk
  refine Subscript_ (h E _ s m ne hK F N fun v h' k' ne1 x1 hv F1 N1 => ?_)
  obtain ⟨a, vs, rfl, ha, hi'⟩ := hv
  refine wpAny_Slice (evalPart_none_step (evalPart_some_step (h2 E _ _ m ne1 (Kn.more hK x1) F1 N1 fun v h'' k'' ne2 x2 ⟨u, hv⟩ F2 N2 => ?_)))
  subst hv
  have e1 := hi'.length
  refine evalPart_none_step (slice_tup_take (items := vs.toArray) F2 N2 (News.isTup N2 (x2 _ ha)) (by simpa [e1] using hj.1) rfl (by simp; lia) (fun D h3' F3 N3 l3 => ?_) (hs _ _) (ht _))
  subst hz
  exact kk _ h3' _ _ ((x1.trans x2).trans Ext.cons) ⟨D, vs.take j, rfl, List.mem_cons_self .., ints_take j hi'⟩ F3 N3
/-! the law's own defs -/
theorem ct_fits {Y M D : Int} {X : Str} (hok : OkC C room) (hr : 6 ≤ room) (ho : C.outer = []) (hb : C.base = C.h₀) (y1 : 1 ≤ Y) (y2 : Y ≤ 100000) : CallT C (.ref 229) [.int Y, .int M, .int D, .str X] (.bool (lawFits Y M D X)) :=
  callT hok hr ho hb fun vs ne hv => by
    obtain ⟨_, _, e0, ⟨t0, f0⟩, _, _, e1, ⟨t1, f1⟩, _, _, e2, ⟨t2, f2⟩, _, _, e3, ⟨t3, f3⟩, en⟩ := hv
    subst en; subst e3; subst f3; subst e2; subst f2; subst e1; subst f1; subst e0; subst f0
    exact ⟨_, fits_ok _ _ _ _ Y M D t0 t1 t2 t3 X y1 y2, fun t' ne' => rfl⟩
theorem ct_key {Y M : Int} (hok : OkC C room) (hr : 1 ≤ room) (h1 : 1 ≤ M) (h2 : M ≤ 12) : CallT C (.ref 208) [.int Y, .int M] (.int (lawKey Y M)) :=
  callV (pre := fun _ => True) hok hr fun vs ne hv => by
    obtain ⟨_, _, e0, ⟨t0, f0⟩, _, _, e1, ⟨t1, f1⟩, en⟩ := hv
    subst en; subst e1; subst f1; subst e0; subst f0
    exact ⟨_, law_key_ok _ _ _ _ Y M t0 t1 h1 h2, trivial, fun t' ne' => ⟨t', rfl⟩⟩
theorem ct_last {Y M : Int} (hok : OkC C room) (hr : 2 ≤ room) (h1 : 1 ≤ M) (h2 : M ≤ 12) : CallT C (.ref 215) [.int Y, .int M] (.int (lawLast Y M)) :=
  callV (pre := fun _ => True) hok hr fun vs ne hv => by
    obtain ⟨_, _, e0, ⟨t0, f0⟩, _, _, e1, ⟨t1, f1⟩, en⟩ := hv
    subst en; subst e1; subst f1; subst e0; subst f0
    exact ⟨_, law_last_ok _ _ _ _ Y M t0 t1 h1 h2, trivial, fun t' ne' => ⟨t', rfl⟩⟩
end
section
open PyProof.Rows.LCg
variable {prog : Program} {w : World} {A : Around} {E : Value → Shared → Prop} {s₂ : Shared} {h₀ : Heap} {env : Env} {x : Str} {body : List Stmt} {Q : Flow → Shared → Prop}
/-- the turns of a loop, by what is known between them -/
theorem iter_K {I : Addr} {fp : List Addr} {n : Nat} {P : Nat → Value → Prop} {St : Nat → Heap → Prop} {m₀ : Str → Option Value} {news : List (Addr × Obj)} (K : (Str → Option Value) → List (Addr × Obj) → Prop)
    (W : Walks prog w A I fp [I] n P St) (hLf : env.locals ∉ fp) (hIf : I ∈ fp) (hI : h₀.get? I = none) (hnew : ∀ p ∈ news, p.1 ≠ I) (st : St 0 s₂.heap) (F : Fr h₀ env.locals s₂.heap m₀) (N : News h₀ env.locals s₂.heap news) (hK : K m₀ news)
    (hIo : ∀ i h, St i h → ∃ o fs, h.get? I = some o ∧ o.data = .fields fs)
    (turn : ∀ (v : Value) (m₁ : Str → Option Value) (all news₁ : List (Addr × Obj)) (h : Heap) (tk i : Nat), i < n → P i v → K m₁ news₁ → Ext news₁ all → (∃ o fs, (I, o) ∈ all ∧ o.data = .fields fs) → Fr h₀ env.locals h (fun y => if y = x then some v else m₁ y) → News h₀ env.locals h all →
      wpAny (model prog w) A (execs body env) (fun f s' => f = .next ∧ ∃ h' tk' m' ne, s' = { s₂ with heap := h', toks := tk' } ∧ Fr h₀ env.locals h' m' ∧ News h₀ env.locals h' ne ∧ Ext all ne ∧ K m' (ne.filter fun p => decide (p.1 ≠ I))) E { s₂ with heap := h, toks := tk })
    (done : ∀ m₁ news₁ h tk, K m₁ news₁ → Fr h₀ env.locals h m₁ → News h₀ env.locals h news₁ → Q .next { s₂ with heap := h, toks := tk }) :
    LoopAtV prog w A h₀ env x body Q E (.ref I) s₂ := by
  refine ⟨I, fp, [I], n, P, St, m₀, news, fun _ => K, rfl, W, hLf, fun b hb => ?_, fun p hp hb => ?_, st, F, N, hK, ?_, fun h' tk m' news' F' N' _ hJ => done m' news' h' tk hJ F' N'⟩
  · rw [List.mem_singleton.mp hb]; exact hI
  · exact hnew p hp (List.mem_singleton.mp hb)
  · rintro i v m₁ news₁ s₁ own ⟨hh', tk', rfl⟩ hin hP hJ hoff _ hown hall hst F₁ N₁
    obtain ⟨o, fs, ho, hd⟩ := hIo _ _ hst
    have hmem : (I, o) ∈ own := hall I hIf hI o ho
    refine wpAny_mono (turn v m₁ (own ++ news₁) news₁ hh' tk' i hin hP hJ (fun p hp => List.mem_append_right _ hp) ⟨o, fs, List.mem_append_left _ hmem, hd⟩ F₁ N₁) (fun f s' h => ?_) fun _ _ e => e
    obtain ⟨rfl, h', tk, m', ne, rfl, F', N', x1, hk⟩ := h
    refine ⟨rfl, h', tk, m', ne.filter fun p => decide (p.1 ≠ I), rfl, F', fun p hp => ?_, fun p hp hb => ?_, hk⟩
    · rcases List.mem_append.mp hp with hp | hp
      · exact N' p (x1 p (List.mem_append_left _ hp))
      · exact N' p (List.mem_filter.mp hp).1
    · exact of_decide_eq_true (List.mem_filter.mp hp).2 (List.mem_singleton.mp hb)
end
section
variable {C : EC} {K K' : Kn} {V : Sh} {e : Expr} {pos zp tp : Pos} {x z : Str} {a b : Int} {cl : List (Str × Addr)} {ρ κ : List (Str × Sh)} {es : List Expr} {body : List Stmt} {iter : Expr}
/-- a body that runs through and keeps what is known, as a turn -/
theorem turn_K {I : Addr} {v : Value} {m₁ : Str → Option Value} {all news₁ : List (Addr × Obj)} {h : Heap} {tk : Nat} {s₂ : Shared} {E : Value → Shared → Prop} (hb : XsT C (.law cl ((z, V) :: ρ) κ) body (.law cl ρ κ)) (hf : V.firm = true) (hv : V.is v news₁) (hK : (Kn.law cl ρ κ).is m₁ news₁) (x1 : Ext news₁ all) (hI : ∃ o fs, (I, o) ∈ all ∧ o.data = .fields fs)
    (F : Fr C.h₀ C.L h (fun y => if y = z then some v else m₁ y)) (N : News C.h₀ C.L h all) :
    wpAny (model PG C.w) C.A (execs body C.env) (fun f s' => f = .next ∧ ∃ h' tk' m' ne, s' = { s₂ with heap := h', toks := tk' } ∧ Fr C.h₀ C.L h' m' ∧ News C.h₀ C.L h' ne ∧ Ext all ne ∧ (Kn.law cl ρ κ).is m' (ne.filter fun p => decide (p.1 ≠ I))) E { s₂ with heap := h, toks := tk } := by
  refine hb E _ { s₂ with heap := h, toks := tk } _ all (Kn.put2 (Kn.more hK x1) (Sh.more hv x1) hf) F N fun h' k' m' ne x2 hK' F' N' => ⟨rfl, h', k', m', ne, rfl, F', N', x2, Kn.drop hK' fun o ho => ?_⟩
  obtain ⟨o', fs, hm, hd⟩ := hI
  have e1 := (N' _ ho).1
  rw [(N' _ (x2 _ hm)).1] at e1
  cases e1
  exact ⟨fun xs k q => (by rw [hd] at q; cases q), fun u q => (by rw [hd] at q; cases q)⟩
/-- for over a range -/
theorem y1_forR (hrg : RgT C (.law cl ρ κ) iter a b) (h1 : -1000 ≤ a) (h2 : b ≤ 1000) (hab : a < b) (hb : ∀ n, a ≤ n → n < b → XsT C (.law cl ((z, .int n) :: ρ) κ) body (.law cl ρ κ))
    (hkk : C.cs.kind = .function) (hx : C.env.kindOf z = some .local) (hs : ∀ x, foldedSetIterable iter C.env x = pure x) : Y1T C (.law cl ρ κ) (.For (.Name z zp) iter body [] pos) (.law cl ρ κ) := by
  intro E Q s m ne hK F N k
  refine wpAny_mono (E := fun _ _ => False) (Q := Q) ?_ (fun _ _ h => h) fun _ _ h => h.elim
  refine For_invVF (env := C.env) F hx (by show (C.cs.kind == .class || (C.cs.kind == .module && C.L != mainGlobals)) = false; rw [hkk]; rfl) (hrg _ _ s m ne hK F N fun r h' k' ne1 t u v x1 hr F1 N1 => ?_) hs PassesOwn.never
  have hsz : Builtin.Range.rangeSize a b 1 = ((b - a).toNat : Nat) := by
    unfold Builtin.Range.rangeSize
    rw [if_pos (by decide)]
    split <;> lia
  refine wpAny_pyIter_range hr (by unfold Builtin.Range.small; simp [Builtin.Range.rangeFitsLong, hsz]; lia) ?_
  refine iter_K (env := C.env) (n := (b - a).toNat) (Kn.law cl ρ κ).is (LCg.range_walks (I := h'.objs.size) rfl a (b - a).toNat) (fun hm => ?_) (List.mem_singleton.mpr rfl) (next_is_new F1) (fun p hp q => ?_) (by show IsRangeIter _ _ _ _ _; rw [hsz]; simpa using Heap.get?_push_size _ rfl) (F1.push _) (fun p hp => ⟨Heap.get?_push_of_some _ (N1 p hp).1, (N1 p hp).2⟩) (Kn.more hK x1) (fun i h st => ⟨_, _, st, rfl⟩) ?_ ?_
  · rw [List.mem_singleton] at hm
    exact absurd F1.ns.lt (hm ▸ Nat.lt_irrefl _)
  · exact absurd (Heap.lt_size (N1 p hp).1) (q ▸ Nat.lt_irrefl _)
  · rintro v m₁ all news₁ h tk i hi ⟨t, rfl⟩ hK1 x2 hI F2 N2
    exact turn_K (hb _ (by lia) (by lia)) rfl ⟨t, rfl⟩ hK1 x2 hI F2 N2
  · intro m₁ news₁ h tk hK1 F2 N2
    exact k h tk m₁ news₁ hK1 F2 N2
/-- for over a tuple of two texts -/
theorem y1_forS {A B : Str} {j : Nat} (he : EvsT C (.law cl ρ κ) es [.str A, .str B]) (hA : XsT C (.law cl ((z, .str A) :: ρ) κ) body (.law cl ρ κ)) (hB : XsT C (.law cl ((z, .str B) :: ρ) κ) body (.law cl ρ κ))
    (hkk : C.cs.kind = .function) (hx : C.env.kindOf z = some .local) (hs : ∀ x, foldedSetIterable (.Tuple es j tp) C.env x = pure x) : Y1T C (.law cl ρ κ) (.For (.Name z zp) (.Tuple es j tp) body [] pos) (.law cl ρ κ) := by
  intro E Q s m ne hK F N k
  refine wpAny_mono (E := fun _ _ => False) (Q := Q) ?_ (fun _ _ h => h) fun _ _ h => h.elim
  refine For_invVF (env := C.env) F hx (by show (C.cs.kind == .class || (C.cs.kind == .module && C.L != mainGlobals)) = false; rw [hkk]; rfl) (Tuple_ (he _ _ s m ne tp hK F N fun vs h' k' ne1 x1 hvs F1 N1 => ?_)) hs PassesOwn.never
  obtain ⟨_, _, e0, ⟨t0, f0⟩, _, _, e1, ⟨t1, f1⟩, en⟩ := hvs
  subst en; subst e1; subst f1; subst e0; subst f0
  refine kup_newTuple F1 N1 (fun D h'' F2 N2 l2 => ?_) (by rw [PySem.sizeLine_eq]; simp)
  have hT : h''.IsTuple D #[.str A t0, .str B t1] := ⟨_, (N2 _ (List.mem_cons_self ..)).1, rfl, _, rfl⟩
  refine wpAny_pyIter_tuple hT ?_
  have hlt : D < h''.objs.size := Heap.lt_size (N2 _ (List.mem_cons_self ..)).1
  refine iter_K (env := C.env) (n := 2) (Kn.law cl ρ κ).is (Walks.tuple rfl h''.objs.size D (Nat.ne_of_lt hlt) #[.str A t0, .str B t1]) (fun hm => ?_) (List.mem_cons_self ..) (next_is_new F2) (fun p hp q => ?_) ⟨⟨_, Heap.get?_push_size _ rfl, rfl, rfl⟩, ⟨_, Heap.get?_push_of_some _ (N2 _ (List.mem_cons_self ..)).1, rfl, _, rfl⟩⟩ (F2.push _) (fun p hp => ⟨Heap.get?_push_of_some _ (N2 p hp).1, (N2 p hp).2⟩) (Kn.more hK (x1.trans Ext.cons)) (fun i h st => ?_) ?_ ?_
  · rcases List.mem_cons.mp hm with hm | hm
    · exact absurd F2.ns.lt (hm ▸ Nat.lt_irrefl _)
    · exact (N2 _ (List.mem_cons_self ..)).2.1 (List.mem_singleton.mp hm).symm
  · exact absurd (Heap.lt_size (N2 p hp).1) (q ▸ Nat.lt_irrefl _)
  · obtain ⟨⟨o, ho, _, hd⟩, _⟩ := st
    exact ⟨o, _, ho, hd⟩
  · rintro v m₁ all news₁ h tk i hi hP hK1 x2 hI F3 N3
    match i, hi with
    | 0, _ => cases hP; exact turn_K hA rfl ⟨t0, rfl⟩ hK1 x2 hI F3 N3
    | 1, _ => cases hP; exact turn_K hB rfl ⟨t1, rfl⟩ hK1 x2 hI F3 N3
  · intro m₁ news₁ h tk hK1 F3 N3
    exact k h tk m₁ news₁ hK1 F3 N3
/-- a name is forgotten -/
theorem law_less {m : Str → Option Value} {ne : List (Addr × Obj)} (h : (Kn.law cl ((x, V) :: ρ) κ).is m ne) (hx : ρ.lookup x = none) : (Kn.law cl ρ κ).is m ne := by
  refine ⟨fun y W e => h.1 y W ?_, h.2⟩
  rw [List.lookup_cons]
  by_cases hy : y = x
  · subst hy; rw [hx] at e; cases e
  · rw [beq_eq_false_iff_ne.mpr hy]; exact e
theorem xs_less (h : XsT C (.law cl ρ κ) [] K') (hx : ρ.lookup x = none) : XsT C (.law cl ((x, V) :: ρ) κ) [] K' := fun E Q s m ne hK F N k => h E Q s m ne (law_less hK hx) F N k
end
end EYs
noncomputable section EZs
inductive AddOf : Sh → Sh → Sh → Prop
  | int {a b c : Int} (h : a + b = c) : AddOf (.int a) (.int b) (.int c)
  | str {x y z : Str} (h : x ++ y = z) (hl : z.length ≤ 100) : AddOf (.str x) (.str y) (.str z)
  | tup {xs ys zs : List Int} (hx : xs ≠ []) (hy : ys ≠ []) (hl : xs.length + ys.length ≤ 1000) (h : xs ++ ys = zs) : AddOf (.tup xs) (.tup ys) (.tup zs)
inductive SameOf : Sh → Sh → Prop
  | int {a : Int} : SameOf (.int a) (.int a)
  | str {x : Str} : SameOf (.str x) (.str x)
  | tup {xs ys : List Int} (h : xs = ys) : SameOf (.tup xs) (.tup ys)
section
variable {C : EC} {En : Env} {K : Kn} {V V1 V2 : Sh} {l r : Expr} {pos : Pos} {room : Nat}
theorem ev_addX (h1 : EvG C En K l V1) (h2 : EvG C En K r V2) (hv : AddOf V1 V2 V) : EvG C En K (.BinOp l .Add r pos) V := by
  cases hv with
  | int h => exact ev_addK h1 h2 h
  | str h hl => exact ev_cat h1 h2 h hl
  | tup hx hy hl h => exact ev_catTK h1 h2 hx hy hl h
theorem tr_neX (hok : OkC C room) (hr : 9 ≤ room) (h1 : EvG C En K l V1) (h2 : EvG C En K r V2) (hv : SameOf V1 V2) (hm : behindInMarks .NotEq r = false) : TrG C En K (.Compare l [.NotEq] [r] pos) false := by
  cases hv with
  | int => exact tr_conv (tr_cmp h1 h2 rfl hm) (by simp)
  | str => exact tr_neS h1 h2 hm
  | tup h => exact tr_neTK hok hr h1 h2 h hm
end
theorem lookup_mem {α β : Type} [BEq α] [LawfulBEq α] : ∀ {l : List (α × β)} {x : α} {c : β}, l.lookup x = some c → (x, c) ∈ l
  | [], _, _, h => by cases h
  | (y, d) :: l, x, c, h => by
    rw [List.lookup_cons] at h
    by_cases e : x = y
    · subst e; rw [beq_self_eq_true] at h; cases h; exact List.mem_cons_self ..
    · rw [beq_eq_false_iff_ne.mpr e] at h; exact List.mem_cons_of_mem _ (lookup_mem h)
theorem cells4 {x1 x2 x3 x4 : Str} {a1 a2 a3 a4 : Addr} {o1 o2 o3 o4 : Obj} {u1 u2 u3 u4 : Option Value} {ne : List (Addr × Obj)} (m1 : (a1, o1) ∈ ne) (m2 : (a2, o2) ∈ ne) (m3 : (a3, o3) ∈ ne) (m4 : (a4, o4) ∈ ne) (d1 : o1.data = .cell u1) (d2 : o2.data = .cell u2) (d3 : o3.data = .cell u3) (d4 : o4.data = .cell u4) :
    CellsAt [(x1, a1), (x2, a2), (x3, a3), (x4, a4)] [] ne := by
  intro x c e
  have h := lookup_mem e
  simp only [List.mem_cons, Prod.mk.injEq, List.not_mem_nil, or_false] at h
  rcases h with ⟨_, rfl⟩ | ⟨_, rfl⟩ | ⟨_, rfl⟩ | ⟨_, rfl⟩
  · exact ⟨_, _, m1, d1, fun V e => by cases e⟩
  · exact ⟨_, _, m2, d2, fun V e => by cases e⟩
  · exact ⟨_, _, m3, d3, fun V e => by cases e⟩
  · exact ⟨_, _, m4, d4, fun V e => by cases e⟩
theorem inj4 {x1 x2 x3 x4 : Str} {a : Nat} : ∀ x y (c : Addr), List.lookup x [(x1, a + 1 + 1 + 1 + 1), (x2, a + 1 + 1 + 1), (x3, a + 1 + 1), (x4, a + 1)] = some c → List.lookup y [(x1, a + 1 + 1 + 1 + 1), (x2, a + 1 + 1 + 1), (x3, a + 1 + 1), (x4, a + 1)] = some c → x = y := by
  intro x y c e1 e2
  have h1 := lookup_mem e1
  have h2 := lookup_mem e2
  simp only [List.mem_cons, Prod.mk.injEq, List.not_mem_nil, or_false] at h1 h2
  rcases h1 with ⟨rfl, rfl⟩ | ⟨rfl, rfl⟩ | ⟨rfl, rfl⟩ | ⟨rfl, rfl⟩ <;> rcases h2 with ⟨rfl, h⟩ | ⟨rfl, h⟩ | ⟨rfl, h⟩ | ⟨rfl, h⟩ <;> first | rfl | (exfalso; clear e1 e2; omega)
theorem kn_start {x : Str} {v : Value} {cl : List (Str × Addr)} {m : Str → Option Value} {ne : List (Addr × Obj)} (h : m x = some v) (hc : CellsAt cl [] ne) : (Kn.law cl [(x, .val v)] []).is m ne := by
  refine ⟨fun y V e => ?_, hc⟩
  have h' := lookup_mem e
  simp only [List.mem_cons, Prod.mk.injEq, List.not_mem_nil, or_false] at h'
  obtain ⟨rfl, rfl⟩ := h'
  exact ⟨rfl, v, h, rfl⟩
theorem use_law {w : World} {mean : ExcName → Option Value} {mg mb : Str → Option Value} {dp un : Nat} {gd : Option (List Code)} {cn : Str} {cs : Scope} {L a : Addr} {ccd : Value} {cl cl' : List (Str × Addr)} {A₀ : Around} {h₀ : Heap} {m : Str → Option Value} {news : List (Addr × Obj)} {body : List Stmt} {ρ : List (Str × Sh)} {E : Value → Shared → Prop} {Q : Flow → Shared → Prop} {s : Shared}
    (k1 : Below A₀ h₀ [] h₀) (k3 : (hd.heap_39 w.params).In h₀) (k5 : Top hd.view_39 LS mean mg mb h₀) (kk : cs.kind = .function) (d : dp + 40 < recursionLimit) (u : un + 320 < cLine) (F : Fr h₀ L s.heap m) (N : News h₀ L s.heap news) (hcl : cl = cl') (hK : (Kn.law cl' ρ []).is m news)
    (hQ : ∀ h' k m' ne, Fr h₀ L h' m' → News h₀ L h' ne → Q (.ret (.bool true)) { s with heap := h', toks := k })
    (hb : OkC ⟨w, mean, mg, mb, dp, un, gd, cn, cs, L, a, ccd, cl, [], A₀, h₀, h₀⟩ 40 → LsT ⟨w, mean, mg, mb, dp, un, gd, cn, cs, L, a, ccd, cl, [], A₀, h₀, h₀⟩ (.law cl' ρ []) body (.bool true)) :
    wpAny (model PG w) (ktrTop dp un gd cn cs L a ccd cl []) (execs body (envX cn cs L a ccd cl)) Q E s :=
  hb ⟨k1, k3, k5, kk, d, u⟩ E Q s m news hK F N fun v h' k m' ne hv F' N' => by cases hv; exact hQ h' k m' ne F' N'
end EZs
theorem le_y1 {y : Int} (h : 1970 ≤ y) : 1 ≤ y := by omega
theorem le_y0 {y : Int} (h : 1970 ≤ y) : 1000 ≤ y := by omega
theorem le_y2 {y : Int} (h : y ≤ 9999) : y ≤ 100000 := by omega
theorem Sh.names_eq : Sh.lss [Str.ofString "Jan", Str.ofString "Feb", Str.ofString "Mar", Str.ofString "Apr", Str.ofString "May", Str.ofString "Jun", Str.ofString "Jul", Str.ofString "Aug", Str.ofString "Sep", Str.ofString "Oct", Str.ofString "Nov", Str.ofString "Dec"] = Sh.lss FM.monthNames := rfl
theorem law_holds.tw1903866087469309809 : True := trivial
theorem law_holds.tw6927793712695671261 : True := trivial
theorem law_holds.tw15883345262158282383 : True := trivial
theorem law_holds.tw2981290661021393919 : True := trivial
theorem law_holds.tw13536078969547264968 : True := trivial
theorem law_holds.tw6303369277058290966 : True := trivial
theorem law_holds.tw10383575825508711086 : True := trivial
theorem law_holds.tw1599026117119855824 : True := trivial
theorem law_holds.tw3996538145585541282 : True := trivial
theorem law_holds.tw2717642912124139242 : True := trivial
theorem law_holds.tw11875585622144830927 : True := trivial
theorem law_holds.tw10156154551059412043 : True := trivial
theorem law_holds.tw445335354869643106 : True := trivial
theorem law_holds.tw11968012230557848489 : True := trivial
theorem law_holds.tw9843604407834444796 : True := trivial
theorem law_holds.tw12941704145708800945 : True := trivial
theorem law_holds.tw7416729418936117867 : True := trivial
theorem law_holds.tw11484002064277903863 : True := trivial
theorem law_holds.tw2643271747718453845 : True := trivial
theorem law_holds.tw4515466672771955728 : True := trivial
theorem law_holds.tw4834441640324335382 : True := trivial
theorem law_holds.tw14621789764659903892 : True := trivial
theorem law_holds.tw1921953547329036461 : True := trivial
theorem law_holds.tw8249079356659094474 : True := trivial
theorem law_holds.tw2907507879108658156 : True := trivial
theorem law_holds.tw16883458599210261866 : True := trivial
theorem law_holds.tw9779807473162285230 : True := trivial
theorem law_holds.tw7752943617915302789 : True := trivial
theorem law_holds.tw5112083995522966620 : True := trivial
theorem law_holds.tw10242277825702978295 : True := trivial
theorem law_holds.tw10441050188594101415 : True := trivial
theorem law_holds.tw13854116918120582761 : True := trivial
theorem law_holds.tw16470317323979864763 : True := trivial
theorem law_holds.tw7080125749870532296 : True := trivial
theorem law_holds.tw14925382992726071281 : True := trivial
theorem law_holds.tw6667284449218939238 : True := trivial
theorem law_holds.tw3979707639553702691 : True := trivial
theorem law_holds.tw5584096483412462516 : True := trivial
theorem law_holds.tw1332809893879233157 : True := trivial
theorem law_holds.tw10435077654142135991 : True := trivial
theorem law_holds.tw699380112222796084 : True := trivial
theorem law_holds.tw3746259189262549447 : True := trivial
theorem law_holds.tw5419144667078052427 : True := trivial
theorem law_holds.tw6244408368332640272 : True := trivial
theorem law_holds.tw6177916462887485040 : True := trivial
theorem law_holds.tw17792202752317970018 : True := trivial
theorem law_holds.tw1268441647819290835 : True := trivial
theorem law_holds.tw7806840844154297201 : True := trivial
theorem law_holds.tw2331563316162433747 : True := trivial
theorem law_holds.tw7987243290614416497 : True := trivial
theorem law_holds.tw11347954631545130290 : True := trivial
theorem law_holds.tw12687621791434340054 : True := trivial
theorem law_holds.tw15274831704391544125 : True := trivial
theorem law_holds.tw12780804625047726367 : True := trivial
theorem law_holds.tw8826638154719009380 : True := trivial
theorem law_holds.tw4008084134468147086 : True := trivial
theorem law_holds.tw5117662029339320154 : True := trivial
theorem law_holds.tw15034731701347546215 : True := trivial
theorem law_holds.tw5212653520564569363 : True := trivial
theorem law_holds.tw11100686419730198450 : True := trivial
theorem law_holds.tw14646867148444618371 : True := trivial
theorem law_holds.tw4781243967656130014 : True := trivial
theorem law_holds.tw3426384778480675251 : True := trivial
theorem law_holds.tw561398812118355830 : True := trivial
theorem law_holds.tw2887050238494874643 : True := trivial
theorem law_holds.tw15352839923633478061 : True := trivial
theorem law_holds.tw10301956948240465243 : True := trivial
theorem law_holds.tw2618386414584295968 : True := trivial
theorem law_holds.tw14390095281932903014 : True := trivial
theorem law_holds.tw519298541982818421 : True := trivial
theorem law_holds.tw2903333896348957400 : True := trivial
theorem law_holds.tw4054605426343851304 : True := trivial
theorem law_holds.tw17713402740875732926 : True := trivial
theorem law_holds.tw17911580528928914924 : True := trivial
theorem law_holds.tw1285599515219305098 : True := trivial
theorem law_holds.tw13983371404066579822 : True := trivial
theorem law_holds.tw3808703085821546077 : True := trivial
theorem law_holds.tw16720094985154256693 : True := trivial
theorem law_holds.tw4439653461905209652 : True := trivial
theorem law_holds.tw8312341600987523519 : True := trivial
theorem law_holds.tw3959601488294255719 : True := trivial
theorem law_holds.tw545109181885906688 : True := trivial
theorem law_holds.tw1213554597985364776 : True := trivial
theorem law_holds.tw228058311090241170 : True := trivial
theorem law_holds.tw11946022803392826334 : True := trivial
theorem law_holds.tw8307942328267641647 : True := trivial
theorem law_holds.tw2295933128562542503 : True := trivial
theorem law_holds.tw1495482376148854502 : True := trivial
theorem law_holds.tw631266038723830076 : True := trivial
theorem law_holds.tw8570087061310353148 : True := trivial
theorem law_holds.tw14596297492920191028 : True := trivial
theorem law_holds.tw14851107761317329982 : True := trivial
theorem law_holds.tw119634142877433759 : True := trivial
theorem law_holds.tw2159558930717985069 : True := trivial
theorem law_holds.tw6911747868599837429 : True := trivial
theorem law_holds.tw6677821561840896501 : True := trivial
theorem law_holds.tw17866247507815212042 : True := trivial
theorem law_holds.tw15609566024721092083 : True := trivial
theorem law_holds.tw14531881819706719225 : True := trivial
theorem law_holds.tw15191720212996534143 : True := trivial
theorem law_holds.tw660297872995803996 : True := trivial
theorem law_holds.tw7120836010843673076 : True := trivial
theorem law_holds.tw14991590004735058009 : True := trivial
theorem law_holds.tw7769649832755249146 : True := trivial
theorem law_holds.tw15806970514647361693 : True := trivial
theorem law_holds.tw3974387499553966400 : True := trivial
theorem law_holds.tw18432519218115021881 : True := trivial
theorem law_holds.tw3595789414353437717 : True := trivial
theorem law_holds.tw5037970770195530229 : True := trivial
theorem law_holds.tw7696488724909661519 : True := trivial
theorem law_holds.tw1622690429015379626 : True := trivial
theorem law_holds.tw1341266762083198811 : True := trivial
theorem law_holds.tw7304591109411159013 : True := trivial
theorem law_holds.tw5981114437932730796 : True := trivial
theorem law_holds.tw10027879121665395642 : True := trivial
theorem law_holds.tw10486713781251687710 : True := trivial
theorem law_holds.tw6369717087994863962 : True := trivial
theorem law_holds.tw17274716441693411508 : True := trivial
theorem law_holds.tw1496123403401453975 : True := trivial
theorem law_holds.tw1099259369241382048 : True := trivial
theorem law_holds.tw17942709131360195518 : True := trivial
theorem law_holds.tw2075624079617657780 : True := trivial
theorem law_holds.tw15661869461025623997 : True := trivial
theorem law_holds.tw15154110283740273250 : True := trivial
theorem law_holds.tw17598101756349436640 : True := trivial
theorem law_holds.tw6564709946809587534 : True := trivial
theorem law_holds.tw9606376775287448836 : True := trivial
theorem law_holds.tw575232530192455986 : True := trivial
theorem law_holds.tw12977093529070104392 : True := trivial
theorem law_holds.tw1685627985566243432 : True := trivial
theorem law_holds.tw7566432030715092817 : True := trivial
theorem law_holds.tw12476058986133298565 : True := trivial
theorem law_holds.tw13115651212395430983 : True := trivial
theorem law_holds.tw9317688335297629284 : True := trivial
theorem law_holds.tw11977050620070087417 : True := trivial
theorem law_holds.tw8266603773606604290 : True := trivial
theorem law_holds.tw8553002610548859549 : True := trivial
theorem law_holds.tw5364902710198789758 : True := trivial
theorem law_holds.tw17237755526102222789 : True := trivial
theorem law_holds.tw8984712037535005518 : True := trivial
theorem law_holds.tw1385162719727133579 : True := trivial
theorem law_holds.tw18261290160731607033 : True := trivial
theorem law_holds.tw7221428835167493151 : True := trivial
theorem law_holds.tw576407869801174206 : True := trivial
theorem law_holds.tw9634471323475708679 : True := trivial
theorem law_holds.tw3438298445031660282 : True := trivial
theorem law_holds.tw5858263632927829637 : True := trivial
theorem law_holds.tw8666519363043736892 : True := trivial
theorem law_holds.tw10465528174321978529 : True := trivial
theorem law_holds.tw2269544990204364226 : True := trivial
theorem law_holds.tw18389310822273884664 : True := trivial
theorem law_holds.tw16461882675039125421 : True := trivial
theorem law_holds.tw3494445600050047599 : True := trivial
theorem law_holds.tw14335913921861858828 : True := trivial
theorem law_holds.tw18269650602155537469 : True := trivial
theorem law_holds.tw7288501770760464825 : True := trivial
theorem law_holds.tw17028624522117568015 : True := trivial
theorem law_holds.tw14892801356780361778 : True := trivial
theorem law_holds.tw14789792462180790578 : True := trivial
theorem law_holds.tw4581845663705801772 : True := trivial
theorem law_holds.tw3955097671198598788 : True := trivial
theorem law_holds.tw14883556706271630602 : True := trivial
theorem law_holds.tw745255978533919091 : True := trivial
theorem law_holds.tw2136269947727277649 : True := trivial
theorem law_holds.tw724200737284857819 : True := trivial
theorem law_holds.tw12622292602297523153 : True := trivial
theorem law_holds.tw6896717019858035522 : True := trivial
theorem law_holds.tw12116493165278983582 : True := trivial
theorem law_holds.tw11226338781366815758 : True := trivial
theorem law_holds.tw10371022188087798493 : True := trivial
theorem law_holds.tw11625900857008200698 : True := trivial
theorem law_holds.tw10209896874158180831 : True := trivial
theorem law_holds.tw14983226153234331074 : True := trivial
theorem law_holds.tw3756308257209627903 : True := trivial
theorem law_holds.tw17499823404086765753 : True := trivial
theorem law_holds.tw2446358144275080391 : True := trivial
theorem law_holds.tw8984152853971343422 : True := trivial
theorem law_holds.tw3049941959672503198 : True := trivial
theorem law_holds.tw13028658284911697911 : True := trivial
theorem law_holds.tw9133392255828135769 : True := trivial
theorem law_holds.tw15448297888555860652 : True := trivial
theorem law_holds.tw5731563423909890137 : True := trivial
theorem law_holds.tw11223184984439025696 : True := trivial
theorem law_holds.tw13402424001964919149 : True := trivial
theorem law_holds.tw3850375180904979519 : True := trivial
theorem law_holds.tw17993387198741990920 : True := trivial
theorem law_holds.tw10666784280354678857 : True := trivial
theorem law_holds.tw12223724995276690173 : True := trivial
theorem law_holds.tw4593294709026258786 : True := trivial
theorem law_holds.tw8634839017697508684 : True := trivial
theorem law_holds.tw9069877914133315304 : True := trivial
theorem law_holds.tw4030767218360268280 : True := trivial
theorem law_holds.tw13780023080261437657 : True := trivial
theorem law_holds.tw10841264019214440115 : True := trivial
theorem law_holds.tw1762888911704233025 : True := trivial
theorem law_holds.tw15333956030411951890 : True := trivial
theorem law_holds.tw14828999820898988419 : True := trivial
theorem law_holds.tw4072507727158212662 : True := trivial
theorem law_holds.tw440325148559900515 : True := trivial
theorem law_holds.tw2006301483956418059 : True := trivial
theorem law_holds.tw8549365171731915398 : True := trivial
theorem law_holds.tw12831907817818079685 : True := trivial
theorem law_holds.tw15617896438947887921 : True := trivial
theorem law_holds.tw179590077315354965 : True := trivial
theorem law_holds.tw6317479115527610633 : True := trivial
theorem law_holds.tw14872900085578418628 : True := trivial
theorem law_holds.tw10368410895845634921 : True := trivial
theorem law_holds.tw14160533322030094474 : True := trivial
theorem law_holds.tw12115171985352901274 : True := trivial
theorem law_holds.tw11017292853192552079 : True := trivial
theorem law_holds.tw2387193687640843687 : True := trivial
theorem law_holds.tw11803358882649189518 : True := trivial
theorem law_holds.tw15527639110640922598 : True := trivial
theorem law_holds.tw15607887362523206001 : True := trivial
theorem law_holds.tw6674817763981286723 : True := trivial
theorem law_holds.tw9423440377400516374 : True := trivial
theorem law_holds.tw18090433342136740992 : True := trivial
theorem law_holds.tw11097158420108258118 : True := trivial
theorem law_holds.tw6507877686720480950 : True := trivial
theorem law_holds.tw8417186165934385351 : True := trivial
theorem law_holds.tw16805829885119392726 : True := trivial
theorem law_holds.tw12459966957829302596 : True := trivial
theorem law_holds.tw3927331946688356228 : True := trivial
theorem law_holds.tw9529696498207198238 : True := trivial
theorem law_holds.tw12149405283708829123 : True := trivial
theorem law_holds.tw16893121556090616931 : True := trivial
theorem law_holds.tw13220211186989608806 : True := trivial
theorem law_holds.tw1053317679998426468 : True := trivial
theorem law_holds.tw7407239408455114201 : True := trivial
theorem law_holds.tw17899081815984039989 : True := trivial
theorem law_holds.tw2695550118857162214 : True := trivial
theorem law_holds.tw4323815956820902445 : True := trivial
theorem law_holds.tw13431030151845061361 : True := trivial
theorem law_holds.tw4916342969005030805 : True := trivial
theorem law_holds.tw3046938939346580660 : True := trivial
theorem law_holds.tw2856731137302751260 : True := trivial
theorem law_holds.tw15272395603832836080 : True := trivial
theorem law_holds.tw41732636909640268 : True := trivial
theorem law_holds.tw2102315897755806987 : True := trivial
theorem law_holds.tw1909877003179415225 : True := trivial
theorem law_holds.tw447027507633508388 : True := trivial
theorem law_holds.tw2078624436916829710 : True := trivial
theorem law_holds.tw7472407996622490835 : True := trivial
theorem law_holds.tw14988988175077273356 : True := trivial
theorem law_holds.tw2558664710541493025 : True := trivial
theorem law_holds.tw17027635718292003107 : True := trivial
theorem law_holds.tw4037582482628031876 : True := trivial
theorem law_holds.tw4370086069003782432 : True := trivial
theorem law_holds.tw6869992995446874880 : True := trivial
theorem law_holds.tw10726639523019406850 : True := trivial
theorem law_holds.tw7089819591129360890 : True := trivial
theorem law_holds.tw1377309892636839040 : True := trivial
theorem law_holds.tw8790382262760724670 : True := trivial
theorem law_holds.tw12336541308636382938 : True := trivial
theorem law_holds.tw14289194402921355359 : True := trivial
theorem law_holds.tw10968802771074238664 : True := trivial
theorem law_holds.tw9889521400790421688 : True := trivial
theorem law_holds.tw16873799427995575018 : True := trivial
theorem law_holds.tw12626328134170644701 : True := trivial
theorem law_holds.tw8285764192309689115 : True := trivial
theorem law_holds.tw7019463264422422977 : True := trivial
theorem law_holds.tw11097350217990362986 : True := trivial
theorem law_holds.tw9255152265573255198 : True := trivial
theorem law_holds.tw15006436103509636135 : True := trivial
theorem law_holds.tw3366817510852727610 : True := trivial
theorem law_holds.tw14774650325386425613 : True := trivial
theorem law_holds.tw12437668791216764800 : True := trivial
theorem law_holds.tw4889031023730116350 : True := trivial
theorem law_holds.tw12419048959643632839 : True := trivial
theorem law_holds.tw17180001009569633970 : True := trivial
theorem law_holds.tw13956741780833797525 : True := trivial
theorem law_holds.tw15829985883664642994 : True := trivial
theorem law_holds.tw11098625913536864229 : True := trivial
theorem law_holds.tw14545874151571354728 : True := trivial
theorem law_holds.tw10264638600885302300 : True := trivial
theorem law_holds.tw602461330855297101 : True := trivial
theorem law_holds.tw926570990666696690 : True := trivial
theorem law_holds.tw15544829507116839252 : True := trivial
theorem law_holds.tw9168033884955339765 : True := trivial
theorem law_holds.tw17253691774821329096 : True := trivial
theorem law_holds.tw14385925486924208373 : True := trivial
theorem law_holds.tw11924911360389889469 : True := trivial
theorem law_holds.tw6861490101519172755 : True := trivial
theorem law_holds.tw16836969012518115619 : True := trivial
theorem law_holds.tw3943428198234077543 : True := trivial
theorem law_holds.tw13958071646730322851 : True := trivial
theorem law_holds.tw9682718004065560343 : True := trivial
theorem law_holds.tw10164210789698999147 : True := trivial
theorem law_holds.tw18234560199702728603 : True := trivial
theorem law_holds.tw13478230802861573701 : True := trivial
theorem law_holds.tw15150646450996357022 : True := trivial
theorem law_holds.tw12185813521663953344 : True := trivial
theorem law_holds.tw12342728606916771844 : True := trivial
theorem law_holds.tw8854015012368427407 : True := trivial
theorem law_holds.tw8909828626151137519 : True := trivial
theorem law_holds.tw14377833709258309704 : True := trivial
theorem law_holds.tw17449644191371220912 : True := trivial
theorem law_holds.tw9552830710289189752 : True := trivial
theorem law_holds.tw10958410103948607464 : True := trivial
theorem law_holds.tw17262651193110724033 : True := trivial
theorem law_holds.tw4572037976767099448 : True := trivial
theorem law_holds.tw16768317535328552349 : True := trivial
theorem law_holds.tw9288214680346807717 : True := trivial
theorem law_holds.tw11781800970755023335 : True := trivial
theorem law_holds.tw3390839446522356110 : True := trivial
theorem law_holds.tw11764581739189218997 : True := trivial
theorem law_holds.tw7495221243884187115 : True := trivial
theorem law_holds.tw6934448944433832347 : True := trivial
theorem law_holds.tw2175471002772951711 : True := trivial
theorem law_holds.tw10516828495840041881 : True := trivial
theorem law_holds.tw8857742495270377987 : True := trivial
theorem law_holds.tw653560878884961445 : True := trivial
theorem law_holds.tw3186734533307500241 : True := trivial
theorem law_holds.tw4441770287765753910 : True := trivial
theorem law_holds.tw17255088995462705879 : True := trivial
theorem law_holds.tw2143268655074302082 : True := trivial
theorem law_holds.tw3956099054510807996 : True := trivial
theorem law_holds.tw11126432536435168541 : True := trivial
theorem law_holds.tw6709271908398517637 : True := trivial
theorem law_holds.tw2043166853727251185 : True := trivial
theorem law_holds.tw4524032621918665186 : True := trivial
theorem law_holds.tw18326849912455186884 : True := trivial
theorem law_holds.tw6765152471904792315 : True := trivial
theorem law_holds.tw16257229351972016128 : True := trivial
theorem law_holds.tw907578622648922086 : True := trivial
theorem law_holds.tw13301187468288870568 : True := trivial
theorem law_holds.tw16406091861079842607 : True := trivial
theorem law_holds.tw5640673133297012132 : True := trivial
theorem law_holds.tw14498155544194170393 : True := trivial
theorem law_holds.tw7356724547972884604 : True := trivial
theorem law_holds.tw13280740594461564331 : True := trivial
theorem law_holds.tw9875236377963488844 : True := trivial
theorem law_holds.tw2503670479209048990 : True := trivial
theorem law_holds.tw5950301352895977177 : True := trivial
theorem law_holds.tw15014403891855920072 : True := trivial
theorem law_holds.tw16098122237329998606 : True := trivial
theorem law_holds.tw14997073306097389879 : True := trivial
theorem law_holds.tw16887194039231368127 : True := trivial
theorem law_holds.tw981846192996546977 : True := trivial
theorem law_holds.tw4614512636035447770 : True := trivial
theorem law_holds.tw7604666192120794032 : True := trivial
theorem law_holds.tw13397297893571687751 : True := trivial
theorem law_holds.tw2578278018795888234 : True := trivial
theorem law_holds.tw12835091436910803158 : True := trivial
theorem law_holds.tw16614716721108272449 : True := trivial
theorem law_holds.tw10442559174759676424 : True := trivial
theorem law_holds.tw10028117763298573888 : True := trivial
theorem law_holds.tw10188763426450519768 : True := trivial
theorem law_holds.tw18203989763732354715 : True := trivial
theorem law_holds.tw3912811242725288453 : True := trivial
theorem law_holds.tw13882729330811710610 : True := trivial
theorem law_holds.tw3776956092104397036 : True := trivial
theorem law_holds.tw11026575858783421537 : True := trivial
theorem law_holds.tw3850334171643177529 : True := trivial
theorem law_holds.tw7185456241796803578 : True := trivial
theorem law_holds.tw8745285889728075598 : True := trivial
theorem law_holds.tw15694993059591697976 : True := trivial
theorem law_holds.tw14571795756577361901 : True := trivial
theorem law_holds.tw2322801206320994539 : True := trivial
theorem law_holds.tw17470365217354309832 : True := trivial
theorem law_holds.tw6723812968561706957 : True := trivial
theorem law_holds.tw14497384708736915567 : True := trivial
theorem law_holds.tw16381176275627223697 : True := trivial
theorem law_holds.tw9849722394096787677 : True := trivial
theorem law_holds.tw18006792725990754497 : True := trivial
theorem law_holds.tw1928719863018725356 : True := trivial
theorem law_holds.tw1414043511812021011 : True := trivial
theorem law_holds.tw12732824653754844360 : True := trivial
theorem law_holds.tw302768837105346163 : True := trivial
theorem law_holds.tw16273140198857503625 : True := trivial
theorem law_holds.tw14354538779393863138 : True := trivial
theorem law_holds.tw12456547296908542839 : True := trivial
theorem law_holds.tw9992725586745946429 : True := trivial
theorem law_holds.tw16760957895259694429 : True := trivial
theorem law_holds.tw10876394233666535175 : True := trivial
theorem law_holds.tw17176980426824361555 : True := trivial
theorem law_holds.tw14979626087600564940 : True := trivial
set_option Elab.async true in
theorem law_holds : PySem.Challenge.rw_kl0452_01.Holds := by
  w_on
  o_law
  o_head (kHook hd.heap_39 [nat_lit 49, nat_lit 50, nat_lit 2, nat_lit 3, nat_lit 55, nat_lit 57, nat_lit 58, nat_lit 60, nat_lit 61, nat_lit 63, nat_lit 65, nat_lit 66, nat_lit 68, nat_lit 69, nat_lit 70, nat_lit 72, nat_lit 73, nat_lit 75, nat_lit 76, nat_lit 77, nat_lit 78, nat_lit 80, nat_lit 84, nat_lit 85, nat_lit 87, nat_lit 88, nat_lit 90, nat_lit 91, nat_lit 92, nat_lit 96, nat_lit 97, nat_lit 98, nat_lit 100, nat_lit 101, nat_lit 103, nat_lit 104, nat_lit 105, nat_lit 107, nat_lit 108, nat_lit 110, nat_lit 111, nat_lit 112, nat_lit 114, nat_lit 115, nat_lit 117, nat_lit 118, nat_lit 119, nat_lit 121, nat_lit 122, nat_lit 124, nat_lit 125, nat_lit 126, nat_lit 127, nat_lit 128, nat_lit 129, nat_lit 131, nat_lit 132, nat_lit 134, nat_lit 135, nat_lit 136, nat_lit 138, nat_lit 139, nat_lit 141, nat_lit 142, nat_lit 143, nat_lit 145, nat_lit 146, nat_lit 148, nat_lit 149, nat_lit 150, nat_lit 151, nat_lit 157, nat_lit 159, nat_lit 160, nat_lit 162, nat_lit 163, nat_lit 164, nat_lit 166, nat_lit 167, nat_lit 169, nat_lit 170, nat_lit 171, nat_lit 173, nat_lit 174, nat_lit 176, nat_lit 177, nat_lit 178, nat_lit 180, nat_lit 181, nat_lit 183, nat_lit 184, nat_lit 185, nat_lit 187, nat_lit 188, nat_lit 190, nat_lit 191, nat_lit 195, nat_lit 197, nat_lit 198, nat_lit 200, nat_lit 201, nat_lit 202, nat_lit 204, nat_lit 205, nat_lit 207, nat_lit 208, nat_lit 209, nat_lit 211, nat_lit 212, nat_lit 214, nat_lit 215, nat_lit 216, nat_lit 218, nat_lit 219, nat_lit 221, nat_lit 222, nat_lit 223, nat_lit 225, nat_lit 226, nat_lit 228, nat_lit 229, nat_lit 230, nat_lit 233, nat_lit 234, nat_lit 235, nat_lit 238, nat_lit 239] (fun _ => by kernel_rfl))
  (case hw => w_witness2)
  refine (?_ : WalkO hd.view_39 _ (XL hd.view_39 _) _ _ _ _ _)
  w_strict (
    k_go0
    (all_goals try k_fold)
    (with_reducible rename IntsAre _ _ => hI)
    (with_reducible rename Heap.IsList _ _ _ => hL)
    obtain ⟨mo, N, q0, q1, q2, y, m, d, h, mi, s, r, c0, c, c1, T, wd, mon, S12, S14, T2, LF, b1, b2, b3, b4, b5, b6, b7, b8, b9, b10, b11, b12, b13, b14, b15, b16⟩ := law_facts_ok hI
    obtain ⟨S57, Y4, H2, M2, C2, S11, LSx, hm0, hm9, _, hD⟩ := LawF.rest_ok LF
    (k_dflt (refine' use_law (ρ := [("script", Sh.val _)]) (cl' := [(_, _), (_, _), (_, _), (_, _)]) ?q9k1 ?q9k3 ?q9k5 ?q9kk ?q9d ?q9u ?q9F ?q9N ?q9hcl ?q9hK ?q9hQ ?q9hb; (case q9k1 => k_asm); (case q9k3 => k_asm); (case q9k5 => k_asm); (case q9kk => exact rfl); (case q9d => ktr_room); (case q9u => ktr_units); (case q9F => k_asm); (case q9N => k_asm); (case q9hcl => with_unfolding_all rfl)))
    (case q9hK => (refine' kn_start ?q9hm ?q9hc; (case q9hm => with_unfolding_all rfl); (case q9hc => (refine' cells4 ?q9m1 ?q9m2 ?q9m3 ?q9m4 ?q9d1 ?q9d2 ?q9d3 ?q9d4; (case q9m1 => k_mem); (case q9m2 => k_mem); (case q9m3 => k_mem); (case q9m4 => k_mem); (case q9d1 => assumption); (case q9d2 => assumption); (case q9d3 => assumption); (case q9d4 => assumption)))))
    (case q9hQ => (intro h9 k9 m9 n9 F9 N9; k_steps))
    (intro hok; (try dsimp only at hok ⊢))
    repeat' ((with_reducible show (_ : Prop)); (first
      | ((with_reducible show EvG _ _ _ _ _); (first | ((with_reducible show EvG _ _ _ (Expr.Name _ _) _); (first | ((with_reducible show EvG _ _ (Kn.law _ _ _) (Expr.Name _ _) _); (first | ((with_reducible refine' ev_loc ?a0 ?a1 ?a2 ?a3); (case a2 => rfl); (case a0 => with_unfolding_all rfl); (case a1 => rfl); (case a3 => decide)) | ((with_reducible refine' ev_cel ?a0 ?a1 ?a2 ?a3 ?a4 ?a5); (case a4 => rfl); (case a0 => rfl); (case a1 => with_unfolding_all rfl); (case a2 => with_unfolding_all rfl); (case a3 => rfl); (case a5 => decide)))) | ((with_reducible show EvG _ _ (Kn.comp _ _ _ _ _) (Expr.Name _ _) _); (first | ((with_reducible refine' ev_own ?a0 ?a1 ?a2); (case a0 => rfl); (case a1 => rfl); (case a2 => decide)) | ((with_reducible refine' ev_celC ?a0 ?a1 ?a2 ?a3 ?a4 ?a5); (case a4 => rfl); (case a0 => with_unfolding_all rfl); (case a1 => with_unfolding_all rfl); (case a2 => with_unfolding_all rfl); (case a3 => rfl); (case a5 => decide)) | ((with_reducible refine' ev_globC hok ?a0 ?a1 ?a2 ?a3 ?a4 ?a5); (case a4 => rfl); (case a0 => k_is); (case a1 => rfl); (case a2 => rfl); (case a3 => rfl); (case a5 => decide)))))) | ((with_reducible show EvG _ _ _ (Expr.Constant _ _ _) _); (first | (with_reducible exact ev_int) | (with_reducible exact ev_str) | (with_reducible exact ev_none))) | ((with_reducible show EvG _ _ _ (Expr.BinOp _ _ _ _) _); (first | ((with_reducible show EvG _ _ _ (Expr.BinOp (Expr.Constant (Const.str (PySem.Str.ofString "%s, %02d-%s-%04d %02d:%02d:%02d GMT")) _ _) Operator.Mod (Expr.Tuple _ _ _) _) _); ((with_reducible refine' ev_fmt7 ?_ LF.fmt LF.wdl LF.monl b5 b6 (le_y0 b1) b2 b7 b8 b9 b10 b11 b12))) | ((with_reducible show EvG _ _ _ (Expr.BinOp (Expr.Constant (Const.str (PySem.Str.ofString ", %02d-%s")) _ _) Operator.Mod (Expr.Tuple _ _ _) _) _); ((with_reducible refine' ev_fmt3 ?_ hF3 hmd hm0 hm9))) | ((with_reducible show EvG _ _ _ (Expr.BinOp _ Operator.Add _ _) _); ((with_reducible refine' ev_addX ?_ ?_ ?_))) | ((with_reducible show EvG _ _ _ (Expr.BinOp _ Operator.Sub _ _) _); ((with_reducible refine' ev_subK ?_ ?_ ?_))) | ((with_reducible show EvG _ _ _ (Expr.BinOp _ Operator.Mult _ _) _); ((with_reducible refine' ev_mul ?_ ?_ ?_))) | ((with_reducible show EvG _ _ _ (Expr.BinOp _ Operator.Mod _ _) _); ((with_reducible refine' ev_modK ?_ ?_ ?_ ?_))) | ((with_reducible show EvG _ _ _ (Expr.BinOp _ Operator.FloorDiv _ _) _); ((with_reducible refine' ev_divK ?_ ?_ ?_ ?_))))) | ((with_reducible show EvG _ _ _ (Expr.Subscript _ _ _) _); (first | ((with_reducible show EvG _ _ _ (Expr.Subscript (Expr.Name (PySem.Str.ofString "told") _) (Expr.Slice none (some _) none _) _) _); ((with_reducible refine' ev_slTu 3 ?_ ?_ ?_ ?_ ?_ ?_ ?_))) | ((with_reducible show EvG _ _ _ (Expr.Subscript (Expr.Name (PySem.Str.ofString "told") _) (Expr.Slice (some _) none none _) _) _); ((with_reducible refine' ev_slTK 1 ?_ ?_ ?_ ?_ ?_ ?_ ?_))) | ((with_reducible show EvG _ _ _ (Expr.Subscript _ (Expr.Slice none (some _) none _) _) _); ((with_reducible refine' ev_slN ?_ ?_ ?_ ?_ ?_ ?_))) | ((with_reducible show EvG _ _ _ (Expr.Subscript _ (Expr.Slice (some _) none none _) _) _); ((with_reducible refine' ev_slS ?_ ?_ ?_ ?_ ?_ ?_))) | ((with_reducible show EvG _ _ _ (Expr.Subscript _ (Expr.Slice (some _) (some _) none _) _) _); ((with_reducible refine' ev_slSS ?_ ?_ ?_ ?_ ?_ ?_ ?_))) | ((with_reducible show EvG _ _ _ (Expr.Subscript (Expr.Name (PySem.Str.ofString "names") _) _ _) _); ((with_reducible refine' ev_itemS ?_ ?_ ?_ ?_ ?_ ?_ ?_))) | ((with_reducible show EvG _ _ _ (Expr.Subscript _ (Expr.Constant (Const.int 0) _ _) _) _); ((with_reducible refine' ev_itemK 0 ?_ ?_ ?_ ?_ ?_ ?_ ?_))) | ((with_reducible show EvG _ _ _ (Expr.Subscript _ (Expr.Constant (Const.int 1) _ _) _) _); ((with_reducible refine' ev_itemK 1 ?_ ?_ ?_ ?_ ?_ ?_ ?_))) | ((with_reducible show EvG _ _ _ (Expr.Subscript _ (Expr.Constant (Const.int 2) _ _) _) _); ((with_reducible refine' ev_itemK 2 ?_ ?_ ?_ ?_ ?_ ?_ ?_))))) | ((with_reducible show EvG _ _ _ (Expr.Call _ _ _ _) _); (first | ((with_reducible show EvG _ _ _ (Expr.Call (Expr.Name (PySem.Str.ofString "sum") _) _ _ _) _); ((with_reducible refine' ev_sum hok ?a0 ?a1 ?_ hL hI ?a2 ?a3 ?a4); (case a0 => (k_is)); (case a1 => (rfl)); (case a2 => (rfl)); (case a3 => (rfl)); (case a4 => (rfl)))) | ((with_reducible show EvG _ _ _ (Expr.Call (Expr.Name (PySem.Str.ofString "str") _) _ _ _) _); ((with_reducible refine' ev_strI hok ?a0 ?a1 ?_ (log_small hm0 hm9) ?a2 ?a3 ?a4); (case a0 => (k_is)); (case a1 => (rfl)); (case a2 => (rfl)); (case a3 => (rfl)); (case a4 => (rfl)))) | ((with_reducible show EvG _ _ (Kn.law _ _ _) (Expr.Call _ _ _ _) _); ((with_reducible refine' ev_call hok ?a0 ?a1 ?_ ?_ ?a2 ?a3 ?a4 ?a5 ?a6); (case a0 => (k_is)); (case a1 => (k_is)); (case a2 => (rfl)); (case a3 => (decide)); (case a4 => (rfl)); (case a5 => (rfl)); (case a6 => (rfl)))) | ((with_reducible show EvG _ _ _ (Expr.Call _ _ _ _) _); ((with_reducible refine' ev_callG hok ?_ ?_ ?_ ?_ ?a0 ?a1 ?a2); (case a0 => (rfl)); (case a1 => (rfl)); (case a2 => (rfl)))))) | ((with_reducible show EvG _ _ _ (Expr.Tuple _ _ _) _); (first | ((with_reducible show EvG _ _ _ (Expr.Tuple _ _ _) _); ((with_reducible refine' ev_tupI ?_ ?_))))) | ((with_reducible show EvG _ _ _ (Expr.List _ _) _); (first | ((with_reducible show EvG _ _ _ (Expr.List (Expr.Constant (Const.str _) _ _ :: _) _) _); ((with_reducible refine' ev_conv (ev_listS ?_ ?_) (Sh.names_eq)))) | ((with_reducible show EvG _ _ _ (Expr.List _ _) _); ((with_reducible refine' ev_listI ?_ ?_))))) | ((with_reducible show EvG _ _ _ (Expr.ListComp _ _ _ _) _); (first | ((with_reducible show EvG _ _ _ (Expr.ListComp _ [⟨_, Expr.Name _ _, _, _⟩] _ _) _); ((with_reducible refine' ev_compL ?a0 ?a1 ?a2 ?a3 ?a4 ?a5 ?a6 ?a7 ?a8 ?_ ?_ ?_); (case a0 => (with_unfolding_all rfl)); (case a1 => (decide)); (case a2 => (rfl)); (case a3 => (decide)); (case a4 => (rfl)); (case a5 => (intro _; rfl)); (case a6 => (intro _; rfl)); (case a7 => (decide)); (case a8 => (intro _; rfl)))) | ((with_reducible show EvG _ _ _ (Expr.ListComp _ [⟨_, Expr.Call _ _ _ _, _, _⟩] _ _) _); ((with_reducible refine' ev_compR ?a0 ?a1 ?a2 ?a3 ?a4 ?a5 ?a6 ?a7 ?a8 ?_ ?_ ?a9 (last_hi b3 b4) (last_lo b3 b4) rfl); (case a0 => (with_unfolding_all rfl)); (case a1 => (decide)); (case a2 => (rfl)); (case a3 => (decide)); (case a4 => (rfl)); (case a5 => (intro _; rfl)); (case a6 => (intro _; rfl)); (case a7 => (decide)); (case a8 => (intro _; rfl)); (case a9 => (decide)))))) | ((with_reducible show EvG _ _ _ (Expr.Compare _ _ _ _) _); (first | ((with_reducible show EvG _ _ _ (Expr.Compare _ [CmpOp.Is] _ _) _); (exact ev_isN (ev_loc (by with_unfolding_all rfl) (by rfl) (by rfl) (by decide)) (by rfl))) | ((with_reducible show EvG _ _ _ (Expr.Compare _ [CmpOp.Eq] [(Expr.Name (PySem.Str.ofString "exchanged") _)] _) _); ((with_reducible refine' ev_eqS ?_ ?_ ?a0); (case a0 => (rfl)))) | ((with_reducible show EvG _ _ _ (Expr.Compare _ _ _ _) _); ((with_reducible refine' ev_cmp ?_ ?_ ?a0 ?a1); (case a0 => (rfl)); (case a1 => (rfl)))))) | ((with_reducible show EvG _ _ _ (Expr.BoolOp _ _ _) _); (first | ((with_reducible show EvG _ _ _ (Expr.BoolOp BoolOp.And (_ :: _ :: _) _) _); ((with_reducible refine' ev_and ?_ (fun _ => ?_)))) | ((with_reducible show EvG _ _ _ (Expr.BoolOp _ [_] _) _); ((with_reducible refine' ev_one ?_))))) | ((with_reducible show EvG _ _ _ (Expr.UnaryOp _ _ _) _); (first | ((with_reducible show EvG _ _ _ (Expr.UnaryOp UnaryOp.USub _ _) _); ((with_reducible refine' ev_neg ?_))))) | ((with_reducible show EvG _ _ _ (Expr.IfExp _ _ _ _) _); (first | ((with_reducible show EvG _ _ _ (Expr.IfExp _ _ _ _) _); ((with_reducible refine' ev_if ?_ (fun hy9 => ev_fmt2 ?_ (TCx.yes (of_decide_eq_true hy9)).2.2.2.2 (TCx.yes (of_decide_eq_true hy9)).2.2.2.1 (TCx.yes (of_decide_eq_true hy9)).2.1 (TCx.yes (of_decide_eq_true hy9)).1) (fun hn9 => ev_fmt2 ?_ (TCx.no (of_decide_eq_false hn9)) TCx.mkl TCx.d0 TCx.d9))))))))
      | ((with_reducible show EvsG _ _ _ _ _); (first | ((with_reducible show EvsG _ _ _ [] _); (with_reducible exact evs_nil)) | ((with_reducible show EvsG _ _ _ (_ :: _) _); ((with_reducible refine' evs_cons ?_ ?_ ?a0); (case a0 => (rfl))))))
      | ((with_reducible show EvsI _ _ _ _ _); (first | ((with_reducible show EvsI _ _ _ [] _); (with_reducible exact evsI_nil)) | ((with_reducible show EvsI _ _ _ (_ :: _) _); ((with_reducible refine' evsI_cons ?_ ?_ ?a0); (case a0 => (rfl))))))
      | ((with_reducible show EvsS _ _ _ _ _); (first | ((with_reducible show EvsS _ _ _ [] _); (with_reducible exact evsS_nil)) | ((with_reducible show EvsS _ _ _ (_ :: _) _); ((with_reducible refine' evsS_cons ?_ ?_ ?a0); (case a0 => (rfl))))))
      | ((with_reducible show CallT _ _ _ _); (first | ((with_reducible show CallT _ (Value.ref 91) _ _); (first | with_reducible exact ct_t2n hok (by decide) LF.t2n | with_reducible exact ct_t2n hok (by decide) TFx.t2n | with_reducible exact ct_t2n hok (by decide) LXx.t2n)) | ((with_reducible show CallT _ (Value.ref 149) _ _); (first | with_reducible exact ct_pd hok (by decide) LF.told | with_reducible exact ct_pd hok (by decide) LF.told2 | with_reducible exact ct_pd hok (by decide) TFx.told)) | ((with_reducible show CallT _ (Value.ref 76) _ _); (first | with_reducible exact ct_tg hok (by decide) LF.sec | with_reducible exact ct_tg hok (by decide) TFx.sec)) | ((with_reducible show CallT _ (Value.ref 191) _ _); (first | with_reducible exact ct_num hok (by decide) LF.ord)) | ((with_reducible show CallT _ (Value.ref 201) _ _); (first | with_reducible exact ct_ord hok (by decide) LF.ord)) | ((with_reducible show CallT _ (Value.ref 222) _ _); (first | with_reducible exact ct_day hok (by decide) LF.day | with_reducible exact ct_day hok (by decide) TFx.day | with_reducible exact ct_day hok (by decide) LXx.day)) | ((with_reducible show CallT _ (Value.ref 125) _ _); (first | with_reducible exact ct_word hok (by decide) LSx.word | with_reducible exact ct_num7 hok (by decide) rfl rfl LSx.num | with_reducible exact ct_none7 hok (by decide) rfl rfl hNo | with_reducible exact ct_num7 hok (by decide) rfl rfl hNu)) | ((with_reducible show CallT _ (Value.ref 234) _ _); (exact ct_plain hok (by decide) (by with_unfolding_all exact Nat.le_of_ble_eq_true rfl))) | ((with_reducible show CallT _ (Value.ref 229) _ _); (first | exact ct_fits hok (by decide) rfl rfl (le_y1 b1) (le_y2 b2) | exact ct_fits hok (by decide) rfl rfl (years_mem ha9 b13 b14 b15 b16).1 (years_mem ha9 b13 b14 b15 b16).2)) | ((with_reducible show CallT _ (Value.ref 208) _ _); (first | exact ct_key hok (by decide) b3 b4 | exact ct_key hok (by decide) (mem_r13 ha9).1 (mem_r13 ha9).2 | exact ct_key hok (by decide) hk1 (Int.le_of_lt_add_one hk2) | exact ct_key hok (by decide) b5 hd12')) | ((with_reducible show CallT _ (Value.ref 215) _ _); (first | exact ct_last hok (by decide) b3 b4 | exact ct_last hok (by decide) hk1 (Int.le_of_lt_add_one hk2) | exact ct_last hok (by decide) (mem_f13 ha9).1 (mem_f13 ha9).2))))
      | ((with_reducible show AddOf _ _ _); (first | ((with_reducible show AddOf (Sh.int _) (Sh.int _) _); (first | with_reducible exact AddOf.int LF.eN | exact AddOf.int rfl)) | ((with_reducible show AddOf (Sh.str _) (Sh.str _) _); (first | with_reducible exact AddOf.str LF.cat2 LF.l2 | with_reducible exact AddOf.str TFx.c1 TFx.l1 | with_reducible exact AddOf.str TFx.c2 TFx.l2 | with_reducible exact AddOf.str TFx.d1 TFx.m1 | with_reducible exact AddOf.str TFx.d2 TFx.m2 | with_reducible exact AddOf.str TFx.d3 TFx.m3 | with_reducible exact AddOf.str LXx.d1 LXx.m1 | with_reducible exact AddOf.str LXx.d2 LXx.m2)) | ((with_reducible show AddOf (Sh.tup _) (Sh.tup _) _); ((with_reducible refine' AddOf.tup ?a0 ?a1 ?a2 rfl); (case a0 => (intro hNe; cases hNe)); (case a1 => (intro hNe; cases hNe)); (case a2 => (with_unfolding_all exact Nat.le_of_ble_eq_true rfl))))))
      | ((with_reducible show TrG _ _ _ _ _); (first | ((with_reducible show TrG _ _ _ (Expr.Compare _ _ _ _) _); (first | ((with_reducible show TrG _ _ _ (Expr.Compare _ [CmpOp.NotEq] _ _) _); ((with_reducible refine' tr_neX hok ?a0 ?_ ?_ ?_ ?a1); (case a0 => (decide)); (case a1 => (rfl)))) | ((with_reducible show TrG _ _ _ (Expr.Compare _ [CmpOp.Is] _ _) _); (first | exact tr_isN (ev_loc (by with_unfolding_all rfl) (by rfl) (by rfl) (by decide)) (by rfl) | exact tr_isI (ev_loc (by with_unfolding_all rfl) (by rfl) (by rfl) (by decide)) (by rfl))) | ((with_reducible show TrG _ _ _ (Expr.Compare _ [_] _ _) _); ((with_reducible refine' tr_cmp ?_ ?_ ?a0 ?a1); (case a0 => (rfl)); (case a1 => (rfl)))))) | ((with_reducible show TrG _ _ _ (Expr.BoolOp _ _ _) _); (first | ((with_reducible show TrG _ _ _ (Expr.BoolOp _ _ _) _); ((with_reducible refine' tr_ch ?_))))) | ((with_reducible show TrG _ _ _ (Expr.UnaryOp _ _ _) _); (first | ((with_reducible show TrG _ _ _ (Expr.UnaryOp UnaryOp.Not _ _) _); ((with_reducible refine' tr_not ?_))))) | ((with_reducible show TrG _ _ _ _ _); ((with_reducible refine' tr_plain ?_ ?a0); (case a0 => (intro _; rfl))))))
      | ((with_reducible show ChG _ _ _ _ _ _); (first | (with_reducible exact ch_and_nil) | (with_reducible exact ch_or_nil) | ((with_reducible show ChG _ _ _ BoolOp.And _ _); ((with_reducible refine' ch_and ?_ (fun _ => ?_)))) | ((with_reducible show ChG _ _ _ BoolOp.Or _ _); ((with_reducible refine' ch_or ?_ (fun _ => ?_))))))
      | ((with_reducible show LsT _ _ _ _); (first | ((with_reducible show LsT _ _ (Stmt.Assign [(Expr.Name (PySem.Str.ofString "days") _)] _ _ :: _) _); ((with_reducible refine' ls_x (x1_comp (lo := 0) (hi := 33) (p := fun a => lawFits y m a wd) ?a0 ?a1 ?a2 ?a3 ?a4 ?a5 ?a6 ?a7 ?a8 ?a9 ?a10 ?a11 ?_ rfl ?_ ?a12 ?a13 ?a14 rfl) ?_); (case a0 => (rfl)); (case a1 => (rfl)); (case a2 => (with_unfolding_all rfl)); (case a3 => (with_unfolding_all rfl)); (case a4 => (decide)); (case a5 => (rfl)); (case a6 => (decide)); (case a7 => (rfl)); (case a8 => (intro _; rfl)); (case a9 => (intro _; rfl)); (case a10 => (decide)); (case a11 => (intro _; rfl)); (case a12 => (decide)); (case a13 => (decide)); (case a14 => (decide)))) | ((with_reducible show LsT _ _ (Stmt.Assign [(Expr.Name (PySem.Str.ofString "months") _)] _ _ :: _) _); ((with_reducible refine' ls_x (x1_comp (lo := 0) (hi := 14) (p := fun a => lawFits y a d wd) ?a0 ?a1 ?a2 ?a3 ?a4 ?a5 ?a6 ?a7 ?a8 ?a9 ?a10 ?a11 ?_ rfl ?_ ?a12 ?a13 ?a14 rfl) ?_); (case a0 => (rfl)); (case a1 => (rfl)); (case a2 => (with_unfolding_all rfl)); (case a3 => (with_unfolding_all rfl)); (case a4 => (decide)); (case a5 => (rfl)); (case a6 => (decide)); (case a7 => (rfl)); (case a8 => (intro _; rfl)); (case a9 => (intro _; rfl)); (case a10 => (decide)); (case a11 => (intro _; rfl)); (case a12 => (decide)); (case a13 => (decide)); (case a14 => (decide)))) | ((with_reducible show LsT _ _ (Stmt.Assign [(Expr.Name (PySem.Str.ofString "alike") _)] _ _ :: _) _); ((with_reducible refine' ls_x (x1_comp (lo := 1) (hi := 13) (p := fun a => (lawKey y a - lawKey y m).fmod 7 == 0) ?a0 ?a1 ?a2 ?a3 ?a4 ?a5 ?a6 ?a7 ?a8 ?a9 ?a10 ?a11 ?_ rfl ?_ ?a12 ?a13 ?a14 rfl) ?_); (case a0 => (rfl)); (case a1 => (rfl)); (case a2 => (with_unfolding_all rfl)); (case a3 => (with_unfolding_all rfl)); (case a4 => (decide)); (case a5 => (rfl)); (case a6 => (decide)); (case a7 => (rfl)); (case a8 => (intro _; rfl)); (case a9 => (intro _; rfl)); (case a10 => (decide)); (case a11 => (intro _; rfl)); (case a12 => (decide)); (case a13 => (decide)); (case a14 => (decide)))) | ((with_reducible show LsT _ _ (Stmt.Assign [(Expr.Name (PySem.Str.ofString "other") _)] _ _ :: _) _); (rcases hD with ⟨hd12, hNo⟩ | ⟨hd12, hd12', V2, md, wt, F3, E1, X, hNu, LXx, hmd, hF3⟩)) | ((with_reducible show LsT _ _ (Stmt.Assign [Expr.Name _ _] _ _ :: _) _); ((with_reducible refine' ls_x (x1_set ?_ ?_ ?a0 ?a1 ?a2) ?_); (case a0 => (rfl)); (case a1 => (rfl)); (case a2 => (rfl)))) | ((with_reducible show LsT _ _ (Stmt.Assign [Expr.Name _ _] _ _ :: _) _); ((with_reducible refine' ls_y (y1_setC ?_ ?_ ?a0 ?a1 ?a2 ?a3 ?a4 ?a5) ?_); (case a0 => (rfl)); (case a1 => (exact inj4)); (case a2 => (with_unfolding_all rfl)); (case a3 => (rfl)); (case a4 => (rfl)); (case a5 => (rfl)))) | ((with_reducible show LsT _ _ (Stmt.Assign [Expr.Tuple _ _ _] _ _ :: _) _); ((with_reducible refine' ls_y (y1_unpack ?_ ?a0 ?a1 ?a2 ?a3 ?a4 ?a5 ?a6 ?a7 ?a8 ?a9 ?a10 ?a11 ?a12) ?_); (case a0 => (rfl)); (case a1 => (exact inj4)); (case a2 => (with_unfolding_all rfl)); (case a3 => (with_unfolding_all rfl)); (case a4 => (with_unfolding_all rfl)); (case a5 => (rfl)); (case a6 => (rfl)); (case a7 => (rfl)); (case a8 => (rfl)); (case a9 => (rfl)); (case a10 => (rfl)); (case a11 => (rfl)); (case a12 => (rfl)))) | ((with_reducible show LsT _ _ (Stmt.If (Expr.Compare (Expr.ListComp _ _ _ _) _ _ _) _ _ _ :: _) _); ((with_reducible refine' ls_ifF (tr_neL hok ?a0 ?_ ?_ LF.f1 ?a1) ?_); (case a0 => (decide)); (case a1 => (rfl)))) | ((with_reducible show LsT _ _ (Stmt.If (Expr.Compare (Expr.Name (PySem.Str.ofString "days") _) _ _ _) _ _ _ :: _) _); ((with_reducible refine' ls_ifF (tr_neL hok ?a0 ?_ ?_ LF.f2 ?a1) ?_); (case a0 => (decide)); (case a1 => (rfl)))) | ((with_reducible show LsT _ _ (Stmt.If (Expr.Compare (Expr.Name (PySem.Str.ofString "months") _) _ _ _) _ _ _ :: _) _); ((with_reducible refine' ls_ifF (tr_neL hok ?a0 ?_ ?_ LF.f3 ?a1) ?_); (case a0 => (decide)); (case a1 => (rfl)))) | ((with_reducible show LsT _ _ (Stmt.If (Expr.BoolOp _ [Expr.Compare (Expr.Name (PySem.Str.ofString "day") _) _ _ _, _] _) _ _ _ :: _) _); (first | ((have hNN := hNo); (with_reducible refine' ls_ifT (tr_conv ?_ ?_) ?_)) | (with_reducible refine' ls_ifF (tr_conv ?_ ?_) ?_))) | ((with_reducible show LsT _ _ (Stmt.If _ _ [] _ :: _) _); ((with_reducible refine' ls_ifF (tr_conv ?_ ?_) ?_))) | ((with_reducible show LsT _ _ (Stmt.Return _ _ :: _) _); ((with_reducible refine' ls_ret (ev_conv ?_ ?_)))) | ((with_reducible show LsT _ _ (Stmt.For _ (Expr.Call _ _ _ _) _ _ _ :: _) _); ((with_reducible refine' ls_y (y1_forR (a := 1) (b := 13) ?_ ?a0 ?a1 ?a2 (fun k hk1 hk2 => ?_) ?a3 ?a4 ?a5) ?_); (case a0 => (decide)); (case a1 => (decide)); (case a2 => (decide)); (case a3 => (rfl)); (case a4 => (rfl)); (case a5 => (intro _; rfl)); rotate_left; obtain ⟨V', ov', S8', S11', mk', mk1', A1', Tk', wk', D1', D2', sp', Td', TFx, TCx⟩ := LawF.turnC LF hk1 (Int.le_of_lt_add_one hk2))) | ((with_reducible show LsT _ _ (Stmt.For _ (Expr.Tuple _ _ _) _ _ _ :: _) _); ((with_reducible refine' ls_y (y1_forS ?_ ?_ ?_ ?a0 ?a1 ?a2) ?_); (case a0 => (rfl)); (case a1 => (rfl)); (case a2 => (intro _; rfl))))))
      | ((with_reducible show XsT _ _ _ _); (first | ((with_reducible show XsT _ _ (_ :: _) _); ((with_reducible refine' xs_cons ?_ ?_))) | ((with_reducible show XsT _ _ [] _); (first | with_reducible exact xs_nil | refine' xs_less ?_ (by with_unfolding_all rfl)))))
      | ((with_reducible show X1T _ _ _ _); (first | ((with_reducible show X1T _ _ (Stmt.Assign _ _ _) _); ((with_reducible refine' x1_set ?_ ?_ ?a0 ?a1 ?a2); (case a0 => (rfl)); (case a1 => (rfl)); (case a2 => (rfl)))) | ((with_reducible show X1T _ _ (Stmt.If _ _ [] _) _); ((with_reducible refine' x1_ifF (tr_conv ?_ ?_) xs_nil)))))
      | ((with_reducible show SameOf _ _); (first | ((with_reducible show SameOf _ _); (first | with_reducible exact SameOf.int | with_reducible exact SameOf.str | exact SameOf.tup rfl))))
      | ((with_reducible show RgT _ _ _ _ _); (first | ((with_reducible show RgT _ _ _ _ _); ((with_reducible refine' rg_call hok ?a0 ?a1 ?_ ?_ ?a2 ?a3 ?a4 ?a5); (case a0 => (k_is)); (case a1 => (rfl)); (case a2 => (rfl)); (case a3 => (rfl)); (case a4 => (rfl)); (case a5 => (rfl))))))
      | ((with_reducible show ∀ _ _, _ → TrG _ _ _ _ _); (intro c9 a9 ha9; (try dsimp only); refine' tr_conv ?_ ?_))
      | ((with_reducible show Txt.slice _ _ _ = _); (first | with_reducible exact LF.s12 | with_reducible exact LF.s3 | with_reducible exact LF.s14 | with_reducible exact TFx.s8 | with_reducible exact TFx.s11 | with_reducible exact LSx.s57 | with_reducible exact LSx.s811 | with_reducible exact LSx.s1216 | with_reducible exact LSx.s1719 | with_reducible exact LSx.s2022 | with_reducible exact LSx.s2325 | with_reducible exact LSx.s26 | with_reducible exact LSx.s11))
      | ((with_reducible show List.getD _ _ _ = _); (first | with_reducible exact LF.mn | with_reducible exact TFx.mn | with_reducible exact TFx.mn1 | with_reducible exact LXx.mn))
      | ((with_reducible show _ ≤ 100); (with_reducible exact LF.lT))
      | ((with_reducible show Int.fmod _ _ = _); (first | with_reducible exact LF.eMo | with_reducible exact LF.eh | with_reducible exact LF.emi | with_reducible exact LF.es | with_reducible exact LF.er | with_reducible exact LF.ec | with_reducible exact LF.eq0 | with_reducible exact LF.eq1 | with_reducible exact LF.eq2 | with_reducible exact LF.ec0 | with_reducible exact LF.eN | with_reducible exact TFx.ov | exact rfl))
      | ((with_reducible show Int.fdiv _ _ = _); (first | with_reducible exact LF.eMo | with_reducible exact LF.eh | with_reducible exact LF.emi | with_reducible exact LF.es | with_reducible exact LF.er | with_reducible exact LF.ec | with_reducible exact LF.eq0 | with_reducible exact LF.eq1 | with_reducible exact LF.eq2 | with_reducible exact LF.ec0 | with_reducible exact LF.eN | with_reducible exact TFx.ov))
      | (with_reducible exact TFx.ov)
      | ((with_reducible show keepIn _ _ = true); (k_is))
      | ((with_reducible show _ = true); (exact gt_yes hd12))
      | ((with_reducible show _ = false); (first | rfl | exact gt_no hd12 | (simp only [bne_self_eq_false, Bool.or_false, Bool.or_self, Bool.not_true, Bool.not_false, Bool.false_or])))
      | ((with_reducible show Sh.bool _ = Sh.bool _); (exact congrArg Sh.bool (by first | rfl | (rw [decide_eq_true hd12]; rfl))))
      | ((with_reducible show _ ≤ _ - 1); (first | exact nm_lo b3 | exact nm_lo hk1 | exact nm_lo b5))
      | ((with_reducible show _ - 1 < _); (first | exact nm_hi b4 | exact nm_hi (Int.le_of_lt_add_one hk2) | exact nm_hi hd12'))
      | (with_reducible exact TCx.k0)
      | (exact (TCx.yes (of_decide_eq_true hy9)).2.2.1)
      | ((with_reducible show ∀ _ _, _ = _); (intro _ _; with_unfolding_all rfl))
      | ((with_reducible show IntMulOk _ _); (mul_fits))
      | ((with_reducible show List.length _ ≤ _); (first | exact filt_len (by decide) | (with_unfolding_all exact Nat.le_of_ble_eq_true rfl)))
      | ((with_reducible show _ ≠ _); (decide))
      | ((with_reducible show _ ∧ _); (first | decide | exact ⟨by with_unfolding_all exact Nat.le_of_ble_eq_true rfl, by with_unfolding_all exact Nat.le_of_ble_eq_true rfl⟩ | exact ⟨by decide, by with_unfolding_all exact Nat.le_of_ble_eq_true rfl, by with_unfolding_all exact Nat.le_of_ble_eq_true rfl⟩))
      | rfl))
    skip)
end Mine
theorem PySem.Challenge.cw_kl0452_01_holds : PySem.Challenge.rw_kl0452_01.Holds :=
  Mine.law_holds
