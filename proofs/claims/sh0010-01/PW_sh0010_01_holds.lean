import PyProof.Rows.All
import Wide.All
import OpenK.AllK
import Wide.FinOn
import PySem.Challenge.RW_sh0010_01
set_option Elab.async false
namespace Mine
section
open PySem PySem.W PyProof.Rows
set_option maxRecDepth 100000
set_option maxHeartbeats 8000000
open_top hd for PySem.Challenge.rw_sh0010_01
end
section
open PySem PySem.W PyProof.Rows PySem.Calls
set_option maxRecDepth 100000
set_option maxHeartbeats 4000000
@[reducible] noncomputable def PR : Program := Challenge.rw_sh0010_01.row.prog
@[reducible] noncomputable def LS : List Str := looseW hd.view_39 [Str.ofString "COMPILER_FLAG_NAMES"]
abbrev TopM (mean : ExcName → Option Value) (mg mb : Str → Option Value) (h : Heap) : Prop := Top hd.view_39 LS mean mg mb h
/-- where a call stands -/
abbrev AR (dp un : Nat) (gd : Option (List Code)) (outer : List Env) : Around := { handled := none, depth := dp, frames := some outer, guards := gd, units := un }

/-- What a call of the def at f with the arguments vs hands back: all that stood stands; R v h h' says of the value v and of the heap before and behind -/
def Spec (w : World) (mean : ExcName → Option Value) (mg mb : Str → Option Value) (f : Addr) (vs : List Value) (pre : Heap → Prop) (R : Value → Heap → Heap → Prop) : Prop :=
  ∀ (dp un : Nat) (gd : Option (List Code)) (outer : List Env) (base : Heap) (s : Shared) (Q E : Value → Shared → Prop),
    Below (AR dp un gd outer) base outer s.heap → (hd.heap_39 w.params).In s.heap → TopM mean mg mb s.heap → pre s.heap →
    dp + 4 < recursionLimit → un + 200 < cLine →
    (∀ (v : Value) (h' : Heap) (tk' : Nat), (∀ b o, s.heap.get? b = some o → h'.get? b = some o) → R v s.heap h' → Q v { s with heap := h', toks := tk' }) →
    wpAny (model PR w) (AR dp un gd outer) (call (.ref f) vs) Q E s

theorem enter {prog : Program} {w : World} {K : Frag} {p : Program} {loose : List Str} {mean : ExcName → Option Value} {mg mb : Str → Option Value} {dp un : Nat} {gd : Option (List Code)} {outer : List Env} {base : Heap} {s : Shared} {Q E : Value → Shared → Prop}
    {name qual : Str} {params : Arguments} {body : List Stmt} {scope : Scope} {dV kV doc pm cdv ct oc : Value} {an od : Option Addr} {osl : Array (Option Value)} {f : Addr} {vs : List Value}
    (binds : List (Str × Value)) (_B : Below (AR dp un gd outer) base outer s.heap) (X : K.In s.heap) (T : Top p loose mean mg mb s.heap)
    (ho : K.lookup f = some ⟨oc, od, .func (fnOf name qual params body scope dV kV doc pm an cdv ct), osl⟩) (hcd : codeIn K cdv qual = true) (hroom : dp + 4 < recursionLimit)
    (hbind : bindArgs (fnOf name qual params body scope dV kV doc pm an cdv ct) ⟨vs, []⟩ = pure binds)
    (hloc : ∀ y ∈ binds, scope.names.lookup y.1 = some .local) (hcell : ∀ x ∈ scope.names, x.2 ≠ .cell)
    (hco : scope.isCoroutine = false) (hgen : scope.isGenerator = false) (hk : scope.kind = .function)
    (h : ∀ (L' : Addr) (h₁ : Heap) (tk : Nat), Fr s.heap L' h₁ (fun y => binds.reverse.lookup y) → News s.heap L' h₁ [] →
      wpAny (model prog w) (AR (dp + 1) (un + 3) gd (envOf qual scope L' f cdv :: outer)) (execs body (envOf qual scope L' f cdv))
        (fun fl s' => Q (match fl with | .ret v => v | _ => .none) s') (fun _ _ => False) { s with heap := h₁, toks := tk }) :
    wpAny (model prog w) (AR dp un gd outer) (call (.ref f) vs) Q E s := by
  refine wpAny_call (codeAny_call_def (fd := fnOf name qual params body scope dV kV doc pm an cdv ct) (body := body) (binds := binds) (by show dp < recursionLimit; omega) (X _ _ ho) rfl T.nolimit (codeRec_of X hcd) rfl (BindsTo.of_eq hbind) hcell hloc (fun h₁ hns hk₁ => ?_) hco hgen hk)
  exact wpAny_noRaise (h s.heap.objs.size h₁ _ ⟨hns, hk₁, Nat.le_refl _⟩ News.nil)

/-- a call by its word, from within a frame -/
theorem use {w : World} {mean : ExcName → Option Value} {mg mb : Str → Option Value} {f : Addr} {vs : List Value} {pre : Heap → Prop} {R : Value → Heap → Heap → Prop} (S : Spec w mean mg mb f vs pre R)
    {dp un : Nat} {gd : Option (List Code)} {env : Env} {outer : List Env} {A₀ : Around} {base h₀ : Heap} {L : Addr} {m : Str → Option Value} {news : List (Addr × Obj)} {s : Shared} {Q E : Value → Shared → Prop}
    (B : Below A₀ base outer h₀) (F : Fr h₀ L s.heap m) (X : (hd.heap_39 w.params).In h₀) (N : News h₀ L s.heap news) (T : TopM mean mg mb h₀) (hf : env.frame = some L) (hk : env.scope.kind = .function)
    (hp : pre s.heap) (hd : dp + 4 < recursionLimit) (hu : un + 200 < cLine)
    (ret : ∀ (v : Value) (h' : Heap) (tk' : Nat), (∀ b o, s.heap.get? b = some o → h'.get? b = some o) → R v s.heap h' → Fr h₀ L h' m → News h₀ L h' news → Q v { s with heap := h', toks := tk' }) :
    wpAny (model PR w) (AR dp un gd (env :: outer)) (call (.ref f) vs) Q E s := by
  have B1 := pushX B F hf hk
  refine S dp un gd (env :: outer) base s Q E ⟨rfl, B1.stays, B1.frames⟩ (X.keeps F.keep) (T.keeps F.keep) hp hd hu fun v h' tk' hkeep hR => ret v h' tk' hkeep hR ?_ ?_
  · exact ⟨F.ns.at' fun o e => hkeep _ o e, fun b o e => hkeep _ _ (F.keep b o e), F.above⟩
  · exact fun p hp => ⟨hkeep _ _ (N p hp).1, (N p hp).2⟩
end
section
open PySem PySem.W PyProof.Rows PySem.Calls
set_option maxRecDepth 100000
set_option maxHeartbeats 4000000
/-- a walk stops here -/
def Stop (P : Prop) : Prop := P
theorem Stop.of {P : Prop} (h : Stop P) : P := h
theorem Stop.mk {P : Prop} (h : P) : Stop P := h

abbrev KeepsAll (h h' : Heap) : Prop := ∀ b o, h.get? b = some o → h'.get? b = some o

theorem enterC {prog : Program} {w : World} {K : Frag} {p : Program} {loose : List Str} {mean : ExcName → Option Value} {mg mb : Str → Option Value} {dp un : Nat} {gd : Option (List Code)} {outer : List Env} {base : Heap} {s : Shared} {Q E : Value → Shared → Prop}
    {name qual : Str} {params : Arguments} {body : List Stmt} {scope : Scope} {dV kV doc pm cdv ct oc : Value} {an od : Option Addr} {osl : Array (Option Value)} {f : Addr} {vs : List Value}
    (binds : List (Str × Value)) (_B : Below (AR dp un gd outer) base outer s.heap) (X : K.In s.heap) (T : Top p loose mean mg mb s.heap)
    (ho : K.lookup f = some ⟨oc, od, .func (fnOf name qual params body scope dV kV doc pm an cdv ct), osl⟩) (hcd : codeIn K cdv qual = true) (hroom : dp + 4 < recursionLimit)
    (hbind : bindArgs (fnOf name qual params body scope dV kV doc pm an cdv ct) ⟨vs, []⟩ = pure binds)
    (hkind : (binds.all fun y => scope.names.lookup y.1 == some .local || scope.names.lookup y.1 == some .cell) = true) (hnd : ((cellsFrom 0 scope.names []).map (·.1)).Nodup)
    (hco : scope.isCoroutine = false) (hgen : scope.isGenerator = false) (hk : scope.kind = .function)
    (h : ∀ (L' : Addr) (h₁ : Heap) (tk : Nat) (cells : List (Addr × Obj)), Fr s.heap L' h₁ (bindL (envOfC qual scope L' f cdv).kindOf binds fun _ => none) → News s.heap L' h₁ cells →
      CellsAre (bindC (envOfC qual scope L' f cdv).kindOf binds fun _ => none) (cellsFrom (L' + 1) scope.names []) cells →
      wpAny (model prog w) (AR (dp + 1) (un + 3) gd (envOfC qual scope L' f cdv :: outer)) (execs body (envOfC qual scope L' f cdv))
        (fun fl s' => Q (match fl with | .ret v => v | _ => .none) s') (fun _ _ => False) { s with heap := h₁, toks := tk }) :
    wpAny (model prog w) (AR dp un gd outer) (call (.ref f) vs) Q E s := by
  refine wpAny_call (codeAny_call_function (fd := fnOf name qual params body scope dV kV doc pm an cdv ct) (by show dp < recursionLimit; omega) (X _ _ ho) rfl hco hgen rfl (codeRec_of X hcd) ?_)
  rw [hbind]
  refine wpAny_pure (wpAny_newFunctionEnv_cells hk (kindsX hkind _) fun env' he s' x => ?_)
  subst he
  refine ⟨T.nolimit.keeps x.toInCall.keep, codeAny_func ?_⟩
  obtain ⟨h₁, tk, rfl, _⟩ := x.done
  obtain ⟨cells, NC, Y⟩ := Cl.news (h₀ := s.heap) (Nat.le_refl _) fun n c hm => ⟨x.cell n c (lookup_of_mem_nodup (cellsFrom_names scope.names 0 (s.heap.objs.size + 1) [] [] rfl ▸ hnd) hm), x.above n c hm⟩
  exact wpAny_noRaise (h s.heap.objs.size h₁ tk cells ⟨x.toInCall.ns, x.toInCall.keep, Nat.le_refl _⟩ NC Y)

section
variable {prog : Program} {w : World} {A : Around} {E : Value → Shared → Prop} {s : Shared} {env : Env} {h₀ : Heap} {m : Str → Option Value} {news : List (Addr × Obj)}

/-- where the items of a comprehension come from: n items, the i-th is as V i says -/
def Src (prog : Program) (w : World) (A : Around) (s s₂ : Shared) (n : Nat) (V : Nat → Value → Prop) (it : Value) : Prop :=
  ∃ (I : Addr) (fp wr : List Addr) (St : Nat → Heap → Prop), it = .ref I ∧ Walks prog w A I fp wr n V St ∧ n ≤ sizeLine ∧ St 0 s₂.heap ∧ (∀ b ∈ fp, b < s₂.heap.objs.size) ∧ (∀ b ∈ wr, s.heap.get? b = none) ∧
    KeepsAll s.heap s₂.heap ∧ (∃ h tk, s₂ = { s with heap := h, toks := tk }) ∧ s.toks ≤ s₂.toks

structure Turn (prog : Program) (w : World) (A : Around) (env : Env) (scope : Scope) (cl : List (Str × Addr)) (x : Str) (ifs : List Expr) (elt : Expr) (V : Nat → Value → Prop) (p : Value → Bool) (G : Value → Value → Prop) (s : Shared) : Prop where
  tests : ∀ C i v s₃ m₃ E', s.heap.objs.size ≤ C → V i v → s₃.heap.Ns C m₃ → m₃ x = some v → KeepsAll s.heap s₃.heap →
    wpAny (model prog w) A (forIn ifs true fun c r => if r = true then do let ok ← isTrue c (compEnvC scope cl C env) (eval c (compEnvC scope cl C env)); pure (ForInStep.yield ok) else pure (ForInStep.yield r))
      (fun ok s₄ => Stop (ok = p v ∧ Keeps s₃ s₄)) E' s₃
  elt : ∀ C i v s₃ m₃ E', s.heap.objs.size ≤ C → V i v → p v = true → s₃.heap.Ns C m₃ → m₃ x = some v → KeepsAll s.heap s₃.heap →
    wpAny (model prog w) A (eval elt (compEnvC scope cl C env)) (fun y s₄ => Stop (G v y ∧ Keeps s₃ s₄)) E' s₃

theorem Turn.quiet {scope : Scope} {cl : List (Str × Addr)} {x : Str} {ifs : List Expr} {elt : Expr} {V : Nat → Value → Prop} {p : Value → Bool} {G : Value → Value → Prop} {s₂ : Shared} {wr : List Addr}
    (t : Turn prog w A env scope cl x ifs elt V p G s) (hk : KeepsAll s.heap s₂.heap) (hsz : s.heap.objs.size ≤ s₂.heap.objs.size) (hwr : ∀ b ∈ wr, s.heap.get? b = none) : QuietOnC prog w A env scope cl x ifs elt wr V p G s₂ where
  tests := fun C i v s₃ m₃ E' hC hv hn hm hkk _ => t.tests C i v s₃ m₃ E' (Nat.le_trans hsz hC) hv hn hm fun b o e => hkk b o (fun hb => by rw [hwr b hb] at e; cases e) (hk b o e)
  elt := fun C i v s₃ m₃ E' hC hv hp hn hm hkk _ => t.elt C i v s₃ m₃ E' (Nat.le_trans hsz hC) hv hp hn hm fun b o e => hkk b o (fun hb => by rw [hwr b hb] at e; cases e) (hk b o e)

theorem listComp {elt iter : Expr} {x : Str} {px : Pos} {ifs : List Expr} {scope : Scope} {cl : List (Str × Addr)} {pos : Pos} {Q : Value → Shared → Prop} (h₀ : Heap)
    (hclos : closureFor scope env = pure cl) (hcell : ∀ y ∈ scope.names, y.2 ≠ .cell) (hkind : scope.kind = .function)
    (hnames : ∀ y ∈ scope.names, y.2 = .local → scope.names.lookup y.1 = some .local) (hx : scope.names.lookup x = some .local)
    (h : wpAny (model prog w) A (eval iter env) (fun xv s => Stop (∃ (m : Str → Option Value) (news : List (Addr × Obj)) (n : Nat) (V : Nat → Value → Prop) (p : Value → Bool) (G : Value → Value → Prop),
      Fr h₀ env.locals s.heap m ∧ News h₀ env.locals s.heap news ∧
      wpAny (model prog w) A (pyIter xv) (fun it s₂ => Src prog w A s s₂ n V it ∧ s.heap.objs.size ≤ s₂.heap.objs.size) E s ∧
      Turn prog w A env scope cl x ifs elt V p G s ∧
      ∀ D ys h' tk k (vs : List Value), (∀ q ∈ news, q.1 ≠ D) → vs.length = n → (∀ j v, vs[j]? = some v → V j v) → Paired G (vs.filter p) ys → Fr h₀ env.locals h' m →
        News h₀ env.locals h' ((D, W.listOf ys.toArray k) :: news) → KeepsAll s.heap h' → s.heap.get? D = none → Q (.ref D) { s with heap := h', toks := tk })) E s)
    (hs : ∀ x, foldedSetIterable iter env x = pure x := by intro _; rfl) :
    wpAny (model prog w) A (eval (.ListComp elt [⟨.Name x px, iter, ifs, 0⟩] scope pos) env) Q E s := by
  have h' : wpAny (model prog w) A (eval iter env) (fun xv s₁ => wpAny (model prog w) A (pyIter xv) (fun it s₂ => ∃ I fp wr n P St p F, it = .ref I ∧ Walks prog w A I fp wr n P St ∧ n ≤ sizeLine ∧ St 0 s₂.heap ∧ (∀ b ∈ fp, b < s₂.heap.objs.size) ∧
      QuietOnC prog w A env scope cl x ifs elt wr P p F s₂ ∧
      (∀ D h' tk ys (vs : List Value), s₂.heap.get? D = none → h'.IsList D ys → h'.PlainList D ys → vs.length = n → (∀ j v, vs[j]? = some v → P j v) → Paired F (vs.filter p) ys.toList →
        (∀ b o, b ∉ wr → s₂.heap.get? b = some o → h'.get? b = some o) → Q (.ref D) { s₂ with heap := h', toks := tk })) E s₁) E s := by
    refine wpAny_mono h (fun xv s h₁ => ?_) fun _ _ e => e
    obtain ⟨m, news, n, V, p, G, F, N, src, t, done⟩ := h₁
    refine wpAny_mono src (fun it s₂ h₂ => ?_) fun _ _ e => e
    obtain ⟨⟨I, fp, wr, St, rfl, W, hsz, hst, hfp, hwr, hk, ⟨h, tk, rfl⟩, htk⟩, hss⟩ := h₂
    refine ⟨I, fp, wr, n, V, St, p, G, rfl, W, hsz, hst, hfp, t.quiet hk hss hwr, ?_⟩
    intro D h' tk' ys vs hD _ hpl hlen hP hF hkk
    have hka : KeepsAll s.heap h' := fun b o e => hkk b o (fun hb => by rw [hwr b hb] at e; cases e) (hk b o e)
    obtain ⟨k, hDo⟩ := hpl
    have hsD : s.heap.get? D = none := by
      cases e : s.heap.get? D with
      | none => rfl
      | some o => have := hk _ _ e; rw [hD] at this; cases this
    have hDL : D ≠ env.locals := by
      rintro rfl
      obtain ⟨o, _, _, ho, _⟩ := F.ns
      rw [ho] at hsD; cases hsD
    refine done D ys.toList h' tk' k vs (fun q hq e => ?_) hlen hP hF ⟨F.ns.at' fun o e => hka _ o e, fun b o e => hka _ _ (F.keep b o e), F.above⟩ (fun q hq => ?_) hka hsD
    · have := (N q hq).1; rw [e, hsD] at this; cases this
    · rcases List.mem_cons.mp hq with rfl | hq
      · refine ⟨by simpa using hDo, hDL, ?_⟩
        cases e : h₀.get? D with
        | none => rfl
        | some o => have := F.keep _ _ e; rw [hsD] at this; cases this
      · exact ⟨hka _ _ (N q hq).1, (N q hq).2⟩
  rw [eval_ListComp]
  refine wpAny_comprehension_free (use := none) rfl hs hclos hkind hnames (wpAny_mono h' (fun xv s₁ h₁ => wpAny_mono h₁ (fun it s₂ h₂ => ?_) fun _ _ e => e) fun _ _ e => e)
  obtain ⟨I, fp, wr, n, P, St, p, F, rfl, W, hsz, hst, hfp, hq, hQ⟩ := h₂
  refine comp_block_walkC (RR := fun acc C => compPost (model prog w) A E none Q acc C) W hsz p F hcell hkind hx hst hfp hq ?_
  intro D C h' tk m' ys vs hD hC hDC hn hl hpl hlen hP hF hk
  exact ⟨m', hn, fun h'' hs'' => hQ D h'' tk ys vs hD (hl.extBut hs''.extBut hDC) (hpl.extBut hs''.extBut hDC) hlen hP hF fun b o hbf e => hs''.extBut b o (by rintro rfl; rw [hC] at e; cases e) (hk b o hbf e)⟩

theorem assignComp {elt iter : Expr} {x y : Str} {px py : Pos} {ifs : List Expr} {scope : Scope} {cl : List (Str × Addr)} {pos spos : Pos} {Q : Flow → Shared → Prop} (h₀ : Heap)
    (hsw : swapsWith (.ListComp elt [⟨.Name x px, iter, ifs, 0⟩] scope pos) (some (.Name y py)) spos.line env = pure true)
    (hclos : closureFor scope env = pure cl) (hcell : ∀ y ∈ scope.names, y.2 ≠ .cell) (hkind : scope.kind = .function)
    (hnames : ∀ y ∈ scope.names, y.2 = .local → scope.names.lookup y.1 = some .local) (hx : scope.names.lookup x = some .local)
    (hy : env.kindOf y = some .local) (hek : env.scope.kind = .function)
    (h : wpAny (model prog w) A (eval iter env) (fun xv s => Stop (∃ (m : Str → Option Value) (news : List (Addr × Obj)) (n : Nat) (V : Nat → Value → Prop) (p : Value → Bool) (G : Value → Value → Prop),
      Fr h₀ env.locals s.heap m ∧ News h₀ env.locals s.heap news ∧
      wpAny (model prog w) A (pyIter xv) (fun it s₂ => Src prog w A s s₂ n V it ∧ s.heap.objs.size ≤ s₂.heap.objs.size) E s ∧
      Turn prog w A env scope cl x ifs elt V p G s ∧
      ∀ D ys h' tk k (vs : List Value), (∀ q ∈ news, q.1 ≠ D) → vs.length = n → (∀ j v, vs[j]? = some v → V j v) → Paired G (vs.filter p) ys → Fr h₀ env.locals h' (fun z => if z = y then some (.ref D) else m z) →
        News h₀ env.locals h' ((D, W.listOf ys.toArray k) :: news) → s.heap.get? D = none → Q .next { s with heap := h', toks := tk })) E s)
    (hs : ∀ x, foldedSetIterable iter env x = pure x := by intro _; rfl) :
    wpAny (model prog w) A (exec (.Assign [.Name y py] (.ListComp elt [⟨.Name x px, iter, ifs, 0⟩] scope pos) spos) env) Q E s := by
  have hp : (env.scope.kind == .class || (env.scope.kind == .module && env.locals != env.globals)) = false := by rw [hek]; rfl
  have h' : wpAny (model prog w) A (eval iter env) (fun xv s₁ => wpAny (model prog w) A (pyIter xv) (fun it s₂ => ∃ I fp wr n P St p F m, it = .ref I ∧ Walks prog w A I fp wr n P St ∧ n ≤ sizeLine ∧ St 0 s₂.heap ∧ (∀ b ∈ fp, b < s₂.heap.objs.size) ∧
      env.locals ∉ wr ∧ s₂.heap.Ns env.locals m ∧ QuietOnC prog w A env scope cl x ifs elt wr P p F s₂ ∧
      (∀ D h' tk ys (vs : List Value), s₂.heap.get? D = none → h'.IsList D ys → h'.PlainList D ys → vs.length = n → (∀ j v, vs[j]? = some v → P j v) → Paired F (vs.filter p) ys.toList →
        h'.Ns env.locals (fun z => if z = y then some (.ref D) else m z) → (∀ b o, b ≠ env.locals → b ∉ wr → s₂.heap.get? b = some o → h'.get? b = some o) → Q .next { s₂ with heap := h', toks := tk })) E s₁) E s := by
    refine wpAny_mono h (fun xv s h₁ => ?_) fun _ _ e => e
    obtain ⟨m, news, n, V, p, G, F, N, src, t, done⟩ := h₁
    refine wpAny_mono src (fun it s₂ h₂ => ?_) fun _ _ e => e
    obtain ⟨⟨I, fp, wr, St, rfl, W, hsz, hst, hfp, hwr, hk, ⟨h, tk, rfl⟩, htk⟩, hss⟩ := h₂
    have hLs : ∃ o, s.heap.get? env.locals = some o := let ⟨o, _, _, ho, _⟩ := F.ns; ⟨o, ho⟩
    refine ⟨I, fp, wr, n, V, St, p, G, m, rfl, W, hsz, hst, hfp, (fun hb => absurd ((hwr _ hb).symm.trans hLs.choose_spec) (fun z => nomatch z)), F.ns.at' fun o e => hk _ o e, t.quiet hk hss hwr, ?_⟩
    intro D h' tk' ys vs hD _ hpl hlen hP hF hns hkk
    have hka : ∀ b o, b ≠ env.locals → s.heap.get? b = some o → h'.get? b = some o := fun b o hb e => hkk b o hb (fun hb => by rw [hwr b hb] at e; cases e) (hk b o e)
    obtain ⟨k, hDo⟩ := hpl
    have hsD : s.heap.get? D = none := by
      cases e : s.heap.get? D with
      | none => rfl
      | some o => have := hk _ _ e; rw [hD] at this; cases this
    have hDL : D ≠ env.locals := by
      rintro rfl
      obtain ⟨o, ho⟩ := hLs
      rw [ho] at hsD; cases hsD
    have hb0 : ∀ b o, h₀.get? b = some o → b ≠ env.locals := fun b o e he => by
      have h1 := Heap.lt_size e
      have h2 := F.above
      rw [he] at h1
      exact absurd (Nat.lt_of_lt_of_le h1 h2) (Nat.lt_irrefl _)
    refine done D ys.toList h' tk' k vs (fun q hq e => ?_) hlen hP hF ⟨hns, fun b o e => hka _ _ (hb0 b o e) (F.keep b o e), F.above⟩ (fun q hq => ?_) hsD
    · have := (N q hq).1; rw [e, hsD] at this; cases this
    · rcases List.mem_cons.mp hq with rfl | hq
      · refine ⟨by simpa using hDo, hDL, ?_⟩
        cases e : h₀.get? D with
        | none => rfl
        | some o => have := F.keep _ _ e; rw [hsD] at this; cases this
      · exact ⟨hka _ _ (N q hq).2.1 (N q hq).1, (N q hq).2⟩
  rw [exec_Assign_Name_used _ _ _ _ hsw]
  refine wpAny_bind (wpAny_standAt (wpAny_bind ?_))
  show wpAny _ A (do let _ ← comprehension (.ListComp elt [⟨.Name x px, iter, ifs, 0⟩] scope pos) scope env _ (newList []) false (eval iter env) (some (assign (.Name y py) env))) _ _ s
  refine wpAny_bind (wpAny_mono (wpAny_comprehension_free (use := some (assign (.Name y py) env)) (Q := fun _ s' => Q .next s') rfl hs hclos hkind hnames
    (wpAny_mono h' (fun xv s₁ h₁ => wpAny_mono h₁ (fun it s₂ h₂ => ?_) fun _ _ e => e) fun _ _ e => e)) (fun _ s' hq => wpAny_pure (wpAny_pure hq)) fun _ _ e => e)
  obtain ⟨I, fp, wr, n, P, St, p, F, m, rfl, W, hsz, hst, hfp, hLf, hn, hq, hQ⟩ := h₂
  refine comp_block_walkC (RR := fun acc C => compPost (model prog w) A E (some (assign (.Name y py) env)) (fun _ s' => Q .next s') acc C) W hsz p F hcell hkind hx hst hfp hq ?_
  intro D C h' tk m' ys vs hD hC hDC hnC hlD hplD hlen hP hF hk
  have hLC : env.locals ≠ C := by rintro rfl; obtain ⟨o, _, _, ho, _⟩ := hn; rw [hC] at ho; cases ho
  have hLD : env.locals ≠ D := by rintro rfl; obtain ⟨o, _, _, ho, _⟩ := hn; rw [hD] at ho; cases ho
  show wpAny _ A (assign (.Name y py) env (.ref D)) _ _ _
  refine wpAny_assign_Name (wpAny_storeName_local hy (hn.at' fun o e => hk _ o hLf e) (fun h₂ hn₂ hs₂ => ?_) hp)
  refine ⟨m', hnC.sameBut hs₂ (Ne.symm hLC), fun h₃ hs₃ => ?_⟩
  exact hQ D h₃ _ ys vs hD ((hlD.extBut hs₂.extBut (Ne.symm hLD)).extBut hs₃.extBut hDC) ((hplD.extBut hs₂.extBut (Ne.symm hLD)).extBut hs₃.extBut hDC) hlen hP hF (hn₂.sameBut hs₃ hLC) fun b o hbL hbf e =>
    hs₃.extBut b o (by rintro rfl; rw [hC] at e; cases e) (hs₂.extBut b o hbL (hk b o hbf e))

theorem Src.list {l : Addr} {items : Array Value} (hh : A.handled = none) (hl : s.heap.IsList l items) (hsz : items.size ≤ sizeLine) :
    wpAny (model prog w) A (pyIter (.ref l)) (fun it s₂ => Src prog w A s s₂ items.size (fun i v => items[i]? = some v) it ∧ s.heap.objs.size ≤ s₂.heap.objs.size) E s := by
  obtain ⟨ol, hol, _⟩ := id hl
  have hlt : l < s.heap.objs.size := Heap.lt_size hol
  have hne : l ≠ s.heap.objs.size := Nat.ne_of_lt hlt
  refine wpAny_pyIter_list hl ?_
  refine ⟨⟨_, _, _, _, rfl, Walks.list (prog := prog) (w := w) hh s.heap.objs.size l hne items, hsz, ⟨⟨_, Heap.get?_push_size _ rfl, rfl, rfl⟩, hl.at fun o e => Heap.get?_push_of_some _ e⟩, ?_, ?_, fun b o e => Heap.get?_push_of_some _ e, ⟨_, _, rfl⟩, Nat.le_refl _⟩, ?_⟩
  · intro b hb
    show b < (s.heap.push _).objs.size
    rw [Heap.size_push]
    rcases List.mem_cons.mp hb with rfl | hb
    · exact Nat.lt_succ_self _
    · rw [List.mem_singleton.mp hb]; exact Nat.lt_succ_of_lt hlt
  · intro b hb
    rw [List.mem_singleton.mp hb]
    cases e : s.heap.get? s.heap.objs.size with
    | none => rfl
    | some o => exact absurd (Heap.lt_size e) (Nat.lt_irrefl _)
  · show s.heap.objs.size ≤ (s.heap.push _).objs.size
    rw [Heap.size_push]; exact Nat.le_succ _
theorem Src.range {r : Addr} {a b : Int} {t u v : Tok} {n : Nat} (hh : A.handled = none) (hr : IsRange s.heap r a b 1 t u v) (hsmall : Builtin.Range.small a b 1 = true) (hn : Builtin.Range.rangeSize a b 1 = (n : Int)) (hsz : n ≤ sizeLine) :
    wpAny (model prog w) A (pyIter (.ref r)) (fun it s₂ => Src prog w A s s₂ n (fun i v => i < n ∧ ∃ t, v = .int (a + (i : Int)) t) it ∧ s.heap.objs.size ≤ s₂.heap.objs.size) E s := by
  refine wpAny_pyIter_range hr hsmall ?_
  have W : Walks prog w A s.heap.objs.size [s.heap.objs.size] [s.heap.objs.size] n (fun i v => i < n ∧ ∃ t, v = .int (a + i * 1) t)
      (fun i h => IsRangeIter h s.heap.objs.size (a + (i : Nat) * 1) ((n : Int) - (i : Nat)) 1) := (Walks.range hh _ a 1 n).bound
  have e : (fun (i : Nat) (v : Value) => i < n ∧ ∃ t, v = Value.int (a + (i : Int) * 1) t) = fun i v => i < n ∧ ∃ t, v = .int (a + (i : Int)) t := by
    funext i v; rw [Int.mul_one]
  rw [e] at W
  refine ⟨⟨_, _, _, _, rfl, W, hsz, by show IsRangeIter _ _ _ _ _; rw [hn]; simpa using Heap.get?_push_size _ rfl, ?_, ?_, fun b o e => Heap.get?_push_of_some _ e, ⟨_, _, rfl⟩, Nat.le_refl _⟩, ?_⟩
  · intro b hb
    show b < (s.heap.push _).objs.size
    rw [Heap.size_push, List.mem_singleton.mp hb]
    exact Nat.lt_succ_self _
  · intro b hb
    rw [List.mem_singleton.mp hb]
    cases e : s.heap.get? s.heap.objs.size with
    | none => rfl
    | some o => exact absurd (Heap.lt_size e) (Nat.lt_irrefl _)
  · show s.heap.objs.size ≤ (s.heap.push _).objs.size
    rw [Heap.size_push]; exact Nat.le_succ _
end
end
section
open PySem PySem.W PyProof.Rows PySem.Calls
set_option maxRecDepth 100000
set_option maxHeartbeats 4000000
theorem cName {M : Model} {A : Around} {E : Value → Shared → Prop} {s : Shared} {scope : Scope} {cl : List (Str × Addr)} {C : Addr} {env : Env} {m : Str → Option Value} {x : Str} {pos : Pos} {v : Value} {Q : Value → Shared → Prop}
    (hn : s.heap.Ns C m) (hv : m x = some v) (h : Q v s) (hk : (compEnvC scope cl C env).scope.kind = .function) (hl : (compEnvC scope cl C env).kindOf x = some .local) (hd : (x == ("__debug__" : Str)) = false) :
    wpAny M A (eval (.Name x pos) (compEnvC scope cl C env)) Q E s := wpAny_Name (wpAny_loadName_local hk hl hn hv h) hd



theorem strs_paired {g : Int → Str} : ∀ {vs ys : List Value} (a : Int), Paired (fun v y => ∃ k t t', v = Value.int k t ∧ y = Value.str (g k) t') vs ys → (∀ (j : Nat) (v : Value), vs[j]? = some v → ∃ t, v = Value.int (a + (j : Int)) t) →
    StrsAre ys ((List.range vs.length).map fun (i : Nat) => g (a + (i : Int)))
  | _, _, _, .nil, _ => .nil
  | v :: vs, _, a, .cons (b := y) (l₂ := ys) ⟨k, t, t', h1, h2⟩ r, h => by
    obtain ⟨t2, h3⟩ := h 0 v rfl
    subst h2
    have hk : k = a := by rw [h1] at h3; injection h3 with e _; simpa using e
    subst hk
    have ih := strs_paired (k + 1) r fun j v hv => by
      obtain ⟨t, e⟩ := h (j + 1) v (by simpa using hv)
      exact ⟨t, by rw [e]; congr 1; omega⟩
    have e : (List.range (v :: vs).length).map (fun (i : Nat) => g (k + (i : Int))) = g k :: (List.range vs.length).map (fun (i : Nat) => g (k + 1 + (i : Int))) := by
      rw [List.length_cons, List.range_succ_eq_map, List.map_cons, List.map_map]
      congr 1
      · simp
      · apply List.map_congr_left
        intro i _
        show g (k + ((i + 1 : Nat) : Int)) = _
        congr 1; omega
    rw [e]
    exact .cons _ _ ih

theorem StrsAre.append {vs ws : List Value} {xs ys : List Str} (h : StrsAre vs xs) (h' : StrsAre ws ys) : StrsAre (vs ++ ws) (xs ++ ys) := by
  induction h with
  | nil => exact h'
  | cons y t _ ih => exact .cons y t ih

def rowWord (k : Int) : Str := (Str.ofString "0x" ++ Txt.item (Str.ofString "1248") (k.fmod 4)) ++ Txt.mul (Str.ofString "0") (k.fdiv 4)
def NAMED : List Str := [Str.ofString "OPTIMIZED", Str.ofString "NEWLOCALS", Str.ofString "VARARGS", Str.ofString "VARKEYWORDS", Str.ofString "NESTED", Str.ofString "GENERATOR", Str.ofString "NOFREE", Str.ofString "COROUTINE", Str.ofString "ITERABLE_COROUTINE", Str.ofString "ASYNC_GENERATOR"]
def ROW : List Str := NAMED ++ (List.range 22).map fun (i : Nat) => rowWord (10 + (i : Int))

/-- v is a new list of the texts xs -/
def NewStrs (xs : List Str) (v : Value) (h h' : Heap) : Prop := ∃ a k vs, v = .ref a ∧ h.get? a = none ∧ h'.get? a = some (W.listOf (List.toArray vs) k) ∧ StrsAre vs xs


theorem frUp {h₀ h h' : Heap} {L : Addr} {m : Str → Option Value} (F : Fr h₀ L h m) (k : KeepsAll h h') : Fr h₀ L h' m :=
  ⟨F.ns.at' fun o e => k _ o e, fun b o e => k _ _ (F.keep b o e), F.above⟩
theorem newsUp {h₀ h h' : Heap} {L : Addr} {news : List (Addr × Obj)} (N : News h₀ L h news) (k : KeepsAll h h') : News h₀ L h' news := fun p hp => ⟨k _ _ (N p hp).1, (N p hp).2⟩

/-- a name of the def's own, kept in a cell, read within a comprehension -/
theorem cCell {M : Model} {A : Around} {E : Value → Shared → Prop} {s : Shared} {scope : Scope} {cl : List (Str × Addr)} {C c : Addr} {env : Env} {h₀ : Heap} {L : Addr} {news : List (Addr × Obj)} {o : Obj} {x : Str} {pos : Pos} {v : Value} {Q : Value → Shared → Prop}
    (N : News h₀ L s.heap news) (hm : (c, o) ∈ news) (hd : o.data = .cell (some v)) (h : Q v s) (hc : cl.lookup x = some c) (hk : (compEnvC scope cl C env).scope.kind = .function) (hl : (compEnvC scope cl C env).kindOf x = some .cell)
    (hb : (x == ("__debug__" : Str)) = false) : wpAny M A (eval (.Name x pos) (compEnvC scope cl C env)) Q E s :=
  wpAny_Name (wpAny_loadName_cell hk hl hc ⟨o, (N _ hm).1, hd⟩ h) hb

section
variable {prog : Program} {w : World} {A : Around} {E : Value → Shared → Prop} {s : Shared}
/-- an item of a list at a place -/
theorem itemAt {value slice : Expr} {l : Addr} {items : Array Value} {k : Int} {u : Tok} {v : Value} {Q : Value → Shared → Prop}
    (hl : s.heap.IsList l items) (h0 : 0 ≤ k) (hhi : k < 2 ^ 63) (hx : items[k.toNat]? = some v) (h : Q v s)
    (hs : subscripted slice false (.ref l) (.int k u) = operate [.ref l, .int k u] (getItem (.ref l) (.int k u)) := by with_unfolding_all rfl) :
    wpAny (model prog w) A (subscriptTail value slice (.ref l) (.int k u)) Q E s :=
  tail_any hl.typeIs slot_list_getitem.lookup (wpAny_getItem_list hl h0 hhi hx h) hs

theorem Src.rangeStep {r : Addr} {a b c : Int} {t u v : Tok} {n : Nat} (hh : A.handled = none) (hr : IsRange s.heap r a b c t u v) (hsmall : Builtin.Range.small a b c = true) (hn : Builtin.Range.rangeSize a b c = (n : Int)) (hsz : n ≤ sizeLine) :
    wpAny (model prog w) A (pyIter (.ref r)) (fun it s₂ => Src prog w A s s₂ n (fun i v => i < n ∧ ∃ t, v = .int (a + (i : Int) * c) t) it ∧ s.heap.objs.size ≤ s₂.heap.objs.size) E s := by
  refine wpAny_pyIter_range hr hsmall ?_
  have W : Walks prog w A s.heap.objs.size [s.heap.objs.size] [s.heap.objs.size] n (fun i v => i < n ∧ ∃ t, v = .int (a + i * c) t)
      (fun i h => IsRangeIter h s.heap.objs.size (a + (i : Nat) * c) ((n : Int) - (i : Nat)) c) := (Walks.range hh _ a c n).bound
  refine ⟨⟨_, _, _, _, rfl, W, hsz, by show IsRangeIter _ _ _ _ _; rw [hn]; simpa using Heap.get?_push_size _ rfl, ?_, ?_, fun b o e => Heap.get?_push_of_some _ e, ⟨_, _, rfl⟩, Nat.le_refl _⟩, ?_⟩
  · intro b hb
    show b < (s.heap.push _).objs.size
    rw [Heap.size_push, List.mem_singleton.mp hb]
    exact Nat.lt_succ_self _
  · intro b hb
    rw [List.mem_singleton.mp hb]
    cases e : s.heap.get? s.heap.objs.size with
    | none => rfl
    | some o => exact absurd (Heap.lt_size e) (Nat.lt_irrefl _)
  · show s.heap.objs.size ≤ (s.heap.push _).objs.size
    rw [Heap.size_push]; exact Nat.le_succ _
end

theorem ints_paired : ∀ {vs ys : List Value}, Paired (fun _ y => ∃ (k : Int) (t : Tok), y = Value.int k t) vs ys → ∃ ns, IntsAre ys ns
  | _, _, .nil => ⟨[], .nil⟩
  | _, _, .cons ⟨k, t, h⟩ r => by
    obtain ⟨ns, hn⟩ := ints_paired r
    subst h
    exact ⟨k :: ns, .cons k t hn⟩

theorem small_of {a b c : Int} (ha : -1000000 ≤ a ∧ a ≤ 1000000) (hb : -1000000 ≤ b ∧ b ≤ 1000000) (hc : 0 < c ∧ c ≤ 1000000) (hz : -1000000 ≤ Builtin.Range.rangeSize a b c ∧ Builtin.Range.rangeSize a b c ≤ 1000000) : Builtin.Range.small a b c = true := by
  unfold Builtin.Range.small
  generalize Builtin.Range.rangeSize a b c = z at hz
  unfold Builtin.Range.rangeFitsLong
  rw [if_pos (by omega)]
  simp only [Bool.and_eq_true, Bool.or_eq_true, decide_eq_true_eq]
  refine ⟨⟨⟨⟨?_, ?_⟩, ?_⟩, ?_⟩, .inr ?_⟩ <;> omega

/-- the names of ps stand in m as told -/
def Has (m : Str → Option Value) (ps : List (Str × Value)) : Prop := ∀ p ∈ ps, m p.1 = some p.2
theorem Has.nil {m : Str → Option Value} : Has m [] := fun _ h => nomatch h
theorem Has.cons {m : Str → Option Value} {x : Str} {v : Value} {ps : List (Str × Value)} (h : m x = some v) (r : Has m ps) : Has m ((x, v) :: ps) := fun p hp => by
  rcases List.mem_cons.mp hp with rfl | hp
  · exact h
  · exact r p hp
theorem Has.map {m : Str → Option Value} {ps : List (Str × Value)} (h : Has m ps) : kstB m ps = m := funext fun _ => kstB_eq h fun _ => rfl
theorem frHas {h₀ h : Heap} {L : Addr} {m : Str → Option Value} {ps : List (Str × Value)} (F : Fr h₀ L h m) (H : Has m ps) : Fr h₀ L h (kstB m ps) := by rw [H.map]; exact F
theorem frHasX {h₀ h : Heap} {L : Addr} {m : Str → Option Value} {x : Str} {v : Value} {ps : List (Str × Value)} (F : Fr h₀ L h (fun y => if y = x then some v else m y)) (H : Has m ps) : Fr h₀ L h (kstB m ((x, v) :: ps)) := by
  have e : kstB m ((x, v) :: ps) = fun y => if y = x then some v else m y := by
    funext y
    show (if y = x then some v else kstB m ps y) = _
    rw [H.map]
  rw [e]; exact F

theorem mulOk_right {a b : Int} (h : b.natAbs < 2 ^ 64) : IntMulOk a b := by
  have hb : Builtin.Int.intBits b ≤ 64 := by
    unfold Builtin.Int.intBits
    split
    · omega
    · rename_i h0
      have h1 : b.natAbs ≠ 0 := fun e => h0 (by rw [Int.natAbs_eq_zero.mp e]; rfl)
      have := (Nat.log2_lt h1).mpr h
      omega
  have h' : ¬ (Builtin.Int.intBits b > shortFactorBits) := Nat.not_lt.mpr hb
  unfold IntMulOk; rw [decide_eq_false h']; simp
end
section
open PySem PySem.W PyProof.Rows PySem.Calls
set_option maxRecDepth 100000
set_option maxHeartbeats 4000000
section
variable {prog : Program} {w : World} {A : Around} {s : Shared} {env : Env} {h₀ : Heap}

/-- where the items of a loop come from: one new object I steps through n items, the i-th is as V i says; it looks at I and at fpo -/
def IterOf (prog : Program) (w : World) (A : Around) (s : Shared) (xv : Value) (n : Nat) (V : Nat → Value → Prop) (fpo : List Addr) : Prop :=
  wpAny (model prog w) A (pyIter xv) (fun it s₂ => ∃ (I : Addr) (fp : List Addr) (St : Nat → Heap → Prop), it = .ref I ∧ Walks prog w A I fp [I] n V St ∧ St 0 s₂.heap ∧ (∀ b ∈ fp, b = I ∨ b ∈ fpo) ∧ s.heap.get? I = none ∧ KeepsAll s.heap s₂.heap ∧
    (∃ h tk, s₂ = { s with heap := h, toks := tk }) ∧ (∀ i h, St i h → ∃ o, h.get? I = some o)) (fun _ _ => False) s

/-- what a turn leaves -/
def TurnEnd' (h₀ : Heap) (L I : Addr) (o : Obj) (J : (Str → Option Value) → List (Addr × Obj) → Prop) (s : Shared) (Q : Flow → Shared → Prop) (f : Flow) (s₂ : Shared) : Prop :=
  match f with
  | .ret v => Q (.ret v) s₂
  | .brk => Q .next s₂
  | _ => ∃ h' tk m' news', s₂ = { s with heap := h', toks := tk } ∧ Fr h₀ L h' m' ∧ News h₀ L h' ((I, o) :: news') ∧ (∀ p ∈ news', p.1 ≠ I) ∧ J m' news'

theorem forLoop {Q : Flow → Shared → Prop} {x : Str} {px : Pos} {body orelse : List Stmt} {I : Addr} {fp fpo : List Addr} {n : Nat} {V : Nat → Value → Prop} {St : Nat → Heap → Prop} {m : Str → Option Value} {news : List (Addr × Obj)}
    (W : Walks prog w A I fp [I] n V St) (hx : env.kindOf x = some .local) (hek : env.scope.kind = .function) (hst : St 0 s.heap) (hfp : ∀ b ∈ fp, b = I ∨ b ∈ fpo) (hob : ∀ i h, St i h → ∃ o, h.get? I = some o)
    (J : Nat → (Str → Option Value) → List (Addr × Obj) → Prop) (hfo : ∀ b ∈ fpo, (∃ o, h₀.get? b = some o) ∨ ∃ o, ∀ i m nw, J i m nw → (b, o) ∈ nw) (hIh : h₀.get? I = none) (hIL : I ≠ env.locals)
    (F : Fr h₀ env.locals s.heap m) (N : News h₀ env.locals s.heap news) (hn : ∀ p ∈ news, p.1 ≠ I) (h0 : J 0 m news)
    (turn : ∀ i v m₁ news₁ o h tk, i < n → V i v → J i m₁ news₁ → Fr h₀ env.locals h (fun y => if y = x then some v else m₁ y) → News h₀ env.locals h ((I, o) :: news₁) → (∀ p ∈ news₁, p.1 ≠ I) →
      wpAny (model prog w) A (execs body env) (TurnEnd' h₀ env.locals I o (J (i + 1)) s Q) (fun _ _ => False) { s with heap := h, toks := tk })
    (done : ∀ m' news' h tk, J n m' news' → Fr h₀ env.locals h m' → News h₀ env.locals h news' → wpAny (model prog w) A (execs orelse env) Q (fun _ _ => False) { s with heap := h, toks := tk }) :
    codeAny (model prog w) A (.forLoop (.Name x px) (.ref I) body orelse env) (fun r s' => match r with | .ok f => Q f s' | .error e => cameBackBy (model prog w) A env (fun _ _ => False) e s') s := by
  have hp : (env.scope.kind == .class || (env.scope.kind == .module && env.locals != env.globals)) = false := by rw [hek]; rfl
  have never : ∀ {α : Type} {t : Sem α} {P : α → Shared → Prop} {E : Value → Shared → Prop} {s : Shared}, wpAny (model prog w) A t P (fun _ _ => False) s → wpAny (model prog w) A t P E s := fun h => wpAny_noRaise h
  refine codeAny_forLoop
    (fun k s' => ∃ h' tk m' news' i, s' = { s with heap := h', toks := tk } ∧ St i h' ∧ Fr h₀ env.locals h' m' ∧ News h₀ env.locals h' news' ∧ (∀ p ∈ news', p.1 ≠ I) ∧ J i m' news' ∧ i ≤ n ∧ k = n + 1 - i) ?_ (n + 1)
    ⟨s.heap, s.toks, m, news, 0, rfl, hst, F, N, hn, h0, Nat.zero_le _, rfl⟩
  rintro k s' ⟨h', tk, m', news', i, rfl, hst', F', N', hnw', hJ, hi, rfl⟩
  have old : ∀ b o, h₀.get? b = some o → b ∉ [I] := fun b o e hb => by rw [List.mem_singleton.mp hb, hIh] at e; cases e
  have next : ∀ h₁ : Heap, (∀ b o, b ∉ [I] → h'.get? b = some o → h₁.get? b = some o) → Fr h₀ env.locals h₁ m' ∧ News h₀ env.locals h₁ news' := fun h₁ hk₁ =>
    ⟨⟨F'.ns.at' fun o e => hk₁ _ o (fun hb => hIL (List.mem_singleton.mp hb).symm) e, fun b o e => hk₁ b o (old b o e) (F'.keep b o e), F'.above⟩, fun p hp => ⟨hk₁ _ _ (fun hb => hnw' p hp (List.mem_singleton.mp hb)) (N' p hp).1, (N' p hp).2⟩⟩
  by_cases hlt : i < n
  · refine W.item i _ _ _ hlt hst' fun v h₁ tk₁ hP hst₁ hk₁ => ?_
    obtain ⟨F₁, N₁⟩ := next h₁ hk₁
    refine wpAny_assign_Name (wpAny_storeName_local hx F₁.ns (fun h₂ hn₂ hs₂ => ?_) hp)
    have F₂ := F₁.set hn₂ hs₂
    have N₂ := N₁.set hs₂
    obtain ⟨o, ho⟩ := hob _ _ hst₁
    have ho₂ : h₂.get? I = some o := (hs₂.2 I hIL).trans ho
    have N₃ : News h₀ env.locals h₂ ((I, o) :: news') := fun p hp => by
      rcases List.mem_cons.mp hp with rfl | hp
      · exact ⟨ho₂, hIL, hIh⟩
      · exact N₂ p hp
    have hLf : env.locals ∉ fp := fun hb => by
      rcases hfp _ hb with e | hb
      · exact hIL e.symm
      · rcases hfo _ hb with ⟨o', ho'⟩ | ⟨o', ho'⟩
        · exact absurd (Nat.lt_of_lt_of_le (Heap.lt_size ho') F.above) (Nat.lt_irrefl _)
        · exact (N' _ (ho' _ _ _ hJ)).2.1 rfl
    have fin : ∀ s₃, (∃ h'' tk m₂ news₂, s₃ = { s with heap := h'', toks := tk } ∧ Fr h₀ env.locals h'' m₂ ∧ News h₀ env.locals h'' ((I, o) :: news₂) ∧ (∀ p ∈ news₂, p.1 ≠ I) ∧ J (i + 1) m₂ news₂) →
        ∃ mm, mm < n + 1 - i ∧ ∃ h' tk m' news' i, s₃ = { s with heap := h', toks := tk } ∧ St i h' ∧ Fr h₀ env.locals h' m' ∧ News h₀ env.locals h' news' ∧ (∀ p ∈ news', p.1 ≠ I) ∧ J i m' news' ∧ i ≤ n ∧ mm = n + 1 - i := by
      rintro s₃ ⟨h₃, tk₃, m₂, news₂, rfl, F₃, N₄, hne, hJ₃⟩
      refine ⟨n + 1 - (i + 1), by omega, h₃, tk₃, m₂, news₂, i + 1, rfl, ?_, F₃, fun p hp => N₄ p (List.mem_cons_of_mem _ hp), hne, hJ₃, hlt, rfl⟩
      refine W.frame _ _ _ hst₁ fun b hb o' e => ?_
      rcases hfp b hb with rfl | hb'
      · rw [ho] at e; cases e
        exact (N₄ _ (List.mem_cons_self)).1
      · have hbL : b ≠ env.locals := fun q => hLf (q ▸ hb)
        have e₂ : h₂.get? b = some o' := (hs₂.2 b hbL).trans e
        rcases hfo _ hb' with ⟨o₀, ho₀⟩ | ⟨o₀, ho₀⟩
        · have q := F₂.keep b o₀ ho₀
          rw [e₂] at q; cases q
          exact F₃.keep b _ ho₀
        · have q := (N₂ _ (ho₀ _ _ _ hJ)).1
          rw [e₂] at q; cases q
          exact (N₄ _ (List.mem_cons_of_mem _ (ho₀ _ _ _ hJ₃))).1
    refine never (wpAny_mono (turn i v m' news' o h₂ _ hlt hP hJ F₂ N₃ hnw') (fun f s₃ h₃ => ?_) fun _ _ e => e)
    cases f with
    | ret v => exact h₃
    | brk => exact h₃
    | cont => exact fin _ h₃
    | next => exact fin _ h₃
  · have hin : i = n := by omega
    subst hin
    refine W.done _ _ _ hst' fun h₁ tk₁ hk₁ => ?_
    obtain ⟨F₁, N₁⟩ := next h₁ hk₁
    exact never (wpAny_mono (done m' news' h₁ tk₁ hJ F₁ N₁) (fun f s₃ h₃ => h₃) fun _ _ e => e)

theorem forWalk {Q : Flow → Shared → Prop} {x : Str} {px pos : Pos} {iter : Expr} {body orelse : List Stmt} (h₀ : Heap) (hx : env.kindOf x = some .local) (hek : env.scope.kind = .function)
    (h : wpAny (model prog w) A (eval iter env) (fun xv s => Stop (∃ (m : Str → Option Value) (news : List (Addr × Obj)) (n : Nat) (V : Nat → Value → Prop) (fpo : List Addr) (J : Nat → (Str → Option Value) → List (Addr × Obj) → Prop),
      Fr h₀ env.locals s.heap m ∧ News h₀ env.locals s.heap news ∧ IterOf prog w A s xv n V fpo ∧ (∀ b ∈ fpo, (∃ o, h₀.get? b = some o) ∨ ∃ o, ∀ i m nw, J i m nw → (b, o) ∈ nw) ∧ J 0 m news ∧
      (∀ I i v m₁ news₁ o h tk, i < n → V i v → J i m₁ news₁ → Fr h₀ env.locals h (fun y => if y = x then some v else m₁ y) → News h₀ env.locals h ((I, o) :: news₁) → (∀ p ∈ news₁, p.1 ≠ I) →
        wpAny (model prog w) A (execs body env) (TurnEnd' h₀ env.locals I o (J (i + 1)) s Q) (fun _ _ => False) { s with heap := h, toks := tk }) ∧
      (∀ m' news' h tk, J n m' news' → Fr h₀ env.locals h m' → News h₀ env.locals h news' → wpAny (model prog w) A (execs orelse env) Q (fun _ _ => False) { s with heap := h, toks := tk }))) (fun _ _ => False) s)
    (hs : ∀ x, foldedSetIterable iter env x = pure x := by intro _; rfl) :
    wpAny (model prog w) A (exec (.For (.Name x px) iter body orelse pos) env) Q (fun _ _ => False) s := by
  refine wpAny_For (wpAny_mono h (fun xv s₁ h₁ => ?_) fun _ _ e => e) hs
  obtain ⟨m, news, n, V, fpo, J, F, N, hit, hfo, h0, turn, done⟩ := h₁
  refine wpAny_mono hit (fun it s₂ h₂ => ?_) fun _ _ e => e
  obtain ⟨I, fp, St, rfl, W, hst, hfp, hI, hk, ⟨h', tk', rfl⟩, hob⟩ := h₂
  have F₂ := frUp F hk
  have N₂ := newsUp N hk
  have hIh : h₀.get? I = none := by
    cases e : h₀.get? I with
    | none => rfl
    | some o => have := F.keep _ _ e; rw [hI] at this; cases this
  have hIL : I ≠ env.locals := by
    rintro rfl
    obtain ⟨o, _, _, ho, _⟩ := F.ns
    rw [hI] at ho; cases ho
  have hn : ∀ p ∈ news, p.1 ≠ I := fun p hp e => by
    have := (N p hp).1; rw [e, hI] at this; cases this
  exact forLoop W hx hek hst hfp hob J hfo hIh hIL F₂ N₂ hn h0 (fun i v m₁ news₁ o h tk hi hv hJ F3 N3 hne => wpAny_mono (turn I i v m₁ news₁ o h tk hi hv hJ F3 N3 hne) (fun f s₃ h₃ => h₃) fun _ _ e => e) (fun m' news' h tk hJ F3 N3 => done m' news' h tk hJ F3 N3)

theorem IterOf.range {r : Addr} {a b : Int} {t u v : Tok} {n : Nat} (hh : A.handled = none) (hr : IsRange s.heap r a b 1 t u v) (hsmall : Builtin.Range.small a b 1 = true) (hn : Builtin.Range.rangeSize a b 1 = (n : Int)) :
    IterOf prog w A s (.ref r) n (fun i v => i < n ∧ ∃ t, v = .int (a + (i : Int)) t) [] := by
  refine wpAny_pyIter_range hr hsmall ?_
  have W : Walks prog w A s.heap.objs.size [s.heap.objs.size] [s.heap.objs.size] n (fun i v => i < n ∧ ∃ t, v = .int (a + i * 1) t)
      (fun i h => IsRangeIter h s.heap.objs.size (a + (i : Nat) * 1) ((n : Int) - (i : Nat)) 1) := (Walks.range hh _ a 1 n).bound
  have e : (fun (i : Nat) (v : Value) => i < n ∧ ∃ t, v = Value.int (a + (i : Int) * 1) t) = fun i v => i < n ∧ ∃ t, v = .int (a + (i : Int)) t := by
    funext i v; rw [Int.mul_one]
  rw [e] at W
  refine ⟨_, _, _, rfl, W, by show IsRangeIter _ _ _ _ _; rw [hn]; simpa using Heap.get?_push_size _ rfl, fun b hb => .inl (List.mem_singleton.mp hb), ?_, fun b o e => Heap.get?_push_of_some _ e, ⟨_, _, rfl⟩, fun i h st => ⟨_, st⟩⟩
  cases e : s.heap.get? s.heap.objs.size with
  | none => rfl
  | some o => exact absurd (Heap.lt_size e) (Nat.lt_irrefl _)

theorem IterOf.list {l : Addr} {items : Array Value} (hh : A.handled = none) (hl : s.heap.IsList l items) :
    IterOf prog w A s (.ref l) items.size (fun i v => items[i]? = some v) [l] := by
  obtain ⟨ol, hol, _⟩ := id hl
  have hlt : l < s.heap.objs.size := Heap.lt_size hol
  have hne : l ≠ s.heap.objs.size := Nat.ne_of_lt hlt
  refine wpAny_pyIter_list hl ?_
  refine ⟨_, _, _, rfl, Walks.list (prog := prog) (w := w) hh s.heap.objs.size l hne items, ⟨⟨_, Heap.get?_push_size _ rfl, rfl, rfl⟩, hl.at fun o e => Heap.get?_push_of_some _ e⟩, ?_, ?_, fun b o e => Heap.get?_push_of_some _ e, ⟨_, _, rfl⟩, fun i h st => let ⟨⟨o, ho, _⟩, _⟩ := st; ⟨o, ho⟩⟩
  · intro b hb
    rcases List.mem_cons.mp hb with rfl | hb
    · exact .inl rfl
    · exact .inr hb
  · cases e : s.heap.get? s.heap.objs.size with
    | none => rfl
    | some o => exact absurd (Heap.lt_size e) (Nat.lt_irrefl _)

def TurnEndW (h₀ : Heap) (L : Addr) (J : (Str → Option Value) → List (Addr × Obj) → Prop) (s : Shared) (Q : Flow → Shared → Prop) (f : Flow) (s₂ : Shared) : Prop :=
  match f with
  | .ret v => Q (.ret v) s₂
  | .brk => Q .next s₂
  | _ => ∃ h' tk m' news', s₂ = { s with heap := h', toks := tk } ∧ Fr h₀ L h' m' ∧ News h₀ L h' news' ∧ J m' news'

theorem whileWalk {Q : Flow → Shared → Prop} {test : Expr} {body orelse : List Stmt} {pos : Pos} (h₀ : Heap) (J : Nat → (Str → Option Value) → List (Addr × Obj) → Prop) (k : Nat) {m : Str → Option Value} {news : List (Addr × Obj)}
    (F : Fr h₀ env.locals s.heap m) (N : News h₀ env.locals s.heap news) (h0 : J k m news)
    (turn : ∀ k m nw h tk, J k m nw → Fr h₀ env.locals h m → News h₀ env.locals h nw →
      wpAny (model prog w) A (isTrue test env (eval test env)) (fun b s₂ => Stop (if b = true then (∃ k', k = k' + 1 ∧ wpAny (model prog w) A (execs body env) (TurnEndW h₀ env.locals (J k') s Q) (fun _ _ => False) s₂) else wpAny (model prog w) A (execs orelse env) Q (fun _ _ => False) s₂))
        (fun _ _ => False) { s with heap := h, toks := tk }) :
    wpAny (model prog w) A (exec (.While test body orelse pos) env) Q (fun _ _ => False) s := by
  have main : ∀ (k : Nat) m nw h tk, J k m nw → Fr h₀ env.locals h m → News h₀ env.locals h nw → WhlRest prog w A (fun _ _ => False) env test body orelse Q (k + 1) { s with heap := h, toks := tk } := by
    intro k
    induction k with
    | zero =>
      intro m nw h tk hJ F N
      refine whl_turn PassesOwn.never (wpAny_mono (turn 0 m nw h tk hJ F N) (fun b s₂ hb => ?_) fun _ _ e => e)
      cases b with
      | true =>
        unfold Stop at hb
        rw [if_pos rfl] at hb
        obtain ⟨k', e, _⟩ := hb
        cases e
      | false =>
        unfold Stop at hb
        rw [if_neg Bool.false_ne_true] at hb
        exact .no rfl hb
    | succ k ih =>
      intro m nw h tk hJ F N
      refine whl_turn PassesOwn.never (wpAny_mono (turn (k + 1) m nw h tk hJ F N) (fun b s₂ hb => ?_) fun _ _ e => e)
      cases b with
      | true =>
        unfold Stop at hb
        rw [if_pos rfl] at hb
        obtain ⟨k', e, hb⟩ := hb
        cases e
        refine .yes rfl (wpAny_mono hb (fun f s₃ h₃ => ?_) fun _ _ e => e)
        cases f with
        | ret v => exact h₃
        | brk => exact h₃
        | next =>
          obtain ⟨h', tk', m', nw', rfl, F', N', hJ'⟩ := h₃
          exact ih m' nw' h' tk' hJ' F' N'
        | cont =>
          obtain ⟨h', tk', m', nw', rfl, F', N', hJ'⟩ := h₃
          exact ih m' nw' h' tk' hJ' F' N'
      | false =>
        unfold Stop at hb
        rw [if_neg Bool.false_ne_true] at hb
        exact .no rfl hb
  exact whl_start (k + 1) (main k m news s.heap s.toks h0 F N)
end
end
section
open PySem PySem.W PyProof.Rows PySem.Calls
set_option maxRecDepth 100000
/-- n without its lowest i places -/
def cut (n i : Nat) : Nat := n / 2 ^ i * 2 ^ i
def word (i : Nat) : Str := ROW.getD i Str.empty
def wordsTo (n i : Nat) : List Str := ((List.range i).filter fun j => n.testBit j).map word
def hexText (n : Nat) : Str := baseText "0x" 16 (n : Int)

theorem and_nat (a b : Nat) : Builtin.bitAnd (a : Int) (b : Int) = ((a &&& b : Nat) : Int) := by
  rw [bitAnd_pp (by omega) (by omega)]; simp

theorem cut_zero (n : Nat) : cut n 0 = n := by unfold cut; rw [Nat.pow_zero, Nat.div_one, Nat.mul_one]
theorem div_succ (n i : Nat) : n / 2 ^ (i + 1) = n / 2 ^ i / 2 := by rw [Nat.pow_succ, Nat.div_div_eq_div_mul]
theorem testBit_iff (n i : Nat) : n.testBit i = true ↔ n / 2 ^ i % 2 = 1 := by rw [Nat.testBit_eq_decide_div_mod_eq, decide_eq_true_eq]
theorem cut_set {n i : Nat} (h : n.testBit i = true) : cut n i = cut n (i + 1) + 2 ^ i := by
  have hb := (testBit_iff n i).mp h
  unfold cut
  rw [div_succ]
  generalize n / 2 ^ i = q at hb
  rw [Nat.pow_succ]
  have hq : q = 2 * (q / 2) + 1 := by omega
  generalize q / 2 = r at hq
  subst hq
  rw [Nat.add_mul, Nat.one_mul, Nat.mul_comm (2 ^ i) 2, Nat.mul_comm 2 r, Nat.mul_assoc]
theorem cut_clear {n i : Nat} (h : n.testBit i = false) : cut n i = cut n (i + 1) := by
  have hb : n / 2 ^ i % 2 = 0 := by
    have : ¬ n / 2 ^ i % 2 = 1 := fun e => by rw [(testBit_iff n i).mpr e] at h; cases h
    omega
  unfold cut
  rw [div_succ]
  generalize n / 2 ^ i = q at hb
  rw [Nat.pow_succ]
  have hq : q = 2 * (q / 2) := by omega
  generalize q / 2 = r at hq
  subst hq
  rw [Nat.mul_comm (2 ^ i) 2, Nat.mul_comm 2 r, Nat.mul_assoc]
theorem cut_and (n i : Nat) : cut n i &&& 2 ^ i = if n.testBit i then 2 ^ i else 0 := by
  have e : (cut n i).testBit i = n.testBit i := by
    rw [Nat.testBit_eq_decide_div_mod_eq, Nat.testBit_eq_decide_div_mod_eq]
    unfold cut
    rw [Nat.mul_div_cancel _ (Nat.two_pow_pos i)]
  apply Nat.eq_of_testBit_eq
  intro j
  rw [Nat.testBit_and, Nat.testBit_two_pow]
  by_cases h : i = j
  · subst h
    rw [e]
    cases n.testBit i <;> simp
  · cases n.testBit i <;> simp [h, Nat.testBit_two_pow]
theorem flag_eq (i : Nat) : (1 : Int) * 2 ^ ((0 : Int) + (i : Int)).toNat = ((2 ^ i : Nat) : Int) := by
  have : ((0 : Int) + (i : Int)).toNat = i := by omega
  rw [this, Int.one_mul]; simp
theorem and_flag (n i : Nat) : Builtin.bitAnd ((cut n i : Nat) : Int) ((2 ^ i : Nat) : Int) = if n.testBit i then ((2 ^ i : Nat) : Int) else 0 := by
  rw [and_nat, cut_and]
  split <;> rfl
theorem and_flag_ne {n i : Nat} : Builtin.bitAnd ((cut n i : Nat) : Int) ((2 ^ i : Nat) : Int) ≠ 0 ↔ n.testBit i = true := by
  rw [and_flag]
  have := Nat.two_pow_pos i
  constructor
  · intro h
    cases e : n.testBit i with
    | true => rfl
    | false => rw [e] at h; simp at h
  · intro h; rw [h, if_pos rfl]; omega
theorem xor_flag {n i : Nat} (h : n.testBit i = true) : Builtin.bitXor ((cut n i : Nat) : Int) ((2 ^ i : Nat) : Int) = ((cut n (i + 1) : Nat) : Int) := by
  rw [bitXor_and, and_flag, h, if_pos rfl, cut_set h]
  have := Nat.two_pow_pos i
  generalize 2 ^ i = z at *
  omega
theorem wordsTo_set {n i : Nat} (h : n.testBit i = true) : wordsTo n (i + 1) = wordsTo n i ++ [word i] := by
  unfold wordsTo
  rw [List.range_succ, List.filter_append, List.map_append]
  simp [h]
theorem wordsTo_clear {n i : Nat} (h : n.testBit i = false) : wordsTo n (i + 1) = wordsTo n i := by
  unfold wordsTo
  rw [List.range_succ, List.filter_append, List.map_append]
  simp [h]
theorem wordsTo_len (n i : Nat) : (wordsTo n i).length ≤ i := by
  unfold wordsTo
  rw [List.length_map]
  exact Nat.le_trans (List.length_filter_le _ _) (by simp)
theorem lt_of_cut {n i : Nat} (h : cut n i = 0) : n < 2 ^ i := by
  unfold cut at h
  have h2 := Nat.two_pow_pos i
  have : n / 2 ^ i = 0 := by
    rcases Nat.mul_eq_zero.mp h with e | e
    · exact e
    · omega
  exact (Nat.div_eq_zero_iff_lt h2).mp this
theorem wordsTo_more {n i : Nat} (h : n < 2 ^ i) : ∀ k, wordsTo n (i + k) = wordsTo n i
  | 0 => rfl
  | k + 1 => by
    have : n.testBit (i + k) = false := Nat.testBit_lt_two_pow (Nat.lt_of_lt_of_le h (Nat.pow_le_pow_right (by decide) (by omega)))
    rw [← Nat.add_assoc, wordsTo_clear this, wordsTo_more h k]

/-- the words of n, as the def tells them -/
def told (n : Nat) : List Str := if n ≠ 0 ∧ n < 2 ^ 32 then wordsTo n 32 else wordsTo n 32 ++ [hexText (cut n 32)]

theorem told_brk {n i : Nat} (hb : n.testBit i = true) (hi : i < 32) (h : cut n (i + 1) = 0) : told n = wordsTo n (i + 1) := by
  have hlt := lt_of_cut h
  have hne : n ≠ 0 := by rintro rfl; simp at hb
  unfold told
  rw [if_pos ⟨hne, Nat.lt_of_lt_of_le hlt (Nat.pow_le_pow_right (by decide) (by omega))⟩]
  have e : 32 = i + 1 + (31 - i) := by omega
  rw [e, wordsTo_more hlt]
theorem told_end {n : Nat} (h : n = 0 ∨ cut n 32 ≠ 0) : told n = wordsTo n 32 ++ [hexText (cut n 32)] := by
  unfold told
  rw [if_neg]
  rintro ⟨h1, h2⟩
  rcases h with h | h
  · exact h1 h
  · refine h ?_
    unfold cut
    rw [Nat.div_eq_of_lt h2, Nat.zero_mul]

theorem words_table : ((List.range 32).all fun i => i < 10 || baseText "0x" 16 (((2 ^ i : Nat) : Int)) == word i) = true := by decide +kernel
theorem words_len : ((List.range 32).all fun i => (baseText "0x" 16 ((2 ^ i : Nat) : Int)).length ≤ 20) = true := by decide +kernel
theorem row_nodup : ROW.Nodup := by decide +kernel
theorem row_len : ROW.length = 32 := by rfl

theorem row_short : (ROW.all fun x => decide (x.length ≤ 20)) = true := by decide +kernel
theorem hex_short : ((List.range 32).all fun q => decide ((hexText (q * 2 ^ 32)).length ≤ 20)) = true := by decide +kernel
theorem word_short (i : Nat) : (word i).length ≤ 20 := by
  unfold word
  rw [List.getD_eq_getElem?_getD]
  cases h : ROW[i]? with
  | none => decide
  | some x => exact of_decide_eq_true (List.all_eq_true.mp row_short x (List.mem_of_getElem? h))
theorem hexText_short {n : Nat} (h : n < 2 ^ 37) : (hexText (cut n 32)).length ≤ 20 := by
  have : n / 2 ^ 32 < 32 := by
    rw [Nat.div_lt_iff_lt_mul (by decide)]
    exact Nat.lt_of_lt_of_le h (by decide)
  exact of_decide_eq_true (List.all_eq_true.mp hex_short _ (List.mem_range.mpr this))
theorem told_short {n : Nat} (h : n < 2 ^ 37) : ∀ x ∈ told n, x.length ≤ 20 := by
  intro x hx
  unfold told at hx
  have hw : x ∈ wordsTo n 32 → x.length ≤ 20 := fun hx => by
    obtain ⟨i, _, rfl⟩ := List.mem_map.mp hx
    exact word_short i
  split at hx
  · exact hw hx
  · rcases List.mem_append.mp hx with hx | hx
    · exact hw hx
    · rw [List.mem_singleton.mp hx]; exact hexText_short h
theorem sum_short : ∀ {l : List Str}, (∀ x ∈ l, x.length ≤ 20) → (l.map (·.length)).sum ≤ 20 * l.length
  | [], _ => Nat.le_refl _
  | x :: l, h => by
    have h1 := h x List.mem_cons_self
    have h2 := sum_short fun y hy => h y (List.mem_cons_of_mem _ hy)
    rw [List.map_cons, List.sum_cons, List.length_cons]
    omega
theorem told_len (n : Nat) : (told n).length ≤ 33 := by
  have := wordsTo_len n 32
  unfold told
  split
  · omega
  · rw [List.length_append, List.length_singleton]; omega
theorem told_fits {n : Nat} (h : n < 2 ^ 37) : ((told n).map (·.length)).sum + (told n).length ≤ 1048576 := by
  have h1 := sum_short (told_short h)
  have h2 := told_len n
  omega
end
section
open PySem PySem.W PyProof.Rows PySem.Calls
set_option maxRecDepth 100000
abbrev nats (ps : List Nat) : List Int := ps.map fun (p : Nat) => (p : Int)
def Ints (l : Addr) (ns : List Int) (h : Heap) : Prop := ∃ vs, h.IsList l (List.toArray vs) ∧ IntsAre vs ns
def Strs (l : Addr) (xs : List Str) (h : Heap) : Prop := ∃ vs k, h.get? l = some (W.listOf (List.toArray vs) k) ∧ StrsAre vs xs

theorem row_at {k : Nat} (h : k < 32) : ROW[k]? = some (word k) := by
  unfold word
  rw [List.getD_eq_getElem?_getD, List.getElem?_eq_getElem (by rw [row_len]; exact h)]
  rfl
theorem word_at {ws : List Value} (hS : StrsAre ws ROW) {k : Nat} (h : k < 32) : ∃ t, ws[k]? = some (.str (word k) t) := hS.get k _ (row_at h)

theorem ints_at : ∀ {vs : List Value} {ps : List Nat}, IntsAre vs (nats ps) → ∀ {i : Nat} {v : Value}, vs[i]? = some v → ∃ (p : Nat) (t : Tok), ps[i]? = some p ∧ v = .int (p : Int) t
  | _, [], h, i, v, e => by cases h; simp at e
  | _, p :: ps, h, i, v, e => by
    cases h with
    | cons _ t r =>
      cases i with
      | zero => simp at e; exact ⟨p, t, rfl, e.symm⟩
      | succ i =>
        obtain ⟨q, t', h1, h2⟩ := ints_at (ps := ps) r (i := i) (by simpa using e)
        exact ⟨q, t', by simpa using h1, h2⟩
theorem ints_mem {vs : List Value} {ps : List Nat} (h : IntsAre vs (nats ps)) {i : Nat} {v : Value} (e : vs.toArray[i]? = some v) : ∃ (p : Nat) (t : Tok), p ∈ ps ∧ v = .int (p : Int) t := by
  obtain ⟨p, t, h1, h2⟩ := ints_at h (by simpa using e)
  exact ⟨p, t, List.mem_of_getElem? h1, h2⟩

theorem strs_of {pv : Value → Bool} {G : Value → Value → Prop} {q : Nat → Bool} {f : Nat → Str} (hp : ∀ (k : Nat) t, pv (.int (k : Int) t) = q k) (hG : ∀ (k : Nat) t y, G (.int (k : Int) t) y → ∃ t', y = .str (f k) t') :
    ∀ {vs : List Value} {ps : List Nat} {ys : List Value}, IntsAre vs (nats ps) → Paired G (vs.filter pv) ys → StrsAre ys ((ps.filter q).map f)
  | _, [], ys, h, P => by cases h; cases P; exact .nil
  | _, p :: ps, ys, h, P => by
    cases h with
    | cons _ t r =>
      rw [List.filter_cons, hp] at P
      rw [List.filter_cons]
      cases e : q p with
      | false =>
        rw [e] at P
        exact strs_of hp hG r P
      | true =>
        rw [e] at P
        simp only [if_true] at P
        cases P with
        | cons h1 h2 =>
          obtain ⟨t', rfl⟩ := hG _ _ _ h1
          exact .cons _ _ (strs_of hp hG r h2)
theorem ints_of {pv : Value → Bool} {G : Value → Value → Prop} {q : Nat → Bool} {f : Nat → Int} (hp : ∀ (k : Nat) t, pv (.int (k : Int) t) = q k) (hG : ∀ (k : Nat) t y, G (.int (k : Int) t) y → ∃ t', y = .int (f k) t') :
    ∀ {vs : List Value} {ps : List Nat} {ys : List Value}, IntsAre vs (nats ps) → Paired G (vs.filter pv) ys → IntsAre ys ((ps.filter q).map f)
  | _, [], ys, h, P => by cases h; cases P; exact .nil
  | _, p :: ps, ys, h, P => by
    cases h with
    | cons _ t r =>
      rw [List.filter_cons, hp] at P
      rw [List.filter_cons]
      cases e : q p with
      | false =>
        rw [e] at P
        exact ints_of hp hG r P
      | true =>
        rw [e] at P
        simp only [if_true] at P
        cases P with
        | cons h1 h2 =>
          obtain ⟨t', rfl⟩ := hG _ _ _ h1
          exact .cons _ _ (ints_of hp hG r h2)

theorem list_of {items : Array Value} {vs : List Value} (hlen : vs.length = items.size) (hP : ∀ (j : Nat) (v : Value), vs[j]? = some v → items[j]? = some v) : vs = items.toList := list_of_places hlen hP

def HEX : Str := Str.ofString "0123456789abcdef"
/-- the signs of a by sixteens ahead of s -/
def signs : Nat → Nat → Str → Str
  | 0, _, s => s
  | f + 1, a, s => if a = 0 then s else signs f (a / 16) (Txt.item HEX (((a % 16 : Nat) : Int)) ++ s)
theorem signs_zero (f : Nat) (s : Str) : signs f 0 s = s := by cases f <;> simp [signs]
def aboveOf (ps : List Nat) : Nat := ((ps.filter fun p => decide (31 < p)).map fun p => 2 ^ (p - 32)).sum
def lawTold (ps : List Nat) : List Str :=
  ((ps.filter fun p => decide (p < 32)).map word) ++
    (if (signs 8 (aboveOf ps) Str.empty != Str.ofString "") = true then [(Str.ofString "0x" ++ signs 8 (aboveOf ps) Str.empty) ++ Str.ofString "00000000"] else [])
def lawText (ps : List Nat) : Str := Txt.join (Str.ofString ", ") (lawTold ps)
theorem above_sum (ps : List Nat) : ((ps.filter fun p => decide (31 < p)).map fun p => ((2 : Int) ^ (p - 32))).sum = ((aboveOf ps : Nat) : Int) := by
  unfold aboveOf
  induction ps.filter fun p => decide (31 < p) with
  | nil => rfl
  | cons p l ih => rw [List.map_cons, List.sum_cons, List.map_cons, List.sum_cons, ih]; simp

theorem above_small : ∀ {ps : List Nat}, (∀ p ∈ ps, p ≤ 36) → aboveOf ps ≤ 16 * ps.length
  | [], _ => Nat.zero_le _
  | p :: ps, h => by
    have ih := above_small fun q hq => h q (List.mem_cons_of_mem _ hq)
    have hp := h p List.mem_cons_self
    have h2 : 2 ^ (p - 32) ≤ 2 ^ 4 := Nat.pow_le_pow_right (by decide) (by omega)
    unfold aboveOf at *
    rw [List.filter_cons, List.length_cons]
    split
    · rw [List.map_cons, List.sum_cons]; omega
    · omega

theorem signs_len : ∀ (f a : Nat) (x : Str), (signs f a x).length ≤ x.length + f
  | 0, _, _ => Nat.le_refl _
  | f + 1, a, x => by
    unfold signs
    split
    · omega
    · refine Nat.le_trans (signs_len f _ _) ?_
      rw [Str.length_append]
      have : ∀ i, (Txt.item HEX i).length = 1 := fun i => rfl
      rw [this]
      omega
theorem lawTold_fits {ps : List Nat} (hl : ps.length ≤ 8) : ((lawTold ps).map (·.length)).sum + (lawTold ps).length ≤ 1048576 := by
  have h1 : ∀ x ∈ (ps.filter fun p => decide (p < 32)).map word, x.length ≤ 20 := fun x hx => by
    obtain ⟨i, _, rfl⟩ := List.mem_map.mp hx
    exact word_short i
  have h2 : ∀ x ∈ lawTold ps, x.length ≤ 20 := fun x hx => by
    unfold lawTold at hx
    rcases List.mem_append.mp hx with hx | hx
    · exact h1 x hx
    · split at hx
      · rw [List.mem_singleton.mp hx, Str.length_append, Str.length_append]
        have := signs_len 8 (aboveOf ps) Str.empty
        have e1 : (Str.ofString "0x").length = 2 := by decide
        have e2 : (Str.ofString "00000000").length = 8 := by decide
        have e3 : Str.empty.length = 0 := by decide
        omega
      · cases hx
  have h3 := sum_short h2
  have h4 : (lawTold ps).length ≤ 9 := by
    unfold lawTold
    rw [List.length_append, List.length_map]
    have := List.length_filter_le (fun p => decide (p < 32)) ps
    split
    · rw [List.length_singleton]; omega
    · rw [List.length_nil]; omega
  omega
end
section
open PySem PySem.W PyProof.Rows PySem.Calls PySem.SeqAt PySem.Spec
set_option maxRecDepth 100000
set_option maxHeartbeats 4000000
theorem isStr_at (k : Str) : ∀ {vs : List Value} {xs : List Str}, StrsAre vs xs → ∀ (j : Nat) (h1 : j < vs.length) (h2 : j < xs.length), isStrOf k vs[j] = (xs[j] == k)
  | _, _, .cons _ _ _, 0, _, _ => rfl
  | _, _, .cons _ _ r, j + 1, h1, h2 => isStr_at k r j (Nat.lt_of_succ_lt_succ h1) (Nat.lt_of_succ_lt_succ h2)
theorem ne_of_lt_idx {k : Str} : ∀ {xs : List Str} {j : Nat}, j < xs.idxOf k → ∀ (h2 : j < xs.length), (xs[j] == k) = false
  | n :: r, 0, h, _ => by
    by_cases e : n = k
    · subst e; simp at h
    · simpa using e
  | n :: r, j + 1, h, h2 => by
    by_cases e : n = k
    · subst e; simp at h
    · have hb : (n == k) = false := by simpa using e
      have h' : j < r.idxOf k := by
        rw [List.idxOf_cons, hb] at h
        exact Nat.lt_of_succ_lt_succ h
      exact ne_of_lt_idx h' (Nat.lt_of_succ_lt_succ h2)
theorem count_strs (k : Str) : ∀ xs : List Str, Spec.countIn (.str k) (xs.map PyData.str) = ((xs.count k : Nat) : Int)
  | [] => rfl
  | x :: xs => by
    rw [List.map_cons, Spec.countIn, count_strs k xs, List.count_cons]
    by_cases h : (x == k) = true
    · have h2 : Spec.same (.str x) (.str k) = true := h
      rw [if_pos h2, if_pos h]; omega
    · have h2 : ¬ Spec.same (.str x) (.str k) = true := h
      rw [if_neg h2, if_neg h]; omega
theorem StrsAre.eraseIdx : ∀ {vs : List Value} {xs : List Str}, StrsAre vs xs → ∀ j, StrsAre (vs.eraseIdx j) (xs.eraseIdx j)
  | _, _, .nil, _ => .nil
  | _, _, .cons _ _ r, 0 => r
  | _, _, .cons _ _ r, j + 1 => .cons _ _ (StrsAre.eraseIdx r j)

section
variable {prog : Program} {w : World} {A : Around} {E : Value → Shared → Prop} {s : Shared} {h₀ : Heap} {L : Addr} {m : Str → Option Value} {news news' : List (Addr × Obj)}

theorem index_strs {l : Addr} {vs : List Value} {xs : List Str} {k : Str} {t : Tok} {Q : Value → Shared → Prop} (hl : s.heap.IsList l vs.toArray) (hi : StrsAre vs xs)
    (hz : xs.length ≤ 1000) (hk : k ∈ xs) (h : Q (.int (xs.idxOf k : Nat) s.toks) { s with toks := s.toks + 1 }) :
    wpAny (model prog w) A (call (.builtin "list.index") [.ref l, .str k t]) Q E s := by
  obtain ⟨⟨cls, dd, data, sl⟩, ho, hc, n, hd⟩ := id hl
  simp only at hc hd
  subst hc hd
  have hlen := hi.length
  have hj : xs.idxOf k < xs.length := List.idxOf_lt_length_iff.mpr hk
  refine call_meets PySem.F.slot_list_index ⟨_, ho, rfl⟩ PySem.F.entry_list_index (PySem.F.args_list_index_2 _ _)
    (list_indexAt l vs.toArray n dd sl (.str k t) (isStrOf k) (xs.idxOf k) (by simpa [hlen] using hj) (by omega) ?_ ?_) ⟨ho, fun y hy => (eq_isStrOf k t hi y (by simpa using hy)).at _ _, h⟩
  · show isStrOf k vs[xs.idxOf k] = true
    rw [isStr_at k hi _ (by omega) hj]
    simpa using List.getElem_idxOf hj
  · intro j hjs hlt
    show isStrOf k vs[j] = false
    rw [isStr_at k hi j (by simpa using hjs) (by omega)]
    exact ne_of_lt_idx hlt _

theorem remove_strs {D : Addr} {vs : List Value} {n : Nat} {xs : List Str} {k : Str} {t : Tok} {Q : Value → Shared → Prop} (F : Fr h₀ L s.heap m) (N : News h₀ L s.heap news) (hi : StrsAre vs xs) (hz : xs.length ≤ 1000) (hk : k ∈ xs)
    (U : Upd D (W.listOf (List.toArray vs) n) (W.listOf (List.toArray (vs.eraseIdx (xs.idxOf k))) (n + 1)) news news')
    (h : ∀ h', Fr h₀ L h' m → News h₀ L h' news' → Q .none { s with heap := h' }) : wpAny (model prog w) A (call (.builtin "list.remove") [.ref D, .str k t]) Q E s := by
  obtain ⟨pre, post, rfl, rfl, a', b'⟩ := U.split
  have z := N (D, W.listOf (List.toArray vs) n) (List.mem_append.mpr (.inr (.head _)))
  have hlen := hi.length
  have hj : xs.idxOf k < xs.length := List.idxOf_lt_length_iff.mpr hk
  refine call_meets PySem.F.slot_list_remove ⟨_, z.1, rfl⟩ PySem.F.entry_list_remove (PySem.F.args_list_remove_2 _ _)
    (MeetsSeq.list_remove D vs.toArray n (.str k t) (isStrOf k) (fun y hy => eq_isStrOf k t hi y (by simpa using hy)) (xs.idxOf k) (by simpa [hlen] using hj) ?_ ?_ (by rw [sizeLine_eq, List.size_toArray]; omega))
    ⟨z.1, h _ (F.change (Heap.SameBut.update ..) z.2.1 z.2.2) (ki_turn _ N a' b' ?_ ?_)⟩
  · show isStrOf k vs[xs.idxOf k] = true
    rw [isStr_at k hi _ (by omega) hj]
    simpa using List.getElem_idxOf hj
  · intro j hjs hlt
    show isStrOf k vs[j] = false
    rw [isStr_at k hi j (by simpa using hjs) (by omega)]
    exact ne_of_lt_idx hlt _
  · show (vs.toArray).eraseIdxIfInBounds (xs.idxOf k) = (vs.eraseIdx (xs.idxOf k)).toArray
    apply Array.toList_inj.mp
    simp [Array.toList_eraseIdxIfInBounds]
  · have hq : (vs.eraseIdx (xs.idxOf k)).toArray.size ≠ vs.toArray.size := by
      rw [List.size_toArray, List.size_toArray, List.length_eraseIdx, if_pos (by omega)]; omega
    rw [if_neg (by simpa using hq)]

theorem eqLists {a b : Addr} {vs us : List Value} {ds es : List PyData} {Q : Value → Shared → Prop} (ha : s.heap.IsList a vs.toArray) (hb : s.heap.IsList b us.toArray) (hd : CarriedAll vs ds) (he : CarriedAll us es)
    (ld : PyData.canLayAll0 ds = true) (le : PyData.canLayAll0 es = true) (zd : PyData.depthAll ds ≤ 1) (hu : A.units + 64 < cLine) (h : Q (.bool (PyData.eqvAll ds es)) s) :
    wpAny (model prog w) A (compareOp .Eq (.ref a) (.ref b)) Q E s :=
  compareEq_reads (reads_newData ha hd) (reads_newData hb he) ld le (by
    have : (PyData.list ds).depth ≤ 2 := by show PyData.depthAll ds + 1 ≤ 2; omega
    have h2 := Nat.min_le_left (PyData.list ds).depth (PyData.list es).depth
    omega) h
theorem neLists {a b : Addr} {vs us : List Value} {ds es : List PyData} {Q : Value → Shared → Prop} (ha : s.heap.IsList a vs.toArray) (hb : s.heap.IsList b us.toArray) (hd : CarriedAll vs ds) (he : CarriedAll us es)
    (ld : PyData.canLayAll0 ds = true) (le : PyData.canLayAll0 es = true) (zd : PyData.depthAll ds ≤ 1) (hu : A.units + 64 < cLine) (h : Q (.bool (!PyData.eqvAll ds es)) s) :
    wpAny (model prog w) A (compareOp .NotEq (.ref a) (.ref b)) Q E s :=
  compareNe_reads (reads_newData ha hd) (reads_newData hb he) ld le (by
    have : (PyData.list ds).depth ≤ 2 := by show PyData.depthAll ds + 1 ≤ 2; omega
    have h2 := Nat.min_le_left (PyData.list ds).depth (PyData.list es).depth
    omega) h
end

theorem lay_strs : ∀ {xs : List Str}, (∀ x ∈ xs, PyData.strOk x = true) → PyData.canLayAll0 (xs.map PyData.str) = true
  | [], _ => rfl
  | x :: xs, h => by
    show (PyData.strOk x && PyData.canLayAll0 (xs.map PyData.str)) = true
    rw [h x List.mem_cons_self, lay_strs fun y hy => h y (List.mem_cons_of_mem _ hy)]; rfl
theorem depth_strs : ∀ xs : List Str, PyData.depthAll (xs.map PyData.str) = 0
  | [] => rfl
  | x :: xs => by
    show max 0 (PyData.depthAll (xs.map PyData.str)) = 0
    rw [depth_strs xs]; rfl
theorem StrsAre.filter {pv : Value → Bool} {q : Str → Bool} (hp : ∀ x t, pv (.str x t) = q x) : ∀ {vs : List Value} {xs : List Str}, StrsAre vs xs → StrsAre (vs.filter pv) (xs.filter q)
  | _, _, .nil => .nil
  | _, _, .cons x t r => by
    rw [List.filter_cons, List.filter_cons, hp]
    split
    · exact .cons _ _ (StrsAre.filter hp r)
    · exact StrsAre.filter hp r
theorem paired_eq : ∀ {vs ys : List Value}, Paired (fun v y => y = v) vs ys → ys = vs
  | _, _, .nil => rfl
  | _, _, .cons h r => by rw [h, paired_eq r]

/-- the words at the places ps of the row r -/
def tx (r : List Str) (ps : List Nat) : List Str := ps.map fun i => r.getD i Str.empty
def twices (ps : List Nat) : List Nat := (List.range 8).filter fun q => decide (1 < ps.count q)
def carry (ps : List Nat) : Option (List Nat) :=
  match twices ps with
  | [] => none
  | q :: _ => if q + 1 < 8 then some ((ps.erase q).erase q ++ [q + 1]) else none
def carryN : Nat → List Nat → Option (List Nat)
  | 0, ps => some ps
  | n + 1, ps => (carry ps).bind (carryN n)

theorem tx_at {r : List Str} {i : Nat} (h : i < r.length) : r.getD i Str.empty = r[i] := by
  rw [List.getD_eq_getElem?_getD, List.getElem?_eq_getElem h]; rfl
theorem tx_inj {r : List Str} (hnd : r.Nodup) {i j : Nat} (hi : i < r.length) (hj : j < r.length) : r.getD i Str.empty = r.getD j Str.empty ↔ i = j := by
  rw [tx_at hi, tx_at hj]
  exact List.getElem_inj hnd
theorem tx_count {r : List Str} (hnd : r.Nodup) {q : Nat} (hq : q < r.length) : ∀ {ps : List Nat}, (∀ p ∈ ps, p < r.length) → (tx r ps).count (r.getD q Str.empty) = ps.count q
  | [], _ => rfl
  | p :: ps, h => by
    have ih := tx_count hnd hq (ps := ps) fun y hy => h y (List.mem_cons_of_mem _ hy)
    unfold tx at *
    rw [List.map_cons, List.count_cons, ih, List.count_cons]
    have := tx_inj hnd (h p List.mem_cons_self) hq
    by_cases e : p = q
    · subst e; simp
    · have e2 : ¬ r.getD p Str.empty = r.getD q Str.empty := fun x => e (this.mp x)
      have b1 : (r.getD p Str.empty == r.getD q Str.empty) = false := beq_false_of_ne e2
      have b2 : (p == q) = false := beq_false_of_ne e
      rw [b1, b2]
theorem tx_erase {r : List Str} (hnd : r.Nodup) {q : Nat} (hq : q < r.length) : ∀ {ps : List Nat}, (∀ p ∈ ps, p < r.length) → (tx r ps).erase (r.getD q Str.empty) = tx r (ps.erase q)
  | [], _ => rfl
  | p :: ps, h => by
    have ih := tx_erase hnd hq (ps := ps) fun y hy => h y (List.mem_cons_of_mem _ hy)
    have := tx_inj hnd (h p List.mem_cons_self) hq
    unfold tx at *
    by_cases e : p = q
    · subst e; simp
    · have e2 : ¬ r.getD p Str.empty = r.getD q Str.empty := fun x => e (this.mp x)
      have b1 : (r.getD p Str.empty == r.getD q Str.empty) = false := beq_false_of_ne e2
      have b2 : (p == q) = false := beq_false_of_ne e
      rw [List.map_cons, List.erase_cons, b1, List.erase_cons, b2]
      simp only [Bool.false_eq_true, if_false, List.map_cons]
      rw [ih]
theorem tx_range {r : List Str} : r = tx r (List.range r.length) := by
  unfold tx
  apply List.ext_getElem
  · simp
  · intro i h1 h2
    rw [List.getElem_map, List.getElem_range, tx_at h1]
theorem tx_idx {r : List Str} (hnd : r.Nodup) {q : Nat} (hq : q < r.length) : r.idxOf (r.getD q Str.empty) = q := by
  rw [tx_at hq]
  exact hnd.idxOf_getElem q hq
theorem tx_mem {r : List Str} {q : Nat} (hq : q < r.length) : r.getD q Str.empty ∈ r := by
  rw [tx_at hq]; exact List.getElem_mem _
theorem erase_idx [BEq α] [LawfulBEq α] (xs : List α) (k : α) : xs.eraseIdx (xs.idxOf k) = xs.erase k := (List.erase_eq_eraseIdx_of_idxOf rfl).symm
theorem twices_tx {r : List Str} (hr : r.length = 8) (hnd : r.Nodup) {ps : List Nat} (hps : ∀ p ∈ ps, p < 8) : r.filter (fun x => decide (1 < (tx r ps).count x)) = tx r (twices ps) := by
  conv => lhs; arg 2; rw [tx_range (r := r)]
  unfold tx twices
  rw [hr, List.filter_map]
  congr 1
  apply List.filter_congr
  intro q hq
  have hq8 : q < r.length := by rw [hr]; exact List.mem_range.mp hq
  show decide (1 < (tx r ps).count (r.getD q Str.empty)) = _
  rw [tx_count hnd hq8 (by rw [hr]; exact hps)]
theorem carry_some {ps ps' : List Nat} (h : carry ps = some ps') : ∃ q rest, twices ps = q :: rest ∧ q + 1 < 8 ∧ 1 < ps.count q ∧ ps' = (ps.erase q).erase q ++ [q + 1] := by
  unfold carry at h
  cases e : twices ps with
  | nil => rw [e] at h; cases h
  | cons q rest =>
    rw [e] at h
    simp only at h
    split at h
    · rename_i hq
      have hm : q ∈ twices ps := by rw [e]; exact List.mem_cons_self
      have := (List.mem_filter.mp hm).2
      exact ⟨q, rest, rfl, hq, of_decide_eq_true this, (Option.some.inj h).symm⟩
    · cases h
theorem carry_good {ps ps' : List Nat} (h : carry ps = some ps') (hps : ∀ p ∈ ps, p < 8) : (∀ p ∈ ps', p < 8) ∧ ps'.length + 1 = ps.length := by
  obtain ⟨q, rest, e, hq, hc, rfl⟩ := carry_some h
  constructor
  · intro p hp
    rcases List.mem_append.mp hp with hp | hp
    · exact hps p (List.mem_of_mem_erase (List.mem_of_mem_erase hp))
    · rw [List.mem_singleton.mp hp]; exact hq
  · have h1 : q ∈ ps := List.count_pos_iff.mp (by omega)
    have h2 : q ∈ ps.erase q := List.count_pos_iff.mp (by rw [List.count_erase_self]; omega)
    rw [List.length_append, List.length_singleton, List.length_erase_of_mem h2, List.length_erase_of_mem h1]
    have := List.length_pos_of_mem h1
    have h3 := List.length_pos_of_mem h2
    rw [List.length_erase_of_mem h1] at h3
    omega

theorem ints_idx {r : List Str} (hnd : r.Nodup) (hr : r.length = 8) : ∀ {vs : List Value} {ps : List Nat} {ys : List Value}, StrsAre vs (tx r ps) → (∀ p ∈ ps, p < 8) →
    Paired (fun v y => ∃ (q : Nat) (t t' : Tok), q < 8 ∧ v = Value.str (r.getD q Str.empty) t ∧ y = Value.int (q : Int) t') vs ys → IntsAre ys (nats ps)
  | _, [], _, hS, _, P => by cases hS; cases P; exact .nil
  | _, p :: ps, _, hS, h, P => by
    cases hS with
    | cons _ t rS =>
      cases P with
      | cons h1 h2 =>
        obtain ⟨q, t1, t2, hq, e1, rfl⟩ := h1
        injection e1 with e1 _
        have := (tx_inj hnd (by rw [hr]; exact h p List.mem_cons_self) (by rw [hr]; exact hq)).mp e1
        subst this
        exact .cons _ _ (ints_idx hnd hr rS (fun y hy => h y (List.mem_cons_of_mem _ hy)) h2)
theorem nats_toNat : ∀ ps : List Nat, (nats ps).map Int.toNat = ps
  | [] => rfl
  | p :: ps => by
    show (p : Int).toNat :: (nats ps).map Int.toNat = _
    rw [nats_toNat ps]; rfl
theorem nats_of_perm {ns : List Int} {ps : List Nat} (h : ns.Perm (nats ps)) (hs : ns.Pairwise (· ≤ ·)) : ∃ qs, ns = nats qs ∧ qs.Perm ps ∧ qs.Pairwise (· ≤ ·) := by
  have hpos : ∀ n ∈ ns, 0 ≤ n := fun n hn => by
    obtain ⟨p, _, rfl⟩ := List.mem_map.mp (h.mem_iff.mp hn)
    omega
  refine ⟨ns.map Int.toNat, ?_, ?_, ?_⟩
  · unfold nats
    rw [List.map_map]
    conv => lhs; rw [← List.map_id ns]
    apply List.map_congr_left
    intro n hn
    have := hpos n hn
    show n = ((n.toNat : Nat) : Int)
    omega
  · have := h.map Int.toNat
    rw [nats_toNat] at this
    exact this
  · rw [List.pairwise_map]
    exact hs.imp fun {a b} hab => by omega
theorem strs_idx {r : List Str} : ∀ {vs : List Value} {qs : List Nat} {ys : List Value}, IntsAre vs (nats qs) →
    Paired (fun v y => ∃ (q : Nat) (t t' : Tok), v = Value.int (q : Int) t ∧ y = Value.str (r.getD q Str.empty) t') vs ys → StrsAre ys (tx r qs)
  | _, [], _, hI, P => by cases hI; cases P; exact .nil
  | _, q :: qs, _, hI, P => by
    cases hI with
    | cons _ t rI =>
      cases P with
      | cons h1 h2 =>
        obtain ⟨q', t1, t2, e1, rfl⟩ := h1
        injection e1 with e1 _
        have e2 : ((q : Nat) : Int) = (q' : Int) := e1
        have : q = q' := by omega
        subst this
        exact .cons _ _ (strs_idx rI h2)
end
section
open PySem PySem.W PyProof.Rows PySem.Calls
set_option maxRecDepth 100000
set_option maxHeartbeats 4000000
section
variable {prog : Program} {w : World} {A : Around} {E : Value → Shared → Prop} {s : Shared} {env : Env}

theorem assignPair {elt iter : Expr} {a b y : Str} {pa pb tp py : Pos} {kk : Nat} {scope : Scope} {cl : List (Str × Addr)} {pos spos : Pos} {Q : Flow → Shared → Prop} (h₀ : Heap) (hh : A.handled = none)
    (hsw : swapsWith (.ListComp elt [⟨.Tuple [.Name a pa, .Name b pb] kk tp, iter, [], 0⟩] scope pos) (some (.Name y py)) spos.line env = pure true)
    (hclos : closureFor scope env = pure cl) (hcell : ∀ y ∈ scope.names, y.2 ≠ .cell) (hkind : scope.kind = .function)
    (hnames : ∀ y ∈ scope.names, y.2 = .local → scope.names.lookup y.1 = some .local) (hxa : scope.names.lookup a = some .local) (hxb : scope.names.lookup b = some .local) (hab : ¬ a = b)
    (hy : env.kindOf y = some .local) (hek : env.scope.kind = .function)
    (h : wpAny (model prog w) A (eval iter env) (fun xv s₁ => Stop (∃ (e it l : Addr) (m : Str → Option Value) (news : List (Addr × Obj)) (items : Array Value) (G : Value → Prop), xv = .ref e ∧
      Fr h₀ env.locals s₁.heap m ∧ News h₀ env.locals s₁.heap news ∧ IsEnum s₁.heap e it 0 .none ∧ s₁.heap.IsListIter it l 0 ∧ s₁.heap.IsList l items ∧ (e ≠ it ∧ l ≠ e ∧ l ≠ it ∧ e ≠ env.locals ∧ it ≠ env.locals) ∧
      (h₀.get? e = none ∧ h₀.get? it = none) ∧ (∀ p ∈ news, p.1 ≠ e ∧ p.1 ≠ it) ∧ items.size ≤ 1000 ∧
      (∀ C i t x s₃ m₃ E', items[i]? = some x → s₁.heap.objs.size ≤ C → s₃.heap.Ns C m₃ → m₃ a = some (.int ((i : Nat) : Int) t) → m₃ b = some x → Fr h₀ env.locals s₃.heap m → News h₀ env.locals s₃.heap news →
        wpAny (model prog w) A (eval elt (compEnvC scope cl C env)) (fun y s₄ => Stop (G y ∧ Keeps s₃ s₄)) E' s₃) ∧
      ∀ D (ys : List Value) h' tk k, (∀ q ∈ news, q.1 ≠ D) → ys.length = items.size → (∀ y ∈ ys, G y) → Fr h₀ env.locals h' (fun z => if z = y then some (.ref D) else m z) →
        News h₀ env.locals h' ((D, W.listOf ys.toArray k) :: news) → Q .next { s₁ with heap := h', toks := tk })) E s)
    (hs : ∀ x, foldedSetIterable iter env x = pure x := by intro _; rfl) :
    wpAny (model prog w) A (exec (.Assign [.Name y py] (.ListComp elt [⟨.Tuple [.Name a pa, .Name b pb] kk tp, iter, [], 0⟩] scope pos) spos) env) Q E s := by
  have hp : (env.scope.kind == .class || (env.scope.kind == .module && env.locals != env.globals)) = false := by rw [hek]; rfl
  rw [exec_Assign_Name_used _ _ _ _ hsw]
  refine wpAny_bind (wpAny_standAt (wpAny_bind ?_))
  show wpAny _ A (do let _ ← comprehension (.ListComp elt [⟨.Tuple [.Name a pa, .Name b pb] kk tp, iter, [], 0⟩] scope pos) scope env _ (newList []) false (eval iter env) (some (assign (.Name y py) env))) _ _ s
  refine wpAny_bind (wpAny_mono (wpAny_comprehension_free (use := some (assign (.Name y py) env)) (Q := fun _ s' => Q .next s') rfl hs hclos hkind hnames
    (wpAny_mono h (fun xv s₁ h₁ => ?_) fun _ _ e => e)) (fun _ s' hq => wpAny_pure (wpAny_pure hq)) fun _ _ e => e)
  obtain ⟨e, it, l, m, news, items, G, rfl, F, N, hE, hI, hL, ⟨hei, hle, hli, heL, hiL⟩, ⟨he₀, hi₀⟩, off, hsz, turn, done⟩ := h₁
  have WT := WalksT.enumerate (prog := prog) (w := w) hh e it l hei hle hli items
  refine WT.self 0 _ _ _ ⟨⟨_, hE⟩, hI, hL⟩ ?_
  refine wpAny_newObj_type (wpAny_newFunctionEnv hcell (by intro y hy; simp at hy) (fun h₁ hns₁ hsb₁ => ?_) hkind)
  dsimp only at hns₁ hsb₁ ⊢
  generalize hH2 : s₁.heap.push { cls := .type "list", dict := none, data := .seq ([] : List Value).toArray } = H2 at hns₁ hsb₁ ⊢
  have hC : H2.objs.size = s₁.heap.objs.size + 1 := by rw [← hH2, Heap.size_push]
  have hDC : s₁.heap.objs.size ≠ H2.objs.size := by rw [hC]; exact Nat.ne_of_lt (Nat.lt_succ_self _)
  have below : ∀ b, b < s₁.heap.objs.size → b ≠ H2.objs.size ∧ b ≠ s₁.heap.objs.size := fun b hb => ⟨by rw [hC]; exact Nat.ne_of_lt (Nat.lt_succ_of_lt hb), Nat.ne_of_lt hb⟩
  have old : ∀ b o, s₁.heap.get? b = some o → h₁.get? b = some o := fun b o e => hsb₁.extBut b o (below b (Heap.lt_size e)).1 (Heap.get?_push_of_some _ (hH2 ▸ Heap.get?_push_of_some _ e))
  have hacc : h₁.get? s₁.heap.objs.size = some (W.listOf ([] : List Value).toArray 0) := hsb₁.extBut _ _ hDC (Heap.get?_push_of_some _ (hH2 ▸ Heap.get?_push_size _ rfl))
  have fresh : ∀ a, s₁.heap.objs.size ≤ a → s₁.heap.get? a = none := fun a ha => by
    cases e : s₁.heap.get? a with
    | none => rfl
    | some o' => exact absurd (Heap.lt_size e) (Nat.not_lt.mpr ha)
  have fresh₀ : ∀ a, s₁.heap.objs.size ≤ a → h₀.get? a = none := fun a ha => by
    cases e : h₀.get? a with
    | none => rfl
    | some o' => have := F.keep a o' e; rw [fresh a ha] at this; cases this
  have hD₀ : h₀.get? s₁.heap.objs.size = none := fresh₀ _ (Nat.le_refl _)
  have hC₀ : h₀.get? H2.objs.size = none := fresh₀ _ (by rw [hC]; exact Nat.le_succ _)
  have hLlt : env.locals < s₁.heap.objs.size := F.ns.lt
  have hDL : s₁.heap.objs.size ≠ env.locals := Ne.symm (below _ hLlt).2
  have hCL : H2.objs.size ≠ env.locals := Ne.symm (below _ hLlt).1
  have heC := below e (Heap.lt_size hE)
  have hiC := below it (let ⟨_, x, _⟩ := hI; Heap.lt_size x)
  have hlC := below l (let ⟨_, x, _⟩ := hL; Heap.lt_size x)
  have hnC : ∀ p ∈ news, p.1 ≠ H2.objs.size ∧ p.1 ≠ s₁.heap.objs.size := fun p hp => below _ (Heap.lt_size (N p hp).1)
  have hCs : s₁.heap.objs.size ≤ H2.objs.size := by rw [hC]; exact Nat.le_succ _
  have hsz' : items.size ≤ sizeLine := by rw [sizeLine_eq]; omega
  generalize hCC : H2.objs.size = C at *
  generalize hDD : s₁.heap.objs.size = D at *
  have loop : ∀ s₃ : Shared, s₃ = { s₁ with heap := h₁, toks := s₁.toks + ([] : List (Str × Value)).length } →
      codeAny (model prog w) A (.compLoop (.ListComp elt [⟨.Tuple [.Name a pa, .Name b pb] kk tp, iter, [], 0⟩] scope pos) 0 (.ref e) (.ref D) (compEnvC scope cl C env))
        (compPost (model prog w) A E (some (assign (.Name y py) env)) (fun _ s' => Q .next s') (.ref D) C) s₃ := by
    rintro s₃ rfl
    refine kcp_loop
      (fun k s' => ∃ h' tk i ys m' kc, s' = { s₁ with heap := h', toks := tk } ∧ i ≤ items.size ∧ k = items.size + 1 - i ∧ ys.length = i ∧ (∀ y ∈ ys, G y) ∧ ((∃ old, IsEnum h' e it i old) ∧ h'.IsListIter it l i ∧ h'.IsList l items) ∧
        Fr h₀ env.locals h' m ∧ h'.Ns C m' ∧ News h₀ env.locals h' news ∧ h'.get? D = some (W.listOf (List.toArray ys) kc)) ?_ (items.size + 1)
      ⟨h₁, _, 0, [], _, 0, rfl, Nat.zero_le _, rfl, rfl, (fun _ hb => nomatch hb), ⟨⟨_, old _ _ hE⟩, hI.at fun o x => old _ o x, hL.at fun o x => old _ o x⟩, F.keeps old, hns₁, fun p hp => ⟨old _ _ (N p hp).1, (N p hp).2⟩, hacc⟩
    rintro k s' ⟨h', tk, i, ys, m', kc, rfl, hi, rfl, hyl, hys, hst, F', hn', N', hD'⟩
    have frk : ∀ h₂ : Heap, (∀ b o, b ∉ [e, it] → h'.get? b = some o → h₂.get? b = some o) → Fr h₀ env.locals h₂ m ∧ h₂.Ns C m' ∧ News h₀ env.locals h₂ news ∧ h₂.get? D = some (W.listOf (List.toArray ys) kc) := fun h₂ hk₂ =>
      ⟨⟨F'.ns.at' fun o x => hk₂ _ o (by simp [Ne.symm heL, Ne.symm hiL]) x, fun b o x => hk₂ b o (by
          intro hb
          rcases List.mem_cons.mp hb with rfl | hb
          · rw [he₀] at x; cases x
          · rw [List.mem_singleton.mp hb, hi₀] at x; cases x) (F'.keep b o x), F'.above⟩,
        hn'.at' fun o x => hk₂ _ o (by simp [Ne.symm heC.1, Ne.symm hiC.1]) x,
        fun p hp => ⟨hk₂ _ _ (by simp [(off p hp).1, (off p hp).2]) (N' p hp).1, (N' p hp).2⟩,
        hk₂ _ _ (by simp [Ne.symm heC.2, Ne.symm hiC.2]) hD'⟩
    by_cases hlt : i < items.size
    · refine WT.item i _ _ _ hlt hst fun T vals h₂ tk₂ hP hT hTup hMid hk₂ => ?_
      obtain ⟨F₂, hn₂, N₂, hD₂⟩ := frk h₂ hk₂
      obtain ⟨t, x, hx, rfl⟩ := hP
      refine WT.go _ kk tp i T _ _ _ hMid fun h₃ hst₃ hk₃ => ?_
      have hT₃ : h₃.IsTuple T #[.int ((i : Nat) : Int) t, x] := hTup.at fun o z => hk₃ T o (WT.apart _ _ _ hMid) z
      have up₃ : ∀ b o, b ∉ [e, it] → h'.get? b = some o → h₃.get? b = some o := fun b o hb z => hk₃ b o hb (hk₂ b o hb z)
      obtain ⟨F₃, hn₃, N₃, hD₃⟩ := frk h₃ up₃
      refine kcp_assign (env := compEnvC scope cl C env) hh hT₃ (lookup_relabel_local hxa) (lookup_relabel_local hxb) (by simp [compEnvC, relabel, hkind]) hn₃ fun h₄ tk₄ hn₄ hs₄ => ?_
      have F₄ : Fr h₀ env.locals h₄ m := ⟨F₃.ns.at' fun o z => hs₄ _ o (Ne.symm hCL) z, fun b o z => hs₄ b o (fun q => by rw [q] at z; rw [show (compEnvC scope cl C env).locals = C from rfl] at z; rw [hC₀] at z; cases z) (F₃.keep b o z), F₃.above⟩
      have N₄ : News h₀ env.locals h₄ news := fun p hp => ⟨hs₄ _ _ (hnC p hp).1 (N₃ p hp).1, (N₃ p hp).2⟩
      have hD₄ := hs₄ _ _ hDC hD₃
      have hst₄ : (∃ old, IsEnum h₄ e it ((i + 1 : Nat) : Int) old) ∧ h₄.IsListIter it l (i + 1) ∧ h₄.IsList l items :=
        ⟨let ⟨old, z⟩ := hst₃.1; ⟨old, hs₄ _ _ heC.1 z⟩, hst₃.2.1.at fun o z => hs₄ _ o hiC.1 z, hst₃.2.2.at fun o z => hs₄ _ o hlC.1 z⟩
      refine wpAny_mono (turn C i t x _ _ _ hx hCs hn₄ (by simp [hab]) (by simp) F₄ N₄) (fun y s₅ h₅ => ?_) fun _ _ z => z
      obtain ⟨hG, h₅, tk₅, rfl, hk₅⟩ := h₅
      refine append_at (hsz := by rw [List.size_toArray, hyl]; exact Nat.le_trans hi hsz') (hk₅ _ _ hD₄) fun h₆ hs₆ hD₆ => ?_
      have F₅ := frUp F₄ hk₅
      refine ⟨items.size + 1 - (i + 1), by omega, h₆, tk₅, i + 1, ys ++ [y], _, kc + 1, rfl, hlt, rfl, by rw [List.length_append, List.length_singleton, hyl], ?_, ?_, F₅.change hs₆ hDL hD₀,
        (hn₄.at' fun o z => hk₅ _ o z).sameBut hs₆ (Ne.symm hDC), fun p hp => ⟨hs₆.extBut _ _ (hnC p hp).2 (newsUp N₄ hk₅ p hp).1, (N₄ p hp).2⟩, ?_⟩
      · intro z hz
        rcases List.mem_append.mp hz with hz | hz
        · exact hys z hz
        · rw [List.mem_singleton.mp hz]; exact hG
      · exact ⟨let ⟨old, z⟩ := hst₄.1; ⟨old, hs₆.extBut _ _ heC.2 (hk₅ _ _ z)⟩, hst₄.2.1.at fun o z => hs₆.extBut _ o hiC.2 (hk₅ _ o z), hst₄.2.2.at fun o z => hs₆.extBut _ o hlC.2 (hk₅ _ o z)⟩
      · rw [hD₆, List.push_toArray]
    · have hin : i = items.size := by omega
      subst hin
      refine WT.done _ _ _ hst fun h₂ tk₂ hk₂ => ?_
      obtain ⟨F₂, hn₂, N₂, hD₂⟩ := frk h₂ hk₂
      show wpAny _ A (assign (.Name y py) env (.ref D)) _ _ _
      refine wpAny_assign_Name (wpAny_storeName_local hy F₂.ns (fun h₃ hn₃ hs₃ => ?_) hp)
      refine ⟨_, hn₂.sameBut hs₃ hCL, fun h₄ hs₄ => ?_⟩
      refine done D ys h₄ _ kc (fun q hq => (hnC q hq).2) hyl hys ((F₂.set hn₃ hs₃).change hs₄ hCL hC₀) fun p hp => ?_
      rcases List.mem_cons.mp hp with rfl | hp
      · exact ⟨hs₄.extBut _ _ hDC (hs₃.extBut _ _ hDL hD₂), hDL, hD₀⟩
      · exact ⟨hs₄.extBut _ _ (hnC p hp).1 (hs₃.extBut _ _ (N₂ p hp).2.1 (N₂ p hp).1), (N₂ p hp).2⟩
  refine codeAny_compStart_list (loop _ rfl) (WT.self 0 _ _ _ ⟨⟨_, old _ _ hE⟩, hI.at fun o x => old _ o x, hL.at fun o x => old _ o x⟩ (loop _ rfl))
end

/-- into a def with cells, as code -/
theorem enterCode {prog : Program} {w : World} {K : Frag} {p : Program} {loose : List Str} {mean : ExcName → Option Value} {mg mb : Str → Option Value} {dp un : Nat} {gd : Option (List Code)} {outer : List Env} {base : Heap} {s : Shared} {R : Result → Shared → Prop}
    {name qual : Str} {params : Arguments} {body : List Stmt} {scope : Scope} {dV kV doc pm cdv ct oc : Value} {an od : Option Addr} {osl : Array (Option Value)} {f : Addr} {vs : List Value}
    (binds : List (Str × Value)) (_B : Below (AR dp un gd outer) base outer s.heap) (X : K.In s.heap) (T : Top p loose mean mg mb s.heap)
    (ho : K.lookup f = some ⟨oc, od, .func (fnOf name qual params body scope dV kV doc pm an cdv ct), osl⟩) (hcd : codeIn K cdv qual = true) (hroom : dp + 4 < recursionLimit)
    (hbind : bindArgs (fnOf name qual params body scope dV kV doc pm an cdv ct) ⟨vs, []⟩ = pure binds)
    (hkind : (binds.all fun y => scope.names.lookup y.1 == some .local || scope.names.lookup y.1 == some .cell) = true) (hnd : ((cellsFrom 0 scope.names []).map (·.1)).Nodup)
    (hco : scope.isCoroutine = false) (hgen : scope.isGenerator = false) (hk : scope.kind = .function)
    (h : ∀ (L' : Addr) (h₁ : Heap) (tk : Nat) (cells : List (Addr × Obj)), Fr s.heap L' h₁ (bindL (envOfC qual scope L' f cdv).kindOf binds fun _ => none) → News s.heap L' h₁ cells →
      CellsAre (bindC (envOfC qual scope L' f cdv).kindOf binds fun _ => none) (cellsFrom (L' + 1) scope.names []) cells →
      wpAny (model prog w) (AR (dp + 1) (un + 3) gd (envOfC qual scope L' f cdv :: outer)) (execs body (envOfC qual scope L' f cdv))
        (fun fl s' => R (.ok (.ret (match fl with | .ret v => v | _ => .none))) s') (fun _ _ => False) { s with heap := h₁, toks := tk }) :
    codeAny (model prog w) (AR dp un gd outer) (.call (.ref f) ⟨vs, []⟩) R s := by
  refine codeAny_call_function (fd := fnOf name qual params body scope dV kV doc pm an cdv ct) (by show dp < recursionLimit; omega) (X _ _ ho) rfl hco hgen rfl (codeRec_of X hcd) ?_
  rw [hbind]
  refine wpAny_pure (wpAny_newFunctionEnv_cells hk (kindsX hkind _) fun env' he s' x => ?_)
  subst he
  refine ⟨T.nolimit.keeps x.toInCall.keep, codeAny_func ?_⟩
  obtain ⟨h₁, tk, rfl, _⟩ := x.done
  obtain ⟨cells, NC, Y⟩ := Cl.news (h₀ := s.heap) (Nat.le_refl _) fun n c hm => ⟨x.cell n c (lookup_of_mem_nodup (cellsFrom_names scope.names 0 (s.heap.objs.size + 1) [] [] rfl ▸ hnd) hm), x.above n c hm⟩
  exact wpAny_noRaise (h s.heap.objs.size h₁ tk cells ⟨x.toInCall.ns, x.toInCall.keep, Nat.le_refl _⟩ NC Y)
end
section
open PySem PySem.W PyProof.Rows PySem.Calls
set_option maxRecDepth 100000
set_option maxHeartbeats 4000000
local macro_rules | `(tactic| walk_at "mine enter") => `(tactic| (
  (case ho => k_is); (case hcd => k_is); (case hbind => exact rfl); (case hloc => exact locs rfl); (case hcell => decide); (case hco => exact rfl); (case hgen => exact rfl); (case hk => exact rfl)))
local macro_rules | `(tactic| walk_at "eval ListComp") => `(tactic| refine Stop.of ?_)
local macro_rules | `(tactic| walk_at "CompSrc") => `(tactic| refine Stop.of ?_)

theorem law_row (w mean mg mb) : Spec w mean mg mb 46 [] (fun _ => True) (NewStrs ROW) := by
  intro dp un gd outer base s Q E B X T _ hdp hu hret
  k_dflt (refine' enter [] B X T ?ho ?hcd hdp ?hbind ?hloc ?hcell ?hco ?hgen ?hk ?h)
  walk_at "mine enter"
  intro L' h₁ tk F N
  k_steps
  rename Fr _ _ _ _ => F1
  rename News _ _ _ _ => N1
  unfold Stop
  k_dflt (refine' listComp (cl := []) s.heap rfl (by decide) rfl (by decide) rfl ?_)
  k_steps
  rename Fr _ _ _ _ => F2
  rename News _ _ _ _ => N2
  rename IsRange _ _ _ _ _ _ _ _ => R2
  refine ⟨_, _, 22, _, fun _ => true, fun v y => ∃ k t t', v = .int k t ∧ y = .str (rowWord k) t', F2, N2, Src.range rfl R2 (by decide) (by decide) (by decide), ⟨?_, ?_⟩, ?_⟩
  · intro C i v s₃ m₃ E'' _ hv hn hm hk
    exact wpAny_pure (Stop.mk ⟨rfl, _, _, rfl, fun _ _ e => e⟩)
  · rintro C i v s₃ m₃ E'' _ ⟨hi, t, rfl⟩ _ hn hm hk
    k_steps
    have hf := fdiv_fmod_facts (10 + (i : Int)) 4
    have h2 : (Str.ofString "0x").length = 2 := by decide
    refine PyProof.Rows.add_str (fun t' tk => Stop.mk ⟨⟨_, _, t', rfl, rfl⟩, _, _, rfl, fun _ _ e => e⟩) ?_
    rw [sizeLine_eq]
    omega
  · intro D ys h' tk' k vs hD hlen hV hP F3 N3 hka hsD
    dsimp only
    have hS : StrsAre ys ((List.range 22).map fun (i : Nat) => rowWord (10 + (i : Int))) := by
      rw [List.filter_eq_self.mpr (fun _ _ => rfl)] at hP
      rw [← hlen]
      exact strs_paired 10 hP fun j v hv => (hV j v hv).2
    have hl : ys.length = 22 := by rw [hS.length]; simp
    refine add_arrays F3 N3 (News.isList N3 (List.Mem.tail _ (List.Mem.head _))) (News.isList N3 (List.Mem.head _)) ?_ ?_
    · intro h'' F4 N4
      have F5 := F4
      refine hret _ _ _ F4.keep ⟨_, _, _, rfl, ?_, (N4 _ (List.Mem.head _)).1, ?_⟩
      · exact (N4 _ (List.Mem.head _)).2.2
      · refine StrsAre.append ?_ hS
        exact .cons _ _ (.cons _ _ (.cons _ _ (.cons _ _ (.cons _ _ (.cons _ _ (.cons _ _ (.cons _ _ (.cons _ _ (.cons _ _ .nil)))))))))
    · rw [sizeLine_eq]
      simp only [List.size_toArray, hl]; show 10 + 22 ≤ 16777216; omega
end
section
open PySem PySem.W PyProof.Rows PySem.Calls
set_option maxRecDepth 100000
set_option maxHeartbeats 4000000
local macro_rules | `(tactic| walk_at "mine enter") => `(tactic| (
  (case ho => k_is); (case hcd => k_is); (case hbind => exact rfl); (case hloc => exact locs rfl); (case hcell => decide); (case hco => exact rfl); (case hgen => exact rfl); (case hk => exact rfl)))

theorem high_bit (w mean mg mb) (n : Int) (t : Tok) : Spec w mean mg mb 28 [.int n t] (fun _ => True) (fun v _ _ => ∃ t', v = .int (Builtin.Int.intBits n - 1) t') := by
  intro dp un gd outer base s Q E B X T _ hdp hu hret
  k_dflt (refine' enter [(Str.ofString "value", .int n t)] B X T ?ho ?hcd hdp ?hbind ?hloc ?hcell ?hco ?hgen ?hk ?h)
  walk_at "mine enter"
  intro L' h₁ tk F N
  k_steps
  exact hret _ _ _ (Fr.keep (by assumption)) ⟨_, rfl⟩

theorem single_bit (w mean mg mb) (n : Int) (t : Tok) : Spec w mean mg mb 21 [.int n t] (fun _ => True) (fun v _ _ => v = .bool (decide (n ≠ 0) && decide (Builtin.bitAnd n (n - 1) = 0))) := by
  intro dp un gd outer base s Q E B X T _ hdp hu hret
  k_dflt (refine' enter [(Str.ofString "num", .int n t)] B X T ?ho ?hcd hdp ?hbind ?hloc ?hcell ?hco ?hgen ?hk ?h)
  walk_at "mine enter"
  intro L' h₁ tk F N
  k_steps
  · have h0 : n = 0 := by assumption
    refine hret _ _ _ (Fr.keep (by assumption)) ?_
    subst h0
    rfl
  · have h0 : n ≠ 0 := by assumption
    refine hret _ _ _ (Fr.keep (by assumption)) ?_
    rw [decide_eq_true h0, Bool.true_and]
    congr 1
end
section
open PySem PySem.W PyProof.Rows PySem.Calls
set_option maxRecDepth 100000
set_option maxHeartbeats 4000000
local macro_rules | `(tactic| walk_at "mine enterC") => `(tactic| (
  (case ho => k_is); (case hcd => k_is); (case hbind => exact rfl); (case hkind => exact rfl); (case hnd => decide +kernel); (case hco => exact rfl); (case hgen => exact rfl); (case hk => exact rfl)))
local macro_rules | `(tactic| walk_at "eval ListComp") => `(tactic| refine Stop.of ?_)


theorem law_sum (w mean mg mb) (l : Addr) (ns : List Int) (n : Int) (t : Tok) (hn : 0 ≤ n ∧ n ≤ 6) (hl : ns.length ≤ 63) : Spec w mean mg mb 41 [.ref l, .int n t] (Ints l ns) (fun v _ _ => ∃ k t', v = .int k t') := by
  intro dp un gd outer base s Q E B X T ⟨vs, hL, hI⟩ hdp hu hret
  k_dflt (refine' enterC [(Str.ofString "script", .ref l), (Str.ofString "first", .int n t)] B X T ?ho ?hcd hdp ?hbind ?hkind ?hnd ?hco ?hgen ?hk ?h)
  walk_at "mine enterC"
  intro L' h₁ tk cells F N Y
  k_cells Y
  have F' : Fr s.heap L' h₁ (fun y => if y = Str.ofString "first" then some (.int n t) else none) := F
  clear F
  rename Obj.data _ = _ => d1
  have d1' : Obj.data _ = Data.cell (some (.ref l)) := d1
  clear d1
  k_steps
  unfold Stop
  k_dflt (refine' listComp (cl := [(Str.ofString "script", L' + 1)]) s.heap rfl (by decide) rfl (by decide) rfl ?_)
  k_steps
  rename Fr _ _ _ _ => F2
  rename News _ _ _ _ => N2
  rename IsRange _ _ _ _ _ _ _ _ => R2
  have hb : (if (42 : Int) < (ns.length : Int) then (42 : Int) else (ns.length : Int)) ≤ ns.length ∧ 0 ≤ (if (42 : Int) < (ns.length : Int) then (42 : Int) else (ns.length : Int)) ∧ (if (42 : Int) < (ns.length : Int) then (42 : Int) else (ns.length : Int)) ≤ 42 := by
    split <;> omega
  generalize (if (42 : Int) < (ns.length : Int) then (42 : Int) else (ns.length : Int)) = b at hb R2
  have hz : Builtin.Range.rangeSize n b 7 = ((Builtin.Range.rangeSize n b 7).toNat : Int) ∧ ∀ i : Nat, i < (Builtin.Range.rangeSize n b 7).toNat → n + (i : Int) * 7 < b := by
    unfold Builtin.Range.rangeSize
    rw [if_pos (by decide)]
    by_cases h : n < b
    · rw [if_pos h]; exact ⟨by omega, fun i hi => by omega⟩
    · rw [if_neg h]; exact ⟨by omega, fun i hi => by omega⟩
  have hz2 : (Builtin.Range.rangeSize n b 7).toNat ≤ 42 := by
    unfold Builtin.Range.rangeSize
    rw [if_pos (by decide)]
    split <;> omega
  unfold Stop
  refine ⟨_, _, (Builtin.Range.rangeSize n b 7).toNat, _, fun _ => true, fun _ y => ∃ (k : Int) (t : Tok), y = .int k t, F2, N2, Src.rangeStep rfl R2 ?_ hz.1 (by rw [sizeLine_eq]; omega), ⟨?_, ?_⟩, ?_⟩
  · exact small_of (by omega) (by omega) (by decide) (by omega)
  · intro C i v s₃ m₃ E'' _ hv hn hm hk
    exact wpAny_pure (Stop.mk ⟨rfl, _, _, rfl, fun _ _ e => e⟩)
  · rintro C i v s₃ m₃ E'' _ ⟨hi, t, rfl⟩ _ hn3 hm hk
    have F3 := frUp F2 hk
    have N3 := newsUp N2 hk
    have hlt := hz.2 i hi
    k_steps
    exact Stop.mk ⟨⟨_, _, rfl⟩, _, _, rfl, fun _ _ e => e⟩
  · intro D ys h' tk' k vs' hD hlen hV hP F3 N3 hka hsD
    dsimp only
    obtain ⟨zs, hzs⟩ := ints_paired hP
    clear R2 F2 N2
    k_steps
    exact hret _ _ _ (Fr.keep (by assumption)) ⟨_, _, rfl⟩
end
section
open PySem PySem.W PyProof.Rows PySem.Calls
set_option maxRecDepth 100000
set_option maxHeartbeats 4000000
local macro_rules | `(tactic| walk_at "mine enter") => `(tactic| (
  (case ho => k_is); (case hcd => k_is); (case hbind => exact rfl); (case hloc => exact locs rfl); (case hcell => decide); (case hco => exact rfl); (case hgen => exact rfl); (case hk => exact rfl)))
local macro_rules | `(tactic| walk_at "exec For") => `(tactic| refine Stop.of ?_)
local macro_rules | `(tactic| walk_at "exec For Name Call cons nil") => `(tactic| refine Stop.of ?_)

/-- the number of ways, as the loop reckons it -/
def ways (W : Nat) : Nat → Nat
  | 0 => 1
  | k + 1 => ways W k * (W + (k + 1)) / (k + 1)

theorem law_ways (w mean mg mb) (W p : Nat) (t u : Tok) (hp : p ≤ 39) (hW : W ≤ 1000) : Spec w mean mg mb 58 [.int ((W : Int) + (p : Int)) t, .int (p : Int) u] (fun _ => True) (fun v _ _ => ∃ t', v = .int ((ways W p : Nat) : Int) t') := by
  intro dp un gd outer base s Q E B X T _ hdp hu hret
  k_dflt (refine' enter [(Str.ofString "whole", .int ((W : Int) + (p : Int)) t), (Str.ofString "part", .int (p : Int) u)] B X T ?ho ?hcd hdp ?hbind ?hloc ?hcell ?hco ?hgen ?hk ?h)
  walk_at "mine enter"
  intro L' h₁ tk F N
  have F' := frHas (ps := [(Str.ofString "part", .int (p : Int) u), (Str.ofString "whole", .int ((W : Int) + (p : Int)) t)]) F (.cons rfl (.cons rfl .nil))
  clear F
  k_steps
  unfold Stop
  k_dflt (refine' forWalk s.heap rfl rfl ?_)
  k_steps
  rename Fr _ _ _ _ => F2
  rename News _ _ _ _ => N2
  rename IsRange _ _ _ _ _ _ _ _ => R2
  have hz : Builtin.Range.rangeSize 1 ((p : Int) + 1) 1 = (p : Int) := by
    unfold Builtin.Range.rangeSize
    rw [if_pos (by decide)]
    split <;> omega
  unfold Stop
  refine ⟨_, _, p, _, [], fun i m nw => nw = [] ∧ ∃ tw, Has m [(Str.ofString "ways", .int ((ways W i : Nat) : Int) tw), (Str.ofString "part", .int (p : Int) u), (Str.ofString "whole", .int ((W : Int) + (p : Int)) t)],
    F2, N2, IterOf.range rfl R2 (small_of (by omega) (by omega) (by decide) (by omega)) hz, (fun _ hb => nomatch hb), ⟨rfl, _, .cons rfl (.cons rfl (.cons rfl .nil))⟩, ?_, ?_⟩
  · rintro I i v m₁ nw o h tk hi ⟨_, tv, rfl⟩ ⟨rfl, tw, H⟩ F3 N3 hne
    have F4 := frHasX F3 H
    dsimp only [kstB] at F4
    clear R2 F2 N2 F3 H
    have hk : (1 : Int) + (i : Int) ≠ 0 := by omega
    k_steps
    rename Fr _ _ _ _ => F5
    rename News _ _ _ _ => N5
    have e : ((ways W i : Nat) : Int) * ((W : Int) + (p : Int) - (p : Int) + (1 + (i : Int))) = ((ways W i * (W + (i + 1)) : Nat) : Int) := by
      rw [Int.natCast_mul]
      congr 1
      omega
    have e2 : (((ways W i : Nat) : Int) * ((W : Int) + (p : Int) - (p : Int) + (1 + (i : Int)))).fdiv (1 + (i : Int)) = ((ways W (i + 1) : Nat) : Int) := by
      have e3 : (1 : Int) + (i : Int) = ((i + 1 : Nat) : Int) := by omega
      rw [e, e3, Int.fdiv_eq_ediv_of_nonneg _ (by omega), ← Int.natCast_ediv]
      rfl
    rw [e2] at F5
    exact ⟨_, _, _, [], rfl, F5, N5, (fun _ hb => nomatch hb), rfl, _, .cons rfl (.cons rfl (.cons rfl .nil))⟩
  · rintro m' nw h tk ⟨rfl, tw, H⟩ F3 N3
    have F4 := frHas F3 H
    dsimp only [kstB] at F4
    clear R2 F2 N2 F3 H
    k_steps
    exact hret _ _ _ F4.keep ⟨_, rfl⟩
end
section
open PySem PySem.W PyProof.Rows PySem.Calls
set_option maxRecDepth 100000
set_option maxHeartbeats 4000000
local macro_rules | `(tactic| walk_at "mine enter") => `(tactic| (
  (case ho => k_is); (case hcd => k_is); (case hbind => exact rfl); (case hloc => exact locs rfl); (case hcell => decide); (case hco => exact rfl); (case hgen => exact rfl); (case hk => exact rfl)))
local macro_rules | `(tactic| walk_at "exec For Name Call cons cons") => `(tactic| refine Stop.of ?_)
local macro_rules | `(tactic| walk_at "call builtin:dict.get") => `(tactic| refine Stop.of ?_)
local macro_rules | `(tactic| walk_at "call builtin:hex") => `(tactic| refine Stop.of ?_)

section
variable {prog : Program} {w : World} {A : Around} {E : Value → Shared → Prop} {s : Shared} {h₀ : Heap}
theorem word_of {i : Nat} (hi : i < 32) (h : 10 ≤ i) : baseText "0x" 16 ((2 ^ i : Nat) : Int) = word i := by
  have := List.all_eq_true.mp words_table i (List.mem_range.mpr hi)
  simp only [Bool.or_eq_true, decide_eq_true_eq, beq_iff_eq] at this
  exact this.resolve_left (by omega)
theorem get_word {a : Addr} {D : List (Int × PyData)} {i : Nat} {tk t2 : Tok} {Q : Value → Shared → Prop} (hi : i < 32) (K : KTD.Keyed h₀ a D) (hk : KeepsAll h₀ s.heap)
    (hD : ((List.range 32).all fun j => match KTD.datumAt ((2 ^ j : Nat) : Int) D with | some (.str x) => x == word j && decide (j < 10) | none => decide (10 ≤ j) | _ => false) = true)
    (h : ∀ t tk', Q (.str (word i) t) { s with toks := tk' }) :
    wpAny (model prog w) A (call (.builtin "dict.get") [.ref a, .int ((2 ^ i : Nat) : Int) tk, .str (baseText "0x" 16 ((2 ^ i : Nat) : Int)) t2]) Q E s :=
  call_get2_intTab (K.keep hk prog w) (.str _ _) fun v hv => by
    rw [KTD.lookup_keyed] at hv
    have := List.all_eq_true.mp hD i (List.mem_range.mpr hi)
    split at this
    · rename_i x e
      rw [e] at hv
      simp only [Bool.and_eq_true, beq_iff_eq, decide_eq_true_eq] at this
      obtain ⟨t, rfl⟩ := PyProof.V.Flat.str_inv hv
      rw [this.1]
      exact h _ _
    · rename_i e
      rw [e] at hv
      simp only [decide_eq_true_eq] at this
      obtain ⟨t, rfl⟩ := PyProof.V.Flat.str_inv hv
      rw [word_of hi this]
      exact h _ _
    · cases this
end

def prettyText (n : Nat) : Str := Txt.join (Str.ofString ", ") (told n)

theorem pretty (w mean mg mb) (n : Nat) (t : Tok) (hn : n < 2 ^ 37) : Spec w mean mg mb 36 [.int (n : Int) t] (fun _ => True) (fun v _ _ => ∃ t', v = .str (prettyText n) t') := by
  intro dp un gd outer base s Q E B X T _ hdp hu hret
  k_dflt (refine' enter [(Str.ofString "flags", .int (n : Int) t)] B X T ?ho ?hcd hdp ?hbind ?hloc ?hcell ?hco ?hgen ?hk ?h)
  walk_at "mine enter"
  intro L' h₁ tk F N
  have F' := frHas (ps := [(Str.ofString "flags", .int (n : Int) t)]) F (.cons rfl .nil)
  clear F
  k_steps
  unfold Stop
  k_dflt (refine' forWalk s.heap rfl rfl ?_)
  k_steps
  rename Fr _ _ _ _ => F2
  rename News _ _ _ _ => N2
  rename IsRange _ _ _ _ _ _ _ _ => R2
  unfold Stop
  have hc : ((cut n 0 : Nat) : Int) = (n : Int) := by rw [cut_zero]
  refine ⟨_, _, 32, _, [], fun i m nw => ∃ d vs k tw, nw = [(d, W.listOf (List.toArray vs) k)] ∧ StrsAre vs (wordsTo n i) ∧ (n = 0 ∨ cut n i ≠ 0) ∧ Has m [(Str.ofString "names", .ref d), (Str.ofString "flags", .int ((cut n i : Nat) : Int) tw)],
    F2, N2, IterOf.range rfl R2 (small_of (by omega) (by omega) (by decide) (by decide)) (by decide), (fun _ hb => nomatch hb), ⟨_, _, _, t, rfl, .nil, by rw [cut_zero]; omega, .cons rfl (.cons (by rw [hc]; rfl) .nil)⟩, ?_, ?_⟩
  · rintro I i v m₁ nw o h tk hi ⟨_, tv, rfl⟩ ⟨d, vs, k, tw, rfl, hS, hz, H⟩ F3 N3 hne
    have F4 := frHasX F3 H
    dsimp only [kstB] at F4
    have hdI : d ≠ I := hne _ List.mem_cons_self
    have hlen : vs.length ≤ 32 := by rw [hS.length]; exact Nat.le_trans (wordsTo_len n i) (by omega)
    clear R2 F2 N2 F3 H
    k_steps
    · rename Builtin.bitAnd _ _ ≠ 0 => hb
      rw [flag_eq, and_flag_ne] at hb
      unfold Stop
      rw [flag_eq]
      refine P.hex_of_int ?_ ?_
      · k_steps
        rename KTD.Keyed _ _ _ => KY
        rename Fr _ _ _ _ => F5
        unfold Stop
        rename News _ _ _ _ => N5
        refine get_word hi KY F5.keep (by decide +kernel) fun t' tk' => ?_
        rw [flag_eq] at F5
        k_steps
        refine append_K F5 N5 (.tail (Ne.symm hdI) (.head (fun _ hp => nomatch hp))) (fun h' F6 N6 => ?_) (by rw [sizeLine_eq, List.size_toArray]; omega)
        clear N5 F5 F4 N3
        rw [List.push_toArray] at N6
        have hS' : StrsAre (vs ++ [Value.str (word i) t']) (wordsTo n (i + 1)) := by
          rw [wordsTo_set hb]
          exact StrsAre.append hS (.cons _ _ .nil)
        k_steps
        · rename Fr _ _ _ _ => F7
          rename News _ _ _ _ => N7
          rename Builtin.bitXor _ _ ≠ 0 => hx
          rw [xor_flag hb] at F7 hx
          exact ⟨_, _, _, _, rfl, F7, N7, (fun p hp => by rw [List.mem_singleton.mp hp]; exact hdI), d, _, _, _, rfl, hS', .inr (by omega), .cons rfl (.cons rfl .nil)⟩
        · rename Fr _ _ _ _ => F7
          rename News _ _ _ _ => N7
          rename Builtin.bitXor _ _ = 0 => hx
          rw [xor_flag hb] at F7 hx
          have hT := told_brk hb hi (by omega)
          rw [← hT] at hS'
          have hlen' := hS'.length
          dsimp only [TurnEnd']
          k_steps
          rename Fr _ _ _ _ => F8
          rename News _ _ _ _ => N8
          refine join_listW (News.isList N8 (List.Mem.tail _ (List.Mem.head _))) hS' (by decide) (told_fits hn) fun t' k => ?_
          exact hret _ _ _ F8.keep ⟨_, rfl⟩
      · have := List.all_eq_true.mp words_len i (List.mem_range.mpr hi)
        have := of_decide_eq_true this
        rw [sizeLine_eq]
        omega
    · rename Fr _ _ _ _ => F7
      rename News _ _ _ _ => N7
      rename Builtin.bitAnd _ _ = 0 => hx
      rw [flag_eq] at hx
      have hb : n.testBit i = false := by
        cases e : n.testBit i with
        | false => rfl
        | true => exact absurd hx (and_flag_ne.mpr e)
      rw [cut_clear hb] at F7 hz
      rw [← wordsTo_clear hb] at hS
      exact ⟨_, _, _, _, rfl, F7, N7, (fun p hp => by rw [List.mem_singleton.mp hp]; exact hdI), d, _, _, _, rfl, hS, hz, .cons rfl (.cons rfl .nil)⟩
  · rintro m' nw h tk ⟨d, vs, k, tw, rfl, hS, hz, H⟩ F3 N3
    have F4 := frHas F3 H
    dsimp only [kstB] at F4
    have hlen : vs.length ≤ 32 := by rw [hS.length]; exact wordsTo_len n 32
    clear R2 F2 N2 F3 H
    k_steps
    unfold Stop
    refine P.hex_of_int ?_ ?_
    · k_steps
      rename Fr _ _ _ _ => F8
      rename News _ _ _ _ => N8
      rw [List.push_toArray] at N8
      refine join_listW (ys := told n) (News.isList N8 (List.Mem.head _)) ?_ (by decide) (told_fits hn) fun t' k => ?_
      · rw [told_end hz]
        exact StrsAre.append hS (.cons _ _ .nil)
      exact hret _ _ _ F8.keep ⟨_, rfl⟩
    · have := hexText_short hn
      rw [sizeLine_eq]
      exact Nat.le_trans this (by decide)
end
section
open PySem PySem.W PyProof.Rows PySem.Calls
set_option maxRecDepth 100000
set_option maxHeartbeats 4000000
local macro_rules | `(tactic| walk_at "mine enterC") => `(tactic| (
  (case ho => k_is); (case hcd => k_is); (case hbind => exact rfl); (case hkind => exact rfl); (case hnd => decide +kernel); (case hco => exact rfl); (case hgen => exact rfl); (case hk => exact rfl)))
local macro_rules | `(tactic| walk_at "eval ListComp") => `(tactic| refine Stop.of ?_)
local macro_rules | `(tactic| walk_at "exec Assign cons ListComp") => `(tactic| refine Stop.of ?_)
local macro_rules | `(tactic| walk_at "exec While") => `(tactic| refine Stop.of ?_)
local macro_rules | `(tactic| walk_at "exec While Compare cons nil") => `(tactic| refine Stop.of ?_)

theorem law_text (w mean mg mb) (lp lw : Addr) (ps : List Nat) (hps : ∀ p ∈ ps, p ≤ 36) (hl : ps.length ≤ 8) : Spec w mean mg mb 51 [.ref lp, .ref lw] (fun h => Ints lp (nats ps) h ∧ Strs lw ROW h) (fun v _ _ => ∃ t', v = .str (lawText ps) t') := by
  intro dp un gd outer base s Q E B X T ⟨⟨vs, hL, hI⟩, ⟨ws, kw, hLw0, hS⟩⟩ hdp hu hret
  have hLw : s.heap.IsList lw ws.toArray := ⟨_, hLw0, rfl, _, rfl⟩
  k_dflt (refine' enterC [(Str.ofString "places", .ref lp), (Str.ofString "words", .ref lw)] B X T ?ho ?hcd hdp ?hbind ?hkind ?hnd ?hco ?hgen ?hk ?h)
  walk_at "mine enterC"
  intro L' h₁ tk cells F N Y
  k_cells Y
  have F' : Fr s.heap L' h₁ (fun y => if y = Str.ofString "places" then some (.ref lp) else none) := F
  clear F
  rename Obj.data _ = _ => d1
  have d1' : Obj.data _ = Data.cell (some (.ref lw)) := d1
  clear d1
  k_steps
  unfold Stop
  k_dflt (refine' assignComp (cl := [(Str.ofString "words", L' + 1)]) s.heap rfl rfl (by decide) rfl (by decide) rfl rfl rfl ?_)
  k_steps
  rename Fr _ _ _ _ => F2
  rename News _ _ _ _ => N2
  unfold Stop
  have hL2 : Heap.IsList _ lp vs.toArray := hL.at fun o e => F2.keep _ o e
  refine ⟨_, _, _, _, fun v => (match v with | .int k _ => decide (k < 32) | _ => false), fun v y => ∃ (k : Nat) (t t' : Tok), v = .int (k : Int) t ∧ y = .str (word k) t', F2, N2, Src.list rfl hL2 ?_, ⟨?_, ?_⟩, ?_⟩
  · rw [sizeLine_eq, List.size_toArray, hI.length, List.length_map]; omega
  · intro C i v s₃ m₃ E'' _ hv hn hm hk
    have F3 := frUp F2 hk
    have N3 := newsUp N2 hk
    obtain ⟨p, tp, hp, rfl⟩ := ints_mem hI hv
    refine wpAny_tests_one ?_
    k_steps
    exact Stop.mk ⟨rfl, _, _, rfl, fun _ _ e => e⟩
  · intro C i v s₃ m₃ E'' _ hv hpv hn hm hk
    have F3 := frUp F2 hk
    have N3 := newsUp N2 hk
    obtain ⟨p, tp, hp, rfl⟩ := ints_mem hI hv
    have hp32 : p < 32 := by
      have := of_decide_eq_true hpv
      omega
    obtain ⟨tw, hw⟩ := word_at hS hp32
    k_steps
    exact itemAt (hLw.at fun o e => F3.keep _ o e) (by omega) (by omega) (by simpa using hw) (Stop.mk ⟨⟨_, _, _, rfl, rfl⟩, _, _, rfl, fun _ _ e => e⟩)
  · intro D ys h' tk' k vs' hD hlen hV hP F3 N3 hsD
    have hys : StrsAre ys ((ps.filter fun p => decide (p < 32)).map word) := by
      rw [list_of hlen hV] at hP
      refine strs_of (fun k t => ?_) (fun k t y hy => ?_) hI hP
      · show decide ((k : Int) < 32) = decide (k < 32)
        congr 1
        exact propext (by omega)
      · obtain ⟨k', t1, t2, e1, e2⟩ := hy
        injection e1 with e1 _
        have : k = k' := by omega
        exact ⟨t2, by rw [e2, this]⟩
    clear F2 N2 hP hV hlen
    k_steps
    unfold Stop
    k_dflt (refine' listComp (cl := []) s.heap rfl (by decide) rfl (by decide) rfl ?_)
    k_steps
    unfold Stop
    rename Fr _ _ _ _ => F4
    rename News _ _ _ _ => N4
    have hL4 : Heap.IsList _ lp vs.toArray := hL.at fun o e => F4.keep _ o e
    refine ⟨_, _, _, _, fun v => (match v with | .int k _ => decide (31 < k) | _ => false), fun v y => ∃ (k : Nat) (t t' : Tok), v = .int (k : Int) t ∧ y = .int (2 ^ (k - 32)) t', F4, N4, Src.list rfl hL4 ?_, ⟨?_, ?_⟩, ?_⟩
    · rw [sizeLine_eq, List.size_toArray, hI.length, List.length_map]; omega
    · intro C i v s₃ m₃ E'' _ hv hn hm hk
      have F5 := frUp F4 hk
      have N5 := newsUp N4 hk
      obtain ⟨p, tp, hp, rfl⟩ := ints_mem hI hv
      refine wpAny_tests_one ?_
      k_steps
      exact Stop.mk ⟨rfl, _, _, rfl, fun _ _ e => e⟩
    · intro C i v s₃ m₃ E'' _ hv hpv hn hm hk
      have F5 := frUp F4 hk
      have N5 := newsUp N4 hk
      obtain ⟨p, tp, hp, rfl⟩ := ints_mem hI hv
      have hp31 : 31 < p := by
        have := of_decide_eq_true hpv
        omega
      have hp36 := hps p hp
      have e32 : ((p : Int) - 32).toNat = p - 32 := by omega
      k_steps
      rw [e32]
      exact Stop.mk ⟨⟨_, _, _, rfl, rfl⟩, _, _, rfl, fun _ _ e => e⟩
    · intro D2 ys2 h2 tk2 k2 vs2 hD2 hlen hV hP F5 N5 hka hsD2
      have hys2 : IntsAre ys2 ((ps.filter fun p => decide (31 < p)).map fun p => ((2 : Int) ^ (p - 32))) := by
        rw [list_of hlen hV] at hP
        refine ints_of (fun k t => ?_) (fun k t y hy => ?_) hI hP
        · show decide ((31 : Int) < k) = decide (31 < k)
          congr 1
          exact propext (by omega)
        · obtain ⟨k', t1, t2, e1, e2⟩ := hy
          injection e1 with e1 _
          have : k = k' := by omega
          exact ⟨t2, by rw [e2, this]⟩
      clear F4 N4 hP hV hlen hka
      dsimp only
      rename_i od
      k_steps
      unfold Stop
      rename Fr _ _ _ _ => F6
      rename News _ _ _ _ => N6
      rw [above_sum] at F6
      refine whileWalk s.heap (fun f m nw => nw = [(D, W.listOf (List.toArray ys) k), (L' + 1, od)] ∧ ∃ a x ta tx, a < 16 ^ f ∧ x.length + f ≤ 20 ∧ signs f a x = signs 8 (aboveOf ps) Str.empty ∧ Has m [(Str.ofString "above", .int ((a : Nat) : Int) ta), (Str.ofString "signs", .str x tx), (Str.ofString "told", .ref D)]) 8 F6
        (fun p hp => N6 p (List.mem_cons_of_mem _ hp)) ⟨rfl, _, _, _, _, ?_, ?_, rfl, .cons rfl (.cons rfl (.cons rfl .nil))⟩ ?_
      · have := above_small hps
        exact Nat.lt_of_le_of_lt (Nat.le_trans this (Nat.mul_le_mul_left 16 hl)) (by decide)
      · decide
      · rintro f m nw h tk ⟨rfl, a, x, ta, tx, ha, hx, hs, H⟩ F N
        have F7 := frHas F H
        dsimp only [kstB] at F7
        clear F F6 N6 H
        k_steps
        unfold Stop
        by_cases h0 : a = 0
        · subst h0
          rw [if_neg (by decide)]
          rw [signs_zero] at hs
          subst hs
          k_steps
          · rename (_ != _) = true => hc
            have hys' : ∀ t, StrsAre (ys ++ [Value.str (Str.ofString "0x" ++ signs 8 (aboveOf ps) Str.empty ++ Str.ofString "00000000") t]) (lawTold ps) := fun t => by
              unfold lawTold
              rw [if_pos hc]
              exact StrsAre.append hys (.cons _ _ .nil)
            have hlen := hys.length
            rw [List.length_map] at hlen
            have hlen2 := List.length_filter_le (fun p => decide (p < 32)) ps
            refine append_K F7 N (.head (fun p hp => by rw [List.mem_singleton.mp hp]; exact hD _ List.mem_cons_self)) (fun h' F8 N8 => ?_) (by rw [sizeLine_eq, List.size_toArray]; omega)
            rw [List.push_toArray] at N8
            clear F7 N
            k_steps
            refine join_listW (News.isList N8 (List.Mem.head _)) (hys' _) (by decide) (lawTold_fits hl) fun t' k => ?_
            exact hret _ _ _ F8.keep ⟨_, rfl⟩
          · rename (_ != _) = false => hc
            have hys' : StrsAre ys (lawTold ps) := by
              unfold lawTold
              rw [if_neg (by rw [hc]; exact Bool.false_ne_true), List.append_nil]
              exact hys
            refine join_listW (News.isList N (List.Mem.head _)) hys' (by decide) (lawTold_fits hl) fun t' k => ?_
            exact hret _ _ _ F7.keep ⟨_, rfl⟩
        · obtain ⟨f, rfl⟩ : ∃ f', f = f' + 1 := by
            cases f with
            | zero => rw [Nat.pow_zero] at ha; omega
            | succ f => exact ⟨f, rfl⟩
          rw [if_pos (by rw [decide_eq_true_eq]; omega)]
          refine ⟨f, rfl, ?_⟩
          k_steps
          rename Fr _ _ _ _ => F8
          rename News _ _ _ _ => N8
          have e1 : ((a : Int)).fdiv 16 = ((a / 16 : Nat) : Int) := by rw [Int.fdiv_eq_ediv_of_nonneg _ (by decide)]; rfl
          have e2 : ((a : Int)).fmod 16 = ((a % 16 : Nat) : Int) := by rw [Int.fmod_eq_emod_of_nonneg _ (by decide)]; rfl
          rw [e1, e2] at F8
          refine ⟨_, _, _, _, rfl, F8, N8, rfl, a / 16, _, _, _, ?_, ?_, ?_, .cons rfl (.cons rfl (.cons rfl .nil))⟩
          · rw [Nat.pow_succ] at ha
            exact (Nat.div_lt_iff_lt_mul (by decide)).mpr ha
          · have e : ∀ i, (Txt.item (Str.ofString "0123456789abcdef") i).length = 1 := fun i => rfl
            rw [Str.length_append, e]
            omega
          · rw [← hs]
            show _ = (if a = 0 then x else _)
            rw [if_neg h0]
            rfl
end
section
open PySem PySem.W PyProof.Rows PySem.Calls
set_option maxRecDepth 100000
set_option maxHeartbeats 4000000
local macro_rules | `(tactic| walk_at "mine enterC") => `(tactic| (
  (case ho => k_is); (case hcd => k_is); (case hbind => exact rfl); (case hkind => exact rfl); (case hnd => decide +kernel); (case hco => exact rfl); (case hgen => exact rfl); (case hk => exact rfl)))
local macro_rules | `(tactic| walk_at "eval ListComp") => `(tactic| refine Stop.of ?_)
local macro_rules | `(tactic| walk_at "exec Assign cons ListComp") => `(tactic| refine Stop.of ?_)
local macro_rules | `(tactic| walk_at "exec For Name Call cons nil") => `(tactic| refine Stop.of ?_)
local macro_rules | `(tactic| walk_at "call builtin:list.count") => `(tactic| refine Stop.of ?_)
local macro_rules | `(tactic| walk_at "call builtin:list.index") => `(tactic| refine Stop.of ?_)
local macro_rules | `(tactic| walk_at "call builtin:list.remove") => `(tactic| refine Stop.of ?_)
local macro_rules | `(tactic| walk_at "call builtin:list.append") => `(tactic| refine Stop.of ?_)
local macro_rules | `(tactic| walk_at "call builtin:sorted") => `(tactic| refine Stop.of ?_)
local macro_rules | `(tactic| walk_at "call type:list") => `(tactic| refine Stop.of ?_)
local macro_rules | `(tactic| walk_at "compareOp Eq ref ref") => `(tactic| refine Stop.of ?_)
local macro_rules | `(tactic| walk_at "subscriptTail") => `(tactic| refine Stop.of ?_)

set_option maxHeartbeats 8000000 in
theorem law_carried (w mean mg mb) (lw lr : Addr) (r : List Str) (ps ps' : List Nat) (times : Nat) (t : Tok) (hr : r.length = 8) (hok : ∀ x ∈ r, PyData.strOk x = true) (hnd : r.Nodup) (hps : ∀ p ∈ ps, p < 8) (hl : ps.length ≤ 16) (ht : times ≤ 16) (hc : carryN times ps = some ps') :
    Spec w mean mg mb 63 [.ref lw, .ref lr, .int (times : Int) t] (fun h => Strs lw (tx r ps) h ∧ Strs lr r h) (fun v h h' => ∃ qs, qs.Perm ps' ∧ qs.Pairwise (· ≤ ·) ∧ NewStrs (tx r qs) v h h') := by
  intro dp un gd outer base s Q E B X T ⟨⟨vw, kw, hLw0, hSw⟩, ⟨vr, kr, hLr0, hSr⟩⟩ hdp hu hret
  have hLw : s.heap.IsList lw vw.toArray := ⟨_, hLw0, rfl, _, rfl⟩
  have hLr : s.heap.IsList lr vr.toArray := ⟨_, hLr0, rfl, _, rfl⟩
  k_dflt (refine' enterC [(Str.ofString "words", .ref lw), (Str.ofString "row", .ref lr), (Str.ofString "times", .int (times : Int) t)] B X T ?ho ?hcd hdp ?hbind ?hkind ?hnd ?hco ?hgen ?hk ?h)
  walk_at "mine enterC"
  intro L' h₁ tk cells F N Y
  k_cells Y
  have F' : Fr s.heap L' h₁ (fun y => if y = Str.ofString "times" then some (.int (times : Int) t) else none) := F
  clear F
  rename_i oR oW dR dW
  have dR' : oR.data = Data.cell (some (.ref lr)) := dR
  have dW' : oW.data = Data.cell (some (.ref lw)) := dW
  clear dR dW
  k_steps
  unfold Stop
  refine list_copyK F' N (hLw.at fun o e => F'.keep _ o e) (fun D c h2 F2 N2 hD => ?_) (by rw [sizeLine_eq, List.size_toArray, hSw.length]; unfold tx; rw [List.length_map]; omega)
  have hD1 := hD _ List.mem_cons_self
  have hD2 := hD _ (List.mem_cons_of_mem _ List.mem_cons_self)
  dsimp only at hD1 hD2
  clear N F' hD
  k_steps
  rename_i h3 oW2 F3 N3 dW2
  rw [List.cons_append, List.cons_append, List.nil_append] at N3
  unfold Stop
  k_dflt (refine' forWalk s.heap rfl rfl ?_)
  k_steps
  rename Fr _ _ _ _ => F4
  rename News _ _ _ _ => N4
  rename IsRange _ _ _ _ _ _ _ _ => R4
  have hz : Builtin.Range.rangeSize 0 (times : Int) 1 = (times : Int) := by
    unfold Builtin.Range.rangeSize
    rw [if_pos (by decide)]
    split <;> omega
  unfold Stop
  refine ⟨_, _, times, _, [], fun i m nw => ∃ qs vs k, nw = [(D, W.listOf (List.toArray vs) k), (L' + 1 + 1, oR), (L' + 1, oW2)] ∧ StrsAre vs (tx r qs) ∧ (∀ p ∈ qs, p < 8) ∧ qs.length ≤ 16 ∧ carryN (times - i) qs = some ps',
    F4, N4, IterOf.range rfl R4 (small_of (by omega) (by omega) (by decide) (by omega)) hz, (fun _ hb => nomatch hb), ⟨_, _, _, rfl, hSw, hps, hl, hc⟩, ?_, ?_⟩
  · rintro I i v m₁ nw o h tk hi ⟨_, tv, rfl⟩ ⟨qs, vs, k, rfl, hS, hqs, hql, hcq⟩ F5 N5 hne
    have hDI := hne _ List.mem_cons_self
    have hI1 := hne _ (List.mem_cons_of_mem _ List.mem_cons_self)
    have hI2 := hne _ (List.mem_cons_of_mem _ (List.mem_cons_of_mem _ List.mem_cons_self))
    dsimp only at hDI hI1 hI2
    have hne' : ∀ x : Obj, ∀ p ∈ [(D, x), (L' + 1 + 1, oR), (L' + 1, oW2)], p.1 ≠ I := fun x p hp => by
      rcases List.mem_cons.mp hp with rfl | hp
      · exact hDI
      · exact hne p (List.mem_cons_of_mem _ hp)
    clear F4 N4 R4
    have hk : times - i = (times - (i + 1)) + 1 := by omega
    rw [hk] at hcq
    obtain ⟨qs', hq1, hq2⟩ := Option.bind_eq_some_iff.mp hcq
    obtain ⟨q, rest, htw, hq8, hcount, rfl⟩ := carry_some hq1
    obtain ⟨hgood, hglen⟩ := carry_good hq1 hqs
    k_steps
    unfold Stop
    k_dflt (refine' assignComp (cl := [(Str.ofString "words", L' + 1)]) s.heap rfl rfl (by decide) rfl (by decide) rfl rfl rfl ?_)
    k_steps
    unfold Stop
    have hLr5 : Heap.IsList _ lr vr.toArray := hLr.at fun o e => F5.keep _ o e
    refine ⟨_, _, _, _, fun v => (match v with | .str x _ => decide (1 < (tx r qs).count x) | _ => false), fun v y => y = v, F5, N5, Src.list rfl hLr5 (by rw [sizeLine_eq, List.size_toArray, hSr.length]; omega), ⟨?_, ?_⟩, ?_⟩
    · intro C i v s₃ m₃ E'' _ hv hn hm hk
      have F6 := frUp F5 hk
      have N6 := newsUp N5 hk
      obtain ⟨x, tx', rfl, hx⟩ := hSr.item i v (by simpa using hv)
      refine wpAny_tests_one ?_
      k_steps
      unfold Stop
      refine count_list_strs (News.isList N6 (List.Mem.tail _ (List.Mem.head _))) hS ?_
      rw [count_strs]
      k_steps
      refine Stop.mk ⟨?_, _, _, rfl, fun _ _ e => e⟩
      show decide _ = decide _
      congr 1
      exact propext (by omega)
    · intro C i v s₃ m₃ E'' _ hv hpv hn hm hk
      have F6 := frUp F5 hk
      have N6 := newsUp N5 hk
      k_steps
      exact Stop.mk ⟨rfl, _, _, rfl, fun _ _ e => e⟩
    · intro D2 ys h2 tk2 k2 vs2 hDD hlen hV hP F6 N6 hsD
      have hys : StrsAre ys (tx r (q :: rest)) := by
        rw [paired_eq hP, list_of hlen hV, ← htw, ← twices_tx hr hnd hqs]
        exact StrsAre.filter (fun _ _ => rfl) hSr
      have hD2' := hDD _ List.mem_cons_self
      have hD3' := hDD _ (List.mem_cons_of_mem _ List.mem_cons_self)
      dsimp only at hD2' hD3'
      clear F5 N5 hP hV hlen
      obtain ⟨t0, ys', rfl, hys'⟩ := StrsAre.cons_inv hys
      have hq : q < r.length := by omega
      have hqs' : ∀ p ∈ qs, p < r.length := by rw [hr]; exact hqs
      have hmem1 : r.getD q Str.empty ∈ tx r qs := List.mem_map.mpr ⟨q, List.count_pos_iff.mp (by omega), rfl⟩
      have hmem2 : r.getD q Str.empty ∈ tx r (qs.erase q) := List.mem_map.mpr ⟨q, List.count_pos_iff.mp (by rw [List.count_erase_self]; omega), rfl⟩
      k_steps
      rename_i l1
      rename Fr _ _ _ _ => F7
      rename News _ _ _ _ => N7
      unfold Stop
      refine eqLists (us := []) (News.isList N7 (List.Mem.tail _ (List.Mem.head _))) (News.isList N7 (List.Mem.head _)) hys.carried .nil ?_ rfl (by rw [depth_strs]; omega) (by show un + 3 + 64 < cLine; omega) ?_
      · refine lay_strs fun x hx => ?_
        obtain ⟨p, hp, rfl⟩ := List.mem_map.mp hx
        refine hok _ (tx_mem ?_)
        rw [← htw] at hp
        rw [hr]
        exact List.mem_range.mp (List.mem_filter.mp hp).1
      have hf : PyData.eqvAll ((tx r (q :: rest)).map PyData.str) [] = false := rfl
      rw [hf]
      k_steps
      unfold Stop
      refine itemAt (News.isList N7 (List.Mem.tail _ (List.Mem.head _))) (by decide) (by decide) (v := .str (r.getD q Str.empty) t0) rfl ?_
      k_steps
      unfold Stop
      have hlt : (tx r qs).length ≤ 1000 := by unfold tx; rw [List.length_map]; omega
      have hup : ∀ p ∈ [(L' + 1 + 1, oR), (L' + 1, oW2)], p.1 ≠ D := fun p hp => by
        rcases List.mem_cons.mp hp with rfl | hp
        · exact Nat.ne_of_lt hD1
        · rw [List.mem_singleton.mp hp]; exact Nat.ne_of_lt hD2
      have hlD := Nat.ne_of_gt l1.2.2.1
      refine remove_strs F7 N7 hS hlt hmem1 (.tail hlD (.tail (Ne.symm hD3') (.tail (Ne.symm hDI) (.head hup)))) (fun h8 F8 N8 => ?_)
      have hS1 := StrsAre.eraseIdx hS ((tx r qs).idxOf (r.getD q Str.empty))
      rw [erase_idx (tx r qs), tx_erase hnd hq hqs'] at hS1
      generalize (vs.eraseIdx ((tx r qs).idxOf (r.getD q Str.empty))) = vs1 at N8 hS1
      clear F7 N7
      k_steps
      unfold Stop
      refine itemAt (News.isList N8 (List.Mem.tail _ (List.Mem.head _))) (by decide) (by decide) (v := .str (r.getD q Str.empty) t0) rfl ?_
      k_steps
      unfold Stop
      have hqe : ∀ p ∈ qs.erase q, p < r.length := fun p hp => hqs' p (List.mem_of_mem_erase hp)
      have hlt1 : (tx r (qs.erase q)).length ≤ 1000 := by
        unfold tx; rw [List.length_map]
        exact Nat.le_trans (List.length_erase_le) (by omega)
      refine remove_strs F8 N8 hS1 hlt1 hmem2 (.tail hlD (.tail (Ne.symm hD3') (.tail (Ne.symm hDI) (.head hup)))) (fun h9 F9 N9 => ?_)
      have hS2 := StrsAre.eraseIdx hS1 ((tx r (qs.erase q)).idxOf (r.getD q Str.empty))
      rw [erase_idx (tx r (qs.erase q)), tx_erase hnd hq hqe] at hS2
      generalize (vs1.eraseIdx ((tx r (qs.erase q)).idxOf (r.getD q Str.empty))) = vs2 at N9 hS2
      have hlen2 := hS2.length
      have hS3 : ∀ t, StrsAre (vs2 ++ [Value.str (r.getD (q + 1) Str.empty) t]) (tx r ((qs.erase q).erase q ++ [q + 1])) := fun t => by
        unfold tx
        rw [List.map_append, List.map_singleton]
        exact StrsAre.append hS2 (.cons _ _ .nil)
      clear hS2
      clear F8 N8
      k_steps
      have hLr9o := F9.keep _ _ hLr0
      refine getMethod_builtin ⟨_, hLr9o, rfl⟩ PySem.F.plainAttrs_list PySem.F.slot_list_index PySem.F.type_list_index (fun a e => by cases e; exact ⟨_, hLr9o, rfl⟩) ?_
      k_steps
      unfold Stop
      refine itemAt (News.isList N9 (List.Mem.tail _ (List.Mem.head _))) (by decide) (by decide) (v := .str (r.getD q Str.empty) t0) rfl ?_
      k_steps
      unfold Stop
      have hLr9 : Heap.IsList _ lr vr.toArray := hLr.at fun o e => F9.keep _ o e
      refine index_strs hLr9 hSr (by omega) (tx_mem hq) ?_
      rw [tx_idx hnd hq]
      k_steps
      unfold Stop
      have e : ((q : Int) + 1).toNat = q + 1 := by omega
      rw [e]
      refine append_K F9 N9 (.tail hlD (.tail (Ne.symm hD3') (.tail (Ne.symm hDI) (.head hup)))) (fun h10 F10 N10 => ?_) ?_
      · rw [List.push_toArray] at N10
        k_steps
        refine ⟨_, _, _, [(D, _), (L' + 1 + 1, oR), (L' + 1, oW2)], rfl, F10, fun p hp => N10 p (List.mem_cons_of_mem _ (List.mem_cons_of_mem _ hp)), hne' _, _, _, _, rfl, hS3 _, hgood, by omega, hq2⟩
      · rw [sizeLine_eq, List.size_toArray, hlen2]
        unfold tx
        rw [List.length_map]
        exact Nat.le_trans (Nat.le_trans List.length_erase_le List.length_erase_le) (by omega)
  · rintro m' nw h tk ⟨qs, vs, k, rfl, hS, hqs, hql, hcq⟩ F5 N5
    clear F4 N4 R4
    rw [Nat.sub_self] at hcq
    cases hcq
    k_steps
    unfold Stop
    k_dflt (refine' listComp (cl := [(Str.ofString "row", L' + 1 + 1)]) s.heap rfl (by decide) rfl (by decide) rfl ?_)
    k_steps
    unfold Stop
    k_dflt (refine' listComp (cl := [(Str.ofString "row", L' + 1 + 1)]) s.heap rfl (by decide) rfl (by decide) rfl ?_)
    k_steps
    unfold Stop
    have hlen : vs.length ≤ 16 := by rw [hS.length]; unfold tx; rw [List.length_map]; exact hql
    have hLD := News.isList N5 List.mem_cons_self
    refine ⟨_, _, _, _, fun v => true, fun v y => ∃ (q : Nat) (t t' : Tok), q < 8 ∧ v = .str (r.getD q Str.empty) t ∧ y = .int (q : Int) t', F5, N5, Src.list rfl hLD (by rw [sizeLine_eq, List.size_toArray]; omega), ⟨?_, ?_⟩, ?_⟩
    · intro C i v s₃ m₃ E'' _ hv hn hm hk
      exact wpAny_pure (Stop.mk ⟨rfl, _, _, rfl, fun _ _ e => e⟩)
    · intro C i v s₃ m₃ E'' _ hv hpv hn hm hk
      have F6 := frUp F5 hk
      have N6 := newsUp N5 hk
      obtain ⟨x, tx', rfl, hx⟩ := hS.item i v (by simpa using hv)
      obtain ⟨q, hq, rfl⟩ := List.mem_map.mp (List.mem_of_getElem? hx)
      have hq8 := hqs q hq
      have hLr6o := F6.keep _ _ hLr0
      k_steps
      refine getMethod_builtin ⟨_, hLr6o, rfl⟩ PySem.F.plainAttrs_list PySem.F.slot_list_index PySem.F.type_list_index (fun a e => by cases e; exact ⟨_, hLr6o, rfl⟩) ?_
      k_steps
      unfold Stop
      refine index_strs (hLr.at fun o e => F6.keep _ o e) hSr (by omega) (tx_mem (by omega)) ?_
      rw [tx_idx hnd (by omega)]
      k_steps
      exact Stop.mk ⟨⟨_, _, _, hq8, rfl, rfl⟩, _, _, rfl, fun _ _ e => e⟩
    · intro D3 ys h3 tk3 k3 vs3 hDD hlen3 hV hP F6 N6 hka hsD
      have hys : IntsAre ys (nats ps') := by
        rw [List.filter_eq_self.mpr (fun _ _ => rfl), list_of hlen3 hV] at hP
        exact ints_idx hnd hr hS hqs hP
      clear F5 N5 hP hV hka hLD
      dsimp only
      k_steps
      unfold Stop
      refine sorted_N F6 N6 (News.isList N6 List.mem_cons_self) hys (by rw [hys.length, List.length_map]; omega) fun h4 vs4 ns4 e4 F7 N7 hI4 hperm hsort => ?_
      obtain ⟨qs4, rfl, hp4, hs4⟩ := nats_of_perm hperm hsort
      have hq48 : ∀ q ∈ qs4, q < 8 := fun q hq => hqs q (hp4.mem_iff.mp hq)
      have hL4 := News.isList N7 List.mem_cons_self
      have hlen4 : vs4.length ≤ 16 := by rw [hI4.length, List.length_map, hp4.length_eq]; exact hql
      refine ⟨_, _, _, _, fun v => true, fun v y => ∃ (q : Nat) (t t' : Tok), v = .int (q : Int) t ∧ y = .str (r.getD q Str.empty) t', F7, N7, Src.list rfl hL4 (by rw [sizeLine_eq, List.size_toArray]; omega), ⟨?_, ?_⟩, ?_⟩
      · intro C i v s₃ m₃ E'' _ hv hn hm hk
        exact wpAny_pure (Stop.mk ⟨rfl, _, _, rfl, fun _ _ e => e⟩)
      · intro C i v s₃ m₃ E'' _ hv hpv hn hm hk
        have F8 := frUp F7 hk
        have N8 := newsUp N7 hk
        obtain ⟨q, tq, hq, rfl⟩ := ints_mem hI4 hv
        have hq8 := hq48 q hq
        have hLr8 : Heap.IsList _ lr vr.toArray := hLr.at fun o e => F8.keep _ o e
        k_steps
        exact Stop.mk ⟨⟨q, _, _, rfl, rfl⟩, _, _, rfl, fun _ _ e => e⟩
      · intro D5 ys5 h5 tk5 k5 vs5 hDD5 hlen5 hV5 hP5 F8 N8 hka5 hsD5
        rw [List.filter_eq_self.mpr (fun _ _ => rfl), list_of hlen5 hV5] at hP5
        have := strs_idx hI4 hP5
        dsimp only
        refine hret _ _ _ F8.keep ⟨qs4, hp4, hs4, _, _, _, rfl, (N8 _ List.mem_cons_self).2.2, (N8 _ List.mem_cons_self).1, this⟩
end
section
open PySem PySem.W PyProof.Rows PySem.Calls
set_option maxRecDepth 100000
set_option maxHeartbeats 4000000
def lawDef : Stmt := Challenge.pw_sh0010_01.main.body.getD 12 (.Pass ⟨0, 0, 0, 0⟩)
def lawScope : Scope := match lawDef with
  | .FunctionDef _ _ _ _ _ _ s _ _ _ => s
  | _ => ⟨.function, [], false, false, []⟩
def lawFor : List Stmt := match lawDef with
  | .FunctionDef _ _ b _ _ _ _ _ _ _ => (match b.getD 6 (.Pass ⟨0, 0, 0, 0⟩) with
    | .For _ _ c _ _ => c
    | _ => [])
  | _ => []
def bits (n : Nat) : List Nat := (List.range 8).filter n.testBit
def row8 (sh : Nat) : List Str := (ROW.drop sh).take 8
abbrev lawEnv (L' : Addr) : Env := envOfC (Str.ofString "law") lawScope L' 68 (.ref 67)

theorem strs_drop : ∀ {vs : List Value} {xs : List Str}, StrsAre vs xs → ∀ j, StrsAre (vs.drop j) (xs.drop j)
  | _, _, h, 0 => h
  | _, _, .nil, _ + 1 => .nil
  | _, _, .cons _ _ r, j + 1 => strs_drop r j
theorem strs_take : ∀ {vs : List Value} {xs : List Str}, StrsAre vs xs → ∀ j, StrsAre (vs.take j) (xs.take j)
  | _, _, _, 0 => .nil
  | _, _, .nil, _ + 1 => .nil
  | _, _, .cons _ _ r, j + 1 => .cons _ _ (strs_take r j)
theorem Ints.keeps {l : Addr} {ns : List Int} {h h' : Heap} (H : Ints l ns h) (k : KeepsAll h h') : Ints l ns h' := by
  obtain ⟨vs, h1, h2⟩ := H
  exact ⟨vs, h1.at fun o e => k _ o e, h2⟩
theorem Strs.keeps {l : Addr} {xs : List Str} {h h' : Heap} (H : Strs l xs h) (k : KeepsAll h h') : Strs l xs h' := by
  obtain ⟨vs, n, h1, h2⟩ := H
  exact ⟨vs, n, k _ _ h1, h2⟩
theorem NewStrs.news {h₀ h h' : Heap} {L : Addr} {m : Str → Option Value} {news : List (Addr × Obj)} {xs : List Str} {v : Value} (R : NewStrs xs v h h') (F : Fr h₀ L h m) (N : News h₀ L h news) (k : KeepsAll h h') :
    ∃ a kk vs, v = .ref a ∧ StrsAre vs xs ∧ News h₀ L h' ((a, PySem.W.listOf (List.toArray vs) kk) :: news) ∧ (∀ p ∈ news, p.1 ≠ a) := by
  obtain ⟨a, kk, vs, rfl, h1, h2, hS⟩ := R
  refine ⟨a, kk, vs, rfl, hS, fun p hp => ?_, fun p hp e => ?_⟩
  · rcases List.mem_cons.mp hp with rfl | hp
    · refine ⟨h2, ?_, ?_⟩
      · rintro rfl
        obtain ⟨o, _, _, ho, _⟩ := F.ns
        rw [h1] at ho; cases ho
      · cases e : h₀.get? a with
        | none => rfl
        | some o => have := F.keep _ _ e; rw [h1] at this; cases this
    · exact ⟨k _ _ (N p hp).1, (N p hp).2⟩
  · have := (N p hp).1; rw [e, h1] at this; cases this

/-- what stands at the head of a turn, and behind it -/
structure Stands (sh : Nat) (vE vR : List Value) (rv : Addr) (oR : Obj) : Prop where
  every : StrsAre vE ROW
  row : StrsAre vR (row8 sh)
  cell : oR.data = .cell (some (.ref rv))
  small : sh < 25
abbrev ledger (L' lv rv ev : Addr) (oL oR : Obj) (vE vR : List Value) (kE : Nat) : List (Addr × Obj) := [(lv, oL), (rv, PySem.W.listOf (List.toArray vR) 0), (ev, PySem.W.listOf (List.toArray vE) kE), (L' + 1 + 1, oR)]
/-- what a turn leaves: the words and the whole -/
def After (h₀ : Heap) (L' lv rv ev : Addr) (oL oR : Obj) (vE vR : List Value) (kE sh : Nat) (I : Addr) (oI : Obj) (W' : Nat) (s : Shared) (f : Flow) (s' : Shared) : Prop :=
  f = .next ∧ ∃ h' tk m' lw k vw tW tsh, s' = { s with heap := h', toks := tk } ∧ Fr h₀ L' h' m' ∧ News h₀ L' h' ((I, oI) :: (lw, PySem.W.listOf (List.toArray vw) k) :: ledger L' lv rv ev oL oR vE vR kE) ∧ lw ≠ I ∧ StrsAre vw (tx (row8 sh) (bits W')) ∧
    Has m' [(Str.ofString "words", .ref lw), (Str.ofString "whole", .int (W' : Int) tW), (Str.ofString "shift", .int (sh : Int) tsh), (Str.ofString "every", .ref ev)]
def TurnSays (w : World) (mean : ExcName → Option Value) (mg mb : Str → Option Value) : Prop :=
  ∀ (dp un : Nat) (gd : Option (List Code)) (outer : List Env) (base h₀ : Heap) (s : Shared) (L' I lw lv rv ev : Addr) (oI oL oR : Obj) (vE vR vw : List Value) (kE kw sh W p : Nat) (tp tW tsh : Tok) (m : Str → Option Value),
    Below (AR dp un gd outer) base outer h₀ → (hd.heap_39 w.params).In h₀ → TopM mean mg mb h₀ → dp + 10 < recursionLimit → un + 300 < cLine →
    Stands sh vE vR rv oR → StrsAre vw (tx (row8 sh) (bits W)) → p < 40 → W + p < 256 →
    Has m [(Str.ofString "part", .int (p : Int) tp), (Str.ofString "words", .ref lw), (Str.ofString "whole", .int (W : Int) tW), (Str.ofString "shift", .int (sh : Int) tsh), (Str.ofString "every", .ref ev)] →
    Fr h₀ L' s.heap m → News h₀ L' s.heap ((I, oI) :: (lw, PySem.W.listOf (List.toArray vw) kw) :: ledger L' lv rv ev oL oR vE vR kE) →
    wpAny (model PR w) (AR (dp + 1) (un + 3) gd (lawEnv L' :: outer)) (execs lawFor (lawEnv L')) (After h₀ L' lv rv ev oL oR vE vR kE sh I oI (W + p) s) (fun _ _ => False) s
end
section
open PySem PySem.W PyProof.Rows PySem.Calls
set_option maxRecDepth 100000
set_option maxHeartbeats 4000000
def pop (n : Nat) : Nat := (bits n).length
def vv (W p : Nat) : Nat := pop W + pop p - pop (W + p)
def sb (n : Int) : Bool := decide (n ≠ 0) && decide (Builtin.bitAnd n (n - 1) = 0)
def hb (n : Nat) : Int := Builtin.Int.intBits (n : Int) - 1

theorem bits_len (n : Nat) : (bits n).length ≤ 8 := Nat.le_trans (List.length_filter_le _ _) (by simp)
theorem bits_lt {q n : Nat} (h : q ∈ bits n) : q < 8 := List.mem_range.mp (List.mem_filter.mp h).1
theorem bits2_lt (W p : Nat) : ∀ q ∈ bits W ++ bits p, q < 8 := fun q hq => by
  rcases List.mem_append.mp hq with h | h
  · exact bits_lt h
  · exact bits_lt h
theorem bits2_len (W p : Nat) : (bits W ++ bits p).length ≤ 16 := by
  have := bits_len W
  have := bits_len p
  rw [List.length_append]; omega
theorem vv_le (W p : Nat) : vv W p ≤ 16 := by
  have := bits_len W
  have := bits_len p
  unfold vv pop; omega
theorem pop_le (n : Nat) : pop n ≤ 8 := bits_len n
theorem small_sh {p sh : Nat} (h : p < 256) (hsh : sh < 25) : p * 2 ^ sh < 2 ^ 37 := by
  have h1 : 2 ^ sh ≤ 2 ^ 24 := Nat.pow_le_pow_right (by decide) (by omega)
  exact Nat.lt_of_le_of_lt (Nat.mul_le_mul (Nat.le_of_lt_succ h : p ≤ 255) h1) (by decide)
theorem small_29 {T : Nat} (h : T < 256) : T * 2 ^ 29 < 2 ^ 37 := by omega
theorem four_carried (a b : Str) (c d : Int) (t1 t2 t3 t4 : Tok) : CarriedAll [.str a t1, .str b t2, .int c t3, .int d t4] [.str a, .str b, .int c, .int d] :=
  .cons (.str _ _) (.cons (.str _ _) (.cons (.int _ _) (.cons (.int _ _) .nil)))
theorem four_eqv (a b : Str) (c d : Int) : (!PyData.eqvAll [.str a, .str b, .int c, .int d] [.str a, .str b, .int c, .int d]) = false := by simp [PyData.eqvAll, PyData.eqv]
theorem two_eqv (c d : Int) : (!PyData.eqvAll [.int c, .int d] [.int c, .int d]) = false := by simp [PyData.eqvAll, PyData.eqv]

/-! one bit -/
theorem and_low (k T : Nat) (h : T ≠ 0) : (T * 2 ^ k) &&& (T * 2 ^ k - 1) = (T &&& (T - 1)) * 2 ^ k := by
  obtain ⟨t, rfl⟩ : ∃ t, T = t + 1 := ⟨T - 1, by omega⟩
  have hp := Nat.two_pow_pos k
  have e : (t + 1) * 2 ^ k - 1 = 2 ^ k * t + (2 ^ k - 1) := by rw [Nat.add_mul, Nat.one_mul, Nat.mul_comm]; omega
  rw [e]
  apply Nat.eq_of_testBit_eq
  intro j
  rw [Nat.testBit_and, Nat.testBit_mul_two_pow, Nat.testBit_two_pow_mul_add _ (by omega), Nat.testBit_mul_two_pow, Nat.testBit_and]
  by_cases hj : k ≤ j
  · rw [if_neg (by omega), decide_eq_true hj]
    simp
  · rw [decide_eq_false hj]
    simp
theorem sb_nat (N : Nat) : sb (N : Int) = (decide (N ≠ 0) && decide (N &&& (N - 1) = 0)) := by
  unfold sb
  by_cases h : N = 0
  · subst h; rfl
  · have e : (N : Int) - 1 = ((N - 1 : Nat) : Int) := by omega
    rw [e, and_nat]
    congr 1
    · congr 1; exact propext (by omega)
    · congr 1; exact propext (by omega)
theorem sb_pow (v : Nat) : sb ((2 ^ v : Nat) : Int) = true := by
  rw [sb_nat, Nat.and_two_pow_sub_one_eq_mod, Nat.mod_self]
  have := Nat.two_pow_pos v
  simp
theorem sb_neg (n : Nat) : sb (-(n : Int)) = false := by
  unfold sb
  by_cases h : n = 0
  · subst h; rfl
  · have h1 : ¬ (0 : Int) ≤ -(n : Int) := by omega
    have h2 : ¬ (0 : Int) ≤ -(n : Int) - 1 := by omega
    rw [bitAnd_nn h1 h2]
    have : Builtin.bitNot (((Builtin.bitNot (-(n : Int))).toNat ||| (Builtin.bitNot (-(n : Int) - 1)).toNat : Nat) : Int) ≠ 0 := by
      unfold Builtin.bitNot; omega
    rw [decide_eq_false this, Bool.and_false]
theorem sb_far (T k : Nat) : sb ((T * 2 ^ k : Nat) : Int) = sb (T : Int) := by
  rw [sb_nat, sb_nat]
  have hp := Nat.two_pow_pos k
  by_cases h : T = 0
  · subst h; simp
  · rw [and_low k T h]
    congr 1
    · congr 1
      exact propext ⟨fun _ => h, fun _ => Nat.mul_ne_zero h (by omega)⟩
    · congr 1
      refine propext ⟨fun e => ?_, fun e => by rw [e, Nat.zero_mul]⟩
      rcases Nat.mul_eq_zero.mp e with e | e
      · exact e
      · omega
theorem single_table : ((List.range 256).all fun T => (pop T == 1) == (decide (T ≠ 0) && decide (T &&& (T - 1) = 0))) = true := by decide +kernel
theorem single_eq {T : Nat} (h : T < 256) : (((pop T : Nat) : Int) == 1) = sb (T : Int) := by
  have := List.all_eq_true.mp single_table T (List.mem_range.mpr h)
  rw [sb_nat, ← eq_of_beq this]
  rw [Bool.eq_iff_iff]
  simp
  omega

/-! the highest bit -/
theorem ib_some {T : Nat} (h : T ≠ 0) : Builtin.Int.intBits (T : Int) = T.log2 + 1 := by
  unfold Builtin.Int.intBits
  rw [if_neg (fun e => h (by have := eq_of_beq e; omega)), Int.natAbs_natCast]
theorem hb_pow (v : Nat) : Builtin.Int.intBits ((2 ^ v : Nat) : Int) - 1 = (v : Int) := by
  have hp := Nat.two_pow_pos v
  rw [ib_some (by omega), Nat.log2_two_pow]
  omega
theorem hb_neg (n : Nat) : Builtin.Int.intBits (-(n : Int)) - 1 = hb n := by
  unfold hb Builtin.Int.intBits
  rw [Int.natAbs_neg]
  by_cases h : n = 0
  · subst h; rfl
  · rw [if_neg (by simp; omega), if_neg (by simp; omega)]
theorem hb_some {T : Nat} (h : T ≠ 0) : hb T = (T.log2 : Int) := by
  unfold hb Builtin.Int.intBits
  rw [if_neg (by simp; omega), Int.natAbs_natCast]
  omega
theorem log_mul (T k : Nat) (h : T ≠ 0) : (T * 2 ^ k).log2 = T.log2 + k := by
  have hp := Nat.two_pow_pos k
  have h2 := (Nat.log2_eq_iff h).mp rfl
  refine (Nat.log2_eq_iff (Nat.mul_ne_zero h (by omega))).mpr ⟨?_, ?_⟩
  · rw [Nat.pow_add]; exact Nat.mul_le_mul_right _ h2.1
  · have e : T.log2 + k + 1 = T.log2 + 1 + k := by omega
    rw [e, Nat.pow_add]
    exact Nat.mul_lt_mul_of_pos_right h2.2 hp
theorem hb_far {T sh : Nat} (h : ¬ T = 0) (_ : T < 256) : 70 + (sh : Int) + hb T = hb (T * 2 ^ (70 + sh)) := by
  have hp := Nat.two_pow_pos (70 + sh)
  rw [hb_some h, hb_some (Nat.mul_ne_zero h (by omega)), log_mul _ _ h]
  omega
theorem top_table : ((List.range 256).all fun T => T == 0 || ((bits T).contains T.log2 && (bits T).all fun a => decide (a ≤ T.log2))) = true := by decide +kernel
theorem top_bit {T : Nat} (h : ¬ T = 0) (h2 : T < 256) : T.log2 ∈ bits T ∧ ∀ a ∈ bits T, a ≤ T.log2 := by
  have := List.all_eq_true.mp top_table T (List.mem_range.mpr h2)
  simp only [Bool.or_eq_true, beq_iff_eq, Bool.and_eq_true, List.contains_iff_mem, List.all_eq_true, decide_eq_true_eq] at this
  rcases this with e | e
  · exact absurd e h
  · exact e
theorem bits_cons {T : Nat} (h : T ≠ 0) (h2 : T < 256) : ∃ a b, bits T = a :: b := by
  have := (top_bit h h2).1
  cases e : bits T with
  | nil => rw [e] at this; cases this
  | cons a b => exact ⟨a, b, rfl⟩
theorem nats_pos {T : Nat} (h : ¬ T = 0) (h2 : T < 256) : 0 < (nats (bits T)).length := by
  obtain ⟨a, b, e⟩ := bits_cons h h2
  rw [e]; simp
theorem max_bits {T : Nat} {M : Int} (h : ¬ T = 0) (h2 : T < 256) (hM : M ∈ nats (bits T)) (hle : ∀ a, a ∈ nats (bits T) → a ≤ M) : M = hb T := by
  obtain ⟨q, hq, rfl⟩ := List.mem_map.mp hM
  have ht := top_bit h h2
  have h1 := ht.2 q hq
  have h3 := hle _ (List.mem_map.mpr ⟨_, ht.1, rfl⟩)
  rw [hb_some h]
  omega

/-! the number of ways -/
def ch : Nat → Nat → Nat
  | _, 0 => 1
  | 0, _ + 1 => 0
  | n + 1, k + 1 => ch n k + ch n (k + 1)
theorem ch_zero (n : Nat) : ch n 0 = 1 := by cases n <;> rfl
theorem ch_step : ∀ n k, (n + 1) * ch n k = ch (n + 1) (k + 1) * (k + 1)
  | 0, 0 => rfl
  | 0, k + 1 => by simp [ch]
  | n + 1, 0 => by
    have ih : (n + 1) * 1 = ch (n + 1) 1 * 1 := by
      have := ch_step n 0
      rw [ch_zero] at this
      exact this
    rw [ch_zero]
    show (n + 1 + 1) * 1 = (ch (n + 1) 0 + ch (n + 1) 1) * 1
    rw [ch_zero]
    omega
  | n + 1, k + 1 => by
    have h1 := ch_step n k
    have h2 := ch_step n (k + 1)
    have e : ch (n + 1 + 1) (k + 1 + 1) = ch (n + 1) (k + 1) + ch (n + 1) (k + 1 + 1) := rfl
    have e2 : ch (n + 1) (k + 1) = ch n k + ch n (k + 1) := rfl
    rw [e]
    generalize ch (n + 1) (k + 1 + 1) = z at *
    rw [e2] at h1 ⊢
    generalize ch n k = x at *
    generalize ch n (k + 1) = y at *
    generalize n + 1 = N at *
    generalize k + 1 = K at *
    rw [Nat.add_mul, Nat.mul_add, h1, h2, Nat.add_mul (x + y) z, Nat.mul_add (x + y)]
    omega
theorem ways_ch (W : Nat) : ∀ k, ways W k = ch (W + k) k
  | 0 => (ch_zero _).symm
  | k + 1 => by
    show ways W k * (W + (k + 1)) / (k + 1) = _
    rw [ways_ch W k]
    have h := ch_step (W + k) k
    have e : ch (W + k) k * (W + (k + 1)) = ch (W + (k + 1)) (k + 1) * (k + 1) := by
      rw [Nat.mul_comm]; exact h
    rw [e, Nat.mul_div_cancel _ (Nat.succ_pos k)]
theorem ways_step (W k : Nat) : ways W (k + 1) * (k + 1) = ways W k * (W + k + 1) := by
  rw [ways_ch, ways_ch, Nat.mul_comm (ch (W + k) k)]
  exact (ch_step (W + k) k).symm

/-- n is 2 ^ v and an odd number -/
def V2 (n v : Nat) : Prop := ∃ o, o % 2 = 1 ∧ n = 2 ^ v * o
theorem V2.pos {n v : Nat} (h : V2 n v) : 0 < n := by
  obtain ⟨o, ho, rfl⟩ := h
  exact Nat.mul_pos (Nat.two_pow_pos v) (by omega)
theorem V2.mul {a b v w : Nat} (h : V2 a v) (h' : V2 b w) : V2 (a * b) (v + w) := by
  obtain ⟨o, ho, rfl⟩ := h
  obtain ⟨q, hq, rfl⟩ := h'
  refine ⟨o * q, by rw [Nat.mul_mod, ho, hq], ?_⟩
  rw [Nat.pow_add, Nat.mul_assoc, Nat.mul_assoc, Nat.mul_left_comm o]
theorem V2.ex : ∀ n, 0 < n → ∃ v, V2 n v := by
  intro n
  induction n using Nat.strongRecOn with
  | _ n ih =>
    intro h
    by_cases ho : n % 2 = 1
    · exact ⟨0, n, ho, by rw [Nat.pow_zero, Nat.one_mul]⟩
    · obtain ⟨v, o, h1, h2⟩ := ih (n / 2) (by omega) (by omega)
      refine ⟨v + 1, o, h1, ?_⟩
      have : n = 2 * (n / 2) := by omega
      rw [this, h2, Nat.pow_succ, Nat.mul_comm (2 ^ v) 2, Nat.mul_assoc]
theorem V2.le {n v w : Nat} (h : V2 n v) (h' : V2 n w) : v ≤ w := by
  obtain ⟨o, ho, e⟩ := h
  obtain ⟨q, hq, e'⟩ := h'
  refine Nat.le_of_not_lt fun hlt => ?_
  obtain ⟨d, rfl⟩ : ∃ d, v = w + (d + 1) := ⟨v - w - 1, by omega⟩
  rw [e, Nat.pow_add, Nat.mul_assoc] at e'
  have := Nat.eq_of_mul_eq_mul_left (Nat.two_pow_pos w) e'
  rw [Nat.pow_succ, Nat.mul_comm (2 ^ d) 2, Nat.mul_assoc] at this
  omega
theorem V2.one {n v w : Nat} (h : V2 n v) (h' : V2 n w) : v = w := Nat.le_antisymm (h.le h') (h'.le h)
theorem next_table : ((List.range 255).all fun n => (List.range 9).any fun v => (n + 1) % 2 ^ (v + 1) == 2 ^ v && pop (n + 1) + v == pop n + 1) = true := by decide +kernel
theorem next_bit {n : Nat} (h : n < 255) : ∃ v, V2 (n + 1) v ∧ pop (n + 1) + v = pop n + 1 := by
  have := List.all_eq_true.mp next_table n (List.mem_range.mpr h)
  obtain ⟨v, _, hv⟩ := List.any_eq_true.mp this
  simp only [Bool.and_eq_true, beq_iff_eq] at hv
  refine ⟨v, ⟨2 * ((n + 1) / 2 ^ (v + 1)) + 1, by omega, ?_⟩, hv.2⟩
  have h2 := Nat.div_add_mod (n + 1) (2 ^ (v + 1))
  rw [hv.1, Nat.pow_succ] at h2
  rw [Nat.pow_succ]
  generalize 2 ^ v = z at *
  generalize (n + 1) / (z * 2) = q at *
  rw [Nat.mul_add, Nat.mul_one, ← Nat.mul_assoc]
  exact h2.symm
theorem ways_V2 (W : Nat) : ∀ k, W + k < 256 → ∃ d, V2 (ways W k) d ∧ d + pop (W + k) = pop W + pop k
  | 0, _ => ⟨0, ⟨1, rfl, rfl⟩, by show 0 + pop W = pop W + pop 0; have : pop 0 = 0 := rfl; omega⟩
  | k + 1, h => by
    obtain ⟨a, ha, ea⟩ := ways_V2 W k (by omega)
    obtain ⟨b, hb, eb⟩ := next_bit (n := W + k) (by omega)
    obtain ⟨c, hc, ec⟩ := next_bit (n := k) (by omega)
    have hs := ways_step W k
    have hp := ha.mul hb
    have hpos : 0 < ways W (k + 1) := Nat.pos_of_ne_zero fun e => by
      rw [e, Nat.zero_mul] at hs
      have := hp.pos
      omega
    obtain ⟨d, hd⟩ := V2.ex _ hpos
    have := (hs ▸ hd.mul hc : V2 (ways W k * (W + k + 1)) (d + c)).one hp
    refine ⟨d, hd, ?_⟩
    rw [← Nat.add_assoc]
    omega
theorem ways_v2 {W p : Nat} (h : W + p < 256) : Builtin.bitAnd ((ways W p : Nat) : Int) (-((ways W p : Nat) : Int)) = ((2 ^ vv W p : Nat) : Int) := by
  obtain ⟨d, hd, e⟩ := ways_V2 W p h
  have hv : vv W p = d := by unfold vv; omega
  rw [hv]
  have hpos := hd.pos
  obtain ⟨o, ho, e2⟩ := hd
  rw [bitAnd_pn (by omega) (by omega)]
  have e3 : (Builtin.bitNot (-((ways W p : Nat) : Int))).toNat = ways W p - 1 := by unfold Builtin.bitNot; omega
  rw [e3, Int.toNat_natCast, e2, Nat.mul_comm (2 ^ d) o, and_low d o (by omega)]
  have e4 : o &&& (o - 1) = o - 1 := by
    obtain ⟨m, rfl⟩ : ∃ m, o = 2 * m + 1 := ⟨o / 2, by omega⟩
    apply Nat.eq_of_testBit_eq
    intro j
    rw [Nat.testBit_and]
    cases j with
    | zero => simp
    | succ j =>
      rw [Nat.testBit_succ, Nat.testBit_succ]
      have h1 : (2 * m + 1) / 2 = m := by omega
      have h2 : (2 * m + 1 - 1) / 2 = m := by omega
      rw [h1, h2, Bool.and_self]
  rw [e4]
  obtain ⟨m, rfl⟩ : ∃ m, o = m + 1 := ⟨o - 1, by omega⟩
  have : m + 1 - 1 = m := rfl
  rw [this, Nat.add_mul, Nat.one_mul]
  omega
end
section
open PySem PySem.W PyProof.Rows PySem.Calls
set_option maxRecDepth 100000
set_option maxHeartbeats 4000000
/-! the carrying -/
def val (ps : List Nat) : Nat := (ps.map fun q => 2 ^ q).sum
theorem val_bits_table : ((List.range 256).all fun n => val (bits n) == n) = true := by decide +kernel
theorem val_bits {n : Nat} (h : n < 256) : val (bits n) = n := eq_of_beq (List.all_eq_true.mp val_bits_table n (List.mem_range.mpr h))
theorem val_perm {ps qs : List Nat} (h : ps.Perm qs) : val ps = val qs := (h.map _).sum_nat
theorem val_append (ps qs : List Nat) : val (ps ++ qs) = val ps + val qs := by unfold val; rw [List.map_append, List.sum_append]
theorem val_cons (q : Nat) (ps : List Nat) : val (q :: ps) = 2 ^ q + val ps := by unfold val; rw [List.map_cons, List.sum_cons]
theorem val_erase {q : Nat} {ps : List Nat} (h : q ∈ ps) : val ps = 2 ^ q + val (ps.erase q) := by
  rw [val_perm (List.perm_cons_erase h), val_cons]
theorem bits_nodup (n : Nat) : (bits n).Nodup := List.Pairwise.filter _ List.nodup_range
theorem bits_sorted (n : Nat) : (bits n).Pairwise (· ≤ ·) := List.Pairwise.filter _ (List.pairwise_lt_range.imp fun h => Nat.le_of_lt h)
def sel (b0 b1 b2 b3 b4 b5 b6 b7 : Bool) : List Nat := (List.range 8).filter fun i => match i with
  | 0 => b0 | 1 => b1 | 2 => b2 | 3 => b3 | 4 => b4 | 5 => b5 | 6 => b6 | _ => b7
theorem sel_table : ∀ b0 b1 b2 b3 b4 b5 b6 b7 : Bool, bits (val (sel b0 b1 b2 b3 b4 b5 b6 b7)) = sel b0 b1 b2 b3 b4 b5 b6 b7 := by decide +kernel
theorem sel_eq (f : Nat → Bool) : (List.range 8).filter f = sel (f 0) (f 1) (f 2) (f 3) (f 4) (f 5) (f 6) (f 7) := by
  unfold sel
  apply List.filter_congr
  intro i hi
  have : i < 8 := List.mem_range.mp hi
  rcases i with _ | _ | _ | _ | _ | _ | _ | _ | i
  all_goals first | rfl | omega
theorem bits_sel (f : Nat → Bool) : bits (val ((List.range 8).filter f)) = (List.range 8).filter f := by rw [sel_eq, sel_table]
theorem nodup_bits {ps : List Nat} (hnd : ps.Nodup) (h8 : ∀ p ∈ ps, p < 8) : ps.Perm (bits (val ps)) := by
  have hp : ps.Perm ((List.range 8).filter fun i => ps.contains i) := by
    rw [List.perm_ext_iff_of_nodup hnd (List.Pairwise.filter _ List.nodup_range)]
    intro a
    rw [List.mem_filter, List.mem_range, List.contains_iff_mem]
    exact ⟨fun h => ⟨h8 a h, h⟩, fun h => h.2⟩
  have e : bits (val ps) = (List.range 8).filter fun i => ps.contains i := by rw [val_perm hp, bits_sel]
  rw [e]; exact hp
theorem carry_does {ps : List Nat} (hnd : ¬ ps.Nodup) (h8 : ∀ p ∈ ps, p < 8) (hv : val ps < 256) : ∃ ps', carry ps = some ps' ∧ val ps' = val ps ∧ ps'.length + 1 = ps.length ∧ ∀ p ∈ ps', p < 8 := by
  have hq : ∃ q, 1 < ps.count q := by
    refine Classical.byContradiction fun hn => hnd (List.nodup_iff_count.mpr fun a => ?_)
    exact Nat.le_of_not_lt fun h => hn ⟨a, h⟩
  obtain ⟨q0, hq0⟩ := hq
  have hm0 : q0 ∈ twices ps := List.mem_filter.mpr ⟨List.mem_range.mpr (h8 _ (List.count_pos_iff.mp (by omega))), by simpa using hq0⟩
  cases ht : twices ps with
  | nil => rw [ht] at hm0; cases hm0
  | cons q rest =>
    have hm : q ∈ twices ps := by rw [ht]; exact List.mem_cons_self
    have hc : 1 < ps.count q := of_decide_eq_true (List.mem_filter.mp hm).2
    have h1 : q ∈ ps := List.count_pos_iff.mp (by omega)
    have h2 : q ∈ ps.erase q := List.count_pos_iff.mp (by rw [List.count_erase_self]; omega)
    have e := val_erase h1
    have e2 := val_erase h2
    have hq8 := h8 q h1
    have hq7 : q + 1 < 8 := by
      refine Nat.lt_of_not_le fun h => ?_
      have : q = 7 := by omega
      subst this
      omega
    have hcar : carry ps = some ((ps.erase q).erase q ++ [q + 1]) := by
      unfold carry
      rw [ht]
      simp only
      rw [if_pos hq7]
    have hg := carry_good hcar h8
    refine ⟨_, hcar, ?_, hg.2, hg.1⟩
    rw [val_append, val_cons]
    have : val [] = 0 := rfl
    rw [this, Nat.pow_succ]
    omega
theorem carry_all : ∀ (n : Nat) (ps : List Nat), ps.length = n → (∀ p ∈ ps, p < 8) → val ps < 256 → ∃ k ps', carryN k ps = some ps' ∧ ps'.Perm (bits (val ps)) ∧ k + pop (val ps) = ps.length := by
  intro n
  induction n with
  | zero =>
    intro ps hl h8 hv
    have : ps = [] := List.length_eq_zero_iff.mp hl
    subst this
    exact ⟨0, [], rfl, List.Perm.refl _, rfl⟩
  | succ n ih =>
    intro ps hl h8 hv
    by_cases hnd : ps.Nodup
    · have hp := nodup_bits hnd h8
      refine ⟨0, ps, rfl, hp, ?_⟩
      unfold pop
      rw [← hp.length_eq]; omega
    · obtain ⟨ps1, hc, hv1, hl1, h81⟩ := carry_does hnd h8 hv
      obtain ⟨k, ps', h1, h2, h3⟩ := ih ps1 (by omega) h81 (by omega)
      refine ⟨k + 1, ps', ?_, by rw [← hv1]; exact h2, by rw [← hv1]; omega⟩
      show (carry ps).bind (carryN k) = some ps'
      rw [hc]; exact h1
theorem carried_bits {W p : Nat} (h : W + p < 256) : ∃ ps', carryN (vv W p) (bits W ++ bits p) = some ps' ∧ ∀ qs : List Nat, qs.Perm ps' → qs.Pairwise (· ≤ ·) → qs = bits (W + p) := by
  have hv : val (bits W ++ bits p) = W + p := by rw [val_append, val_bits (by omega), val_bits (by omega)]
  obtain ⟨k, ps', h1, h2, h3⟩ := carry_all _ (bits W ++ bits p) rfl (bits2_lt W p) (by omega)
  rw [hv] at h2 h3
  have hk : vv W p = k := by
    rw [List.length_append] at h3
    unfold vv pop at *
    omega
  rw [hk]
  refine ⟨ps', h1, fun qs hq hs => ?_⟩
  exact (hq.trans h2).eq_of_pairwise (fun a b _ _ h1 h2 => Nat.le_antisymm h1 h2) hs (bits_sorted _)

/-! the plain cases -/
theorem ways_zero (W : Nat) : ways W 0 = 1 := rfl
theorem zero_ways : ∀ p, ways 0 p = 1
  | 0 => rfl
  | p + 1 => by
    show ways 0 p * (0 + (p + 1)) / (p + 1) = 1
    rw [zero_ways p, Nat.one_mul, Nat.zero_add, Nat.div_self (Nat.succ_pos p)]
theorem ways_one (W : Nat) : ways W 1 = W + 1 := by
  show 1 * (W + (0 + 1)) / (0 + 1) = W + 1
  rw [Nat.one_mul, Nat.div_one]
theorem one_ways : ∀ p, ways 1 p = 1 + p
  | 0 => rfl
  | p + 1 => by
    show ways 1 p * (1 + (p + 1)) / (p + 1) = _
    rw [one_ways p, Nat.mul_comm, Nat.add_comm 1 p, Nat.mul_div_cancel _ (Nat.succ_pos p)]
theorem plain_1 {W p : Nat} (h : (p : Int) = 0) : ((p : Int) == 0) = sb ((ways W p : Nat) : Int) := by
  have : p = 0 := by omega
  subst this
  rw [ways_zero, sb_nat]
  decide
theorem plain_2 {W p : Nat} (h : (p : Int) = ((W + p : Nat) : Int)) : ((p : Int) == ((W + p : Nat) : Int)) = sb ((ways W p : Nat) : Int) := by
  have : W = 0 := by omega
  subst this
  rw [zero_ways, h]
  simp
  rfl
/-- from k on, for f places, no number of ways is one bit alone (acc is that at k) -/
def scan (W : Nat) : Nat → Nat → Nat → Bool
  | 0, _, _ => true
  | f + 1, k, acc => (Nat.blt k 2 || !Nat.beq (Nat.land acc (acc - 1)) 0) && scan W f (k + 1) (acc * (W + (k + 1)) / (k + 1))
theorem scan_says {W : Nat} : ∀ (f k : Nat), scan W f k (ways W k) = true → ∀ j, k ≤ j → j < k + f → 2 ≤ j → ways W j &&& (ways W j - 1) ≠ 0
  | 0, k, _, j, h1, h2, _ => absurd h2 (by omega)
  | f + 1, k, h, j, h1, h2, h3 => by
    have h' : ((Nat.blt k 2 || !Nat.beq (Nat.land (ways W k) (ways W k - 1)) 0) && scan W f (k + 1) (ways W (k + 1))) = true := h
    rw [Bool.and_eq_true] at h'
    by_cases e : j = k
    · subst e
      have hb := h'.1
      intro h0
      have hz : Nat.land (ways W j) (ways W j - 1) = 0 := h0
      rw [hz] at hb
      simp [Nat.blt] at hb
      omega
    · exact scan_says f (k + 1) h'.2 j (by omega) (by omega) h3
def grid (a n : Nat) : Bool := (List.range n).all fun i => scan (a + i) 40 0 1
theorem grid1 : grid 2 60 = true := by decide +kernel
theorem grid2 : grid 62 60 = true := by decide +kernel
theorem grid3 : grid 122 60 = true := by decide +kernel
theorem grid4 : grid 182 74 = true := by decide +kernel
theorem grid_says {a n W p : Nat} (h : grid a n = true) (h1 : a ≤ W) (h2 : W < a + n) (hp : 2 ≤ p) (hp2 : p < 40) : ways W p &&& (ways W p - 1) ≠ 0 := by
  have := List.all_eq_true.mp h (W - a) (List.mem_range.mpr (by omega))
  have e : a + (W - a) = W := by omega
  rw [e] at this
  exact scan_says 40 0 this p (by omega) (by omega) hp
theorem not_power {W p : Nat} (hW : 2 ≤ W) (hW2 : W < 256) (hp : 2 ≤ p) (hp2 : p < 40) : sb ((ways W p : Nat) : Int) = false := by
  have : ways W p &&& (ways W p - 1) ≠ 0 := by
    by_cases h1 : W < 62
    · exact grid_says grid1 hW h1 hp hp2
    · by_cases h2 : W < 122
      · exact grid_says grid2 (by omega) h2 hp hp2
      · by_cases h3 : W < 182
        · exact grid_says grid3 (by omega) h3 hp hp2
        · exact grid_says grid4 (by omega) hW2 hp hp2
  rw [sb_nat, decide_eq_false this, Bool.and_false]
theorem plain_4 {W p : Nat} (hWp : W + p < 256) (hp : p < 40) (h0 : (p : Int) ≠ 0) (h1 : (p : Int) ≠ ((W + p : Nat) : Int)) (ha : (([(p : Int), ((W + p : Nat) : Int) - (p : Int)] : List Int).any fun x => x == 1) = false) :
    (([(p : Int), ((W + p : Nat) : Int) - (p : Int)] : List Int).any fun x => x == 1) = sb ((ways W p : Nat) : Int) := by
  rw [ha]
  simp only [List.any_cons, List.any_nil, Bool.or_false, Bool.or_eq_false_iff, beq_eq_false_iff_ne, ne_eq] at ha
  exact (not_power (by omega) (by omega) (by omega) hp).symm
theorem plain_some {W p : Nat} (hWp : W + p < 256) (h0 : (p : Int) ≠ 0) (ha : (([(p : Int), ((W + p : Nat) : Int) - (p : Int)] : List Int).any fun x => x == 1) = true) :
    sb ((ways W p : Nat) : Int) = (pop (W + p) == 1) := by
  simp only [List.any_cons, List.any_nil, Bool.or_false, Bool.or_eq_true, beq_iff_eq] at ha
  have hs := single_eq hWp
  have e : ways W p = W + p := by
    rcases ha with h | h
    · have : p = 1 := by omega
      subst this
      exact ways_one W
    · have : W = 1 := by omega
      subst this
      exact one_ways p
  rw [e, ← hs, Bool.eq_iff_iff]
  simp
  omega
end
section
open PySem PySem.W PyProof.Rows PySem.Calls PySem.StrLaws
set_option maxRecDepth 100000
set_option maxHeartbeats 4000000
abbrev SEP : Str := Str.ofString ", "
theorem sep_list : SEP.cps.toList = [44, 32] := by decide
theorem sep_len : SEP.length = 2 := by decide
theorem at_iff (x : Str) (i : Nat) : At x SEP x.length i ↔ ∃ r, x.cps.toList.drop i = 44 :: 32 :: r := by
  unfold At
  rw [subAt_eq, sep_len, sep_list]
  have hn : x.cps.toList.length = x.length := by simp [Str.length]
  constructor
  · rintro ⟨h1, h2⟩
    have h3 := eq_of_beq h2
    refine ⟨(x.cps.toList.drop i).drop 2, ?_⟩
    have := List.take_append_drop 2 (x.cps.toList.drop i)
    rw [h3] at this
    exact this.symm
  · rintro ⟨r, h⟩
    refine ⟨?_, by rw [h]; rfl⟩
    have h2 := congrArg List.length h
    rw [List.length_drop, hn] at h2
    simp only [List.length_cons] at h2
    omega
theorem no_at {x : Str} {a k : Nat} {u v : List Nat} (h : x.cps.toList.drop a = u ++ v) (hu : 44 ∉ u) (h1 : a ≤ k) (h2 : k < a + u.length) : ¬ At x SEP x.length k := by
  rw [at_iff]
  rintro ⟨r, hr⟩
  have e : x.cps.toList.drop k = (u ++ v).drop (k - a) := by rw [← h, List.drop_drop]; congr 1; omega
  rw [e, List.drop_append_of_le_length (by omega)] at hr
  cases hd : u.drop (k - a) with
  | nil =>
    have := congrArg List.length hd
    rw [List.length_drop, List.length_nil] at this
    omega
  | cons y t =>
    rw [hd] at hr
    have hy : y = 44 := by injection hr
    exact hu (List.mem_of_mem_drop (i := k - a) (by rw [hd, hy]; exact List.mem_cons_self))
theorem join_two (w y : Str) (r : List Str) : (Str.join SEP (w :: y :: r)).cps.toList = w.cps.toList ++ (44 :: 32 :: (Str.join SEP (y :: r)).cps.toList) := by
  show (w ++ SEP ++ Str.join SEP (y :: r)).cps.toList = _
  rw [Str.cps_append, Str.cps_append, Array.toList_append, Array.toList_append, sep_list, List.append_assoc]
  rfl
theorem sub_of {x w : Str} {a c : Nat} {v : List Nat} (h : x.cps.toList.drop a = w.cps.toList ++ v) (hc : c = a + w.length) : Builtin.Str.strSub x a c = w := by
  apply Str.ext'
  apply Array.toList_inj.mp
  have hn : w.cps.toList.length = w.length := by simp [Str.length]
  have e : c - a = w.cps.toList.length := by omega
  rw [strSub_toList, h, e, List.take_left]
theorem parts_join (x : Str) : ∀ (ws : List Str) (a f : Nat) (cuts : List Nat), ws ≠ [] → (∀ w ∈ ws, 44 ∉ w.cps.toList) → x.cps.toList.drop a = (Str.join SEP ws).cps.toList → a ≤ x.length →
    ChainG x SEP x.length a cuts f → (∀ k, f ≤ k → ¬ At x SEP x.length k) → partsFrom x SEP.length a cuts = ws
  | [], _, _, _, h, _, _, _, _, _ => absurd rfl h
  | [w], a, f, cuts, _, hw, hd, ha, hC, hf => by
    have hd' : x.cps.toList.drop a = w.cps.toList ++ [] := by rw [List.append_nil]; exact hd
    have hnx : x.cps.toList.length = x.length := by simp [Str.length]
    have hnw : w.cps.toList.length = w.length := by simp [Str.length]
    have hlen : x.length - a = w.length := by
      have := congrArg List.length hd'
      rw [List.append_nil, List.length_drop, hnx, hnw] at this
      exact this
    cases cuts with
    | nil =>
      show [Builtin.Str.strSub x a x.length] = [w]
      rw [sub_of hd' (by omega)]
    | cons c r =>
      have hA := hC.2.1
      have hlt := hA.1
      exact absurd hA (no_at hd' (hw w List.mem_cons_self) hC.1 (by rw [sep_len] at hlt; omega))
  | w :: y :: r, a, f, cuts, _, hw, hd, ha, hC, hf => by
    rw [join_two] at hd
    have hnx : x.cps.toList.length = x.length := by simp [Str.length]
    have hnw : w.cps.toList.length = w.length := by simp [Str.length]
    have hdc : x.cps.toList.drop (a + w.length) = 44 :: 32 :: (Str.join SEP (y :: r)).cps.toList := by
      rw [← List.drop_drop, hd, ← hnw, List.drop_left]
    have hAt : At x SEP x.length (a + w.length) := (at_iff _ _).mpr ⟨_, hdc⟩
    cases cuts with
    | nil =>
      have e : f = a := hC
      exact absurd hAt (hf _ (by omega))
    | cons c cs =>
      obtain ⟨h1, h2, h3, h4⟩ := hC
      have hc : c = a + w.length := by
        refine Nat.le_antisymm (Nat.le_of_not_lt fun h => h3 _ (by omega) h hAt) (Nat.le_of_not_lt fun h => ?_)
        exact no_at hd (hw w List.mem_cons_self) h1 (by omega) h2
      have hd2 : x.cps.toList.drop (c + SEP.length) = (Str.join SEP (y :: r)).cps.toList := by
        rw [← List.drop_drop, hc, hdc, sep_len]
        rfl
      have h5 : c + SEP.length ≤ x.length := h2.1
      show Builtin.Str.strSub x a c :: partsFrom x SEP.length (c + SEP.length) cs = _
      rw [parts_join x (y :: r) (c + SEP.length) f cs (by simp) (fun z hz => hw z (List.mem_cons_of_mem _ hz)) hd2 h5 h4 hf, sub_of hd hc]
theorem kind_one (x : Str) : 1 ≤ Builtin.Str.strKind x := by
  unfold Builtin.Str.strKind
  split
  · omega
  · split <;> omega
theorem sep_kind : Builtin.Str.strKind SEP = 1 := by decide +kernel
theorem txt_join (ws : List Str) : Txt.join SEP ws = Str.join SEP ws := glued_eq_join _ _
theorem split_words {ws : List Str} (hne : ws ≠ []) (hw : ∀ w ∈ ws, 44 ∉ w.cps.toList) : Txt.split (Txt.join SEP ws) SEP = ws := by
  rw [txt_join]
  generalize hx : Str.join SEP ws = x
  obtain ⟨f, hC, hf⟩ := occ_tight x SEP (by rw [sep_len]; omega)
  have key := parts_join x ws 0 f _ hne hw (by rw [List.drop_zero, hx]) (Nat.zero_le _) hC hf
  unfold Txt.split
  split
  · rename_i hc
    rw [Bool.or_eq_true, decide_eq_true_eq, decide_eq_true_eq, sep_kind] at hc
    have hk := kind_one x
    have hl : x.length < SEP.length := by omega
    cases ho : Builtin.Str.occurrences x SEP 0 x.length (x.length + 1) with
    | nil =>
      rw [ho] at key
      rw [← key]
      show [x] = [Builtin.Str.strSub x 0 x.length]
      rw [sub_whole]
    | cons c r =>
      rw [ho] at hC
      have := hC.2.1.1
      omega
  · split
    · rename_i hc
      have ho := List.isEmpty_iff.mp hc
      rw [ho] at key
      rw [← key]
      show [x] = [Builtin.Str.strSub x 0 x.length]
      rw [sub_whole]
    · rw [partsBetween_eq]; exact key
theorem found_words {ws : List Str} (hne : ws ≠ []) (hw : ∀ w ∈ ws, 44 ∉ w.cps.toList) : (!(Builtin.Str.occurrences (Txt.join SEP ws) SEP 0 (Txt.join SEP ws).length 1).isEmpty) = decide (2 ≤ ws.length) := by
  rw [txt_join, Bool.eq_iff_iff, found_iff, decide_eq_true_eq]
  have e : (∃ i, i + SEP.length ≤ (Str.join SEP ws).length ∧ Builtin.Str.subAt (Str.join SEP ws) SEP i = true) ↔ ∃ i, At (Str.join SEP ws) SEP (Str.join SEP ws).length i := Iff.rfl
  rw [e]
  match ws, hne with
  | [w], _ =>
    constructor
    · rintro ⟨i, hi⟩
      have hd : (Str.join SEP [w]).cps.toList.drop 0 = w.cps.toList ++ [] := by rw [List.append_nil]; rfl
      have hnw : w.cps.toList.length = w.length := by simp [Str.length]
      have h1 : i + SEP.length ≤ w.length := hi.1
      rw [sep_len] at h1
      exact absurd hi (no_at hd (hw w List.mem_cons_self) (Nat.zero_le _) (by omega))
    · intro h; simp at h
  | w :: y :: r, _ =>
    constructor
    · intro _; simp
    · intro _
      refine ⟨w.length, (at_iff _ _).mpr ⟨(Str.join SEP (y :: r)).cps.toList, ?_⟩⟩
      have hnw : w.cps.toList.length = w.length := by simp [Str.length]
      rw [join_two, ← hnw, List.drop_left]
end
section
open PySem PySem.W PyProof.Rows PySem.Calls PySem.StrLaws
set_option maxRecDepth 100000
set_option maxHeartbeats 4000000
theorem row_plain : (ROW.all fun x => !(x.cps.toList.contains 44) && PyData.strOk x) = true := by decide +kernel
theorem row_mem {x : Str} (h : x ∈ ROW) : 44 ∉ x.cps.toList ∧ PyData.strOk x = true := by
  have := List.all_eq_true.mp row_plain x h
  rw [Bool.and_eq_true, Bool.not_eq_true', ← Bool.not_eq_true, List.contains_iff_mem] at this
  exact this
theorem row8_sub {sh : Nat} {x : Str} (h : x ∈ row8 sh) : x ∈ ROW := List.mem_of_mem_drop (List.mem_of_mem_take h)
theorem row8_len {sh : Nat} (h : sh < 25) : (row8 sh).length = 8 := by
  unfold row8
  rw [List.length_take, List.length_drop, row_len]; omega
theorem row8_ok (sh : Nat) : ∀ x ∈ row8 sh, PyData.strOk x = true := fun x hx => (row_mem (row8_sub hx)).2
theorem row8_nodup (sh : Nat) : (row8 sh).Nodup := row_nodup.sublist ((List.take_sublist _ _).trans (List.drop_sublist _ _))
theorem row8_at {sh i : Nat} (h : sh < 25) (hi : i < 8) : (row8 sh).getD i Str.empty = word (sh + i) := by
  unfold row8
  rw [List.getD_eq_getElem?_getD, List.getElem?_take_of_lt hi, List.getElem?_drop, row_at (by omega)]
  rfl
theorem getD_or (sh i : Nat) : (row8 sh).getD i Str.empty ∈ row8 sh ∨ (row8 sh).getD i Str.empty = Str.empty := by
  rw [List.getD_eq_getElem?_getD]
  cases h : (row8 sh)[i]? with
  | none => exact .inr rfl
  | some x => exact .inl (List.mem_of_getElem? h)
theorem tx_each {sh n : Nat} {x : Str} (h : x ∈ tx (row8 sh) (bits n)) : x ∈ ROW ∨ x = Str.empty := by
  obtain ⟨i, _, rfl⟩ := List.mem_map.mp h
  rcases getD_or sh i with e | e
  · exact .inl (row8_sub e)
  · exact .inr e
theorem tx_plain {sh n : Nat} {x : Str} (h : x ∈ tx (row8 sh) (bits n)) : 44 ∉ x.cps.toList ∧ PyData.strOk x = true ∧ x.length ≤ 20 := by
  rcases tx_each h with e | e
  · exact ⟨(row_mem e).1, (row_mem e).2, of_decide_eq_true (List.all_eq_true.mp row_short x e)⟩
  · subst e; exact ⟨by decide, by decide +kernel, by decide⟩
theorem lay_row (sh n : Nat) : PyData.canLayAll0 ((tx (row8 sh) (bits n)).map PyData.str) = true := lay_strs fun _ hx => (tx_plain hx).2.1
theorem tx_len (sh n : Nat) : (tx (row8 sh) (bits n)).length = pop n := by unfold tx pop; rw [List.length_map]
theorem tx_sum (sh n : Nat) : ((tx (row8 sh) (bits n)).map (·.length)).sum ≤ 160 ∧ (tx (row8 sh) (bits n)).length ≤ 8 := by
  have h1 := sum_short fun x (hx : x ∈ tx (row8 sh) (bits n)) => (tx_plain hx).2.2
  have h2 := pop_le n
  rw [tx_len] at *
  omega
theorem tx_fits (sh n : Nat) : ((tx (row8 sh) (bits n)).map (·.length)).sum + (tx (row8 sh) (bits n)).length ≤ 1048576 := by
  have := tx_sum sh n
  omega
theorem split_small {p sh : Nat} (_ : p < 256) : (Txt.join (Str.ofString ", ") (tx (row8 sh) (bits p))).length + 2 ≤ sizeLine := by
  have h1 := tx_sum sh p
  have h2 := join_length_le SEP (tx (row8 sh) (bits p))
  rw [← txt_join, sep_len] at h2
  rw [sizeLine_eq]
  show (Txt.join SEP (tx (row8 sh) (bits p))).length + 2 ≤ _
  omega

theorem filter_none {l : List Nat} {f : Nat → Bool} (h : ∀ i ∈ l, f i = false) : l.filter f = [] := by
  rw [List.filter_eq_nil_iff]
  intro i hi
  rw [h i hi]; exact Bool.false_ne_true
theorem bits_shift {p sh : Nat} (hp : p < 256) (hsh : sh < 25) : (List.range 32).filter (p * 2 ^ sh).testBit = (bits p).map fun i => sh + i := by
  have e : 32 = sh + (8 + (24 - sh)) := by omega
  rw [e, List.range_add, List.filter_append, List.range_add, List.map_append, List.filter_append]
  rw [filter_none (l := List.range sh) (fun i hi => by
    have := List.mem_range.mp hi
    rw [Nat.testBit_mul_two_pow, decide_eq_false (by omega), Bool.false_and])]
  rw [filter_none (l := ((List.range (24 - sh)).map fun x => 8 + x).map fun x => sh + x) (fun i hi => by
    obtain ⟨j, hj, rfl⟩ := List.mem_map.mp hi
    obtain ⟨k, hk, rfl⟩ := List.mem_map.mp hj
    rw [Nat.testBit_mul_two_pow, Nat.add_sub_cancel_left, Nat.testBit_lt_two_pow (Nat.lt_of_lt_of_le hp (Nat.pow_le_pow_right (n := 2) (by decide) (Nat.le_add_right 8 k) : 2 ^ 8 ≤ 2 ^ (8 + k))), Bool.and_false])]
  rw [List.nil_append, List.append_nil, List.filter_map]
  unfold bits
  congr 1
  apply List.filter_congr
  intro i _
  show (p * 2 ^ sh).testBit (sh + i) = p.testBit i
  rw [Nat.testBit_mul_two_pow, Nat.add_sub_cancel_left, decide_eq_true (by omega), Bool.true_and]
theorem told_row {p sh : Nat} (h : p ≠ 0) (hp : p < 256) (hsh : sh < 25) : told (p * 2 ^ sh) = tx (row8 sh) (bits p) := by
  have h2 := Nat.two_pow_pos sh
  have h3 : 2 ^ sh ≤ 2 ^ 24 := Nat.pow_le_pow_right (by decide) (by omega)
  unfold told
  rw [if_pos ⟨Nat.mul_ne_zero h (by omega), Nat.lt_of_le_of_lt (Nat.mul_le_mul (Nat.le_of_lt_succ hp : p ≤ 255) h3) (by decide)⟩]
  unfold wordsTo tx
  have e : ((List.range 32).filter fun j => (p * 2 ^ sh).testBit j) = (bits p).map fun i => sh + i := bits_shift hp hsh
  rw [e, List.map_map]
  apply List.map_congr_left
  intro i hi
  exact (row8_at hsh (bits_lt hi)).symm
theorem told_zero : told 0 = [Str.ofString "0x0"] := by decide +kernel
theorem pretty_none : prettyText 0 = Str.ofString "0x0" := by
  unfold prettyText
  rw [told_zero]
  rfl
theorem pretty_zero {p sh : Nat} (h : p = 0) : prettyText (p * 2 ^ sh) = Str.ofString "0x0" := by
  rw [h, Nat.zero_mul]; exact pretty_none
theorem pretty_join {p sh : Nat} (h : p ≠ 0) (hp : p < 256) (hsh : sh < 25) : prettyText (p * 2 ^ sh) = Txt.join (Str.ofString ", ") (tx (row8 sh) (bits p)) := by
  unfold prettyText
  rw [told_row h hp hsh]
theorem tx_ne {p sh : Nat} (h : p ≠ 0) (hp : p < 256) : tx (row8 sh) (bits p) ≠ [] := by
  obtain ⟨a, b, e⟩ := bits_cons h hp
  rw [e]; exact List.cons_ne_nil _ _
theorem split_join {p sh : Nat} (h : p ≠ 0) (hp : p < 256) (_ : sh < 25) : Txt.split (Txt.join (Str.ofString ", ") (tx (row8 sh) (bits p))) (Str.ofString ", ") = tx (row8 sh) (bits p) :=
  split_words (tx_ne h hp) fun _ hx => (tx_plain hx).1
theorem none_split : Txt.split (Str.ofString "0x0") SEP = [Str.ofString "0x0"] := by decide +kernel
theorem none_row : (ROW.contains (Str.ofString "0x0") || Str.ofString "0x0" == Str.empty) = false := by decide +kernel
theorem pretty_ne {p sh : Nat} (h : p ≠ 0) (hp : p < 256) (hsh : sh < 25) : (prettyText (p * 2 ^ sh) != Str.ofString "0x0") = true := by
  rw [pretty_join h hp hsh, bne_iff_ne]
  intro e
  have h1 := split_join h hp hsh
  rw [e, none_split] at h1
  have h2 : Str.ofString "0x0" ∈ tx (row8 sh) (bits p) := by rw [← h1]; exact List.mem_cons_self
  have h3 := none_row
  rw [Bool.or_eq_false_iff] at h3
  rcases tx_each h2 with e | e
  · have := List.contains_iff_mem.mpr e
    rw [h3.1] at this; cases this
  · have : (Str.ofString "0x0" == Str.empty) = true := beq_iff_eq.mpr e
    rw [h3.2] at this; cases this
theorem due_zero {T sh : Nat} (h : T = 0) : prettyText (T * 2 ^ sh) = Str.ofString "0x0" ∧ prettyText (T * 2 ^ 29) = Str.ofString "0x0" ∧ hb T = -1 ∧ hb (T * 2 ^ (70 + sh)) = -1 := by
  subst h
  rw [Nat.zero_mul, Nat.zero_mul, Nat.zero_mul]
  exact ⟨pretty_none, pretty_none, rfl, rfl⟩
theorem across_places : ((List.range 256).all fun T => ((List.range 32).filter (T * 2 ^ 29).testBit == ((bits T).map fun q => 29 + q).filter fun p => decide (p < 32)) && aboveOf ((bits T).map fun q => 29 + q) == T / 8) = true := by decide +kernel
theorem across_hex : ((List.range 32).all fun q => q == 0 || ((signs 8 q Str.empty != Str.ofString "") && hexText (q * 2 ^ 32) == (Str.ofString "0x" ++ signs 8 q Str.empty) ++ Str.ofString "00000000")) = true := by decide +kernel
theorem signs_none : (signs 8 0 Str.empty != Str.ofString "") = false := by decide +kernel
theorem told_across {T : Nat} (h : ¬ T = 0) (h2 : T < 256) : told (T * 2 ^ 29) = lawTold ((bits T).map fun q => 29 + q) := by
  have h3 := List.all_eq_true.mp across_places T (List.mem_range.mpr h2)
  rw [Bool.and_eq_true, beq_iff_eq, beq_iff_eq] at h3
  have e : wordsTo (T * 2 ^ 29) 32 = (((bits T).map fun q => 29 + q).filter fun p => decide (p < 32)).map word := by
    unfold wordsTo
    rw [← h3.1]
  unfold told lawTold
  rw [h3.2, e]
  by_cases h8 : T < 8
  · have e0 : T / 8 = 0 := by omega
    rw [e0, signs_none, if_pos ⟨by omega, by omega⟩]
    simp
  · rw [if_neg (by omega)]
    have h4 := List.all_eq_true.mp across_hex (T / 8) (List.mem_range.mpr (by omega))
    rw [Bool.or_eq_true, Bool.and_eq_true, beq_iff_eq, beq_iff_eq] at h4
    rcases h4 with h4 | h4
    · omega
    · rw [if_pos h4.1]
      have e1 : cut (T * 2 ^ 29) 32 = T / 8 * 2 ^ 32 := by unfold cut; omega
      rw [e1, h4.2]
theorem pretty_across {T : Nat} (h : ¬ T = 0) (h2 : T < 256) : prettyText (T * 2 ^ 29) = lawText ((bits T).map fun q => 29 + q) := by
  unfold prettyText lawText
  rw [told_across h h2]

theorem hex_ok : ((List.range 32).all fun q => PyData.strOk (hexText (q * 2 ^ 32))) = true := by decide +kernel
theorem told_ok {n : Nat} (h : n < 2 ^ 37) : ∀ x ∈ told n, PyData.strOk x = true := by
  have hw : ∀ x ∈ wordsTo n 32, PyData.strOk x = true := fun x hx => by
    obtain ⟨i, hi, rfl⟩ := List.mem_map.mp hx
    have hi2 := List.mem_range.mp (List.mem_filter.mp hi).1
    exact (row_mem (List.mem_of_getElem? (row_at hi2))).2
  intro x hx
  unfold told at hx
  split at hx
  · exact hw x hx
  · rcases List.mem_append.mp hx with hx | hx
    · exact hw x hx
    · rw [List.mem_singleton.mp hx]
      have : n / 2 ^ 32 < 32 := by omega
      exact List.all_eq_true.mp hex_ok _ (List.mem_range.mpr this)
theorem ok_append {a b : Str} (ha : PyData.strOk a = true) (hb : PyData.strOk b = true) : PyData.strOk (a ++ b) = true := by
  unfold PyData.strOk at *
  rw [Str.cps_append, Array.all_append, ha, hb]; rfl
theorem ok_join : ∀ {ws : List Str}, (∀ x ∈ ws, PyData.strOk x = true) → PyData.strOk (Str.join SEP ws) = true
  | [], _ => by decide +kernel
  | [w], h => h w List.mem_cons_self
  | w :: y :: r, h => by
    show PyData.strOk (w ++ SEP ++ Str.join SEP (y :: r)) = true
    exact ok_append (ok_append (h w List.mem_cons_self) (by decide +kernel)) (ok_join fun x hx => h x (List.mem_cons_of_mem _ hx))
theorem pretty_ok {n : Nat} (h : n < 2 ^ 37) : PyData.strOk (prettyText n) = true := by
  have := ok_join (told_ok h)
  rw [← txt_join] at this
  exact this
theorem four_lay {T sh : Nat} (h : T < 256) (hsh : sh < 25) (c d : Int) : PyData.canLayAll0 [.str (prettyText (T * 2 ^ sh)), .str (prettyText (T * 2 ^ 29)), .int c, .int d] = true := by
  show (PyData.strOk (prettyText (T * 2 ^ sh)) && (PyData.strOk (prettyText (T * 2 ^ 29)) && true)) = true
  rw [pretty_ok (small_sh h hsh), pretty_ok (small_29 h)]; rfl
theorem plain_3 {W p sh : Nat} (hWp : W + p < 256) (_ : p < 40) (hsh : sh < 25) (h0 : (p : Int) ≠ 0) (_ : (p : Int) ≠ ((W + p : Nat) : Int)) (ha : (([(p : Int), ((W + p : Nat) : Int) - (p : Int)] : List Int).any fun x => x == 1) = true) :
    (!!(Builtin.Str.occurrences (prettyText ((W + p) * 2 ^ sh)) (Str.ofString ", ") 0 (prettyText ((W + p) * 2 ^ sh)).length 1).isEmpty) = sb ((ways W p : Nat) : Int) := by
  have hT : W + p ≠ 0 := by omega
  rw [plain_some hWp h0 ha, pretty_join hT hWp hsh]
  have h1 := found_words (tx_ne (sh := sh) hT hWp) fun x hx => (tx_plain hx).1
  have h2 : (!(Builtin.Str.occurrences (Txt.join (Str.ofString ", ") (tx (row8 sh) (bits (W + p)))) (Str.ofString ", ") 0 (Txt.join (Str.ofString ", ") (tx (row8 sh) (bits (W + p)))).length 1).isEmpty) = decide (2 ≤ (tx (row8 sh) (bits (W + p))).length) := h1
  rw [h2, tx_len]
  have h3 : 1 ≤ pop (W + p) := by
    obtain ⟨a, b, e⟩ := bits_cons hT hWp
    unfold pop
    rw [e]; simp
  rw [Bool.eq_iff_iff]
  simp
  omega
end
section
open PySem PySem.W PyProof.Rows PySem.Calls
set_option maxRecDepth 100000
set_option maxHeartbeats 4000000
local macro_rules | `(tactic| walk_at "mine enterC") => `(tactic| (
  (case ho => k_is); (case hcd => k_is); (case hbind => exact rfl); (case hkind => exact rfl); (case hnd => decide +kernel); (case hco => exact rfl); (case hgen => exact rfl); (case hk => exact rfl)))
local macro_rules | `(tactic| walk_at "exec Assign cons ListComp") => `(tactic| refine Stop.of ?_)
local macro_rules | `(tactic| walk_at "call ref") => `(tactic| refine Stop.of ?_)
local macro_rules | `(tactic| walk_at "call type:enumerate") => `(tactic| refine Stop.of ?_)
local macro_rules | `(tactic| walk_at "subscriptTail") => `(tactic| refine Stop.of ?_)

local macro_rules | `(tactic| walk_at "exec For Name BinOp cons nil") => `(tactic| refine Stop.of ?_)
theorem law_call (w mean mg mb) (law_turn : TurnSays w mean mg mb) (l : Addr) (ns : List Int) (hl : ns.length ≤ 63) : ∀ (dp un : Nat) (gd : Option (List Code)) (outer : List Env) (base : Heap) (s : Shared) (R : Result → Shared → Prop),
    Below (AR dp un gd outer) base outer s.heap → (hd.heap_39 w.params).In s.heap → TopM mean mg mb s.heap → Ints l ns s.heap → dp + 10 < recursionLimit → un + 300 < cLine →
    (∀ (h' : Heap) (tk' : Nat), (∃ L m, Fr s.heap L h' m) → R (.ok (.ret (.bool true))) { s with heap := h', toks := tk' }) →
    codeAny (model PR w) (AR dp un gd outer) (.call (.ref 68) ⟨[.ref l], []⟩) R s := by
  intro dp un gd outer base s R B X T hpre hdp hu hret
  k_dflt (refine' enterCode [(Str.ofString "script", .ref l)] B X T ?ho ?hcd (by omega) ?hbind ?hkind ?hnd ?hco ?hgen ?hk ?h)
  walk_at "mine enterC"
  intro L' h₁ tk cells F N Y
  k_cells Y
  rename_i oR oS dR dS
  have F1 : Fr s.heap L' h₁ (fun _ => none) := F
  have dR' : oR.data = Data.cell none := dR
  have dS' : oS.data = Data.cell (some (.ref l)) := dS
  clear dR dS F
  k_steps
  refine Stop.mk ?_
  refine use (law_row w mean mg mb) B F1 X N T rfl rfl trivial (by omega) (by omega) fun v h2 tk2 hk2 R2 F2 N2 => ?_
  obtain ⟨ev, kE, vE, rfl, hSE, N3, hne3⟩ := R2.news F1 N hk2
  clear N2 R2 hk2 F1 N
  k_steps
  rename Fr _ _ _ _ => F4
  rename News _ _ _ _ => N4
  refine Stop.mk ?_
  k_dflt (refine' assignPair (cl := [(Str.ofString "script", L' + 1)]) s.heap rfl rfl rfl (by decide) rfl (by decide) rfl rfl (by decide +kernel) rfl rfl ?_)
  k_steps
  refine Stop.mk ?_
  rename Fr _ _ _ _ => F5
  rename News _ _ _ _ => N5
  rename_i l1 h5 hl1
  refine call_enumerate_list (News.isList N5 (List.Mem.head _)) fun h6 hE hI hsz6 hk6 => ?_
  have F6 := F5.keeps hk6
  have N6 := newsUp N5 hk6
  have hsz5 := fun p hp => Heap.lt_size (N5 p hp).1
  have hLlt := F5.ns.lt
  have hfresh : ∀ a, h5.objs.size ≤ a → s.heap.get? a = none := fun a ha => by
    cases e : s.heap.get? a with
    | none => rfl
    | some o' => exact absurd (Heap.lt_size (F5.keep a o' e)) (Nat.not_lt.mpr ha)
  dsimp only at hE hI hsz6 hsz5 hLlt hfresh ⊢
  generalize hz : h5.objs.size = z at hE hI hsz6 hsz5 hLlt hfresh ⊢
  have hL6 := News.isList N6 (List.Mem.head _)
  have hl1z := hsz5 _ (List.Mem.head _)
  dsimp only at hl1z
  refine ⟨_, _, _, _, _, _, fun y => ∃ (p : Nat) (t : Tok), p < 40 ∧ y = .int (p : Int) t, rfl, F6, N6, hE, hI, hL6, ⟨Nat.succ_ne_self z, Nat.ne_of_lt (Nat.lt_succ_of_lt hl1z), Nat.ne_of_lt hl1z, Nat.ne_of_gt (Nat.lt_succ_of_lt hLlt), Nat.ne_of_gt hLlt⟩, ⟨hfresh _ (Nat.le_succ z), hfresh _ (Nat.le_refl z)⟩,
    fun p hp => ⟨Nat.ne_of_lt (Nat.lt_succ_of_lt (hsz5 p hp)), Nat.ne_of_lt (hsz5 p hp)⟩, Nat.le_of_ble_eq_true rfl, ?_, ?_⟩
  · intro C i t x s₃ m₃ E' hx hC hn hma hmb F7 N7
    have hxb : ∃ (b : Int) (t : Tok), x = .int b t ∧ i < 6 := by
      rcases i with _ | _ | _ | _ | _ | _ | i
      · exact ⟨_, _, (Option.some.inj hx).symm, by decide⟩
      · exact ⟨_, _, (Option.some.inj hx).symm, by decide⟩
      · exact ⟨_, _, (Option.some.inj hx).symm, by decide⟩
      · exact ⟨_, _, (Option.some.inj hx).symm, by decide⟩
      · exact ⟨_, _, (Option.some.inj hx).symm, by decide⟩
      · exact ⟨_, _, (Option.some.inj hx).symm, by decide⟩
      · simp at hx
    obtain ⟨b, tb, rfl, hi6⟩ := hxb
    clear hx F6 N6 F5 N5 hsz5 hk6 hL6
    have hpre7 := hpre.keeps F7.keep
    k_steps
    refine Stop.mk ?_
    refine use (law_sum w mean mg mb l ns (i : Int) t (by omega) hl) B F7 X N7 T rfl rfl hpre7 (by omega) (by omega) fun v h8 tk8 hk8 ⟨ks, ts, he⟩ F8 N8 => ?_
    subst he
    k_steps
    have hf := fdiv_fmod_facts (b + ks) 40
    obtain ⟨p, hp, hp40⟩ : ∃ p : Nat, (b + ks).fmod 40 = (p : Int) ∧ p < 40 := ⟨((b + ks).fmod 40).toNat, by rw [Int.toNat_of_nonneg (by omega)], by omega⟩
    exact Stop.mk ⟨⟨p, _, hp40, congrArg (fun z => Value.int z _) hp⟩, _, _, rfl, hk8⟩
  · intro D ys h7 tk7 k7 hneD hlen hys F7 N7
    generalize hoL1 : W.listOf #[Value.int 3 _, _, _, _, _, _] _ = oL1 at N7 hneD
    clear hoL1 F6 N6 F5 N5 hsz5 hk6 hL6 hE hI hsz6 hLlt hfresh hl1z hz h6 h5
    have hpre7 := hpre.keeps F7.keep
    k_steps
    refine Stop.mk ?_
    refine use (law_sum w mean mg mb l ns 6 _ (by omega) hl) B F7 X N7 T rfl rfl hpre7 (by omega) (by omega) fun v h8 tk8 hk8 ⟨ks, ts, he⟩ F8 N8 => ?_
    subst he
    have hf := fdiv_fmod_facts (4 + ks) 25
    obtain ⟨sh, hsh, hsh25⟩ : ∃ sh : Nat, (4 + ks).fmod 25 = (sh : Int) ∧ sh < 25 := ⟨((4 + ks).fmod 25).toNat, by rw [Int.toNat_of_nonneg (by omega)], by omega⟩
    clear F7 N7
    k_steps
    rename Fr _ _ _ _ => F9
    rename News _ _ _ _ => N9
    rename_i h9 F8' N8' h10
    clear F8 N8 hk8 hpre7
    have hneR : ∀ p ∈ [(D, W.listOf ys.toArray k7), (l1, oL1), (ev, W.listOf vE.toArray kE), (L' + 1 + 1, oR), (L' + 1, oS)], p.1 ≠ h9.objs.size + 1 := fun p hp => Nat.ne_of_lt (Nat.lt_succ_of_lt (Heap.lt_size (N8' p hp).1))
    clear F8' N8'
    have hvE : vE.length = 32 := by rw [hSE.length, row_len]
    have e8 : (4 + ks).fmod 25 + 8 = ((sh + 8 : Nat) : Int) := by rw [hsh]; rfl
    rw [e8, hsh, slicePick_run vE.toArray sh (sh + 8) (by rw [List.size_toArray, hvE]; omega) (by omega)] at N9
    dsimp only at N9 ⊢
    generalize h9.objs.size + 1 = rv at N9 hneR ⊢
    have hSR : StrsAre ((vE.drop sh).take 8) ((ROW.drop sh).take 8) := strs_take (strs_drop hSE sh) 8
    have e9 : sh + 8 - sh = 8 := by omega
    rw [e9] at N9
    generalize (vE.drop sh).take 8 = vR at N9 hSR
    have hDs : l1 ≠ D ∧ ev ≠ D ∧ L' + 1 + 1 ≠ D ∧ L' + 1 ≠ D := ⟨hneD _ List.mem_cons_self, hneD _ (List.mem_cons_of_mem _ List.mem_cons_self), hneD _ (List.mem_cons_of_mem _ (List.mem_cons_of_mem _ List.mem_cons_self)), hneD _ (List.mem_cons_of_mem _ (List.mem_cons_of_mem _ (List.mem_cons_of_mem _ List.mem_cons_self)))⟩
    have hRs : D ≠ rv ∧ l1 ≠ rv ∧ ev ≠ rv ∧ L' + 1 + 1 ≠ rv ∧ L' + 1 ≠ rv := ⟨hneR _ List.mem_cons_self, hneR _ (List.mem_cons_of_mem _ List.mem_cons_self), hneR _ (List.mem_cons_of_mem _ (List.mem_cons_of_mem _ List.mem_cons_self)), hneR _ (List.mem_cons_of_mem _ (List.mem_cons_of_mem _ (List.mem_cons_of_mem _ List.mem_cons_self))),
      hneR _ (List.mem_cons_of_mem _ (List.mem_cons_of_mem _ (List.mem_cons_of_mem _ (List.mem_cons_of_mem _ List.mem_cons_self))))⟩
    have hEs : L' + 1 + 1 ≠ ev ∧ L' + 1 ≠ ev := ⟨hne3 _ List.mem_cons_self, hne3 _ (List.mem_cons_of_mem _ List.mem_cons_self)⟩
    have hCs : L' + 1 ≠ L' + 1 + 1 := Nat.ne_of_lt (Nat.lt_succ_self _)
    clear hneR hneD hne3
    k_dflt (refine' storeX_C (c := L' + 1 + 1) F9 N9 rfl (.tail (Ne.symm hRs.2.2.2.1) (.tail (Ne.symm hDs.2.2.1) (.tail (Nat.ne_of_gt hl1.2.1) (.tail (Ne.symm hEs.1) (.head (fun p hp => by rw [List.mem_singleton.mp hp]; exact hCs)))))) dR' ?_ ?_ ?_)
    rotate_left
    · rfl
    · rfl
    intro h11 oR2 F11 N11 dR2
    have mkS : ∀ oR : Obj, oR.data = .cell (some (.ref rv)) → Stands sh vE vR rv oR := fun _ h => ⟨hSE, hSR, h, hsh25⟩
    obtain ⟨tsh, mm, H, F12⟩ : ∃ t m', Has m' [(Str.ofString "shift", .int (sh : Int) t), (Str.ofString "parts", .ref D), (Str.ofString "every", .ref ev)] ∧ Fr s.heap L' h11 m' := ⟨_, _, .cons (by rw [hsh]; rfl) (.cons rfl (.cons rfl .nil)), F11⟩
    have F13 := frHas F12 H
    dsimp only [kstB] at F13
    clear F9 N9 F11 F12
    k_steps
    rename Fr _ _ _ _ => F14
    rename News _ _ _ _ => N14
    rename_i lw0 h13 hlw0 h14 h15
    refine Stop.mk ?_
    k_dflt (refine' forWalk s.heap rfl rfl ?_)
    k_steps
    rename Fr _ _ _ _ => F15
    rename News _ _ _ _ => N15
    rename_i l0 h16 F15' N15' hl0 h17
    clear F15' N15'
    dsimp only at N15 F15
    generalize h16.objs.size = lv at N15 ⊢
    rename_i t0 _ _ _
    obtain ⟨t0, N16⟩ : ∃ t0, News s.heap L' h17 [(lv, W.listOf (List.toArray (.int 0 t0 :: ys)) 0), (l0, W.listOf #[Value.int 0 t0] 0), (lw0, W.listOf #[] 0), (rv, W.listOf (List.toArray vR) 0), (D, W.listOf ys.toArray k7), (l1, oL1), (ev, W.listOf vE.toArray kE), (L' + 1 + 1, oR2), (L' + 1, oS)] := ⟨_, N15⟩
    clear N15
    have S : Stands sh vE vR rv oR2 := mkS _ dR2
    refine Stop.mk ?_
    generalize hoL : W.listOf (List.toArray (Value.int 0 t0 :: ys)) 0 = oL at N16
    have hlist : Heap.IsList h17 lv (List.toArray (Value.int 0 t0 :: ys)) := by
      have := N16 _ (List.Mem.head _)
      rw [← hoL] at this
      exact ⟨_, this.1, rfl, _, rfl⟩
    have hys6 : ys.length = 6 := hlen
    refine ⟨_, (lw0, W.listOf (List.toArray []) 0) :: ledger L' lv rv ev oL oR2 vE vR kE, _, _, [lv], fun i m nw => ∃ lw k vw Wh tW tsh, Wh ≤ 39 * (i - 1) ∧ nw = (lw, W.listOf (List.toArray vw) k) :: ledger L' lv rv ev oL oR2 vE vR kE ∧ StrsAre vw (tx (row8 sh) (bits Wh)) ∧
      Has m [(Str.ofString "words", .ref lw), (Str.ofString "whole", .int ((Wh : Nat) : Int) tW), (Str.ofString "shift", .int (sh : Int) tsh), (Str.ofString "every", .ref ev)], F15, ?_, IterOf.list rfl hlist, ?_, ⟨lw0, 0, [], 0, _, tsh, Nat.zero_le _, rfl, .nil, .cons rfl (.cons rfl (.cons rfl (.cons rfl .nil)))⟩, ?_, ?_⟩
    · intro p hp
      refine N16 p ?_
      simp only [List.mem_cons, List.not_mem_nil, or_false] at hp ⊢
      rcases hp with rfl | rfl | rfl | rfl | rfl
      · exact .inr (.inr (.inl rfl))
      · exact .inl rfl
      · exact .inr (.inr (.inr (.inl rfl)))
      · exact .inr (.inr (.inr (.inr (.inr (.inr (.inl rfl))))))
      · exact .inr (.inr (.inr (.inr (.inr (.inr (.inr (.inl rfl)))))))
    · intro b hb
      rw [List.mem_singleton.mp hb]
      refine .inr ⟨oL, ?_⟩
      rintro i m nw ⟨lw, k, vw, Wh, tW, tsh, _, rfl, _⟩
      exact List.mem_cons_of_mem _ List.mem_cons_self
    · rintro I i v m₁ nw o h tk hi hv ⟨lw, k, vw, Wh, tW, tsh, hWh, rfl, hSw, Hm⟩ F20 N20 hne
      obtain ⟨p, tp, rfl, hp40, hpi⟩ : ∃ (p : Nat) (tp : Tok), v = .int (p : Int) tp ∧ p < 40 ∧ (i = 0 → p = 0) := by
        cases i with
        | zero => exact ⟨0, t0, (Option.some.inj hv).symm, by decide, fun _ => rfl⟩
        | succ i =>
          have : ys[i]? = some v := by simpa using hv
          obtain ⟨p, tp, h1, h2⟩ := hys v (List.mem_of_getElem? this)
          exact ⟨p, tp, h2, h1, fun e => nomatch e⟩
      have hi7 : i < 7 := by
        have : i < ys.length + 1 := by simpa using hi
        omega
      refine wpAny_mono (law_turn dp un gd outer base s.heap _ L' I lw lv rv ev o oL oR2 vE vR vw kE k sh Wh p tp tW tsh _ B X T hdp hu S hSw hp40 (by omega) ?_ F20 N20) (fun f s' hf => ?_) fun _ _ e => e
      · refine .cons rfl (.cons ?_ (.cons ?_ (.cons ?_ (.cons ?_ .nil))))
        · exact Hm _ (List.Mem.head _)
        · exact Hm _ (List.Mem.tail _ (List.Mem.head _))
        · exact Hm _ (List.Mem.tail _ (List.Mem.tail _ (List.Mem.head _)))
        · exact Hm _ (List.Mem.tail _ (List.Mem.tail _ (List.Mem.tail _ (List.Mem.head _))))
      · obtain ⟨rfl, h', tk', m', lw', k', vw', tW', tsh', rfl, F21, N21, hneI, hSw', Hm'⟩ := hf
        refine ⟨h', tk', m', _, rfl, F21, N21, fun q hq => ?_, lw', k', vw', Wh + p, tW', tsh', ?_, rfl, hSw', Hm'⟩
        · rcases List.mem_cons.mp hq with rfl | hq
          · exact hneI
          · exact hne q (List.mem_cons_of_mem _ hq)
        · by_cases h0 : i = 0
          · have := hpi h0; omega
          · omega
    · rintro m' nw h tk ⟨lw, k, vw, Wh, tW, tsh, hWh, rfl, hSw, Hm⟩ F20 N20
      k_steps
      exact hret _ _ ⟨_, _, F20⟩
end
section
open PySem PySem.W PyProof.Rows PySem.Calls
set_option maxRecDepth 100000
set_option maxHeartbeats 4000000
theorem split_K {prog : Program} {w : World} {A : Around} {E Q : Value → Shared → Prop} {s : Shared} {h₀ : Heap} {L : Addr} {m : Str → Option Value} {news : List (Addr × Obj)} {x y : Str} {t u : Tok} (F : Fr h₀ L s.heap m) (N : News h₀ L s.heap news) (hy : (y.length == 0) = false) (hsz : x.length + 2 ≤ sizeLine)
    (h : ∀ D vl h' k, StrsAre vl (Txt.split x y) → Fr h₀ L h' m → News h₀ L h' ((D, PySem.W.listOf (List.toArray vl) 0) :: news) → Q (.ref D) { s with heap := h', toks := k }) :
    wpAny (model prog w) A (call (.builtin "str.split") [.str x t, .str y u]) Q E s :=
  splitN1A F N hy (fun l h' k e hS _ _ F' N' => h _ (strValues l) h' k (e ▸ hS) F' N') hsz
local macro_rules | `(tactic| walk_at "exec Assign cons ListComp") => `(tactic| refine Stop.of ?_)
local macro_rules | `(tactic| walk_at "eval ListComp") => `(tactic| refine Stop.of ?_)
local macro_rules | `(tactic| walk_at "call ref") => `(tactic| refine Stop.of ?_)
local macro_rules | `(tactic| walk_at "call builtin:list.index") => `(tactic| refine Stop.of ?_)
local macro_rules | `(tactic| walk_at "call builtin:len") => `(tactic| refine Stop.of ?_)
local macro_rules | `(tactic| walk_at "exec Assign cons BoolOp") => `(tactic| refine Stop.of ?_)
local macro_rules | `(tactic| walk_at "call builtin:max") => `(tactic| refine Stop.of ?_)
local macro_rules | `(tactic| walk_at "call builtin:str.split") => `(tactic| refine Stop.of ?_)
local macro_rules | `(tactic| walk_at "call builtin:str.join") => `(tactic| refine Stop.of ?_)
local macro_rules | `(tactic| walk_at "compareOp Eq ref ref") => `(tactic| refine Stop.of ?_)
local macro_rules | `(tactic| walk_at "compareOp NotEq ref ref") => `(tactic| refine Stop.of ?_)
local macro_rules | `(tactic| walk_at "subscriptTail") => `(tactic| refine Stop.of ?_)

local macro_rules | `(tactic| walk_at "exec If") => `(tactic| refine Stop.of ?_)
local macro_rules | `(tactic| walk_at "eval Call") => `(tactic| (with_unfolding_all refine Call_ ?_))

theorem law_turn (w mean mg mb) : TurnSays w mean mg mb := by
  intro dp un gd outer base h₀ s L' I lw lv rv ev oI oL oR vE vR vw kE kw sh W p tp tW tsh m B X T hdp hu S hSw hp hWp H F0 N
  obtain ⟨hSE, hSR, dR, hsh⟩ := S
  have F := frHas F0 H
  dsimp only [kstB] at F
  clear F0
  refine' (id : wpAny (model PR w) (AR (dp + 1) (un + 3) gd (envOfC (Str.ofString "law") (Scope.mk _ _ _ _ _) L' 68 (.ref 67) :: outer)) (execs [_, _, _, _, _, _, _, _, _, _, _, _, _, _, _, _, _] (envOfC (Str.ofString "law") (Scope.mk _ _ _ _ _) L' 68 (.ref 67))) _ _ _ → _) ?_
  dsimp only [ledger] at N
  k_steps
  rename Fr _ _ _ _ => F1
  rename News _ _ _ _ => N1
  refine Stop.mk ?_
  refine use (law_ways w mean mg mb W p _ _ (by omega) (by omega)) B F1 X N1 T rfl rfl trivial (by omega) (by omega) fun v h2 tk2 hk2 ⟨t2, he⟩ F2 N2 => ?_
  subst he
  clear F1 N1 hk2
  k_steps
  rename Fr _ _ _ _ => F3
  rename News _ _ _ _ => N3
  refine Stop.mk ?_
  refine wpAny_If ?_
  rw [ways_v2 hWp] at F3
  obtain ⟨tW1, tw1, tpw, m1, H1, F3'⟩ : ∃ tW1 tw1 tpw m', Has m' [(Str.ofString "power", .int ((2 ^ vv W p : Nat) : Int) tpw), (Str.ofString "ways", .int ((ways W p : Nat) : Int) tw1), (Str.ofString "whole", .int ((W + p : Nat) : Int) tW1), (Str.ofString "part", .int (p : Int) tp), (Str.ofString "words", .ref lw),
      (Str.ofString "shift", .int (sh : Int) tsh), (Str.ofString "every", .ref ev)] ∧ Fr h₀ L' _ m' := ⟨_, _, _, _, .cons rfl (.cons rfl (.cons rfl (.cons rfl (.cons rfl (.cons rfl (.cons rfl .nil)))))), F3⟩
  clear F3
  have F3 := frHas F3' H1
  dsimp only [kstB] at F3
  clear F3'
  k_steps
  refine Stop.mk ?_
  refine use (single_bit w mean mg mb _ _) B F3 X N3 T rfl rfl trivial (by omega) (by omega) fun v h4 tk4 hk4 he F4 N4 => ?_
  have he' : v = .bool (sb ((2 ^ vv W p : Nat) : Int)) := he
  rw [sb_pow] at he'
  subst he'
  clear F3 N3 hk4 he
  k_steps
  refine Stop.mk ?_
  refine use (single_bit w mean mg mb _ _) B F4 X N4 T rfl rfl trivial (by omega) (by omega) fun v h5 tk5 hk5 he F5 N5 => ?_
  have he' : v = .bool (sb (-((2 ^ vv W p : Nat) : Int))) := he
  rw [sb_neg] at he'
  subst he'
  clear F4 N4 hk5 he
  k_steps
  refine Stop.mk ?_
  have e36 : (p : Int) * 2 ^ ((sh : Int)).toNat = ((p * 2 ^ sh : Nat) : Int) := by rw [Int.toNat_natCast]; simp
  rw [e36]
  have hps : p * 2 ^ sh < 2 ^ 37 := small_sh (by omega) hsh
  refine use (pretty w mean mg mb (p * 2 ^ sh) _ hps) B F5 X N5 T rfl rfl trivial (by omega) (by omega) fun v h6 tk6 hk6 ⟨t6, he⟩ F6 N6 => ?_
  subst he
  clear F5 N5 hk6
  k_steps
  rename Fr _ _ _ _ => F7
  rename News _ _ _ _ => N7
  refine Stop.mk ?_
  refine wpAny_mono (Q := fun f s' => Stop (f = .next ∧ ∃ h' tk m' lw1 k1 vw1, s' = { s with heap := h', toks := tk } ∧ Fr h₀ L' h' m' ∧ News h₀ L' h' ((lw1, PySem.W.listOf (List.toArray vw1) k1) :: (I, oI) :: ledger L' lv rv ev oL oR vE vR kE) ∧ StrsAre vw1 (tx (row8 sh) (bits W ++ bits p)) ∧
    Has m' [(Str.ofString "words", .ref lw1), (Str.ofString "power", .int ((2 ^ vv W p : Nat) : Int) tpw), (Str.ofString "ways", .int ((ways W p : Nat) : Int) tw1), (Str.ofString "whole", .int ((W + p : Nat) : Int) tW1), (Str.ofString "part", .int (p : Int) tp), (Str.ofString "shift", .int (sh : Int) tsh), (Str.ofString "every", .ref ev)])) ?_ ?_ (fun _ _ e => e)
  · refine wpAny_If ?_
    by_cases hp0 : p = 0
    · rw [pretty_zero hp0] at F7
      have hS1 : StrsAre vw (tx (row8 sh) (bits W ++ bits p)) := by
        rw [hp0]
        have : bits W ++ bits 0 = bits W := List.append_nil _
        rw [this]; exact hSw
      k_steps
      refine Stop.mk ⟨rfl, _, _, _, lw, kw, vw, rfl, F7, (fun q hq => N7 q ?_), hS1, .cons rfl (.cons rfl (.cons rfl (.cons rfl (.cons rfl (.cons rfl (.cons rfl .nil))))))⟩
      simp only [List.mem_cons, List.not_mem_nil, or_false] at hq ⊢
      rcases hq with rfl | rfl | rfl | rfl | rfl | rfl <;> simp
    · have hne := pretty_ne (sh := sh) hp0 (by omega : p < 256) hsh
      rw [pretty_join hp0 (by omega : p < 256) hsh] at F7 hne
      k_steps
      refine Stop.mk ?_
      refine split_K F7 N7 (by decide) (split_small (by omega : p < 256)) (fun D8 vl h8 k8 hSl F8 N8 => ?_)
      rw [split_join hp0 (by omega : p < 256) hsh] at hSl
      clear F7 N7
      have hS1 : StrsAre (vw ++ vl) (tx (row8 sh) (bits W ++ bits p)) := by
        unfold tx
        rw [List.map_append]
        exact StrsAre.append hSw hSl
      have hln : vw.length + vl.length ≤ 1000 := by
        have h1 := hSw.length
        have h2 := hSl.length
        unfold tx at h1 h2
        rw [List.length_map] at h1 h2
        have := bits_len W
        have := bits_len p
        omega
      k_steps
      rename Fr _ _ _ _ => F9
      rename News _ _ _ _ => N9
      rename StrsAre _ (tx _ (_ ++ _)) => hS9
      have N10 : News h₀ L' _ [(_, PySem.W.listOf (List.toArray (vw ++ vl)) 0), (D8, PySem.W.listOf (List.toArray vl) 0), (I, oI), (lw, PySem.W.listOf (List.toArray vw) kw), (lv, oL), (rv, PySem.W.listOf (List.toArray vR) 0), (ev, PySem.W.listOf (List.toArray vE) kE), (L' + 1 + 1, oR)] := N9
      refine Stop.mk ⟨rfl, _, _, _, _, 0, vw ++ vl, rfl, F9, (fun q hq => N10 q ?_), hS9, .cons rfl (.cons rfl (.cons rfl (.cons rfl (.cons rfl (.cons rfl (.cons rfl .nil))))))⟩
      simp only [List.mem_cons, List.not_mem_nil, or_false] at hq ⊢
      rcases hq with rfl | rfl | rfl | rfl | rfl | rfl <;> simp
  · rintro f s' ⟨rfl, h8, tk8, m8, lw1, k1, vw1, rfl, F8', N8, hS8, H8⟩
    clear F7 N7 hSw
    have F8 := frHas F8' H8
    dsimp only [kstB] at F8
    clear F8'
    dsimp only [ledger, List.cons_append, List.nil_append] at N8
    k_steps
    refine Stop.mk ?_
    refine use (high_bit w mean mg mb _ _) B F8 X N8 T rfl rfl trivial (by omega) (by omega) fun v h9 tk9 hk9 ⟨t9, he⟩ F9 N9 => ?_
    rw [hb_pow] at he
    subst he
    clear F8 N8 hk9
    have hS8' : ∀ u : Unit, StrsAre vw1 (tx (row8 sh) (bits W ++ bits p)) := fun _ => hS8
    have hSR' : ∀ u : Unit, StrsAre vR (row8 sh) := fun _ => hSR
    have hSE' : ∀ u : Unit, StrsAre vE ROW := fun _ => hSE
    clear hS8 hSR hSE
    k_steps
    refine Stop.mk ?_
    obtain ⟨ps', hps', hqs⟩ := carried_bits hWp
    refine use (law_carried w mean mg mb lw1 rv (row8 sh) (bits W ++ bits p) ps' (vv W p) _ (row8_len hsh) (row8_ok sh) (row8_nodup sh) (bits2_lt W p) (bits2_len W p) (vv_le W p) hps') B F9 X N9 T rfl rfl ⟨⟨vw1, k1, (N9 _ (List.Mem.head _)).1, hS8' ()⟩, ⟨vR, 0, (N9 _ (List.Mem.tail _ (List.Mem.tail _ (List.Mem.tail _ (List.Mem.head _))))).1, hSR' ()⟩⟩ (by omega) (by omega)
      fun v h10 tk10 hk10 ⟨qs, hq1, hq2, hR⟩ F10 N10 => ?_
    obtain ⟨lw2, k2, vw2, rfl, hS2, N11, hne2⟩ := hR.news F9 N9 hk10
    have hqT := hqs qs hq1 hq2
    subst hqT
    have hI2 := hne2 _ (List.Mem.tail _ (List.Mem.head _))
    dsimp only at hI2
    have hS2' : ∀ u : Unit, StrsAre vw2 (tx (row8 sh) (bits (W + p))) := fun _ => hS2
    clear hS2 hne2 F9 N9 N10 hk10 hR
    k_steps
    rename Fr _ _ _ _ => F14
    rename News _ _ _ _ => N14
    rename_i tk12 ld0 h13 hld0 h14
    clear hld0
    refine Stop.mk ?_
    refine wpAny_mono (Q := fun f s' => Stop (f = .next ∧ ∃ h' tk m' ld kd t1 t2 t3 t4, s' = { s with heap := h', toks := tk } ∧ Fr h₀ L' h' m' ∧
      News h₀ L' h' ((ld, PySem.W.listOf (List.toArray [.str (prettyText ((W + p) * 2 ^ sh)) t1, .str (prettyText ((W + p) * 2 ^ 29)) t2, .int (hb (W + p)) t3, .int (hb ((W + p) * 2 ^ (70 + sh))) t4]) kd) :: (lw2, PySem.W.listOf (List.toArray vw2) k2) :: (I, oI) :: ledger L' lv rv ev oL oR vE vR kE) ∧
      Has m' [(Str.ofString "due", .ref ld), (Str.ofString "words", .ref lw2), (Str.ofString "ways", .int ((ways W p : Nat) : Int) tw1), (Str.ofString "whole", .int ((W + p : Nat) : Int) tW1), (Str.ofString "part", .int (p : Int) tp), (Str.ofString "shift", .int (sh : Int) tsh), (Str.ofString "every", .ref ev)])) ?_ ?_ (fun _ _ e => e)
    · refine wpAny_If ?_
      k_steps
      rename Fr _ _ _ _ => F15
      rename News _ _ _ _ => N15
      rename_i le0 h15 hle0
      clear hle0
      refine Stop.mk ?_
      refine neLists (us := []) (News.isList N15 (List.Mem.tail _ (List.Mem.tail _ (List.Mem.head _)))) (News.isList N15 (List.Mem.head _)) (hS2' ()).carried .nil (lay_row sh _) rfl (by rw [depth_strs]; omega) (by show un + 3 + 64 < cLine; omega) ?_
      have hN16 : ∀ q ∈ (lw2, PySem.W.listOf (List.toArray vw2) k2) :: (I, oI) :: ledger L' lv rv ev oL oR vE vR kE, q ∈ [(le0, PySem.W.listOf (List.toArray []) 0), (ld0, PySem.W.listOf #[Value.str (Str.ofString "0x0") tk12, Value.str (Str.ofString "0x0") (tk12 + 1), Value.int (-1) (tk12 + 1 + 1 + 1), Value.int (-1) (tk12 + 1 + 1 + 1 + 1 + 1)] 0), (lw2, PySem.W.listOf (List.toArray vw2) k2), (lw1, PySem.W.listOf (List.toArray vw1) k1), (I, oI), (lv, oL), (rv, PySem.W.listOf (List.toArray vR) 0), (ev, PySem.W.listOf (List.toArray vE) kE), (L' + 1 + 1, oR)] := fun q hq => by
        simp only [List.mem_cons, List.not_mem_nil, or_false] at hq ⊢
        rcases hq with rfl | rfl | rfl | rfl | rfl | rfl <;> simp
      by_cases hT : W + p = 0
      · have e : PyData.eqvAll ((tx (row8 sh) (bits (W + p))).map PyData.str) [] = true := by rw [hT]; rfl
        rw [e]
        k_steps
        refine Stop.mk ⟨rfl, _, _, _, ld0, 0, tk12, tk12 + 1, tk12 + 1 + 1 + 1, tk12 + 1 + 1 + 1 + 1 + 1, rfl, F15, (fun q hq => ?_), .cons rfl (.cons rfl (.cons rfl (.cons rfl (.cons rfl (.cons rfl (.cons rfl .nil))))))⟩
        rcases List.mem_cons.mp hq with rfl | hq
        · have e := due_zero (sh := sh) hT
          rw [e.1, e.2.1, e.2.2.1, e.2.2.2]
          exact N15 _ (List.Mem.tail _ (List.Mem.head _))
        · exact N15 q (hN16 q hq)
      · have e : PyData.eqvAll ((tx (row8 sh) (bits (W + p))).map PyData.str) [] = false := by
          obtain ⟨a, b, hab⟩ := bits_cons (by omega : W + p ≠ 0) hWp
          rw [hab]; rfl
        rw [e]
        have N16 := fun q hq => N15 q (hN16 q hq)
        clear N15 hN16
        dsimp only [ledger, List.cons_append, List.nil_append] at N16
        have N17 : News h₀ L' _ [(lw2, PySem.W.listOf (List.toArray vw2) k2), (I, oI), (lv, oL), (rv, PySem.W.listOf (List.toArray vR) 0), (ev, PySem.W.listOf (List.toArray vE) kE), (L' + 1 + 1, oR)] := N16
        clear N16
        obtain ⟨m16, H16, F16⟩ : ∃ m', Has m' [(Str.ofString "words", .ref lw2), (Str.ofString "ways", .int ((ways W p : Nat) : Int) tw1), (Str.ofString "whole", .int ((W + p : Nat) : Int) tW1), (Str.ofString "part", .int (p : Int) tp), (Str.ofString "shift", .int (sh : Int) tsh), (Str.ofString "every", .ref ev)] ∧ Fr h₀ L' _ m' :=
          ⟨_, .cons rfl (.cons rfl (.cons rfl (.cons rfl (.cons rfl (.cons rfl .nil))))), F15⟩
        have F17 := frHas F16 H16
        dsimp only [kstB] at F17
        clear F15 F16
        have hvl : vw2.length ≤ 8 := by
          have h1 := (hS2' ()).length
          unfold tx at h1
          rw [List.length_map] at h1
          have := bits_len (W + p)
          omega
        have hb8 : ∀ q ∈ bits (W + p), q < 8 := fun q hq => bits_lt hq
        k_steps
        refine Stop.mk ?_
        k_dflt (refine' assignComp (cl := [(Str.ofString "row", L' + 1 + 1)]) h₀ rfl rfl (by decide) rfl (by decide) rfl rfl rfl ?_)
        k_steps
        rename Fr _ _ _ _ => F18
        rename News _ _ _ _ => N18
        refine Stop.mk ?_
        refine ⟨_, _, _, _, fun _ => true, fun v y => ∃ (q : Nat) (t t' : Tok), q < 8 ∧ v = .str ((row8 sh).getD q Str.empty) t ∧ y = .int (q : Int) t', F18, N18, Src.list rfl (News.isList N18 (List.Mem.head _)) (by rw [sizeLine_eq, List.size_toArray]; omega), ⟨?_, ?_⟩, ?_⟩
        · intro C i v s₃ m₃ E'' _ hv hn hm hk
          exact wpAny_pure (Stop.mk ⟨rfl, _, _, rfl, fun _ _ e => e⟩)
        · intro C i v s₃ m₃ E'' _ hv hpv hn hm hk
          have F19 := frUp F18 hk
          have N19 := newsUp N18 hk
          obtain ⟨x, tx', rfl, hx⟩ := (hS2' ()).item i v (by simpa using hv)
          obtain ⟨q, hq, rfl⟩ := List.mem_map.mp (List.mem_of_getElem? hx)
          have hq8 := hb8 q hq
          have hLo := (N19 _ (List.Mem.tail _ (List.Mem.tail _ (List.Mem.tail _ (List.Mem.head _))))).1
          k_steps
          refine Stop.mk ?_
          refine index_strs ⟨_, hLo, rfl, _, rfl⟩ (hSR' ()) (by rw [row8_len hsh]; decide) (tx_mem (by rw [row8_len hsh]; exact hq8)) ?_
          rw [tx_idx (row8_nodup sh) (by rw [row8_len hsh]; exact hq8)]
          k_steps
          exact Stop.mk ⟨⟨_, _, _, hq8, rfl, rfl⟩, _, _, rfl, fun _ _ e => e⟩
        · intro D20 ys20 h20 tk20 k20 vs20 hDD20 hlen20 hV20 hP20 F20 N20 hsD20
          have hys : IntsAre ys20 (nats (bits (W + p))) := by
            rw [List.filter_eq_self.mpr (fun _ _ => rfl), list_of hlen20 hV20] at hP20
            exact ints_idx (row8_nodup sh) (row8_len hsh) (hS2' ()) hb8 hP20
          clear F18 N18 hP20 hV20
          have hys' : ∀ u : Unit, IntsAre ys20 (nats (bits (W + p))) := fun _ => hys
          have hyl : ys20.length ≤ 8 := by
            rw [hys.length, List.length_map]; exact bits_len _
          clear hys
          k_steps
          refine Stop.mk ?_
          k_dflt (refine' listComp (cl := []) h₀ rfl (by decide) rfl (by decide) rfl ?_)
          k_steps
          rename Fr _ _ _ _ => F21
          rename News _ _ _ _ => N21
          refine Stop.mk ?_
          refine ⟨_, _, _, _, fun _ => true, fun v y => ∃ (q : Nat) (t t' : Tok), v = .int (q : Int) t ∧ y = .int ((29 + q : Nat) : Int) t', F21, N21, Src.list rfl (News.isList N21 (List.Mem.head _)) (by rw [sizeLine_eq, List.size_toArray]; omega), ⟨?_, ?_⟩, ?_⟩
          · intro C i v s₃ m₃ E'' _ hv hn hm hk
            exact wpAny_pure (Stop.mk ⟨rfl, _, _, rfl, fun _ _ e => e⟩)
          · intro C i v s₃ m₃ E'' _ hv hpv hn hm hk
            have F22 := frUp F21 hk
            have N22 := newsUp N21 hk
            obtain ⟨q, tq, hq, rfl⟩ := ints_mem (hys' ()) hv
            k_steps
            have e29 : (29 : Int) + (q : Int) = ((29 + q : Nat) : Int) := by omega
            rw [e29]
            exact Stop.mk ⟨⟨q, _, _, rfl, rfl⟩, _, _, rfl, fun _ _ e => e⟩
          · intro D23 ys23 h23 tk23 k23 vs23 hDD23 hlen23 hV23 hP23 F23 N23 hka23 hsD23
            have hys23 : IntsAre ys23 (nats ((bits (W + p)).map fun q => 29 + q)) := by
              rw [list_of hlen23 hV23] at hP23
              have := ints_of (q := fun _ => true) (f := fun k => ((29 + k : Nat) : Int)) (fun k t => rfl) (fun k t y hy => by
                obtain ⟨k', t1, t2, e1, e2⟩ := hy
                injection e1 with e1 _
                have : k = k' := by omega
                exact ⟨t2, by rw [e2, this]⟩) (hys' ()) hP23
              rw [List.filter_eq_self.mpr (fun _ _ => rfl)] at this
              unfold nats
              rw [List.map_map]
              exact this
            clear F21 N21 hP23 hV23 hka23
            have hys23' : ∀ u : Unit, IntsAre ys23 (nats ((bits (W + p)).map fun q => 29 + q)) := fun _ => hys23
            clear hys23
            dsimp only
            k_steps
            rename Fr _ _ _ _ => F24
            rename News _ _ _ _ => N24
            refine Stop.mk ?_
            refine use (law_text w mean mg mb D23 ev ((bits (W + p)).map fun q => 29 + q) (fun q hq => by
                obtain ⟨b, hb, rfl⟩ := List.mem_map.mp hq
                have := hb8 b hb
                omega) (by rw [List.length_map]; exact bits_len _)) B F24 X N24 T rfl rfl ⟨⟨ys23, News.isList N24 (List.Mem.head _), hys23' ()⟩, ⟨vE, kE, (N24 (ev, PySem.W.listOf (List.toArray vE) kE) (by simp)).1, hSE' ()⟩⟩ (by omega) (by omega)
              fun v h25 tk25 hk25 ⟨t25, he⟩ F25 N25 => ?_
            subst he
            clear F24 N24 hk25
            k_steps
            rename Fr _ _ _ _ => F26
            rename News _ _ _ _ => N26
            refine Stop.mk ?_
            refine join_listW (ys := tx (row8 sh) (bits (W + p))) (News.isList N26 (show (lw2, PySem.W.listOf (List.toArray vw2) k2) ∈ _ by simp)) (hS2' ()) (by decide) (tx_fits sh (W + p)) fun t27 k27 => ?_
            k_steps
            refine Stop.mk ?_
            refine max_list_N rfl F26 N26 (News.isList N26 (show (D20, PySem.W.listOf (List.toArray ys20) k20) ∈ _ by simp)) (hys' ()) (nats_pos hT hWp) fun h28 M t28 tk28 F28 N28 hM hle => ?_
            have hMe := max_bits hT hWp hM hle
            subst hMe
            clear F26 N26
            k_steps
            refine Stop.mk ?_
            refine max_list_N rfl F28 N28 (News.isList N28 (show (D20, PySem.W.listOf (List.toArray ys20) k20) ∈ _ by simp)) (hys' ()) (nats_pos hT hWp) fun h29 M2 t29 tk29 F29 N29 hM2 hle2 => ?_
            have hMe2 := max_bits hT hWp hM2 hle2
            subst hMe2
            clear F28 N28
            k_steps
            rename Fr _ _ _ _ => F31
            rename News _ _ _ _ => N31
            rename_i ld1 hA1 hld1 hB1
            clear hld1
            rw [← pretty_join hT hWp hsh, ← pretty_across hT hWp, hb_far hT hWp] at N31
            refine Stop.mk ⟨rfl, _, _, _, ld1, 0, t27, t25, t28, tk29, rfl, F31, (fun q hq => N31 q ?_), .cons rfl (.cons rfl (.cons rfl (.cons rfl (.cons rfl (.cons rfl (.cons rfl .nil))))))⟩
            simp only [List.mem_cons, List.not_mem_nil, or_false] at hq ⊢
            rcases hq with rfl | rfl | rfl | rfl | rfl | rfl | rfl <;> simp
    · rintro f s' ⟨rfl, h15, tk15, m15, ld, kd, t1, t2, t3, t4, rfl, F15', N15, H15⟩
      clear F14 N14
      have F15 := frHas F15' H15
      dsimp only [kstB] at F15
      clear F15'
      dsimp only [ledger, List.cons_append, List.nil_append] at N15
      k_steps
      refine Stop.mk ?_
      have e37 : ((W + p : Nat) : Int) * 2 ^ ((sh : Int)).toNat = (((W + p) * 2 ^ sh : Nat) : Int) := by rw [Int.toNat_natCast]; simp
      rw [e37]
      refine use (pretty w mean mg mb ((W + p) * 2 ^ sh) _ (small_sh hWp hsh)) B F15 X N15 T rfl rfl trivial (by omega) (by omega) fun v h16 tk16 hk16 ⟨t16, he⟩ F16 N16 => ?_
      subst he
      clear F15 N15 hk16
      k_steps
      rename Fr _ _ _ _ => F17
      rename News _ _ _ _ => N17
      refine Stop.mk ?_
      refine wpAny_If ?_
      have e70 : ((W + p : Nat) : Int) * 2 ^ ((70 : Int) + (sh : Int)).toNat = (((W + p) * 2 ^ (70 + sh) : Nat) : Int) := by
        have : ((70 : Int) + (sh : Int)).toNat = 70 + sh := by omega
        rw [this]; simp
      rw [e70] at F17
      obtain ⟨tfar, m18, H18, F18⟩ : ∃ tfar m', Has m' [(Str.ofString "far", .int (((W + p) * 2 ^ (70 + sh) : Nat) : Int) tfar), (Str.ofString "text", .str (prettyText ((W + p) * 2 ^ sh)) t16), (Str.ofString "due", .ref ld), (Str.ofString "words", .ref lw2), (Str.ofString "ways", .int ((ways W p : Nat) : Int) tw1),
          (Str.ofString "whole", .int ((W + p : Nat) : Int) tW1), (Str.ofString "part", .int (p : Int) tp), (Str.ofString "shift", .int (sh : Int) tsh), (Str.ofString "every", .ref ev)] ∧ Fr h₀ L' _ m' :=
        ⟨_, _, .cons rfl (.cons rfl (.cons rfl (.cons rfl (.cons rfl (.cons rfl (.cons rfl (.cons rfl (.cons rfl .nil)))))))), F17⟩
      have F19 := frHas F18 H18
      dsimp only [kstB] at F19
      clear F17 F18
      k_steps
      refine Stop.mk ?_
      have e38 : ((W + p : Nat) : Int) * 2 ^ Int.toNat 29 = (((W + p) * 2 ^ 29 : Nat) : Int) := by
        have : Int.toNat 29 = 29 := rfl
        rw [this]; simp
      rw [e38]
      refine use (pretty w mean mg mb ((W + p) * 2 ^ 29) _ (small_29 hWp)) B F19 X N17 T rfl rfl trivial (by omega) (by omega) fun v h20 tk20 hk20 ⟨t20, he⟩ F20 N20 => ?_
      subst he
      clear F19 N17 hk20
      k_steps
      refine Stop.mk ?_
      refine use (high_bit w mean mg mb _ _) B F20 X N20 T rfl rfl trivial (by omega) (by omega) fun v h21 tk21 hk21 ⟨t21, he⟩ F21 N21 => ?_
      have he : v = .int (hb (W + p)) t21 := he
      subst he
      clear F20 N20 hk21
      k_steps
      refine Stop.mk ?_
      refine use (high_bit w mean mg mb _ _) B F21 X N21 T rfl rfl trivial (by omega) (by omega) fun v h22 tk22 hk22 ⟨t22, he⟩ F22 N22 => ?_
      have he : v = .int (hb ((W + p) * 2 ^ (70 + sh))) t22 := he
      subst he
      clear F21 N21 hk22
      k_steps
      rename Fr _ _ _ _ => F23
      rename News _ _ _ _ => N23
      rename_i l23 h23 hl23
      clear hl23
      refine Stop.mk ?_
      refine neLists (News.isList N23 (List.Mem.head _)) (News.isList N23 (List.Mem.tail _ (List.Mem.head _))) (four_carried _ _ _ _ _ _ _ _) (four_carried _ _ _ _ _ _ _ _) (four_lay hWp hsh _ _) (four_lay hWp hsh _ _) (by show 0 ≤ 1; omega) (by show un + 3 + 64 < cLine; omega) ?_
      rw [four_eqv]
      k_steps
      refine Stop.mk ?_
      refine wpAny_If ?_
      k_steps
      refine Stop.mk ?_
      refine use (high_bit w mean mg mb _ _) B F23 X N23 T rfl rfl trivial (by omega) (by omega) fun v h24 tk24 hk24 ⟨t24, he⟩ F24 N24 => ?_
      rw [hb_neg] at he
      subst he
      clear F23 N23 hk24
      k_steps
      refine Stop.mk ?_
      refine use (high_bit w mean mg mb _ _) B F24 X N24 T rfl rfl trivial (by omega) (by omega) fun v h25 tk25 hk25 ⟨t25, he⟩ F25 N25 => ?_
      rw [hb_neg] at he
      subst he
      clear F24 N24 hk25
      k_steps
      rename Fr _ _ _ _ => F26
      rename News _ _ _ _ => N26
      rename_i l26 h26 hl26 D26 h27 hD26
      clear hl26 hD26
      refine Stop.mk ?_
      refine neLists (News.isList N26 (List.Mem.tail _ (List.Mem.head _))) (News.isList N26 (List.Mem.head _)) (.cons (.int _ _) (.cons (.int _ _) .nil)) (.cons (.int _ _) (.cons (.int _ _) .nil)) rfl rfl (by show 0 ≤ 1; omega) (by show un + 3 + 64 < cLine; omega) ?_
      rw [two_eqv]
      have N28 : News h₀ L' h27 [(lw2, PySem.W.listOf (List.toArray vw2) k2), (I, oI), (lv, oL), (rv, PySem.W.listOf (List.toArray vR) 0), (ev, PySem.W.listOf (List.toArray vE) kE), (L' + 1 + 1, oR)] := fun q hq => N26 q (by
        simp only [List.mem_cons, List.not_mem_nil, or_false] at hq ⊢
        rcases hq with rfl | rfl | rfl | rfl | rfl | rfl <;> simp)
      clear N26
      have hvl : ((vw2.length : Nat) : Int) = ((pop (W + p) : Nat) : Int) := by
        have h1 := (hS2' ()).length
        unfold tx at h1
        rw [List.length_map] at h1
        rw [h1]; rfl
      have hv8 : vw2.length ≤ 8 := by
        have := bits_len (W + p)
        unfold pop at hvl
        omega
      k_steps
      refine Stop.mk ?_
      refine kun_lenL (k := ((pop (W + p) : Nat) : Int)) (News.isList N28 (List.Mem.head _)) (by rw [List.size_toArray]; exact hvl) (by have := pop_le (W + p); omega) ?_
      k_steps
      rename Fr _ _ _ _ => F29
      rename News _ _ _ _ => N29
      rw [single_eq hWp] at F29
      refine Stop.mk ?_
      refine wpAny_If ?_
      k_steps
      refine Stop.mk ?_
      refine use (single_bit w mean mg mb _ _) B F29 X N29 T rfl rfl trivial (by omega) (by omega) fun v h30 tk30 hk30 he F30 N30 => ?_
      have he' : v = .bool (sb ((W + p : Nat) : Int)) := he
      subst he'
      clear F29 N29 hk30 he
      generalize hbb : sb ((W + p : Nat) : Int) = bb at F30 ⊢
      k_steps
      · rename (bb != bb) = true => hx
        simp at hx
      refine Stop.mk ?_
      refine use (single_bit w mean mg mb _ _) B F30 X N30 T rfl rfl trivial (by omega) (by omega) fun v h31 tk31 hk31 he F31 N31 => ?_
      have he' : v = .bool (sb (((W + p) * 2 ^ (70 + sh) : Nat) : Int)) := he
      rw [sb_far, hbb] at he'
      subst he'
      clear F30 N30 hk31 he
      k_steps
      refine Stop.mk ?_
      refine use (single_bit w mean mg mb _ _) B F31 X N31 T rfl rfl trivial (by omega) (by omega) fun v h32 tk32 hk32 he F32 N32 => ?_
      have he' : v = .bool (sb (-(((W + p) * 2 ^ (70 + sh) : Nat) : Int))) := he
      rw [sb_neg] at he'
      subst he'
      clear F31 N31 hk32 he
      k_steps
      refine Stop.mk ?_
      refine wpAny_mono (Q := fun f s' => Stop (f = .next ∧ ∃ h' tk m', s' = { s with heap := h', toks := tk } ∧ Fr h₀ L' h' m' ∧
        News h₀ L' h' ((lw2, PySem.W.listOf (List.toArray vw2) k2) :: (I, oI) :: ledger L' lv rv ev oL oR vE vR kE) ∧
        Has m' [(Str.ofString "plain", .bool (sb ((ways W p : Nat) : Int))), (Str.ofString "words", .ref lw2), (Str.ofString "ways", .int ((ways W p : Nat) : Int) tw1), (Str.ofString "whole", .int ((W + p : Nat) : Int) tW1), (Str.ofString "shift", .int (sh : Int) tsh), (Str.ofString "every", .ref ev)])) ?_ ?_ (fun _ _ e => e)
      · refine wpAny_Assign_Name ?_
        k_steps
        · rename Fr _ _ _ _ => F33
          rename News _ _ _ _ => N33
          rw [plain_1 (W := W) (by assumption)] at F33
          refine Stop.mk ⟨by trivial, _, _, _, rfl, F33, (fun q hq => N33 q ?_), .cons rfl (.cons rfl (.cons rfl (.cons rfl (.cons rfl (.cons rfl .nil)))))⟩
          simp only [List.mem_cons, List.not_mem_nil, or_false] at hq ⊢
          rcases hq with rfl | rfl | rfl | rfl | rfl | rfl <;> simp
        · rename Fr _ _ _ _ => F33
          rename News _ _ _ _ => N33
          rw [plain_2 (by assumption)] at F33
          refine Stop.mk ⟨by trivial, _, _, _, rfl, F33, (fun q hq => N33 q ?_), .cons rfl (.cons rfl (.cons rfl (.cons rfl (.cons rfl (.cons rfl .nil)))))⟩
          simp only [List.mem_cons, List.not_mem_nil, or_false] at hq ⊢
          rcases hq with rfl | rfl | rfl | rfl | rfl | rfl <;> simp
        · rename Fr _ _ _ _ => F33
          rename News _ _ _ _ => N33
          rw [plain_3 hWp hp hsh (by assumption) (by assumption) (by assumption)] at F33
          refine Stop.mk ⟨by trivial, _, _, _, rfl, F33, (fun q hq => N33 q ?_), .cons rfl (.cons rfl (.cons rfl (.cons rfl (.cons rfl (.cons rfl .nil)))))⟩
          simp only [List.mem_cons, List.not_mem_nil, or_false] at hq ⊢
          rcases hq with rfl | rfl | rfl | rfl | rfl | rfl <;> simp
        · rename Fr _ _ _ _ => F33
          rename News _ _ _ _ => N33
          rw [plain_4 hWp hp (by assumption) (by assumption) (by assumption)] at F33
          refine Stop.mk ⟨by trivial, _, _, _, rfl, F33, (fun q hq => N33 q ?_), .cons rfl (.cons rfl (.cons rfl (.cons rfl (.cons rfl (.cons rfl .nil)))))⟩
          simp only [List.mem_cons, List.not_mem_nil, or_false] at hq ⊢
          rcases hq with rfl | rfl | rfl | rfl | rfl | rfl <;> simp
      · rintro f s' ⟨rfl, h33, tk33, m33, rfl, F33', N33, H33⟩
        clear F32 N32
        have F33 := frHas F33' H33
        dsimp only [kstB] at F33
        clear F33'
        dsimp only [ledger, List.cons_append, List.nil_append] at N33
        k_steps
        refine Stop.mk ?_
        refine wpAny_If ?_
        k_steps
        refine Stop.mk ?_
        refine use (single_bit w mean mg mb _ _) B F33 X N33 T rfl rfl trivial (by omega) (by omega) fun v h34 tk34 hk34 he F34 N34 => ?_
        have he' : v = .bool (sb ((ways W p : Nat) : Int)) := he
        subst he'
        clear F33 N33 hk34 he
        generalize hcc : sb ((ways W p : Nat) : Int) = cc at F34 ⊢
        k_steps
        · rename (cc != cc) = true => hx
          simp at hx
        refine ⟨rfl, _, _, _, lw2, k2, vw2, tW1, tsh, rfl, F34, (fun q hq => N34 q ?_), Ne.symm hI2, hS2' (), .cons rfl (.cons rfl (.cons rfl (.cons rfl .nil)))⟩
        simp only [List.mem_cons, List.not_mem_nil, or_false] at hq ⊢
        rcases hq with rfl | rfl | rfl | rfl | rfl | rfl <;> simp
end
section
open PySem PySem.W PyProof.Rows PySem.Calls
set_option maxRecDepth 100000
set_option maxHeartbeats 4000000
theorem law_post (x : List Int) : Challenge.rw_sh0010_01.row.claim.post [ofPy (PyData.list (List.map PyData.int x))] (WData.bool true) [ofPy (PyData.list (List.map PyData.int x))] = true := by
  unfold Challenge.rw_sh0010_01
  simp [OpenLaw.row, RowW.claim]
  refine ⟨by decide, ?_⟩
  unfold WTm.holds
  rw [w_eq_bool (k := true) (l := true) rfl rfl]
  rfl
theorem top : Challenge.rw_sh0010_01.Holds := hd (by
  k_fill
  intro w s₀ s₁ mg mb G Y fa o pm cd doc dV kV ho hd hcd hD hmg hg args vals as hpre hlay hrd hwl hlo
  have KX := kIn_of Y
  have X := (Ground.X G).1
  have V := (Ground.X G).2
  try w_nolog (first | (have GL := glob_more (Ground.glob G (by first | k_qdec | decide +kernel) (by first | k_qdec | decide +kernel)) V) | (have GL := glob_more (Ground.glob G (by decide +kernel)) V))
  refine Ground.open G ?_
  intro T B D TE TW
  try (refine guard_noD D (by decide +kernel) ?_; clear D)
  obtain ⟨_, _, M⟩ := bmod_of_top T
  have TA := at_of_top T
  try (obtain ⟨_, _, he, B0⟩ := based_of_top T rfl hmg ho hd; have he' : cd = _ := he; subst he'; clear he)
  wrow_args hpre hlay hrd hwl hlo
  all_goals (
    first | refine callC_kw (enter_call ?_) | refine enter_call ?_ | refine callC_kw (enter_callW ?_) | refine enter_callW ?_ | w_how
    w_top on
    try refine codeAny_mono ?_ (fun _ _ g => GoodW.toG g)
    have K0 := below_caller (Top.heap T))
  have hfa : fa = 68 := by
    have e : mg (Str.ofString "law") = some (.ref 68) := mg_of KX T.g (by k_is)
    have e2 : mg (Str.ofString "law") = some (.ref fa) := hmg
    rw [e] at e2
    injection e2 with e2
    injection e2 with e2
    exact e2.symm
  clear hd hcd hD hmg ho
  subst hfa
  rename IntsAre _ _ => hI
  rename Heap.IsList _ _ _ => hL
  have hP : Ints _ _ s₁.heap := ⟨_, hL, hI⟩
  refine law_call w (ExcName.means s₀.heap) mg mb (law_turn w _ mg mb) _ _ ?_ (1 + claimMargin) 4 (some []) [] s₁.heap s₁ _ K0 KX T hP (by decide) (by decide) ?_
  · omega
  · rintro h' tk' ⟨L, m, F⟩
    exact goodW_bool F hg (fun _ => rfl) (law_post _))
end
end Mine
theorem PySem.Challenge.cw_sh0010_01_holds : PySem.Challenge.rw_sh0010_01.Holds := by
  exact Mine.top
