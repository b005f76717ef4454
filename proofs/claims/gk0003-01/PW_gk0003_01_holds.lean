import PyProof.Rows.All
import Wide.All
import OpenK.AllK
import Wide.FinOn
import PySem.Challenge.RW_gk0003_01
set_option Elab.async false
section
open PySem PySem.W PyProof.Rows PySem.Calls PySem.Spec
set_option maxRecDepth 100000
namespace Mine
/-- a decoder that holds what it reads: the one kind of stack entry that bytearray() looks for and that an Around does not bound -/
def decCode : Code → Bool
  | .builtin id _ => PySem.Builtin.Bytes.decodersThatHold.contains id
  | _ => false
def CleanBelow (Γ : PySem.Ctx) : Prop := ∀ x ∈ Γ.below, decCode x.1 = false
def Clean (Γ : PySem.Ctx) : Prop := decCode Γ.code = false ∧ CleanBelow Γ
/-- as wpAny, of the contexts whose stack holds no decoder -/
def wpN {α : Type} (M : Model) (A : Around) (t : Sem α) (Q : α → Shared → Prop) (E : Value → Shared → Prop) (s : Shared) : Prop :=
  ∀ Γ p, Γ.In A → Clean Γ → Sem.wp M Γ t (fun a _ s' => Q a s') (fun e _ s' => E e s') p s
def codeN (M : Model) (A : Around) (c : Code) (R : Result → Shared → Prop) (s : Shared) : Prop :=
  ∀ Γ p, Γ.code = c → Γ.Below A → CleanBelow Γ → wpCode M Γ R p s
section
variable {α β : Type} {M : Model} {A : Around} {E : Value → Shared → Prop} {s : Shared}
theorem wpN_of {t : Sem α} {Q : α → Shared → Prop} (h : wpAny M A t Q E s) : wpN M A t Q E s := fun Γ p hΓ _ => h Γ p hΓ
theorem codeN_of {c : Code} {R : Result → Shared → Prop} (h : codeAny M A c R s) : codeN M A c R s := fun Γ p hc hΓ _ => h Γ p hc hΓ
theorem wpN_mono {t : Sem α} {Q Q' : α → Shared → Prop} {E' : Value → Shared → Prop} (h : wpN M A t Q E s) (hQ : ∀ a s, Q a s → Q' a s) (hE : ∀ e s, E e s → E' e s) : wpN M A t Q' E' s :=
  fun Γ p hΓ c => Sem.wp_mono M Γ t (fun a _ s => hQ a s) (fun e _ s => hE e s) p s (h Γ p hΓ c)
theorem wpN_bind {m : Sem α} {f : α → Sem β} {Q : β → Shared → Prop} (h : wpN M A m (fun a s' => wpN M A (f a) Q E s') E s) : wpN M A (m >>= f) Q E s := fun Γ p hΓ c => by
  rw [Sem.wp_bind']
  exact Sem.wp_mono M Γ m (fun a p' s' h' => h' Γ p' hΓ c) (fun _ _ _ h' => h') p s (h Γ p hΓ c)
/-- the common way: what runs first is an old rule's, the rest is asked of the clean contexts -/
theorem wpN_any {m : Sem α} {f : α → Sem β} {Q : β → Shared → Prop} (h : wpAny M A m (fun a s' => wpN M A (f a) Q E s') E s) : wpN M A (m >>= f) Q E s := wpN_bind (wpN_of h)
theorem wpN_onRaise {t : Sem α} {k : Value → Sem Unit} {Q : α → Shared → Prop}
    (h : wpN M A t Q (fun e s' => wpAny M A (k e) (fun _ s'' => E e s'') E s') s) : wpN M A (t.onRaise k) Q E s := fun Γ p hΓ c => by
  rw [Sem.wp_onRaise]
  exact Sem.wp_mono M Γ t (fun _ _ _ h' => h') (fun e p' s' h' => h' Γ p' hΓ) p s (h Γ p hΓ c)
theorem wpN_holding {vs : List Value} {m : Sem α} {Q : α → Shared → Prop} (h : wpN M A m Q E s) : wpN M A (holding vs m) Q E s :=
  fun Γ p hΓ c => by rw [Sem.wp_holding]; exact h Γ p hΓ c
theorem wpN_runValue {c : Code} {Q : Value → Shared → Prop} (hc : codeN M A c (fun r s' => match r with | .ok (.ret v) => Q v s' | .ok _ => False | .error e => E e s') s) :
    wpN M A (runValue c) Q E s := fun Γ p hΓ k => by
  rw [Sem.wp_runValue]
  refine hc _ p rfl (hΓ.enter c none p (by intro x; cases x)) ?_
  rintro x hx
  rcases List.mem_cons.mp hx with rfl | hx
  · exact k.1
  · exact k.2 x hx
theorem wpN_call {f : Value} {pos : List Value} {kw : List (Str × Value)} {Q : Value → Shared → Prop}
    (hc : codeN M A (.call f ⟨pos, kw⟩) (fun r s' => match r with | .ok (.ret v) => Q v s' | .ok _ => False | .error e => E e s') s) : wpN M A (PySem.call f pos kw) Q E s := wpN_runValue hc
theorem codeN_of_tree {c : Code} {R : Result → Shared → Prop} (hk : decCode c = false)
    (h : wpN M (A.under c) (M.den c) (fun fin s' => match fin with | .done f => R (.ok f) s' | .again c' => c'.quiet = true ∧ codeN M A c' R s') (fun e s' => R (.error e) s') s) : codeN M A c R s := fun Γ p hc hΓ k => by
  rw [wpCode_iff_wp, hc]
  refine Sem.wp_mono M Γ _ (fun fin p' s' h' => ?_) (fun _ _ _ h' => h') p s (h Γ p (hc ▸ hΓ.in) ⟨hc ▸ hk, k⟩)
  cases fin with
  | done f => exact h'
  | again c' => exact ⟨h'.1, h'.2 (Γ.goto c') p' rfl (hΓ.goto c') k⟩
theorem codeN_mono {c : Code} {R R' : Result → Shared → Prop} (h : codeN M A c R s) (hR : ∀ r s, R r s → R' r s) : codeN M A c R' s :=
  fun Γ p hc hΓ k => wpCode_mono hR (h Γ p hc hΓ k)
end
section
variable {prog : Program} {w : World} {A : Around} {E : Value → Shared → Prop} {s : Shared} {R : Result → Shared → Prop}
theorem codeN_func {body : List Stmt} {env : Env}
    (h : wpN (model prog w) (A.deeper env) (execs body env) (fun f s' => R (.ok (.ret (match f with | .ret v => v | _ => .none))) s')
      (fun e s' => wpAny (model prog w) (A.deeper env) (leaving env e) (fun _ s'' => R (.error e) s'') (fun e' s'' => R (.error e') s'') s') s) :
    codeN (model prog w) A (.func body env) R s := by
  refine codeN_of_tree rfl ?_
  show wpN _ (A.deeper env) (do point; match ← (execs body env).onRaise (leaving env) with | .ret v => ret v | _ => ret .none) _ _ s
  refine wpN_any (wpAny_point (wpN_bind (wpN_onRaise (wpN_mono h (fun f s' h' => ?_) fun _ _ h' => h'))))
  cases f <;> exact wpN_of (wpAny_pure h')
/-- the call of a def: what runs ahead of its body is an old rule's; the body is asked of the clean contexts -/
theorem codeN_call_function {a : Addr} {args : Args} {o : Obj} {fd : FuncData} {body : List Stmt} (hroom : A.depth < recursionLimit)
    (ho : s.heap.get? a = some o) (hd' : o.data = .func fd) (hco : fd.scope.isCoroutine = false) (hgen : fd.scope.isGenerator = false) (hbody : fd.body = .stmts body) (hcd : s.heap.CodeRec fd.code fd.qualname)
    (h : wpAny (model prog w) A.in1 (bindArgs fd args) (fun binds s₁ =>
      wpAny (model prog w) A.in1 (newFunctionEnv fd.scope fd.globals fd.closure binds (fd.qualname ++ ".<locals>.") (some a) fd.code none fd.builtins)
        (fun env s₂ => s₂.heap.NoLimit ∧ codeN (model prog w) A (.func body env) R s₂) (fun e s' => R (.error e) s') s₁) (fun e s' => R (.error e) s') s) :
    codeN (model prog w) A (.call (.ref a) args) R s := by
  refine codeN_of_tree rfl (wpN_of ?_)
  show wpAny _ A.in1 (callAny (.ref a) args) _ _ s
  simp only [callAny]
  refine wpAny_bind (wpAny_load ho ?_)
  obtain ⟨c, oc, vs, tq, hc, hoc, hdc, hq⟩ := hcd
  simp only [hd', callFunction, hco, hgen, hbody, hc]
  rw [hc] at h
  refine wpAny_bind (m := field (.ref c) 1) (wpAny_field hoc hdc hq (wpAny_bind (wpAny_pure ?_)))
  exact wpAny_bind (wpAny_mono h (fun binds s₁ h₁ => wpAny_bind (wpAny_mono h₁ (fun env s₂ h₂ => wpAny_bind (wpAny_enterFrame h₂.1 hroom
    (wpAny_pure (And.intro rfl h₂.2)))) fun _ _ h' => h')) fun _ _ h' => h')
/-- a def without cells, called from a def's frame -/
theorem codeN_def {K : Frag} {p : Program} {loose : List Str} {mean : ExcName → Option Value} {mg mb : Str → Option Value} {A₀ : Around} {base h₀ : Heap} {L : Addr} {m : Str → Option Value} {news : List (Addr × Obj)} {env : Env} {outer : List Env}
    {name qual : Str} {params : Arguments} {body : List Stmt} {scope : Scope} {dV kV doc pm cdv ct oc : Value} {an od : Option Addr} {osl : Array (Option Value)} {f : Addr} {args : Args} {binds : List (Str × Value)}
    (B : Below A₀ base outer h₀) (F : Fr h₀ L s.heap m) (X₀ : K.In h₀) (N : News h₀ L s.heap news) (T : Top p loose mean mg mb h₀) (hA : A.frames = some (env :: outer)) (hf : env.frame = some L) (hke : env.scope.kind = .function)
    (ho : K.lookup f = some ⟨oc, od, .func (fnOf name qual params body scope dV kV doc pm an cdv ct), osl⟩) (hcd : codeIn K cdv qual = true) (hroom : A.depth < recursionLimit)
    (hbind : BindsTo s (fnOf name qual params body scope dV kV doc pm an cdv ct) args binds) (hloc : ∀ y ∈ binds, scope.names.lookup y.1 = some .local)
    (h : ∀ g L' h₁, Fr h₀ L g m → Fr g L' h₁ (fun y => binds.reverse.lookup y) → News g L' h₁ news → Below A base (env :: outer) g → K.In g → Top p loose mean mg mb g → (∀ p ∈ news, p.1 < L') →
      wpN (model prog w) (A.deeper (envOf qual scope L' f cdv)) (execs body (envOf qual scope L' f cdv))
        (fun fl s' => LeaveK h₀ L m g R (match fl with | .ret v => v | _ => .none) s')
        (fun e s' => wpAny (model prog w) (A.deeper (envOf qual scope L' f cdv)) (leaving (envOf qual scope L' f cdv) e) (fun _ s'' => R (.error e) s'') (fun e' s'' => R (.error e') s'') s')
        { s with heap := h₁, toks := s.toks + binds.length })
    (hco : scope.isCoroutine = false) (hgen : scope.isGenerator = false) (hk : scope.kind = .function) (hcell : ∀ x ∈ scope.names, x.2 ≠ .cell) : codeN (model prog w) A (.call (.ref f) args) R s := by
  obtain ⟨FG, BG, st, lv⟩ := groundX (R := R) B F N hA hf hke
  have hlim := T.nolimit.keeps F.keep
  refine codeN_call_function (fd := fnOf name qual params body scope dV kV doc pm an cdv ct) hroom ((X₀.keeps F.keep) _ _ ho) rfl hco hgen rfl (codeRec_of (X₀.keeps F.keep) hcd) (hbind _ _ _ _ ?_)
  refine wpAny_newFunctionEnv hcell hloc (fun h₁ hns hsb => ⟨hlim.fresh _ hsb, codeN_func ?_⟩) hk
  have hk₁ : ∀ b o, s.heap.get? b = some o → h₁.get? b = some o := fun b o e => hsb.extBut b o (Nat.ne_of_lt (Heap.lt_size e)) (Heap.get?_push_of_some _ e)
  exact wpN_mono (h _ s.heap.objs.size h₁ FG ⟨hns, fun b o e => hk₁ b o (of_hideAll _ e), Nat.le_of_eq (hideAll_size _ _)⟩
    (fun p hp => ⟨hk₁ _ _ (N p hp).1, Nat.ne_of_lt (Heap.lt_size (N p hp).1), hideAll_none _ (List.mem_map_of_mem hp)⟩) BG (X₀.keeps st) (T.keeps st) (fun p hp => Heap.lt_size (N p hp).1)) (fun fl s' hl => lv _ _ hl) fun _ _ y => y
/-- a def with cells, called from no def's frame -/
theorem codeN_cells {name : Str} {params : Arguments} {body : List Stmt} {scope : Scope} {pm cd doc : Value} {a : Addr} {o : Obj} {args : List Value} {binds : List (Str × Value)}
    (hroom : A.depth < recursionLimit) (ho : s.heap.get? a = some o) (hdata : o.data = .func (Calls.docDef name params body scope pm cd doc)) (hlim : s.heap.NoLimit) (hcd : s.heap.CodeRec cd name)
    (hbind : bindArgs (Calls.docDef name params body scope pm cd doc) ⟨args, []⟩ = pure binds)
    (hkind : ∀ x ∈ binds, scope.names.lookup x.1 = some .local ∨ (scope.names.lookup x.1 = some .cell ∧ ((cellsFrom (s.heap.objs.size + 1) scope.names []).lookup x.1).isSome = true))
    (hnd : ((cellsFrom 0 scope.names []).map (·.1)).Nodup)
    (h : ∀ h₁ tk cells, Fr s.heap s.heap.objs.size h₁ (bindL (envOfC name scope s.heap.objs.size a cd).kindOf binds fun _ => none) → News s.heap s.heap.objs.size h₁ cells →
      CellsAre (bindC (envOfC name scope s.heap.objs.size a cd).kindOf binds fun _ => none) (cellsFrom (s.heap.objs.size + 1) scope.names []) cells →
      wpN (model prog w) (A.deeper (envOfC name scope s.heap.objs.size a cd)) (execs body (envOfC name scope s.heap.objs.size a cd))
        (fun f s' => R (.ok (.ret (match f with | .ret v => v | _ => .none))) s')
        (fun e s' => wpAny (model prog w) (A.deeper (envOfC name scope s.heap.objs.size a cd)) (leaving (envOfC name scope s.heap.objs.size a cd) e)
          (fun _ s'' => R (.error e) s'') (fun e' s'' => R (.error e') s'') s')
        { s with heap := h₁, toks := tk })
    (hco : scope.isCoroutine = false) (hgen : scope.isGenerator = false) (hk : scope.kind = .function) :
    codeN (model prog w) A (.call (.ref a) ⟨args, []⟩) R s := by
  refine codeN_call_function (fd := Calls.docDef name params body scope pm cd doc) hroom ho hdata hco hgen rfl hcd ?_
  rw [hbind]
  refine wpAny_pure (wpAny_newFunctionEnv_cells hk hkind fun env he s' x => ?_)
  subst he
  refine ⟨hlim.keeps x.toInCall.keep, codeN_func ?_⟩
  obtain ⟨h₁, tk, rfl, _⟩ := x.done
  obtain ⟨cells, N, Y⟩ := Cl.news (h₀ := s.heap) (Nat.le_refl _) fun n c hm => ⟨x.cell n c (lookup_of_mem_nodup (cellsFrom_names scope.names 0 (s.heap.objs.size + 1) [] [] rfl ▸ hnd) hm), x.above n c hm⟩
  exact h h₁ tk cells ⟨x.toInCall.ns, x.toInCall.keep, x.toInCall.fresh⟩ N Y
end
end Mine
end
section
open PySem PySem.W PyProof.Rows PySem.Calls PySem.Spec
set_option maxRecDepth 100000
namespace Mine
theorem clean_caller : Clean (⟨.builtin "claim.caller" {}, none, none, [], none⟩ : PySem.Ctx) := ⟨by decide, fun _ h => nomatch h⟩
/-- a thread's end, by what is shown of the one context that a claim's thread stands in -/
theorem thread_ends {prog : Program} {w : World} {t : Sem Fin} {s : Shared} {R : Result → Shared → Prop} (hreg : s.asleep)
    (h : wpN (model prog w) callerA t (fun fin s' => ∃ f, fin = .done f ∧ R (.ok f) s' ∧ AllBare s'.gens) (fun e s' => R (.error e) s' ∧ AllBare s'.gens) s) :
    ∃ n r s' s'', runN (denote table) prog w n s ⟨t, .builtin "claim.caller" {}, default, []⟩ = .halted (outcomeOf r) s' ∧
      schedN (denote table) prog w n (.single s ⟨t, .builtin "claim.caller" {}, default, []⟩) = .halted (outcomeOf r) s' ∧ s'.forget = s''.forget ∧ R r s'' := by
  have h₁ := h _ default caller_in clean_caller
  obtain ⟨n, r, a, b, hs, hn, hfo, hR⟩ := wp_halts_full (M := model prog w) (R := R) hreg (Sem.wp_mono _ _ _ (fun fin p' s' q => by
    obtain ⟨f, rfl, hf, hg⟩ := q
    exact (show R (.ok f) s' ∧ leftWithCleanup s'.gens = false from ⟨hf, leftWithCleanup_false_of_bare hg⟩)) (fun e _ s' q => ⟨q.1, leftWithCleanup_false_of_bare q.2⟩) _ _ h₁)
  exact ⟨n, r, b, a, hn, hs, hfo, hR⟩
/-- what is to be walked: the law's call, from the contexts without a decoder -/
abbrev WalkP (q : Program) (loose : List Str) (XP : (Str → Option Value) → Heap → Prop) (YP : World → Heap → Prop) (r : RowW) (d : DefRec) (kwd : List (Str × Expr)) : Prop :=
  ∀ (w : World) (s₀ s₁ : Shared) (mg mb : Str → Option Value), Ground q loose r.records XP w s₀ mg mb s₁.heap → YP w s₁.heap → ∀ (a : Addr) (o : Obj) (pm cd doc dV kV : Value), s₁.heap.get? a = some o →
    o.data = .func { docDef d.name d.params d.body d.scope pm cd doc with defaults := dV, kwdefaults := kV } → s₁.heap.CodeRec cd d.name → Dflts mg s₁.heap d.params kwd dV kV → mg d.name = some (.ref a) → s₁.gens = #[] →
    ∀ (args : List WData) (vals : List Value) (as : List Addr), r.claim.pre args = true → WData.layableAll args = true → ReadsAllW r.records (classAt s₀.heap) s₁.heap vals args as → WellAll w.params s₁.heap vals args → (∀ a ∈ as, (a == sysModules) = false) →
      wpN (model r.prog w) callerA (PySem.call (.ref a) vals) (fun v s' => GoodWG r.claim (classAt s₀.heap) (ExcName.means s₀.heap) args s₁ (.ok (.ret v)) s')
        (fun e s' => GoodWG r.claim (classAt s₀.heap) (ExcName.means s₀.heap) args s₁ (.error e) s') s₁
/-- the head, as the library's of the same last name, with WalkP for its walk -/
theorem PySem.W.holds_open {r : OpenRow} {q : Program} {loose : List Str} {Xt : Shared → Bool} {XP : (Str → Option Value) → Heap → Prop} {α : Type} {Yf : Shared → α} {Ya : World → α} {YP : World → Heap → Prop} {d : DefRec} {kwd : List (Str × Expr)} {N : Nat}
    (left : LeftO r.prog q loose Xt Yf Ya N) (hY : ∀ w s, Yf s = Ya w → YP w s.heap) (hYk : ∀ w h h', YP w h → (∀ b o, h.get? b = some o → h'.get? b = some o) → YP w h')
    (hX : ∀ s, Xt s = true → XP (s.heap.nsMap mainGlobals) s.heap) (hXk : ∀ mg h h', XP mg h → (∀ b o, h.get? b = some o → h'.get? b = some o) → XP mg h')
    (hdef : defOf q r.name = some (d, kwd)) (hp : r.prog.theDef r.name = some (d.params, d.body, d.scope)) (hk : kwWritten? d.params.kwonlyargs d.params.kw_defaults = some kwd) (hRf : ∀ s, Xt s = true → RecFacts r.records s.heap) (hwr : (!r.writes || r.records.isEmpty) = true)
    (k1 : r.wellSaid = true) (ok : (chainsOk q && opensWell r.prog && (frees r.toRowW && r.within.isEmpty)) = true) (hb : r.prog.bare) (hw : r.toRowW.promised)
    (call : WalkP q loose XP YP r.toRowW d kwd) : r.Holds := by
  refine ⟨k1, hw, ?_⟩
  obtain ⟨ok, k5⟩ := Bool.and_eq_true_iff.mp ok
  obtain ⟨hch, o1⟩ := Bool.and_eq_true_iff.mp ok
  obtain ⟨k5, k6⟩ := Bool.and_eq_true_iff.mp k5
  obtain ⟨hsame, hu, ha, hap, hm⟩ := frees_parts k5
  refine ⟨⟨hb, o1, by show r.toRowW.makers.map _ = []; rw [hm]; rfl⟩, hw.witness, fun w => ⟨(left.behind hX hch w).1, fun s' hs' => ?_⟩⟩
  obtain ⟨s₀, hf, hg0, s, hT, hz, hgens, hg, G00, y⟩ := (left.behind (XP := fun mg h => XP mg h ∧ RecFacts r.toRowW.records h) (fun s hs => ⟨hX s hs, hRf s hs⟩) hch w).2 s' hs'
  have G0 : Ground q loose [] XP w s (s.heap.nsMap mainGlobals) (s.heap.nsMap builtinsNs) s.heap := ⟨G00.T, G00.B, G00.D, G00.TE, G00.TD, G00.W, G00.X.1, G00.cls, G00.has, G00.apart, G00.once, G00.K⟩
  have RF := G00.X.2
  have hT' := hT
  refine ⟨s₀, hf, hg0, s, hT, fun n hn => ?_, RF.1, RF.2.1, ?_⟩
  · obtain rfl : n = r.name := by split at hn <;> simp_all
    exact pinned_of_view hg G0 hdef hp hk
  have hgens : s.gens = #[] := Array.eq_empty_of_size_eq_zero (beq_iff_eq.mp hgens)
  have G : Ground q loose r.toRowW.records XP w s _ _ s.heap := RF.ground G0
  intro args hpre hlay ord hord
  obtain ⟨⟨vs, s₁⟩, hlaid⟩ := Option.isSome_iff_exists.mp (layAllW_isSome (P := w.params) (ord := ord) G.has args r.toRowW.args s (pre_splitW hpre).1)
  have keeps := layAllW_keeps _ _ _ hlaid
  have hal := layAllW_rest _ _ _ hlaid
  obtain ⟨as, hrd, hin, hold⟩ := reads_layAllW hord _ _ _ hlaid hlay s₁.heap (fun _ _ e => e)
  have L : Laid r.toRowW.records w s s₁ args vs as := ⟨⟨ord, hord, hlaid⟩, hrd, hin, hold, keeps, hal.1.trans hgens, hal.2.2.1⟩
  have G₁ := G.keeps hXk keeps
  obtain ⟨a, o, pm, cd, doc, dV, kV, h1, h2, h3, h4, h5⟩ := G₁.fn hdef
  have h := call w s s₁ _ _ G₁ (hYk _ _ _ (hY w s y) keeps) a o pm cd doc dV kV h2 h3 h4 h5 (defOf_name hdef ▸ h1) L.gens args vs as hpre hlay L.reads L.well (L.low G.low)
  have hi := ident_freeW hu ha hap
  have hwi : r.toRowW.claim.within = [] := List.isEmpty_iff.mp k6
  refine ⟨vs, s₁, hlaid, ?_⟩
  have hmg : (s.heap.nsMap mainGlobals) r.name = some (.ref a) := h1
  let kept : Heap → Prop := fun h' => r.writes = true → namesKept r.toRowW.claim.prog r.keeps s.heap h' ∧ ∀ x ∈ r.toRowW.claim.records, ∀ a, classAt s.heap x.1 = some a → recordClass h' a x.1 (x.2.map fun x => x.1) = true
  have good : ∀ (res : Result) (s' : Shared), GoodWG r.toRowW.claim (classAt s.heap) (ExcName.means s.heap) args s₁ res s' → (r.toRowW.claim.Ends s args vs s₁ res s' ∧ s'.os = s.os ∧ kept s'.heap) ∧ AllBare s'.gens := fun res s' g => by
    have z := g.laid (c := r.toRowW.claim) hsame hwi hi L
    exact ⟨⟨z.1, z.2.1, fun q => ⟨namesKept_of hT' hg _ keeps g.2.1.old, noTable hwr q⟩⟩, z.2.2⟩
  obtain ⟨n, res, s', s'', hrun, hsched, hfo, hcase, hos, hkp⟩ := thread_ends (prog := r.toRowW.claim.prog) (w := w) (s := s₁)
    (t := do match ← nsGet mainNs r.name with
      | some f => do ret (← PySem.call f vs)
      | none => unsupported "claim.caller:no-such-global")
    (R := fun res s' => r.toRowW.claim.Ends s args vs s₁ res s' ∧ s'.os = s.os ∧ kept s'.heap)
    (Shared.asleep_of_life hal.2.2.2 hz)
    (wpN_any (wpAny_nsGet G₁.T.g (by
      rw [hmg]
      exact wpN_bind (wpN_mono h (fun v s' g => wpN_of (wpAny_pure ⟨_, rfl, good _ _ g⟩)) fun e s' g => good _ _ g))))
  obtain ⟨eh, _, _, eo, _⟩ := Shared.forget_eq hfo
  have hcase := hcase.congr eh
  rw [← eh] at hkp
  rw [← eo] at hos
  have hlife : s'.heap.life = s.heap.life := (runN_life _ _ _ hrun).trans hal.2.2.2
  refine ⟨n, _, s', hsched, ?_, (fun _ i x hx => by rw [hgens] at hx; simp at hx), hkp, by rw [hlife], Shared.rest_eq hos⟩
  rcases hcase with ⟨v, rfl, d1, d2, d3, d4, d5⟩ | ⟨e, ob, cls, rfl, d1, d2, d3, d4, d5⟩
  · exact .inl ⟨v, rfl, d1, d2, d3, fun b o y _ => d4 b o y, d5⟩
  · exact .inr ⟨e, ob, cls, rfl, d1, d2, d3, d4, fun b o y _ => d5 b o y⟩
end Mine
end
section
open PySem PySem.W PyProof.Rows
set_option maxRecDepth 100000
set_option maxHeartbeats 8000000
namespace Mine
open_top hd for PySem.Challenge.rw_gk0003_01
end Mine
end
section
open PySem PySem.W PyProof.Rows
set_option maxRecDepth 100000
set_option maxHeartbeats 8000000
namespace Mine
def cost (x y : Str) : Int := if x = y then 0 else if Txt.lower x = Txt.lower y then 1 else 2
/-- what a call of the def at f with the arguments vs gives back, from any caller that has room -/
abbrev Claim (d u : Nat) (w : World) (mean : ExcName → Option Value) (mg mb : Str → Option Value) (f : Addr) (news : List (Addr × Obj)) (vs : List Value) (R : Tok → Value) : Prop :=
  ∀ (dp un : Nat) (gd : Option (List Code)) (cn : Str) (cs : Scope) (a : Addr) (ccd : Value) (cl : List (Str × Addr)) (outer : List Env) (A₀ : Around) (base h₀ : Heap) (L : Addr) (m : Str → Option Value) (s : Shared) (Q E : Value → Shared → Prop),
    Below A₀ base outer h₀ → Fr h₀ L s.heap m → Frag.In (hd.heap_39 w.params) h₀ → News h₀ L s.heap news → Top hd.view_39 (looseW hd.view_39 []) mean mg mb h₀ → cs.kind = .function → dp + d < recursionLimit → un + u < cLine →
    (∀ (t : Tok) (h' : Heap) (tk' : Nat), Fr h₀ L h' m → News h₀ L h' news → Q (R t) { s with heap := h', toks := tk' }) →
    wpAny (model PySem.Challenge.rw_gk0003_01.row.prog w) (ktrTop dp un gd cn cs L a ccd cl outer) (call (.ref f) vs) Q E s
theorem sub_claim {w : World} {mean : ExcName → Option Value} {mg mb : Str → Option Value} (cbNews : CbLed) (x : CbStr) (tx : CbTok) (y : CbStr) (ty : CbTok) (hx : x.length ≤ 1000) (hy : y.length ≤ 1000) :
  Claim 1 8 w mean mg mb 21 cbNews [.str x tx, .str y ty] (fun t => .int (cost x y) t) := by
  dsimp only [Claim]
  k_fill
  intros
  rename_i hret
  refine wpAny_call ?_
  k_dflt cell_enter
  k_steps
  all_goals (refine cb_retI hret ?_ (by assumption) (by assumption); (simp only [beq_iff_eq, beq_eq_false_iff_ne, ne_eq] at *); (simp only [cost]; simp [*]))
theorem sub_use {w : World} {mean : ExcName → Option Value} {mg mb : Str → Option Value} {news : List (Addr × Obj)} {x y : Str} {tx ty : Tok} {dp un : Nat} {gd : Option (List Code)} {cn : Str} {cs : Scope} {a : Addr} {ccd : Value} {cl : List (Str × Addr)} {outer : List Env} {A₀ : Around} {base h₀ : Heap} {L : Addr} {m : Str → Option Value} {s : Shared} {Q E : Value → Shared → Prop}
    (B : Below A₀ base outer h₀) (F : Fr h₀ L s.heap m) (X : Frag.In (hd.heap_39 w.params) h₀) (N : News h₀ L s.heap news) (T : Top hd.view_39 (looseW hd.view_39 []) mean mg mb h₀) (hk : cs.kind = .function)
    (hx : x.length ≤ 1000) (hy : y.length ≤ 1000) (hd : dp + 1 < recursionLimit) (hu : un + 8 < cLine)
    (ret : ∀ (t : Tok) (h' : Heap) (tk' : Nat), Fr h₀ L h' m → News h₀ L h' news → Q (.int (cost x y) t) { s with heap := h', toks := tk' }) :
    wpAny (model PySem.Challenge.rw_gk0003_01.row.prog w) (ktrTop dp un gd cn cs L a ccd cl outer) (call (.ref 21) [.str x tx, .str y ty]) Q E s :=
  sub_claim news x tx y ty hx hy dp un gd cn cs a ccd cl outer A₀ base h₀ L m s Q E B F X N T hk hd hu ret
end Mine
end
section
namespace Mine
/-- what the proof asks of a cost of turning a letter into another -/
structure IsCost (c : Nat → Nat → Nat) : Prop where
  self : ∀ x, c x x = 0
  top : ∀ x y, c x y ≤ 2
  symm : ∀ x y, c x y = c y x
  tri : ∀ x y z, c x z ≤ c x y + c y z
  eq : ∀ x y, c x y = 0 → x = y

def levRow (c : Nat → Nat → Nat) (x : Nat) (f : List Nat → Nat) : List Nat → Nat
  | [] => f [] + 2
  | y :: b => min (min (f (y :: b) + 2) (levRow c x f b + 2)) (f b + c x y)
def lev (c : Nat → Nat → Nat) : List Nat → List Nat → Nat
  | [] => fun b => 2 * b.length
  | x :: a => levRow c x (lev c a)

section
variable {c : Nat → Nat → Nat}
theorem lev_nil (b : List Nat) : lev c [] b = 2 * b.length := rfl
theorem lev_cons_nil (x : Nat) (a : List Nat) : lev c (x :: a) [] = lev c a [] + 2 := rfl
theorem lev_cons (x : Nat) (a : List Nat) (y : Nat) (b : List Nat) :
    lev c (x :: a) (y :: b) = min (min (lev c a (y :: b) + 2) (lev c (x :: a) b + 2)) (lev c a b + c x y) := rfl
theorem lev_to_nil : ∀ a : List Nat, lev c a [] = 2 * a.length
  | [] => rfl
  | x :: a => by rw [lev_cons_nil, lev_to_nil a, List.length_cons]; omega
theorem lev_del (x : Nat) (a b : List Nat) : lev c (x :: a) b ≤ lev c a b + 2 := by
  cases b with
  | nil => exact Nat.le_refl _
  | cons y b => rw [lev_cons]; omega
theorem lev_ins (y : Nat) (a b : List Nat) : lev c a (y :: b) ≤ lev c a b + 2 := by
  cases a with
  | nil => rw [lev_nil, lev_nil, List.length_cons]; omega
  | cons x a => rw [lev_cons]; omega
theorem lev_sub (x y : Nat) (a b : List Nat) : lev c (x :: a) (y :: b) ≤ lev c a b + c x y := by rw [lev_cons]; omega

/-- an edit script and what it costs -/
inductive Al (c : Nat → Nat → Nat) : List Nat → List Nat → Nat → Prop where
  | nil : Al c [] [] 0
  | del {a b n} (x : Nat) : Al c a b n → Al c (x :: a) b (n + 2)
  | ins {a b n} (y : Nat) : Al c a b n → Al c a (y :: b) (n + 2)
  | sub {a b n} (x y : Nat) : Al c a b n → Al c (x :: a) (y :: b) (n + c x y)

theorem lev_le {a b : List Nat} {n : Nat} (h : Al c a b n) : lev c a b ≤ n := by
  induction h with
  | nil => exact Nat.le_refl _
  | @del a b n x _ ih => have := lev_del (c := c) x a b; omega
  | @ins a b n y _ ih => have := lev_ins (c := c) y a b; omega
  | @sub a b n x y _ ih => have := lev_sub (c := c) x y a b; omega

theorem al_nil_left : ∀ b : List Nat, Al c [] b (2 * b.length)
  | [] => .nil
  | y :: b => by
    have := Al.ins y (al_nil_left b)
    rw [List.length_cons, Nat.mul_add]; exact this
theorem al_lev : ∀ a b : List Nat, Al c a b (lev c a b)
  | [], b => al_nil_left b
  | x :: a, [] => .del x (al_lev a [])
  | x :: a, y :: b => by
    have h1 := Al.del x (al_lev a (y :: b))
    have h2 := Al.ins y (al_lev (x :: a) b)
    have h3 := Al.sub x y (al_lev a b)
    rw [lev_cons]
    generalize hp : lev c a (y :: b) + 2 = p at h1 ⊢
    generalize hq : lev c (x :: a) b + 2 = q at h2 ⊢
    generalize hr : lev c a b + c x y = r at h3 ⊢
    by_cases e1 : min (min p q) r = p
    · rw [e1]; exact h1
    · by_cases e2 : min (min p q) r = q
      · rw [e2]; exact h2
      · rw [show min (min p q) r = r by omega]; exact h3
termination_by a b => a.length + b.length

theorem Al.append {a b a' b' : List Nat} {m n : Nat} (h : Al c a b m) (h' : Al c a' b' n) : Al c (a ++ a') (b ++ b') (m + n) := by
  induction h with
  | nil => simpa using h'
  | del x _ ih => have := Al.del x ih; rw [Nat.add_right_comm] at this; exact this
  | ins y _ ih => have := Al.ins y ih; rw [Nat.add_right_comm] at this; exact this
  | sub x y _ ih => have := Al.sub x y ih; rw [Nat.add_right_comm] at this; exact this
theorem Al.reverse {a b : List Nat} {n : Nat} (h : Al c a b n) : Al c a.reverse b.reverse n := by
  induction h with
  | nil => exact .nil
  | del x _ ih =>
    have := ih.append (Al.del x .nil)
    simpa using this
  | ins y _ ih =>
    have := ih.append (Al.ins y .nil)
    simpa using this
  | sub x y _ ih =>
    have := ih.append (Al.sub x y .nil)
    simpa using this
theorem Al.swap (C : IsCost c) {a b : List Nat} {n : Nat} (h : Al c a b n) : Al c b a n := by
  induction h with
  | nil => exact .nil
  | del x _ ih => exact .ins x ih
  | ins y _ ih => exact .del y ih
  | sub x y _ ih => have := Al.sub y x ih; rw [C.symm y x] at this; exact this

theorem lev_append (a b a' b' : List Nat) : lev c (a ++ a') (b ++ b') ≤ lev c a b + lev c a' b' := lev_le ((al_lev a b).append (al_lev a' b'))
theorem lev_reverse (a b : List Nat) : lev c a.reverse b.reverse = lev c a b := by
  refine Nat.le_antisymm (lev_le (al_lev a b).reverse) ?_
  have := lev_le (al_lev (c := c) a.reverse b.reverse).reverse
  simpa using this
theorem lev_symm (C : IsCost c) (a b : List Nat) : lev c a b = lev c b a :=
  Nat.le_antisymm (lev_le ((al_lev b a).swap C)) (lev_le ((al_lev a b).swap C))
theorem lev_top (a b : List Nat) : lev c a b ≤ 2 * a.length + 2 * b.length := by
  have := lev_append (c := c) a [] [] b
  rw [List.append_nil, List.nil_append, lev_to_nil, lev_nil] at this
  exact this
theorem al_len {a b : List Nat} {n : Nat} (h : Al c a b n) : 2 * a.length ≤ 2 * b.length + n ∧ 2 * b.length ≤ 2 * a.length + n := by
  induction h with
  | nil => exact ⟨Nat.le_refl _, Nat.le_refl _⟩
  | del x _ ih => simp only [List.length_cons]; omega
  | ins y _ ih => simp only [List.length_cons]; omega
  | sub x y _ ih => simp only [List.length_cons]; omega
theorem lev_len (a b : List Nat) : 2 * a.length ≤ 2 * b.length + lev c a b ∧ 2 * b.length ≤ 2 * a.length + lev c a b := al_len (al_lev a b)

theorem lev_tri (C : IsCost c) : ∀ a b d : List Nat, lev c a d ≤ lev c a b + lev c b d
  | [], b, d => by have := (lev_len (c := c) b d).2; rw [lev_nil, lev_nil]; omega
  | x :: a, [], d => by have := lev_top (c := c) (x :: a) d; rw [lev_to_nil, lev_nil]; omega
  | x :: a, y :: b, [] => by have := (lev_len (c := c) (x :: a) (y :: b)).1; rw [lev_to_nil, lev_to_nil]; omega
  | x :: a, y :: b, z :: d => by
    have i1 := lev_tri C a (y :: b) (z :: d)
    have i2 := lev_tri C (x :: a) (y :: b) d
    have i3 := lev_tri C (x :: a) b (z :: d)
    have i4 := lev_tri C (x :: a) b d
    have i5 := lev_tri C a b (z :: d)
    have i6 := lev_tri C a b d
    have t := C.tri x y z
    have e1 := lev_cons (c := c) x a y b
    have e2 := lev_cons (c := c) y b z d
    have e3 := lev_cons (c := c) x a z d
    omega
termination_by a b d => a.length + b.length + d.length

theorem lev_self (C : IsCost c) : ∀ a : List Nat, lev c a a = 0
  | [] => rfl
  | x :: a => by
    have := lev_sub (c := c) x x a a
    rw [lev_self C a, C.self] at this
    omega
theorem lev_zero (C : IsCost c) {a b : List Nat} (h : lev c a b = 0) : a = b := by
  have g := al_lev (c := c) a b
  rw [h] at g
  clear h
  generalize hn : 0 = n at g
  induction g with
  | nil => rfl
  | del x _ _ => omega
  | ins x _ _ => omega
  | sub x y _ ih => rw [ih (by omega), C.eq x y (by omega)]
theorem lev_same (C : IsCost c) (x : Nat) (a b : List Nat) : lev c (x :: a) (x :: b) = lev c a b := by
  have h1 := lev_sub (c := c) x x a b
  rw [C.self] at h1
  have h2 := lev_tri C a (x :: b) b
  have h3 := lev_del (c := c) x b b
  rw [lev_self C] at h3
  have h4 := lev_tri C a (x :: a) b
  have h5 := lev_ins (c := c) x a a
  rw [lev_self C] at h5
  have e := lev_cons (c := c) x a x b
  rw [C.self] at e
  omega
theorem lev_snoc (a : List Nat) (x : Nat) (b : List Nat) (y : Nat) :
    lev c (a ++ [x]) (b ++ [y]) = min (min (lev c a (b ++ [y]) + 2) (lev c (a ++ [x]) b + 2)) (lev c a b + c x y) := by
  rw [← lev_reverse (a ++ [x]) (b ++ [y]), ← lev_reverse a (b ++ [y]), ← lev_reverse (a ++ [x]) b, ← lev_reverse a b]
  simp only [List.reverse_append, List.reverse_cons, List.reverse_nil, List.nil_append, List.singleton_append]
  exact lev_cons x a.reverse y b.reverse
theorem lev_same_end (C : IsCost c) (x : Nat) (a b : List Nat) : lev c (a ++ [x]) (b ++ [x]) = lev c a b := by
  rw [← lev_reverse (a ++ [x]) (b ++ [x]), ← lev_reverse a b]
  simp only [List.reverse_append, List.reverse_cons, List.reverse_nil, List.nil_append, List.singleton_append]
  exact lev_same C x _ _
theorem lev_turn (C : IsCost c) (p q : List Nat) : lev c (p ++ q) (q ++ p) ≤ 4 * min p.length q.length := by
  have h1 := lev_append (c := c) p [] q q
  have h2 := lev_append (c := c) q q [] p
  have h3 := lev_append (c := c) p p q []
  have h4 := lev_append (c := c) [] q p p
  have t1 := lev_tri C (p ++ q) q (q ++ p)
  have t2 := lev_tri C (p ++ q) p (q ++ p)
  simp only [List.nil_append, List.append_nil, lev_to_nil, lev_nil, lev_self C] at h1 h2 h3 h4
  omega
/-- places at which two words of one length part -/
def parts : List Nat → List Nat → Nat
  | x :: a, y :: b => (if x = y then 0 else 1) + parts a b
  | _, _ => 0
theorem lev_parts (C : IsCost c) : ∀ a b : List Nat, a.length = b.length → lev c a b ≤ 2 * parts a b
  | [], [], _ => Nat.le_refl _
  | x :: a, y :: b, h => by
    have ih := lev_parts C a b (by simpa using h)
    have h1 := lev_sub (c := c) x y a b
    have h2 := C.top x y
    unfold parts
    by_cases e : x = y
    · subst e; rw [C.self] at h1; simp; omega
    · simp [e]; omega
  | [], y :: b, h => by simp at h
  | x :: a, [], h => by simp at h

/-- the drop at both fronts of an equal letter -/
theorem lev_drop (C : IsCost c) {a b : List Nat} {k : Nat} (h : k < a.length) (h' : k < b.length) (e : a[k]? = b[k]?) :
    lev c (a.drop (k + 1)) (b.drop (k + 1)) = lev c (a.drop k) (b.drop k) := by
  rw [List.getElem?_eq_getElem h, List.getElem?_eq_getElem h'] at e
  rw [List.drop_eq_getElem_cons h, List.drop_eq_getElem_cons h', Option.some.inj e, lev_same C]
theorem lev_take (C : IsCost c) {a b : List Nat} {i j : Nat} (h : i < a.length) (h' : j < b.length) (e : a[i]? = b[j]?) :
    lev c (a.take (i + 1)) (b.take (j + 1)) = lev c (a.take i) (b.take j) := by
  rw [List.take_add_one, List.take_add_one, e, List.getElem?_eq_getElem h']
  exact lev_same_end C _ _ _
theorem lev_step {a b : List Nat} {i j x y : Nat} (h : a[i]? = some x) (h' : b[j]? = some y) :
    lev c (a.take (i + 1)) (b.take (j + 1)) = min (min (lev c (a.take i) (b.take (j + 1)) + 2) (lev c (a.take (i + 1)) (b.take j) + 2)) (lev c (a.take i) (b.take j) + c x y) := by
  rw [List.take_add_one, List.take_add_one, h, h']
  exact lev_snoc _ _ _ _
end
end Mine
end
section
open PySem PySem.W PyProof.Rows
namespace Mine
abbrev ls (x : Str) : List Nat := x.cps.toList
theorem ls_len (x : Str) : (ls x).length = x.length := by simp [Str.length]
theorem ls_ext {x y : Str} (h : ls x = ls y) : x = y := by
  cases x; cases y; simp [ls] at h; simp [h]
theorem ls_from {x : Str} {k : Int} (h0 : 0 ≤ k) (h1 : k ≤ x.length) : ls (Txt.slice x (some k) none) = (ls x).drop k.toNat := by
  rw [slice_from_eq (b := (x.length : Int)) h0 h1 rfl]
  show ((x.cps.toList.drop k.toNat).take _) = _
  rw [List.take_of_length_le]
  rw [List.length_drop, ls_len]; omega
theorem ls_to {x : Str} {k : Int} (h0 : 0 ≤ k) (h1 : k ≤ x.length) : ls (Txt.slice x none (some k)) = (ls x).take k.toNat := by
  rw [beq_iff_eq.mp (slice_closes_toL h0 h1)]
  simp [ls]
theorem ls_to_neg {x : Str} {k : Int} (h0 : k < 0) (h1 : -(x.length : Int) ≤ k) : ls (Txt.slice x none (some k)) = (ls x).take (x.length + k).toNat := by
  rw [beq_iff_eq.mp (slice_closes_to_neg (k := k + x.length) h0 h1 rfl)]
  simp [ls, Int.add_comm]
theorem item_at' {x : Str} {k : Int} (h0 : 0 ≤ k) (h1 : k < x.length) : Txt.item x k = ⟨#[(ls x).getD k.toNat 0]⟩ := by
  rw [beq_iff_eq.mp (item_closes ⟨h0, h1⟩)]
  simp [ls]
theorem item_neg {x : Str} {k : Int} (h0 : k < 0) (h1 : -(x.length : Int) ≤ k) : Txt.item x k = ⟨#[(ls x).getD (x.length + k).toNat 0]⟩ := by
  rw [beq_iff_eq.mp (item_closes_neg h0 h1 rfl)]
  simp [ls, Int.add_comm]
theorem getD_some {a : List Nat} {k : Nat} (h : k < a.length) : a[k]? = some (a.getD k 0) := by
  rw [List.getD_eq_getElem?_getD, List.getElem?_eq_getElem h]; rfl
theorem one_inj {i j : Nat} (h : (⟨#[i]⟩ : Str) = ⟨#[j]⟩) : i = j := by
  simpa using h

/-- the program's cost of turning, on letters -/
def cN (i j : Nat) : Nat := if i = j then 0 else if Txt.lower ⟨#[i]⟩ = Txt.lower ⟨#[j]⟩ then 1 else 2
theorem cN_is : IsCost cN where
  self := by intro x; simp [cN]
  top := by intro x y; simp only [cN]; split <;> (try split) <;> omega
  symm := by
    intro x y
    simp only [cN, eq_comm (a := x), eq_comm (a := Txt.lower ⟨#[x]⟩)]
  tri := by
    intro x y z
    simp only [cN]
    by_cases h1 : x = y
    · subst h1; simp
    · by_cases h2 : y = z
      · subst h2; simp
      · by_cases h3 : Txt.lower ⟨#[x]⟩ = Txt.lower ⟨#[y]⟩ <;> by_cases h4 : Txt.lower ⟨#[y]⟩ = Txt.lower ⟨#[z]⟩ <;> simp only [h1, h2, h3, h4, if_true, if_false] <;> (repeat' split) <;> omega
  eq := by
    intro x y h
    simp only [cN] at h
    by_cases e : x = y
    · exact e
    · simp only [e, if_false] at h; split at h <;> omega
theorem cost_cN (i j : Nat) : cost ⟨#[i]⟩ ⟨#[j]⟩ = (cN i j : Int) := by
  simp only [cost, cN]
  by_cases e : i = j
  · subst e; simp
  · have : ¬ (⟨#[i]⟩ : Str) = ⟨#[j]⟩ := fun h => e (one_inj h)
    simp only [e, this, if_false]
    split <;> rfl
theorem cost_items {x y : Str} {i j : Int} (h0 : 0 ≤ i) (h1 : i < x.length) (h2 : 0 ≤ j) (h3 : j < y.length) :
    cost (Txt.item x i) (Txt.item y j) = (cN ((ls x).getD i.toNat 0) ((ls y).getD j.toNat 0) : Int) := by
  rw [item_at' h0 h1, item_at' h2 h3, cost_cN]
/-- what the function yields -/
@[irreducible] def far (x y : Str) : Nat := lev cN (ls x) (ls y)
end Mine
namespace Mine
theorem far_def (x y : Str) : far x y = lev cN (ls x) (ls y) := by unfold far; rfl
theorem pre_turn {x y : Str} {k : Int} (h0 : 0 ≤ k) (hx : k < x.length) (hy : k < y.length) (e : (Txt.item x k == Txt.item y k) = true) :
    lev cN ((ls x).drop (k + 1).toNat) ((ls y).drop (k + 1).toNat) = lev cN ((ls x).drop k.toNat) ((ls y).drop k.toNat) := by
  have e := beq_iff_eq.mp e
  rw [item_at' h0 hx, item_at' h0 hy] at e
  have e := one_inj e
  have l1 := ls_len x
  have l2 := ls_len y
  rw [show (k + 1).toNat = k.toNat + 1 by omega]
  refine lev_drop cN_is (by omega) (by omega) ?_
  rw [getD_some (by omega), getD_some (by omega), e]
theorem post_turn {x y : Str} {p : Int} (hx : -(x.length : Int) < p) (hy : -(y.length : Int) < p) (hp : p ≤ 0) (e : (Txt.item x (p - 1) == Txt.item y (p - 1)) = true) :
    lev cN ((ls x).take (x.length + (p - 1)).toNat) ((ls y).take (y.length + (p - 1)).toNat) = lev cN ((ls x).take (x.length + p).toNat) ((ls y).take (y.length + p).toNat) := by
  have e := beq_iff_eq.mp e
  rw [item_neg (by omega) (by omega), item_neg (by omega) (by omega)] at e
  have e := one_inj e
  have l1 := ls_len x
  have l2 := ls_len y
  rw [show (x.length + p).toNat = (x.length + (p - 1)).toNat + 1 by omega, show (y.length + p).toNat = (y.length + (p - 1)).toNat + 1 by omega]
  refine (lev_take cN_is (by omega) (by omega) ?_).symm
  rw [getD_some (by omega), getD_some (by omega), e]
theorem far_from {x y : Str} {k : Int} (h0 : 0 ≤ k) (hx : k ≤ x.length) (hy : k ≤ y.length) (e : lev cN ((ls x).drop k.toNat) ((ls y).drop k.toNat) = far x y) :
    far (Txt.slice x (some k) none) (Txt.slice y (some k) none) = far x y := by
  rw [far_def, ls_from h0 hx, ls_from h0 hy, e]
theorem far_to {x y : Str} {p : Int} (hp : p < 0) (hx : -(x.length : Int) ≤ p) (hy : -(y.length : Int) ≤ p) (e : lev cN ((ls x).take (x.length + p).toNat) ((ls y).take (y.length + p).toNat) = far x y) :
    far (Txt.slice x none (some p)) (Txt.slice y none (some p)) = far x y := by
  rw [far_def, ls_to_neg hp hx, ls_to_neg hp hy, e]
theorem far_symm (x y : Str) : far x y = far y x := by rw [far_def, far_def]; exact lev_symm cN_is _ _
theorem far_self (x : Str) : far x x = 0 := by rw [far_def]; exact lev_self cN_is _
theorem far_empty {x y : Str} (h : x.length = 0 ∨ y.length = 0) : (far x y : Int) = 2 * (x.length + y.length) := by
  have l1 := ls_len x
  have l2 := ls_len y
  rcases h with h | h
  · rw [far_def, List.eq_nil_of_length_eq_zero (l1.trans h), lev_nil, l2, h]; omega
  · rw [far_def, List.eq_nil_of_length_eq_zero (l2.trans h), lev_to_nil, l1, h]; omega
end Mine
namespace Mine
theorem len_to_neg {x : Str} {p : Int} (h1 : -(x.length : Int) ≤ p) : p < 0 → ((Txt.slice x none (some p)).length : Int) = x.length + p := by
  intro h0
  have l := ls_len (Txt.slice x none (some p))
  rw [ls_to_neg h0 h1, List.length_take, ls_len] at l
  omega
theorem slice_all (x : Str) : Txt.slice x none none = x := by
  apply ls_ext
  have := beq_iff_eq.mp (slice_closes_toL (x := x) (j := x.length) (by omega) (Int.le_refl _))
  have e : Txt.slice x none none = Txt.slice x none (some (x.length : Int)) := by
    have a2 : ¬ ((x.length : Int) < 0) := by omega
    have e2 : PySem.Builtin.Str.strSliceIndices none (some (x.length : Int)) 1 x.length = PySem.Builtin.Str.strSliceIndices none none 1 x.length := by
      simp [PySem.Builtin.Str.strSliceIndices, a2]
    unfold Txt.slice
    rw [e2]
  rw [e, ls_to (by omega) (Int.le_refl _), List.take_of_length_le]
  rw [ls_len]; omega
end Mine
namespace Mine
open PySem.Builtin PySem.Builtin.Str in
theorem slice_none {prog : Program} {w : World} {A : Around} {E : Value → Shared → Prop} {s : Shared} {value : PySem.Expr} {lo up : Option PySem.Expr} {pos : Pos} {x : Str} {t : Tok} {h₀ : Heap} {L : Addr} {m : Str → Option Value} {news : List (Addr × Obj)} {Q : Value → Shared → Prop}
    (hF : Fr h₀ L s.heap m) (hN : News h₀ L s.heap news) (h : ∀ h' t' k, Fr h₀ L h' m → News h₀ L h' news → Q (.str x t') { s with heap := h', toks := k }) (hsz : x.length ≤ 16777216)
    (ht : ∀ r, letTemporaryGo value (.str x t) r = pure () := by intro _; with_unfolding_all rfl) :
    wpAny (model prog w) A (subscriptTail value (.Slice lo up none pos) (.str x t) (.ref s.heap.objs.size)) Q E { s with heap := s.heap.push { cls := .type "slice", data := .fields #[.none, .none, .none] } } :=
  slice_strN_nn hF hN (fun h' t' k F N => by rw [slice_all]; exact h h' t' k F N) rfl ht (by rw [PySem.sizeLine_eq]; exact hsz)
end Mine
namespace Mine
open PySem.Builtin PySem.Builtin.Str in
theorem slice_neg {prog : Program} {w : World} {A : Around} {E : Value → Shared → Prop} {s : Shared} {value : PySem.Expr} {lo up : Option PySem.Expr} {pos : Pos} {x : Str} {t : Tok} {p : Int} {u : Tok} {h₀ : Heap} {L : Addr} {m : Str → Option Value} {news : List (Addr × Obj)} {Q : Value → Shared → Prop}
    (hF : Fr h₀ L s.heap m) (hN : News h₀ L s.heap news) (hp : p < 0) (hx : -(x.length : Int) ≤ p)
    (h : ∀ h' t' k, Fr h₀ L h' m → News h₀ L h' news → ((Txt.slice x none (some p)).length : Int) = x.length + p → Q (.str (Txt.slice x none (some p)) t') { s with heap := h', toks := k }) (hsz : x.length ≤ 16777216)
    (ht : ∀ r, letTemporaryGo value (.str x t) r = pure () := by intro _; with_unfolding_all rfl) :
    wpAny (model prog w) A (subscriptTail value (.Slice lo up none pos) (.str x t) (.ref s.heap.objs.size)) Q E { s with heap := s.heap.push { cls := .type "slice", data := .fields #[.none, .int p u, .none] } } :=
  slice_strN_ns hF hN (fun h' t' k F N => h h' t' k F N (len_to_neg hx hp)) rfl ht (by rw [PySem.sizeLine_eq]; exact hsz)
end Mine
namespace Mine
@[irreducible] def Pre (x y : Str) (k : Int) : Prop := lev cN ((ls x).drop k.toNat) ((ls y).drop k.toNat) = far x y
@[irreducible] def Post (x y : Str) (p : Int) : Prop := lev cN ((ls x).take (x.length + p).toNat) ((ls y).take (y.length + p).toNat) = far x y
theorem Pre.zero (x y : Str) : Pre x y 0 := by unfold Pre; rw [far_def]; rfl
theorem Pre.turn {x y : Str} {k : Int} (h : Pre x y k) (h0 : 0 ≤ k) (hx : k < x.length) (hy : k < y.length) (e : (Txt.item x k == Txt.item y k) = true) : Pre x y (k + 1) := by
  unfold Pre at *
  exact (pre_turn h0 hx hy e).trans h
theorem Pre.done {x y : Str} {k : Int} (h : Pre x y k) (h0 : 0 ≤ k) (hx : k ≤ x.length) (hy : k ≤ y.length) : far (Txt.slice x (some k) none) (Txt.slice y (some k) none) = far x y := by
  unfold Pre at h
  exact far_from h0 hx hy h
theorem Post.zero (x y : Str) : Post x y 0 := by
  unfold Post
  rw [List.take_of_length_le, List.take_of_length_le, far_def] <;> rw [ls_len] <;> omega
theorem Post.turn {x y : Str} {p : Int} (h : Post x y p) (hp : p ≤ 0) (hx : -(x.length : Int) < p) (hy : -(y.length : Int) < p) (e : (Txt.item x (p - 1) == Txt.item y (p - 1)) = true) : Post x y (p - 1) := by
  unfold Post at *
  exact (post_turn hx hy hp e).trans h
theorem Post.done {x y : Str} {p : Int} (h : Post x y p) (hp : p < 0) (hx : -(x.length : Int) ≤ p) (hy : -(y.length : Int) ≤ p) : far (Txt.slice x none (some p)) (Txt.slice y none (some p)) = far x y := by
  unfold Post at h
  exact far_to hp hx hy h
end Mine
namespace Mine
@[irreducible] def orNone (p : Int) (t : Tok) : Value := if p = 0 then .none else .int p t
@[irreducible] def cutEnd (x : Str) (p : Int) : Str := if p = 0 then x else Txt.slice x none (some p)
theorem cutEnd_le (x : Str) (p : Int) : (cutEnd x p).length ≤ x.length := by
  unfold cutEnd
  split
  · exact Nat.le_refl _
  · exact PyProof.Txt.length_slice_le _ _ _
theorem Post.cut {x y : Str} {p : Int} (h : Post x y p) (hp : p ≤ 0) (hx : -(x.length : Int) ≤ p) (hy : -(y.length : Int) ≤ p) : far (cutEnd x p) (cutEnd y p) = far x y := by
  unfold cutEnd
  by_cases e : p = 0
  · rw [if_pos e, if_pos e]
  · rw [if_neg e, if_neg e]; exact h.done (by omega) hx hy
/-- a value that is an int: what follows is asked of what f makes of it -/
inductive IsInt (Q : Value → Shared → Prop) (f : Int → Tok → Value) : Value → Shared → Prop where
  | mk {p : Int} {t : Tok} {s : Shared} : Q (f p t) s → IsInt Q f (.int p t) s
theorem or_none {prog : Program} {w : World} {A : Around} {E : Value → Shared → Prop} {s : Shared} {env : Env} {e : PySem.Expr} {k pos pos'} {Q : Value → Shared → Prop}
    (h : wpAny (model prog w) A (eval e env) (IsInt Q orNone) E s) : wpAny (model prog w) A (eval (.BoolOp .Or [e, .Constant .none k pos] pos') env) Q E s := by
  refine BoolOp_or (wpAny_mono h (fun v s₁ q => ?_) fun _ _ x => x)
  obtain ⟨q⟩ := q
  rename_i p t
  refine truthy_int ?_
  unfold orNone at q
  by_cases e0 : p = 0
  · subst e0
    rw [if_pos rfl] at q
    show (if ((0 : Int) != 0) = true then _ else _)
    rw [if_neg (by decide)]
    exact BoolOp_one (Constant_none q)
  · rw [if_neg e0] at q
    have : (p != 0) = true := by simpa using e0
    rw [if_pos this]
    exact q
theorem cutEnd_len {x : Str} {p : Int} (hp : p ≤ 0) (hx : -(x.length : Int) ≤ p) : ((cutEnd x p).length : Int) = x.length + p := by
  unfold cutEnd
  by_cases e : p = 0
  · rw [if_pos e, e]; omega
  · rw [if_neg e]; exact len_to_neg hx (by omega)
open PySem.Builtin PySem.Builtin.Str in
theorem slice_or {prog : Program} {w : World} {A : Around} {E : Value → Shared → Prop} {s : Shared} {value : PySem.Expr} {lo up : Option PySem.Expr} {pos : Pos} {x : Str} {t : Tok} {p : Int} {u : Tok} {h₀ : Heap} {L : Addr} {m : Str → Option Value} {news : List (Addr × Obj)} {Q : Value → Shared → Prop}
    (hF : Fr h₀ L s.heap m) (hN : News h₀ L s.heap news) (hp : p ≤ 0) (hx : -(x.length : Int) ≤ p)
    (h : ∀ h' t' k, Fr h₀ L h' m → News h₀ L h' news → ((cutEnd x p).length : Int) = x.length + p → Q (.str (cutEnd x p) t') { s with heap := h', toks := k }) (hsz : x.length ≤ 16777216)
    (ht : ∀ r, letTemporaryGo value (.str x t) r = pure () := by intro _; with_unfolding_all rfl) :
    wpAny (model prog w) A (subscriptTail value (.Slice lo up none pos) (.str x t) (.ref s.heap.objs.size)) Q E { s with heap := s.heap.push { cls := .type "slice", data := .fields #[.none, orNone p u, .none] } } := by
  by_cases e : p = 0
  · have e1 : orNone p u = .none := by unfold orNone; exact if_pos e
    have e2 : cutEnd x p = x := by unfold cutEnd; exact if_pos e
    rw [e1]
    rw [e2] at h
    exact slice_none hF hN (fun h' t' k F N => h h' t' k F N (by omega)) hsz ht
  · have e1 : orNone p u = .int p u := by unfold orNone; exact if_neg e
    have e2 : cutEnd x p = Txt.slice x none (some p) := by unfold cutEnd; exact if_neg e
    rw [e1]
    refine slice_strN_ns hF hN (fun h' t' k F N => ?_) rfl ht (by rw [PySem.sizeLine_eq]; exact hsz)
    have l := cutEnd_len hp hx
    have q := h h' t' k F N l
    rw [e2] at q
    exact q
end Mine
end
section
open PySem PySem.W PyProof.Rows
namespace Mine
structure Mark : Prop where
def Stop (P : Prop) : Prop := P
theorem Stop.of {P : Prop} (h : Stop P) : P := h
theorem Stop.to {P : Prop} (h : P) : Stop P := h
theorem fr_eq {h₀ h : Heap} {L : Addr} {m m' : Str → Option Value} (F : Fr h₀ L h m) (e : ∀ z, m z = m' z) : Fr h₀ L h m' := (funext e : m = m') ▸ F

theorem lk_cons {z k : Str} {v : Value} {r : List (Str × Value)} : List.lookup z ((k, v) :: r) = if z = k then some v else List.lookup z r := by
  rw [List.lookup_cons]
  by_cases e : z = k
  · subst e; simp
  · rw [beq_eq_false_iff_ne.mpr e, if_neg e]
/-- a state within a loop: the frame's map is mf k t, the ledger as it was, P k -/
inductive WState (h₀ : Heap) (L : Addr) (s : Shared) (news : List (Addr × Obj)) (mf : Int → Tok → Str → Option Value) (P : Int → Prop) : Shared → Prop where
  | intro (h' : Heap) (tk : Nat) (k : Int) (t : Tok) : Fr h₀ L h' (mf k t) → News h₀ L h' news → P k → WState h₀ L s news mf P { s with heap := h', toks := tk }
inductive WTurn (h₀ : Heap) (L : Addr) (s : Shared) (news : List (Addr × Obj)) (mf : Int → Tok → Str → Option Value) (P : Int → Prop) : Flow → Shared → Prop where
  | next {s₂ : Shared} : WState h₀ L s news mf P s₂ → WTurn h₀ L s news mf P .next s₂
def WEnd (h₀ : Heap) (L : Addr) (s : Shared) (news : List (Addr × Obj)) (mf : Int → Tok → Str → Option Value) (P : Int → Prop) (f : Flow) (s₂ : Shared) : Prop :=
  f = .next ∧ WState h₀ L s news mf P s₂
theorem WState.mk {h₀ : Heap} {L : Addr} {s : Shared} {news : List (Addr × Obj)} {mf : Int → Tok → Str → Option Value} {P : Int → Prop} {h' : Heap} {tk : Nat} {m : Str → Option Value} (k : Int) (t : Tok)
    (F : Fr h₀ L h' m) (e : ∀ z, m z = mf k t z) (N : News h₀ L h' news) (hp : P k) : WState h₀ L s news mf P { s with heap := h', toks := tk } :=
  .intro h' tk k t (fr_eq F e) N hp
theorem WState.store {h₀ : Heap} {L : Addr} {s : Shared} {news : List (Addr × Obj)} {n : Str} {v : Option Value} {base : Str → Option Value} {P : Int → Prop} {h' : Heap} {tk : Nat} {k : Int} {t : Tok}
    (F : Fr h₀ L h' (fun y => if y = n then some (.int k t) else if y = n then v else base y)) (N : News h₀ L h' news) (hp : P k) : WState h₀ L s news (fun k t z => if z = n then some (.int k t) else base z) P { s with heap := h', toks := tk } :=
  .mk k t F (fun z => by by_cases e : z = n <;> simp only [e, if_true, if_false]) N hp

theorem cut {M : Model} {A : Around} {α : Type} {t : Sem α} {E : Value → Shared → Prop} {Q : α → Shared → Prop} {s : Shared} (R : α → Shared → Prop) (h1 : wpAny M A t R E s) (h2 : ∀ f s', R f s' → Q f s') : wpAny M A t Q E s :=
  wpAny_mono h1 h2 fun _ _ h => h
inductive AB (h₀ : Heap) (L : Addr) (s : Shared) (news : List (Addr × Obj)) (tc : Tok) (P : Str → Str → Prop) : Flow → Shared → Prop where
  | intro (h' : Heap) (tk : Nat) (p q : Str) (tp tq : Tok) (rest : Str → Option Value) :
      Fr h₀ L h' (fun z => if z = Str.ofString "a" then some (.str p tp) else if z = Str.ofString "b" then some (.str q tq) else if z = Str.ofString "max_cost" then some (.int 1000 tc) else rest z) →
      News h₀ L h' news → P p q → AB h₀ L s news tc P .next { s with heap := h', toks := tk }
theorem cutAB {M : Model} {A : Around} {t : Sem Flow} {E : Value → Shared → Prop} {Q : Flow → Shared → Prop} {s : Shared} {h₀ : Heap} {L : Addr} {news : List (Addr × Obj)} {tc : Tok} (P : Str → Str → Prop)
    (h1 : wpAny M A t (AB h₀ L s news tc P) E s) (h2 : ∀ f s', AB h₀ L s news tc P f s' → Q f s') : wpAny M A t Q E s := wpAny_mono h1 h2 fun _ _ h => h
theorem AB.mk {h₀ : Heap} {L : Addr} {s : Shared} {news : List (Addr × Obj)} {tc : Tok} {P : Str → Str → Prop} {h' : Heap} {tk : Nat} {m : Str → Option Value} {p q : Str} {tp tq : Tok}
    (F : Fr h₀ L h' m) (N : News h₀ L h' news) (ea : m (Str.ofString "a") = some (.str p tp)) (eb : m (Str.ofString "b") = some (.str q tq)) (ec : m (Str.ofString "max_cost") = some (.int 1000 tc)) (hp : P p q) :
    AB h₀ L s news tc P .next { s with heap := h', toks := tk } := by
  refine .intro h' tk p q tp tq m (fr_eq F fun z => ?_) N hp
  by_cases e1 : z = Str.ofString "a"
  · subst e1; rw [if_pos rfl]; exact ea
  · rw [if_neg e1]
    by_cases e2 : z = Str.ofString "b"
    · subst e2; rw [if_pos rfl]; exact eb
    · rw [if_neg e2]
      by_cases e3 : z = Str.ofString "max_cost"
      · subst e3; rw [if_pos rfl]; exact ec
      · rw [if_neg e3]

section
variable {prog : Program} {w : World} {A : Around} {E : Value → Shared → Prop} {Q : Flow → Shared → Prop} {s : Shared} {env : Env} {h₀ : Heap} {L : Addr}
theorem while_cut {test : PySem.Expr} {body : List Stmt} {pos : Pos} {news : List (Addr × Obj)} (mf : Int → Tok → Str → Option Value) (P : Int → Prop) (μ : Int → Nat) {k₀ : Int} {t₀ : Tok} {m : Str → Option Value}
    (F : Fr h₀ L s.heap m) (e : ∀ z, m z = mf k₀ t₀ z) (N : News h₀ L s.heap news) (hp : P k₀)
    (turn : ∀ k t h₁ tk₁, P k → Fr h₀ L h₁ (mf k t) → News h₀ L h₁ news →
      wpAny (model prog w) A (isTrue test env (eval test env)) (fun b s₂ =>
        if b = true then wpAny (model prog w) A (execs body env) (WTurn h₀ L s news mf (fun k' => P k' ∧ μ k' < μ k)) E s₂ else WState h₀ L s news mf P s₂) E { s with heap := h₁, toks := tk₁ })
    (cont : ∀ k t h tk, P k → Fr h₀ L h (mf k t) → News h₀ L h news → Q .next { s with heap := h, toks := tk })
    (hE : PassesOwn (model prog w) A env E := by passes_own) :
    wpAny (model prog w) A (exec (.While test body [] pos) env) Q E s := by
  refine wpAny_mono (Q := WEnd h₀ L s news mf P) (E := E) (While_inv2 (fun n m nx => nx = news ∧ ∃ k t, m = mf k t ∧ P k ∧ n = μ k) (fr_eq F e) N ⟨rfl, k₀, t₀, rfl, hp, rfl⟩ ?_ hE) ?_ fun _ _ h => h
  · rintro n m₁ nx h₁ tk₁ F₁ N₁ ⟨rfl, k, t, rfl, hp', rfl⟩
    refine wpAny_mono (turn k t h₁ tk₁ hp' F₁ N₁) (fun b s₂ h => ?_) fun _ _ h => h
    cases b with
    | false => simp only [Bool.false_eq_true, if_false] at h ⊢; exact ⟨rfl, h⟩
    | true =>
      simp only [if_true] at h ⊢
      refine wpAny_mono h (fun f s₃ q => ?_) fun _ _ h => h
      obtain ⟨h', tk, k', t', F', N', hp'', hm⟩ := q
      exact ⟨h', tk, _, _, _, rfl, F', N', hm, rfl, k', t', rfl, hp'', rfl⟩
  · rintro f s₂ ⟨rfl, h', tk, k, t, F', N', hp'⟩
    exact cont k t h' tk hp' F' N'
theorem while_one {test : PySem.Expr} {body : List Stmt} {pos : Pos} {news : List (Addr × Obj)} {n : Str} {base : Str → Option Value} {k₀ : Int} {t₀ : Tok}
    (F : Fr h₀ L s.heap (fun y => if y = n then some (.int k₀ t₀) else base y)) (N : News h₀ L s.heap news) (P : Int → Prop) (μ : Int → Nat) (hp : P k₀)
    (turn : ∀ k t h₁ tk₁, P k → Fr h₀ L h₁ (fun y => if y = n then some (.int k t) else base y) → News h₀ L h₁ news →
      wpAny (model prog w) A (isTrue test env (eval test env)) (fun b s₂ =>
        if b = true then wpAny (model prog w) A (execs body env) (WTurn h₀ L s news (fun k t y => if y = n then some (.int k t) else base y) (fun k' => P k' ∧ μ k' < μ k)) E s₂
        else WState h₀ L s news (fun k t y => if y = n then some (.int k t) else base y) P s₂) E { s with heap := h₁, toks := tk₁ })
    (cont : ∀ k t h tk, P k → Fr h₀ L h (fun y => if y = n then some (.int k t) else base y) → News h₀ L h news → Q .next { s with heap := h, toks := tk })
    (hE : PassesOwn (model prog w) A env E := by passes_own) :
    wpAny (model prog w) A (exec (.While test body [] pos) env) Q E s :=
  while_cut (fun k t y => if y = n then some (.int k t) else base y) P μ F (fun _ => rfl) N hp turn cont hE
end
end Mine
end
section
open PySem PySem.W PyProof.Rows
namespace Mine
def rowL (A B : List Nat) (i j : Nat) : List Int := (List.range A.length).map fun t => ((lev cN (A.take (t + 1)) (B.take (if t < i then j + 1 else j)) : Nat) : Int)
theorem rowL_len (A B : List Nat) (i j : Nat) : (rowL A B i j).length = A.length := by simp [rowL]
theorem rowL_at {A B : List Nat} {i j t : Nat} (h : t < A.length) : (rowL A B i j)[t]? = some ((lev cN (A.take (t + 1)) (B.take (if t < i then j + 1 else j)) : Nat) : Int) := by
  simp [rowL, h]
theorem rowL_set {A B : List Nat} {i j : Nat} (h : i < A.length) : (rowL A B i j).set i ((lev cN (A.take (i + 1)) (B.take (j + 1)) : Nat) : Int) = rowL A B (i + 1) j := by
  apply List.ext_getElem?
  intro t
  by_cases ht : t < A.length
  · rw [List.getElem?_set, rowL_at ht, rowL_at ht, rowL_len]
    by_cases e : i = t
    · subst e; simp [h]
    · have : (t < i + 1) ↔ t < i := by omega
      simp [e, this]
  · rw [List.getElem?_eq_none (by rw [List.length_set, rowL_len]; omega), List.getElem?_eq_none (by rw [rowL_len]; omega)]
theorem rowL_next (A B : List Nat) (j : Nat) : rowL A B A.length j = rowL A B 0 (j + 1) := by
  apply List.ext_getElem?
  intro t
  by_cases ht : t < A.length
  · rw [rowL_at ht, rowL_at ht]; simp [ht]
  · rw [List.getElem?_eq_none (by rw [rowL_len]; omega), List.getElem?_eq_none (by rw [rowL_len]; omega)]
theorem rowL_start (A B : List Nat) : rowL A B 0 0 = (List.range A.length).map fun t => 2 + ((t : Nat) : Int) * 2 := by
  apply List.ext_getElem?
  intro t
  by_cases ht : t < A.length
  · rw [rowL_at ht]
    simp only [Nat.not_lt_zero, if_false, List.take_zero, lev_to_nil, List.getElem?_map, List.getElem?_range ht, Option.map_some, List.length_take]
    congr 1
    omega
  · rw [List.getElem?_eq_none (by rw [rowL_len]; omega), List.getElem?_eq_none (by simp; omega)]

@[irreducible] def Row (p q : Str) (i j : Int) (ns : List Int) : Prop := ns = rowL (ls p) (ls q) i.toNat j.toNat
@[irreducible] def At (p q : Str) (i j r : Int) : Prop := r = ((lev cN ((ls p).take i.toNat) ((ls q).take j.toNat) : Nat) : Int)
@[irreducible] def Res (p q : Str) (i j r : Int) : Prop := (i = 0 → r = 2 * j) ∧ (0 < i → At p q i (j + 1) r)
theorem Row.len {p q : Str} {i j : Int} {ns : List Int} (h : Row p q i j ns) : ns.length = p.length := by
  unfold Row at h
  rw [h, rowL_len, ls_len]
theorem Row.start {p q : Str} {ns : List Int} (h : ns = (List.range p.length).map fun t => 2 + ((t : Nat) : Int) * 2) : Row p q 0 0 ns := by
  unfold Row
  rw [h, ← ls_len p]
  exact (rowL_start _ _).symm
theorem Row.next {p q : Str} {j : Int} {ns : List Int} (hj : 0 ≤ j) (h : Row p q p.length j ns) : Row p q 0 (j + 1) ns := by
  unfold Row at *
  have e : ((p.length : Int)).toNat = (ls p).length := by rw [ls_len]; omega
  rw [h, e, rowL_next]
  congr 1
  omega
theorem At.bound {p q : Str} {i j r : Int} (h : At p q i j r) (hp : p.length ≤ 40) (hq : q.length ≤ 40) : 0 ≤ r ∧ r ≤ 160 := by
  unfold At at h
  have := lev_top (c := cN) ((ls p).take i.toNat) ((ls q).take j.toNat)
  simp only [List.length_take, ls_len] at this
  omega
theorem At.start {p q : Str} {j : Int} (h0 : 0 ≤ j) (h1 : j ≤ q.length) : At p q 0 j (2 * j) := by
  unfold At
  simp only [Int.toNat_zero, List.take_zero, lev_nil, List.length_take, ls_len]
  omega
theorem Res.start {p q : Str} {j : Int} : Res p q 0 j (2 * j) := by
  unfold Res
  exact ⟨fun _ => rfl, fun h => absurd h (by decide)⟩
theorem Res.at {p q : Str} {i j r : Int} (h : Res p q i j r) (h0 : 0 < i) : At p q i (j + 1) r := by
  unfold Res at h
  exact h.2 h0
structure OutSt where
  us : List Value
  r : Int
  t : Tok
structure InSt where
  us : List Value
  d : Int
  td : Tok
  r : Int
  tr : Tok
  mn : Int
  tm : Tok
theorem dp_step {p q : Str} {i j d r d' r' : Int} {ns : List Int} (hR : Row p q i j ns) (hd : At p q i j d) (hr : Res p q i j r) (hi : 0 ≤ i) (hi' : i < p.length) (hj : 0 ≤ j) (hj' : j < q.length)
    (ed : d' = ns.getD i.toNat 0) (er : r' = min (min r d' + 2) (d + cost (Txt.item q j) (Txt.item p i))) :
    At p q (i + 1) j d' ∧ Res p q (i + 1) j r' ∧ At p q (i + 1) (j + 1) r' ∧ Row p q (i + 1) j (ns.set i.toNat r') := by
  have l1 := ls_len p
  have l2 := ls_len q
  have ei : (i + 1).toNat = i.toNat + 1 := by omega
  have ej : (j + 1).toNat = j.toNat + 1 := by omega
  have hd' : d' = ((lev cN ((ls p).take (i.toNat + 1)) ((ls q).take j.toNat) : Nat) : Int) := by
    unfold Row at hR
    rw [ed, hR, List.getD_eq_getElem?_getD, rowL_at (by omega)]
    simp
  have key : r' = ((lev cN ((ls p).take (i.toNat + 1)) ((ls q).take (j.toNat + 1)) : Nat) : Int) := by
    have st := lev_step (c := cN) (a := ls p) (b := ls q) (i := i.toNat) (j := j.toNat) (getD_some (by omega)) (getD_some (by omega))
    have ec := cost_items (x := q) (y := p) hj hj' hi hi'
    rw [ec] at er
    unfold At at hd
    have sy := cN_is.symm ((ls q).getD j.toNat 0) ((ls p).getD i.toNat 0)
    have tp := cN_is.top ((ls p).getD i.toNat 0) ((ls q).getD j.toNat 0)
    rw [sy] at er
    unfold Res at hr
    by_cases e0 : i = 0
    · have e1 := hr.1 e0
      subst e0
      have n1 : lev cN ((ls p).take (0 : Int).toNat) ((ls q).take (j.toNat + 1)) = 2 * (j.toNat + 1) := by
        simp only [Int.toNat_zero, List.take_zero, lev_nil, List.length_take]; omega
      have n2 : lev cN ((ls p).take (0 : Int).toNat) ((ls q).take j.toNat) = 2 * j.toNat := by
        simp only [Int.toNat_zero, List.take_zero, lev_nil, List.length_take]; omega
      rw [n1, n2] at st
      rw [n2] at hd
      omega
    · have e1 := hr.2 (by omega)
      unfold At at e1
      rw [ej] at e1
      omega
  have ha : At p q (i + 1) (j + 1) r' := by
    unfold At
    rw [ei, ej]; exact key
  refine ⟨?_, ?_, ha, ?_⟩
  · unfold At
    rw [ei]; exact hd'
  · unfold Res
    exact ⟨fun h => by omega, fun _ => ha⟩
  · unfold Row at *
    rw [key, hR, ei]
    exact rowL_set (by omega)
theorem dp_turn {p q : Str} {i j d r r' : Int} {ns : List Int} (hl : (ns.set i.toNat r').length = ns.length) (hR : Row p q i j ns) (hd : At p q i j d) (hr : Res p q i j r) (hi : 0 ≤ i) (hi' : i < p.length) (hj : 0 ≤ j) (hj' : j < q.length)
    (hp : p.length ≤ 40) (hq : q.length ≤ 40)
    (er : r' = min (min r (ns.getD i.toNat 0) + 2) (d + cost (Txt.item q j) (Txt.item p i))) :
    At p q (i + 1) j (ns.getD i.toNat 0) ∧ Res p q (i + 1) j r' ∧ Row p q (i + 1) j (ns.set i.toNat r') ∧ 0 ≤ r' ∧ r' ≤ 160 := by
  have st := dp_step hR hd hr hi hi' hj hj' rfl er
  have b := st.2.2.1.bound hp hq
  exact ⟨st.1, st.2.1, st.2.2.2, b.1, b.2⟩
theorem At.last {p q : Str} {r : Int} (h : At p q p.length q.length r) : r = (far p q : Int) := by
  unfold At at h
  rw [h, far_def, List.take_of_length_le, List.take_of_length_le] <;> (rw [ls_len]; omega)

section
variable {prog : Program} {w : World} {A : Around} {E : Value → Shared → Prop} {s : Shared} {h₀ : Heap} {L r : Addr} {m : Str → Option Value} {news : List (Addr × Obj)} {t₀ u₀ v₀ : Tok} {Q : Value → Shared → Prop}
theorem ints_of {f : Nat → Int} : ∀ (vs : List Value) (n : Nat) (g : Nat → Nat), vs.length = n → (∀ (j : Nat) (v : Value), vs[j]? = some v → ∃ t, v = .int (f (g j)) t) → IntsAre vs ((List.range n).map fun j => f (g j))
  | [], _, _, e, _ => by subst e; exact IntsAre.nil
  | v :: vs, n, g, e, h => by
    subst e
    rw [List.length_cons, List.range_succ_eq_map, List.map_cons, List.map_map]
    obtain ⟨t, rfl⟩ := h 0 v rfl
    refine IntsAre.cons _ _ ?_
    exact ints_of vs vs.length (fun j => g (j + 1)) rfl fun j w hj => h (j + 1) w hj
theorem row_made {p q : Str} {g : Heap} (hz : p.length ≤ 40) (hh : A.handled = none) (F : Fr h₀ L g m) (N : News h₀ L g news) (hg : ∀ b o, g.get? b = some o → s.heap.get? b = some o) (hr : IsRange s.heap r 2 (2 * ((p.length : Int) + 1)) 2 t₀ u₀ v₀)
    (h : ∀ D us c h' tk ns, Fr h₀ L h' m → News h₀ L h' ((D, listOf (List.toArray us) c) :: news) → (∀ p ∈ news, p.1 < D) → IntsAre us ns → Row p q 0 0 ns → Q (.ref D) { s with heap := h', toks := tk }) :
    wpAny (model prog w) A (call (.type "list") [.ref r]) Q E s := by
  have hsize : Builtin.Range.rangeSize 2 (2 * ((p.length : Int) + 1)) 2 = ((p.length : Nat) : Int) := by
    unfold Builtin.Range.rangeSize
    rw [if_pos (by decide)]
    by_cases e : p.length = 0
    · rw [e]; decide
    · rw [if_pos (by omega)]; omega
  have hsmall : Builtin.Range.small 2 (2 * ((p.length : Int) + 1)) 2 = true := by
    unfold Builtin.Range.small
    rw [hsize]
    have a1 : Builtin.Range.rangeFitsLong 2 = true := by decide
    have a2 : Builtin.Range.rangeFitsLong (2 * ((p.length : Int) + 1)) = true := by
      unfold Builtin.Range.rangeFitsLong
      simp only [Bool.and_eq_true, decide_eq_true_eq]
      omega
    have a3 : Builtin.Range.rangeFitsLong ((p.length : Nat) : Int) = true := by
      unfold Builtin.Range.rangeFitsLong
      simp only [Bool.and_eq_true, decide_eq_true_eq]
      omega
    have a4 : Builtin.Range.rangeFitsLong (2 * ((p.length : Int) + 1) + (2 - 1)) = true := by
      unfold Builtin.Range.rangeFitsLong
      simp only [Bool.and_eq_true, decide_eq_true_eq]
      omega
    have a5 : (2 : Int) > 0 := by decide
    simp only [a1, a2, a3, Bool.true_and, Bool.and_self]
    rw [if_pos a5, a4, Bool.or_true]
  replace F := F.keeps hg
  replace N : News h₀ L s.heap news := fun p hp => ⟨hg _ _ (N p hp).1, (N p hp).2⟩
  refine call_list_range hh hr hsmall hsize (by omega) fun h' tk acc c hk hD hI => ?_
  have hD' : h'.get? s.heap.objs.size = some (listOf (List.toArray acc.toList) c) := by
    rw [Array.toArray_toList]
    exact hD
  refine h _ acc.toList c h' tk _ (F.keeps hk) (news_pushed F N hk hD' rfl) (fun p hp => Heap.lt_size (N p hp).1) (ints_of (f := fun t => 2 + ((t : Nat) : Int) * 2) acc.toList p.length id (by rw [Array.length_toList]; exact hI.1) fun j v hj => hI.2 j v (by rw [← hj, Array.getElem?_toList])) (Row.start rfl)
end
end Mine
end
section
open PySem PySem.W PyProof.Rows
set_option maxRecDepth 100000
set_option maxHeartbeats 1200000
set_option pp.maxSteps 400
namespace Mine
local macro_rules | `(tactic| walk_at "exec While") => `(tactic| refine Stop.of ?_)
local macro_rules | `(tactic| walk_at "exec For") => `(tactic| (k_here; (rename Fr _ _ _ _ => lF'); (with_unfolding_all refine' For_invVF lF' ?k1 ?k2 ?_; (case k1 => exact rfl); (case k2 => exact rfl); k_whole)))
local macro_rules | `(tactic| walk_at "pyIter ref") => `(tactic| refine Stop.of ?_)
local macro_rules | `(tactic| walk_at "subscriptTail Name Slice str ref") => `(tactic| ((with_reducible show wpAny _ _ (subscriptTail _ (PySem.Expr.Slice none (some (PySem.Expr.BoolOp _ _ _)) none _) (Value.str _ _) (Value.ref _)) _ _ (Shared.mk (Heap.push _ (Obj.mk _ _ (Data.fields #[Value.none, orNone _ _, Value.none]) _)) _ _ _ _)); (with_reducible rename Fr _ _ _ _ => F'); (with_reducible rename News _ _ _ _ => N'); refine slice_or (s := ⟨_, _, _, _, _⟩) F' N' (by omega) (by omega) ?_ (by omega); intro h' t' k F' N' hneg'; (try dsimp only)))
local macro_rules | `(tactic| walk_at "exec If") => `(tactic| ((with_reducible show wpAny _ _ (exec (PySem.Stmt.If _ [PySem.Stmt.Assign [PySem.Expr.Tuple _ _ _] _ _] [] _) _) _ _ _); (fail_if_success (with_reducible rename Mark => hM9)); refine Stop.of ?_))
local macro_rules | `(tactic| walk_at "call type:list") => `(tactic| (refine Stop.of ?_))
local macro_rules | `(tactic| walk_at "eval BoolOp") => `(tactic| (with_reducible refine or_none ?_))
local macro_rules | `(tactic| walk_at "IsInt") => `(tactic| (with_reducible refine IsInt.mk ?_))
local macro_rules | `(tactic| walk_at "call ref") => `(tactic| (k_here; k_dflt (refine' sub_use ?k1 ?k2 ?k3 ?k4 ?k5 ?kK ?hx ?hy ?kd ?ku ?kR; (case k1 => k_asm); (case k2 => k_asm); (case k3 => k_asm); (case k4 => k_asm); (case k5 => k_asm); (case kK => first | exact rfl | assumption); (case hx => omega); (case hy => omega); (case kd => ktr_room); (case ku => ktr_units)); intro t9 h9 tk9 F9 N9; (try dsimp only); (try k_fold)))
theorem lev_claim {w : World} {mean : ExcName → Option Value} {mg mb : Str → Option Value} (cbNews : CbLed) (x : CbStr) (tx : CbTok) (y : CbStr) (ty tc : CbTok) (hx : x.length ≤ 40) (hy : y.length ≤ 40) :
  Claim 3 20 w mean mg mb 28 cbNews [.str x tx, .str y ty, .int 1000 tc] (fun t => .int (far x y) t) := by
  dsimp only [Claim]
  k_fill
  intros
  rename_i hret
  refine wpAny_call ?_
  k_dflt cell_enter
  rename_i g1 L1 h1 FG1 F1 N1 B1 X1 T1
  replace F1 : Fr g1 L1 h1 (fun z => if z = Str.ofString "max_cost" then some (.int 1000 tc) else if z = Str.ofString "b" then some (.str y ty) else if z = Str.ofString "a" then some (.str x tx) else none) := by
    refine fr_eq F1 fun z => ?_
    show List.lookup z [(Str.ofString "max_cost", Value.int 1000 tc), (Str.ofString "b", Value.str y ty), (Str.ofString "a", Value.str x tx)] = _
    simp only [lk_cons, List.lookup_nil]
  k_steps
  · refine cb_retI hret ?_ (by assumption) (by assumption)
    rename_i e _ _ _ _
    rw [beq_iff_eq.mp e, far_self]; rfl
  refine Stop.to ?_
  rename_i F1 N1
  refine while_one F1 N1
    (fun k => 0 ≤ k ∧ k ≤ x.length ∧ k ≤ y.length ∧ Pre x y k) (fun k => x.length - k.toNat) ⟨by omega, by omega, by omega, .zero x y⟩ ?_ ?_
  · clear F1 N1
    rintro k t h₁ tk₁ ⟨h0, h2, h3, h4⟩ F1 N1
    (try dsimp only)
    k_steps
    · refine WTurn.next (WState.store (by assumption) (by assumption) ?_); exact ⟨⟨by omega, by omega, by omega, h4.turn h0 (by omega) (by omega) (by assumption)⟩, by omega⟩
    all_goals exact WState.mk k t (by assumption) (fun _ => rfl) (by assumption) ⟨h0, h2, h3, h4⟩
  · clear F1 N1
    rintro k t h₁ tk₁ ⟨h0, h2, h3, h4⟩ F1 N1
    (try dsimp only)
    k_steps
    refine Stop.to ?_
    rename_i F1 N1
    have l1 : (Txt.slice x (some k) none).length ≤ 40 := by omega
    have l2 : (Txt.slice y (some k) none).length ≤ 40 := by omega
    have e1 := h4.done h0 h2 h3
    generalize Txt.slice x (some k) none = x1 at F1 l1 e1
    generalize Txt.slice y (some k) none = y1 at F1 l2 e1
    refine while_one F1 N1 (fun p => p ≤ 0 ∧ -(x1.length : Int) ≤ p ∧ -(y1.length : Int) ≤ p ∧ Post x1 y1 p) (fun p => (x1.length + p).toNat)
      ⟨by omega, by omega, by omega, .zero x1 y1⟩ ?_ ?_
    · clear F1 N1
      rintro p t h₁ tk₁ ⟨g0, g2, g3, g4⟩ F1 N1
      (try dsimp only)
      k_steps
      · refine WTurn.next (WState.store (by assumption) (by assumption) ?_); exact ⟨⟨by omega, by omega, by omega, g4.turn g0 (by omega) (by omega) (by assumption)⟩, by omega⟩
      all_goals exact WState.mk p t (by assumption) (fun _ => rfl) (by assumption) ⟨g0, g2, g3, g4⟩
    · clear F1 N1
      rintro p t h₁ tk₁ ⟨g0, g2, g3, g4⟩ F1 N1
      (try dsimp only)
      k_steps
      rotate_left
      · refine cb_retI hret ?_ (by assumption) (by assumption)
        have c1 := far_empty (x := cutEnd x1 p) (y := cutEnd y1 p) (by omega)
        rw [g4.cut g0 g2 g3, e1] at c1
        exact c1.symm
      · refine cb_retI hret ?_ (by assumption) (by assumption)
        have c1 := far_empty (x := cutEnd x1 p) (y := cutEnd y1 p) (by omega)
        rw [g4.cut g0 g2 g3, e1] at c1
        exact c1.symm
      refine Stop.to ?_
      have c1 := g4.cut g0 g2 g3
      rw [e1] at c1
      have c2 : (cutEnd x1 p).length ≤ 40 := by omega
      have c3 : (cutEnd y1 p).length ≤ 40 := by omega
      have c4 : (cutEnd x1 p).length ≠ 0 := by omega
      have c5 : (cutEnd y1 p).length ≠ 0 := by omega
      (with_reducible rename Fr g1 L1 _ _ => F1)
      (with_reducible rename News g1 L1 _ _ => N1)
      clear g2 g3 g4 g0 l1 l2 e1 h0 h2 h3 h4 hx hy
      generalize cutEnd x1 p = x2 at *
      generalize cutEnd y1 p = y2 at *
      refine cutAB (h₀ := g1) (L := L1) (news := cbNews) (tc := tc) (fun p q => p.length ≤ q.length ∧ q.length ≤ 40 ∧ 0 < p.length ∧ far p q = far x y) ?_ ?_
      · have hM := Mark.mk
        k_steps
        · refine AB.mk (by assumption) (news := cbNews) (fun p hp => ?_) (by with_unfolding_all rfl) (by with_unfolding_all rfl) (by with_unfolding_all rfl) ⟨by omega, by omega, by omega, (far_symm _ _).trans c1⟩
          (with_reducible rename News g1 L1 _ _ => N1)
          exact N1 p (.tail _ hp)
        · exact AB.mk (by assumption) (by assumption) (by with_unfolding_all rfl) (by with_unfolding_all rfl) (by with_unfolding_all rfl) ⟨by omega, by omega, by omega, c1⟩
      · clear F1 N1
        rintro _ _ ⟨h', tk, p, q, tp, tq, rest, F1, N1, g0, g2, g3, g4⟩
        (try dsimp only)
        k_steps
        refine Stop.to ?_
        (rename IsRange _ _ _ _ _ _ _ _ => rgX); (with_reducible rename Fr _ _ _ _ => F1); (with_reducible rename News _ _ _ _ => N1)
        refine row_made (p := p) (q := q) (by omega) rfl F1 N1 (fun _ _ e => e) rgX ?_
        intro D us cc h2 tk2 ns F2 N2 hlt hI hR
        clear rgX F1 N1
        (try dsimp only)
        k_steps
        refine Stop.to ?_
        (rename IsRange _ _ _ _ _ _ _ _ => rgX); (with_reducible rename Fr _ _ _ _ => F1); (with_reducible rename News _ _ _ _ => N1); (rename IntsAre _ _ => hI)
        (rename IntsAre _ _ => hI)
        have hMk := kstMark
        refine kst_range (σ := OutSt) (fun c => (D, listOf c.us.toArray cc) :: cbNews) (fun c => [(Str.ofString "result", .int c.r c.t)]) (fun _ => True) [Str.ofString "bchar", Str.ofString "distance", Str.ofString "minimum", Str.ofString "index", Str.ofString "substitute", Str.ofString "insert_delete"]
          (fun pre c => ∃ ns, IntsAre c.us ns ∧ Row p q 0 pre.length ns ∧ (pre.length = 0 ∨ At p q p.length pre.length c.r)) ⟨us, 0, _⟩ rfl rgX (small_one (by omega) (by omega) (by omega) (by omega)) (rangeSize_nat _ _) F1 N1 trivial (by kst_all) ⟨ns, hI, hR, .inl rfl⟩ ?_ ?_
        · clear rgX F1 N1 hI hR; (try clear ns)
          rintro c pre k t u h tk own ek hkn hoff - ⟨ns, hI, hR, hres⟩ F1 N1
          replace F1 : Fr g1 L1 _ _ := F1
          replace N1 : News g1 L1 _ _ := N1
          (try dsimp only)
          k_steps
          refine Stop.to ?_
          (rename IsRange _ _ _ _ _ _ _ _ => rgX); (with_reducible rename Fr _ _ _ _ => F1); (with_reducible rename News _ _ _ _ => N1); (rename IntsAre _ _ => hI)
          have ek' : ((pre.length : Nat) : Int) = k := by omega
          have hk0 : 0 ≤ k := by omega
          have hk1 : k < q.length := by omega
          rw [ek'] at hR
          have hz := Row.len hR
          refine kst_range (σ := InSt) (fun c => (D, listOf c.us.toArray cc) :: (cbNews ++ own)) (fun c => [(Str.ofString "distance", .int c.d c.td), (Str.ofString "result", .int c.r c.tr), (Str.ofString "minimum", .int c.mn c.tm)]) (fun _ => True) [Str.ofString "substitute", Str.ofString "insert_delete"]
            (fun pre c => ∃ ns, IntsAre c.us ns ∧ ns.length = p.length ∧ Row p q pre.length k ns ∧ At p q pre.length k c.d ∧ Res p q pre.length k c.r ∧ (0 < pre.length → c.mn ≤ 1000)) ⟨c.us, k * 2, _, k * 2, _, 9223372036854775807, _⟩ rfl rgX (small_one (by omega) (by omega) (by omega) (by omega)) (rangeSize_nat _ _) F1 N1 trivial (by kst_all)
            ⟨ns, hI, hz, hR, by rw [Int.mul_comm]; exact .start hk0 (by omega), by rw [Int.mul_comm]; exact .start, fun h => absurd h (Nat.lt_irrefl _)⟩ ?_ ?_
          · clear rgX F1 N1 hI hR hz; (try clear ns)
            rintro c2 pre2 i t2 u2 h3 tk3 own2 ei hin hoff2 - ⟨ns, hI, hz, hR, hA, hS, hM⟩ F1 N1
            have ei' : ((pre2.length : Nat) : Int) = i := by omega
            have hi0 : 0 ≤ i := by omega
            have hi1 : i < p.length := by omega
            rw [ei'] at hR hA hS
            replace F1 : Fr g1 L1 _ _ := F1
            replace N1 : News g1 L1 h3 ((D, listOf c2.us.toArray cc) :: ((cbNews ++ own) ++ own2)) := N1
            (try dsimp only)
            k_steps
            all_goals (
              (rename (List.length (List.set ns _ _) = List.length ns) => hl9)
              (rename IntsAre (List.set _ _ _) _ => hi9)
              have st := dp_turn hl9 hR hA hS hi0 hi1 hk0 hk1 (by omega) (by omega) (by (repeat' split) <;> omega)
              have e9 : (((pre2 ++ [i]).length : Nat) : Int) = i + 1 := by rw [List.length_append, List.length_cons, List.length_nil]; omega
              (rename News _ _ _ _ => nE')
              refine kst_end (σ := InSt) ⟨_, _, _, _, _, _, _⟩ (by assumption) nE' (by first | kst_in | kst_inAny) (by first | (intro p hp; kst_mem) | kst_anyIn) (by rfl) trivial (by kst_all) (by (intro z h1 h2 h3; (simp only [List.forall_mem_cons, List.not_mem_nil, false_implies, implies_true, and_true, ne_eq] at h2); (simp only [List.contains_cons, List.contains_nil, Bool.or_false, Bool.or_eq_false_iff, beq_eq_false_iff_ne, ne_eq] at h3); (simp [kstB, h1, h2, h3]))) ?_
              refine ⟨_, hi9, by rw [hl9, hz], by rw [e9]; exact st.2.2.1, by rw [e9]; exact st.1, by rw [e9]; exact st.2.1, fun _ => ?_⟩
              dsimp only
              omega)
          · clear rgX F1 N1 hI hR hz; (try clear ns)
            rintro c2 u2 h3 tk3 - ⟨ns, hI, hz, hR, hA, hS, hM⟩ F1 N1
            replace F1 : Fr g1 L1 _ _ := F1
            replace N1 : News g1 L1 _ _ := N1
            rw [rangeKs_length, show (((p.length : Int) - 0).toNat : Int) = p.length by omega] at hR hA hS
            have hS' := hS.at (by omega)
            rw [rangeKs_length] at hM
            have hM' := hM (by omega)
            (try dsimp only)
            k_steps
            have e9 : (((pre ++ [k]).length : Nat) : Int) = k + 1 := by rw [List.length_append, List.length_cons, List.length_nil]; omega
            (rename News _ _ _ _ => nE')
            refine kst_end (σ := OutSt) ⟨_, _, _⟩ (by assumption) nE' (by first | kst_in | kst_inAny) (by first | (intro p hp; kst_mem) | kst_anyIn) (by rfl) trivial (by kst_all) (by (intro z h1 h2 h3; (simp only [List.forall_mem_cons, List.not_mem_nil, false_implies, implies_true, and_true, ne_eq] at h2); (simp only [List.contains_cons, List.contains_nil, Bool.or_false, Bool.or_eq_false_iff, beq_eq_false_iff_ne, ne_eq] at h3); (simp [kstB, h1, h2, h3]))) ?_
            exact ⟨_, by assumption, by rw [e9]; exact hR.next hk0, .inr (by rw [e9]; exact hS')⟩
        · clear rgX F1 N1 hI hR; (try clear ns)
          rintro c u h tk - ⟨ns, hI, hR, hres⟩ F1 N1
          (try dsimp only)
          k_steps
          refine cb_retI hret ?_ (by assumption) (fun p hp => ?_)
          · rw [rangeKs_length, show (((q.length : Int) - 0).toNat : Int) = q.length by omega] at hres
            have hr := (hres.resolve_left (by omega)).last
            rw [hr, g4]
          · (rename News _ _ _ (_ :: _) => kN)
            exact kN p (.tail _ hp)
end Mine
end
section
open PySem PySem.W PyProof.Rows
set_option maxRecDepth 100000
set_option maxHeartbeats 8000000
set_option pp.maxSteps 400
namespace Mine
theorem lev_use {w : World} {mean : ExcName → Option Value} {mg mb : Str → Option Value} {news : List (Addr × Obj)} {x y : Str} {tx ty tc : Tok} {dp un : Nat} {gd : Option (List Code)} {cn : Str} {cs : Scope} {a : Addr} {ccd : Value} {cl : List (Str × Addr)} {outer : List Env} {A₀ : Around} {base h₀ : Heap} {L : Addr} {m : Str → Option Value} {s : Shared} {Q E : Value → Shared → Prop}
    (B : Below A₀ base outer h₀) (F : Fr h₀ L s.heap m) (X : Frag.In (hd.heap_39 w.params) h₀) (N : News h₀ L s.heap news) (T : Top hd.view_39 (looseW hd.view_39 []) mean mg mb h₀) (hk : cs.kind = .function)
    (hx : x.length ≤ 40) (hy : y.length ≤ 40) (hd : dp + 3 < recursionLimit) (hu : un + 20 < cLine)
    (ret : ∀ (t : Tok) (h' : Heap) (tk' : Nat), Fr h₀ L h' m → News h₀ L h' news → Q (.int (far x y) t) { s with heap := h', toks := tk' }) :
    wpAny (model PySem.Challenge.rw_gk0003_01.row.prog w) (ktrTop dp un gd cn cs L a ccd cl outer) (call (.ref 28) [.str x tx, .str y ty, .int 1000 tc]) Q E s :=
  lev_claim news x tx y ty tc hx hy dp un gd cn cs a ccd cl outer A₀ base h₀ L m s Q E B F X N T hk hd hu ret
local macro_rules | `(tactic| walk_at "call ref") => `(tactic| (k_here; k_dflt (refine' lev_use ?k1 ?k2 ?k3 ?k4 ?k5 ?kK ?hx ?hy ?kd ?ku ?_; (case k1 => k_asm); (case k2 => k_asm); (case k3 => k_asm); (case k4 => k_asm); (case k5 => k_asm); (case kK => first | exact rfl | assumption); (case hx => omega); (case hy => omega); (case kd => ktr_room); (case ku => ktr_units)); intro t9 h9 tk9 F9 N9; (try dsimp only); (try k_fold)))
theorem far_claim {w : World} {mean : ExcName → Option Value} {mg mb : Str → Option Value} (cbNews : CbLed) (x : CbStr) (tx : CbTok) (y : CbStr) (ty : CbTok) (hx : x.length ≤ 40) (hy : y.length ≤ 40) :
  Claim 4 30 w mean mg mb 49 cbNews [.str x tx, .str y ty] (fun t => .int (far x y) t) := by
  dsimp only [Claim]
  k_fill
  intros
  rename_i hret
  refine wpAny_call ?_
  k_dflt cell_enter
  k_steps
  exact cb_retI hret rfl (by assumption) (by assumption)
theorem far_use {w : World} {mean : ExcName → Option Value} {mg mb : Str → Option Value} {news : List (Addr × Obj)} {x y : Str} {tx ty : Tok} {dp un : Nat} {gd : Option (List Code)} {cn : Str} {cs : Scope} {a : Addr} {ccd : Value} {cl : List (Str × Addr)} {outer : List Env} {A₀ : Around} {base h₀ : Heap} {L : Addr} {m : Str → Option Value} {s : Shared} {Q E : Value → Shared → Prop}
    (B : Below A₀ base outer h₀) (F : Fr h₀ L s.heap m) (X : Frag.In (hd.heap_39 w.params) h₀) (N : News h₀ L s.heap news) (T : Top hd.view_39 (looseW hd.view_39 []) mean mg mb h₀) (hk : cs.kind = .function)
    (hx : x.length ≤ 40) (hy : y.length ≤ 40) (hd : dp + 4 < recursionLimit) (hu : un + 30 < cLine)
    (ret : ∀ (t : Tok) (h' : Heap) (tk' : Nat), Fr h₀ L h' m → News h₀ L h' news → Q (.int (far x y) t) { s with heap := h', toks := tk' }) :
    wpAny (model PySem.Challenge.rw_gk0003_01.row.prog w) (ktrTop dp un gd cn cs L a ccd cl outer) (call (.ref 49) [.str x tx, .str y ty]) Q E s :=
  far_claim news x tx y ty hx hy dp un gd cn cs a ccd cl outer A₀ base h₀ L m s Q E B F X N T hk hd hu ret
end Mine
end
section
open PySem PySem.W PyProof.Rows
set_option maxRecDepth 100000
namespace Mine
open PySem.Builtin PySem.Builtin._codecs
theorem list_done {β : Type} {s1 : β} {f : Nat → β → Sem (ForInStep β)} (h1 : ∀ k, f k s1 = pure (.done s1)) : ∀ l : List Nat, forIn l s1 f = (pure s1 : Sem β)
  | [] => rfl
  | k :: l => by rw [List.forIn_cons, h1]; rfl
theorem for_two {β : Type} {n : Nat} {init s1 : β} {f : Nat → β → Sem (ForInStep β)} (h0 : f 0 init = pure (.yield s1)) (h1 : ∀ k, f k s1 = pure (.done s1)) (hn : n ≠ 0) : forIn [:n] init f = (pure s1 : Sem β) := by
  rw [Std.Legacy.Range.forIn_eq_forIn_range']
  obtain ⟨m, rfl⟩ := Nat.exists_eq_succ_of_ne_zero hn
  have e : List.range' ([:m.succ] : Std.Legacy.Range).start ([:m.succ] : Std.Legacy.Range).size ([:m.succ] : Std.Legacy.Range).step = 0 :: List.range' 1 m 1 := by
    simp [Std.Legacy.Range.size, List.range'_succ]
  rw [e, List.forIn_cons, h0]
  exact list_done h1 _
theorem list_steps {β : Type} {s : Nat → β} {f : Nat → β → Sem (ForInStep β)} : ∀ (m k : Nat), (∀ j, k ≤ j → j < k + m → f j (s j) = pure (.yield (s (j + 1)))) → forIn (List.range' k m 1) (s k) f = (pure (s (k + m)) : Sem β)
  | 0, _, _ => rfl
  | m + 1, k, h => by
    rw [List.range'_succ, List.forIn_cons, h k (Nat.le_refl _) (by omega)]
    show forIn (List.range' (k + 1) m 1) (s (k + 1)) f = _
    rw [list_steps m (k + 1) fun j h1 h2 => h j (by omega) (by omega), show k + 1 + m = k + (m + 1) by omega]
theorem for_steps {β : Type} {n : Nat} {s : Nat → β} {f : Nat → β → Sem (ForInStep β)} (h : ∀ j, j < n → f j (s j) = pure (.yield (s (j + 1)))) : forIn [:n] (s 0) f = (pure (s n) : Sem β) := by
  rw [Std.Legacy.Range.forIn_eq_forIn_range']
  have e : List.range' ([:n] : Std.Legacy.Range).start ([:n] : Std.Legacy.Range).size ([:n] : Std.Legacy.Range).step = List.range' 0 n 1 := by
    simp [Std.Legacy.Range.size]
  rw [e, list_steps n 0 fun j _ h2 => h j (by omega), Nat.zero_add]

theorem for_at {β : Type} {n : Nat} {init : β} {f : Nat → β → Sem (ForInStep β)} (s : Nat → β) (e : init = s 0) (h : ∀ j, j < n → f j (s j) = pure (.yield (s (j + 1)))) : forIn [:n] init f = (pure (s n) : Sem β) := by
  subst e
  exact for_steps h

def octs (x : Str) : Array UInt8 := x.cps.map (·.toUInt8)
theorem fold_octs (l : List Nat) : ∀ acc : Array UInt8, l.foldl (fun acc y => acc ++ (asciiCodec.bytesOf y).toArray) acc = acc ++ (l.map (·.toUInt8)).toArray := by
  induction l with
  | nil => intro acc; simp
  | cons y l ih =>
    intro acc
    rw [List.foldl_cons, ih, List.map_cons]
    show (acc ++ #[y.toUInt8]) ++ _ = _
    simp
theorem octs_size (x : Str) : (octs x).size = x.length := by simp [octs, Str.length]
theorem octs_list (x : Str) : (octs x).toList = (ls x).map (·.toUInt8) := by simp [octs, ls]
theorem enc_narrow (id : String) (self : Value) {x : Str} (hx : ∀ c ∈ ls x, c < 128) (hz : x.length ≤ 40) : encodeNarrow id asciiCodec none self x = pure (octs x) := by
  by_cases hn : x.length = 0
  · have : x = ⟨#[]⟩ := ls_ext (List.eq_nil_of_length_eq_zero (by rw [ls_len]; exact hn))
    subst this
    unfold encodeNarrow
    dsimp only
    rw [show (⟨#[]⟩ : Str).length = 0 from rfl, for_steps (s := fun _ => ((0 : Nat), (#[] : Array UInt8), ({} : Faults))) (fun j h => absurd h (Nat.not_lt_zero _))]
    show (pure (#[] : Array UInt8) : Sem _) = _
    simp [octs]
  · unfold encodeNarrow
    dsimp only
    rw [for_two (s1 := (x.length, octs x, ({} : Faults))) ?_ ?_ hn]
    · rfl
    · have h0 : x.cps[0]? = some ((ls x).getD 0 0) := by
        have l := ls_len x
        have := getD_some (a := ls x) (k := 0) (by omega)
        simpa [ls] using this
      have hc : (ls x).getD 0 0 < 128 := by
        have l := ls_len x
        apply hx
        have := getD_some (a := ls x) (k := 0) (by omega)
        exact List.mem_of_getElem? this
      have hb : asciiCodec.bad ((ls x).getD 0 0) = false := by
        show decide (_ ≥ 128) = false
        simp only [decide_eq_false_iff_not]; omega
      have hf : Array.findIdx? asciiCodec.bad (x.cps.extract 0) = none := by
        rw [Array.findIdx?_eq_none_iff]
        intro c hc
        have : c ∈ ls x := by simpa [ls] using hc
        have := hx c this
        show decide (_ ≥ 128) = false
        simp only [decide_eq_false_iff_not]; omega
      simp only [h0, hb, hf]
      rw [if_neg (by decide)]
      simp only [Bool.not_false, if_true, Option.getD_none, Nat.zero_add]
      have e2 : x.cps.extract.size = x.length := by simp [Str.length]
      have e3 : Array.foldl (fun acc y => acc ++ (asciiCodec.bytesOf y).toArray) #[] (x.cps.extract.extract 0 x.cps.extract.size) = octs x := by
        have : x.cps.extract.extract 0 x.cps.extract.size = x.cps := by simp
        rw [this, ← Array.foldl_toList, fold_octs]
        apply Array.toList_inj.mp
        simp [octs]
      rw [e3, e2]
    · intro k
      dsimp only
      rw [if_neg (by rw [octs_size, sizeLine_eq]; omega), show x.cps[x.length]? = none by simp [Str.length]]
theorem run_ascii (id : String) {b : Array UInt8} (hb : ∀ c ∈ b.toList, c.toNat < 128) (hz : b.size ≤ 40) : runDecoder id asciiDecoder none true b 0 [] = pure (b.map (·.toNat), b.size) := by
  unfold runDecoder
  dsimp only
  rw [for_at (fun k => (k, ((b.toList.take k).map (·.toNat)).toArray, ({} : Faults))) (by simp) ?_]
  · have e : ((b.toList.take b.size).map (·.toNat)).toArray = b.map (·.toNat) := by
      rw [List.take_of_length_le (by simp)]
      apply Array.toList_inj.mp
      simp
    show (pure (((b.toList.take b.size).map (·.toNat)).toArray, b.size) : Sem (Array Nat × Nat)) = _
    rw [e]
  · intro j hj
    dsimp only
    have hl : b.toList.length = b.size := by simp
    have hs : (((b.toList.take j).map (·.toNat)).toArray).size = j := by simp; omega
    rw [if_neg (by rw [hs, sizeLine_eq]; omega), if_neg (by omega)]
    have hc := hb (b.toList[j]'(by omega)) (List.getElem_mem _)
    have hg : b.getD j 0 = b.toList[j]'(by omega) := by
      simp [Array.getD, hj]
    have hf : asciiDecoder.find true b j = .char (b.toList[j]'(by omega)).toNat (j + 1) := by
      show (if (b.getD j 0).toNat < 128 then Found.char (b.getD j 0).toNat (j + 1) else _) = _
      rw [hg, if_pos hc]
    rw [hf]
    show (pure (ForInStep.yield (j + 1, ((b.toList.take j).map (·.toNat)).toArray ++ #[(b.toList[j]'(by omega)).toNat], ({} : Faults))) : Sem (ForInStep (Nat × Array Nat × Faults))) = _
    congr 3
    simp [List.take_add_one]
    rw [Array.getElem?_eq_getElem hj]
    rfl
theorem road_ascii {id : String} {self : Value} {x : Str} : encodeRoad id self x (Str.ofString "ascii") none = (encodeNarrow id asciiCodec none self x >>= fun b => mkBytes b) := by
  first | rfl | kernel_rfl | (unfold encodeRoad; rfl)
theorem enc_tree {x : Str} {t u : Tok} : «str.encode» ⟨[.str x t, .str (Str.ofString "ascii") u], []⟩ = (encodeRoad "str.encode" (.str x t) x (Str.ofString "ascii") none >>= fun v => ret v) := by
  first | rfl | kernel_rfl
theorem meets_enc {x : Str} {t u : Tok} (hx : ∀ c ∈ ls x, c < 128) (hz : x.length ≤ 40) :
    Meets («str.encode» ⟨[.str x t, .str (Str.ofString "ascii") u], []⟩) (fun _ R s => ∀ t' k, R (.ok (.ret (.bytes (octs x) t'))) { s with toks := k }) := by
  refine .of_wp fun prog w A R s h => ?_
  rw [enc_tree, road_ascii, enc_narrow _ _ hx hz]
  exact wpAny_bind (wpAny_bind (wpAny_pure (wpAny_mkBytes (wpAny_pure ⟨_, rfl, h _ _⟩) (by rw [octs_size, sizeLine_eq]; omega))))
section
variable {prog : Program} {w : World} {A : Around} {E : Value → Shared → Prop} {s : Shared}
theorem enc_call {x : Str} {t u : Tok} {Q : Value → Shared → Prop} (hx : ∀ c ∈ ls x, c < 128) (hz : x.length ≤ 40) (h : ∀ t' k, Q (.bytes (octs x) t') { s with toks := k }) :
    wpAny (model prog w) A (call (.builtin "str.encode") [.str x t, .str (Str.ofString "ascii") u]) Q E s :=
  call_meets F.slot_str_encode (typeIs_str _ _ _) F.entry_str_encode (F.args_str_encode_2 _ _) (meets_enc hx hz) h
theorem enc_meth {M : Model} {x : Str} {t : Tok} {pl : Sem Bool} {Q : Value × List Value → Shared → Prop} (h : Q (.builtin "str.encode", [.str x t]) s) : wpAny M A (getMethod (.str x t) (Str.ofString "encode") pl) Q E s := by
  with_reducible exact GM.of (.str x t) (typeIs_str _ _ _) F.slot_str_encode F.type_str_encode GM.noRef h
end
theorem road_dec {id : String} {b : Array UInt8} : decodeRoad id b (Str.ofString "ascii") none [] = (runDecoder id asciiDecoder none true b 0 [] >>= fun r => mkStr ⟨r.1⟩) := by
  first | rfl | kernel_rfl
def letters (b : Array UInt8) : Str := ⟨b.map (·.toNat)⟩
theorem letters_len (b : Array UInt8) : (letters b).length = b.size := by simp [letters, Str.length]
theorem meets_text {b : Array UInt8} {t t1 t2 : Tok} {d : Str} (hb : ∀ c ∈ b.toList, c.toNat < 128) (hz : b.size ≤ 40) :
    Meets («_codecs.decode.text» ⟨[.bytes b t, .str (Str.ofString "ascii") t1, .none, .str d t2], []⟩) (fun _ R s => R (.ok (.ret (.str (letters b) s.toks))) { s with toks := s.toks + 1 }) := by
  refine .of_wp fun prog w A R s h => ?_
  show wpAny _ _ (Bytes.bytesLike _ (.bytes b t) >>= fun r => _) _ _ s
  refine wpAny_bind (wpAny_of_eq KBd.like_eq ?_)
  refine wpAny_bind (wpAny_of_eq KBd.held_eq ?_)
  show wpAny _ _ (_codecs.decodeRoad _ b (Str.ofString "ascii") none [] >>= fun v => _) _ _ s
  rw [road_dec, run_ascii _ hb hz]
  refine wpAny_bind (wpAny_bind (wpAny_pure ?_))
  exact wpAny_mkStr (wpAny_pure ⟨_, rfl, h⟩) (by show (letters b).length ≤ _; rw [letters_len, sizeLine_eq]; omega)
theorem dec_tree {c : UInt8} {cs : List UInt8} {t u : Tok} : «bytes.decode» ⟨[.bytes (c :: cs).toArray t, .str (Str.ofString "ascii") u], []⟩ = (mkStr (Str.ofString "utf-8") >>= fun _ => mkStr (Str.ofString "ascii") >>= fun e => mkStr (Str.ofString "bytes.decode") >>= fun d =>
    call (.builtin "_codecs.decode.text") [.bytes (c :: cs).toArray t, e, .none, d] >>= fun v => ret v) := by kernel_rfl
theorem dec_none {t u : Tok} : «bytes.decode» ⟨[.bytes #[] t, .str (Str.ofString "ascii") u], []⟩ = (rule "bytes.decode.empty" >>= fun _ => retStr Str.empty) := by kernel_rfl
theorem args_dec (a b : Value) : argsOk "bytes.decode" ⟨[a, b], []⟩ := by
  unfold argsOk; rw [signature?_of (id := "bytes.decode") (n := ['e', 'd', 'o', 'c', 'e', 'd']) (o := ['s', 'e', 't', 'y', 'b']) (by kernel_rfl) FB.owner_bytes]; kernel_rfl
theorem meets_dec {b : Array UInt8} {t u : Tok} (hb : ∀ c ∈ b.toList, c.toNat < 128) (hz : b.size ≤ 40) :
    Meets («bytes.decode» ⟨[.bytes b t, .str (Str.ofString "ascii") u], []⟩) (fun _ R s => ∀ t' k, R (.ok (.ret (.str (letters b) t'))) { s with toks := k }) := by
  refine .of_wp fun prog w A R s h => ?_
  obtain ⟨l⟩ := b
  cases l with
  | nil =>
    rw [show (⟨[]⟩ : Array UInt8) = #[] from rfl, dec_none]
    refine wpAny_bind (wpAny_rule ?_)
    show wpAny _ _ (mkStr Str.empty >>= fun v => ret v) _ _ s
    exact wpAny_bind (wpAny_mkStr (wpAny_pure ⟨_, rfl, (show letters ⟨[]⟩ = Str.empty from by simp [letters, Str.empty]) ▸ h _ _⟩) (by decide))
  | cons c cs =>
    rw [show (⟨c :: cs⟩ : Array UInt8) = (c :: cs).toArray from rfl, dec_tree]
    refine wpAny_bind (wpAny_mkStr ?_ (by decide))
    refine wpAny_bind (wpAny_mkStr ?_ (by decide))
    refine wpAny_bind (wpAny_mkStr ?_ (by decide))
    exact wpAny_bind (call_function_meets KBd.kind_text KBd.plain_text KBd.entry_text (KBd.args_text _ _ _ _) (meets_text hb hz) (wpAny_pure ⟨_, rfl, h _ _⟩))
section
variable {prog : Program} {w : World} {A : Around} {E : Value → Shared → Prop} {s : Shared}
theorem dec_call {b : Array UInt8} {t u : Tok} {Q : Value → Shared → Prop} (hb : ∀ c ∈ b.toList, c.toNat < 128) (hz : b.size ≤ 40) (h : ∀ t' k, Q (.str (letters b) t') { s with toks := k }) :
    wpAny (model prog w) A (call (.builtin "bytes.decode") [.bytes b t, .str (Str.ofString "ascii") u]) Q E s :=
  call_meets FB.slot_bytes_decode (typeIs_bytes _ _ _) FB.entry_bytes_decode (args_dec _ _) (meets_dec hb hz) h
end
end Mine
end
section
open PySem PySem.W PyProof.Rows PySem.Calls PySem.Spec
set_option maxRecDepth 100000
namespace Mine
section
variable {prog : Program} {w : World} {A : Around} {E : Value → Shared → Prop} {s : Shared} {R : Result → Shared → Prop}
theorem codeN_builtin {id : String} {args : Args} {b : Builtin} (hk : PySem.Builtin.Bytes.decodersThatHold.contains id = false) (hb : entryFor table id = some b)
    (h : wpN (model prog w) (A.under (.builtin id args)) (b args)
      (fun fin s' => match fin with | .done f => R (.ok f) s' | .again c' => c'.quiet = true ∧ codeN (model prog w) A c' R s') (fun e s' => R (.error e) s') s) :
    codeN (model prog w) A (.builtin id args) R s := by
  refine codeN_of_tree hk ?_
  show wpN _ _ (match entryFor table id with | some b => b args | none => unsupported ((withoutEnding? id "#data").getD id)) _ _ s
  rw [hb]; exact h
theorem codeN_call_builtin {id : String} {args : Args} {b : Builtin} (hk : PySem.Builtin.Bytes.decodersThatHold.contains id = false) (hq : plainId id = true) (hb : entryFor table id = some b)
    (h : wpAny (model prog w) A.in1 (checkBuiltinCall id args) (fun _ s₁ => wpN (model prog w) A.in1 (b args) (fun fin s' => match fin with | .done f => R (.ok f) s' | .again c' => c'.quiet = true ∧ codeN (model prog w) A c' R s') (fun e s' => R (.error e) s') s₁) (fun e s' => R (.error e) s') s) :
    codeN (model prog w) A (.call (.builtin id) args) R s := by
  refine codeN_of_tree rfl ?_
  show wpN _ A.in1 (do checkBuiltinCall id args; again (.builtin id args)) _ _ s
  refine wpN_any (wpAny_mono h (fun _ s₁ h₁ => wpN_of (wpAny_pure ⟨plainId_quiet hq _, codeN_builtin hk hb ?_⟩)) fun _ _ h => h)
  rw [Around.under_plainId hq]
  exact h₁
theorem wpN_stack {M : Model} {Q : List (Code × Pos) → Shared → Prop} (h : ∀ st : List (Code × Pos), (∀ g, A.guards = some g → guardsOf st = g) → (∀ x ∈ st, decCode x.1 = false) → Q st s) : wpN M A stack Q E s := fun Γ p hΓ k => by
  show Q ((Γ.code, p) :: Γ.below) s
  refine h _ (fun g hg => by rw [guardsOf_cons]; exact hΓ.2.2.2.1 g hg) fun x hx => ?_
  rcases List.mem_cons.mp hx with rfl | hx
  · exact k.1
  · exact k.2 x hx
theorem no_guards {st : List (Code × Pos)} (h : guardsOf st = []) : ∀ x ∈ st, x.1.isGuard = false := fun x hx => by
  cases hg : x.1.isGuard with
  | false => rfl
  | true =>
    have : x.1 ∈ guardsOf st := List.mem_filter.mpr ⟨List.mem_map_of_mem hx, hg⟩
    rw [h] at this; cases this
theorem exported_no {M : Model} {v : Value} {Q : Bool → Shared → Prop} (hg : A.guards = some []) (h : Q false s) : wpN M A (PySem.Builtin.Bytes.exported v) Q E s := by
  unfold PySem.Builtin.Bytes.exported
  refine wpN_bind (wpN_stack fun st h1 h2 => wpN_of (wpAny_pure ?_))
  have h3 := no_guards (h1 [] hg)
  have key : ∀ b, b = false → Q b s := fun b hb => hb ▸ h
  refine key _ ?_
  rw [List.any_eq_false]
  intro x hx
  have g := h3 x hx
  have d := h2 x hx
  obtain ⟨c, p⟩ := x
  simp only at g d
  split
  · rename_i heq; cases heq; exact absurd g (by simp [Code.isGuard, guardIds])
  · rename_i heq; cases heq; exact absurd g (by simp [Code.isGuard, guardIds])
  · rename_i heq; cases heq; exact absurd g (by simp [Code.isGuard, guardIds])
  · rename_i heq; cases heq; exact absurd g (by simp [Code.isGuard, guardIds])
  · rename_i heq; cases heq; exact absurd g (by simp [Code.isGuard, guardIds])
  · rename_i heq; cases heq; simp only [decCode] at d; rw [d]; simp
  · simp
end
section
theorem ba_mro : mroOf (.type "bytearray") = pure [.type "bytearray", .type "object"] := by rw [mroOf_type]; kernel_rfl
theorem ba_look_new : typeLookup (.type "bytearray") "__new__" = pure (some (.builtin "bytearray.__new__")) := by rw [typeLookup_type, builtinLookup_eq_fast]; kernel_rfl
theorem ba_slot_init : Slot "bytearray" "__init__" "bytearray.__init__" :=
  .of (owner := "bytearray") (n := "__init__") (by rw [typeLookup_type, builtinLookup_eq_fast]; kernel_rfl) (by decide +kernel) (by decide +kernel) (by decide +kernel)
    (by first | exact .inl (by decide +kernel) | exact .inr (by decide +kernel)) (by rw [isSubtype_type]; kernel_rfl)
theorem ba_sub : isSubtype (.type "bytearray") (.type "bytearray") = pure true := by rw [isSubtype_type]; kernel_rfl
theorem ba_called : TypeCalled "bytearray" "bytearray.__new__" "bytearray.__init__" :=
  ⟨by decide +kernel, by decide +kernel, ⟨_, _, ba_mro⟩, madeBy_type ba_mro ba_look_new (by decide +kernel), by decide +kernel, ba_sub, ba_slot_init⟩
theorem ba_typeCall (a : Value) : checkTypeCall "bytearray" ⟨[a], []⟩ = pure () := by kernel_rfl
theorem ba_newCall (a : Value) : checkBuiltinCall "bytearray.__new__" ⟨[.type "bytearray", a], []⟩ = pure () := by kernel_rfl
theorem ba_entry_new : entryFor table "bytearray.__new__" = some Builtin.«list.__new__» := entryFor_alias (id' := "list.__new__") (by rw [fastTable_eq_tree]; kernel_rfl) (by decide +kernel) (by decide +kernel) (by rw [fastTable_eq_tree]; kernel_rfl)
theorem ba_entry_init : entryFor table "bytearray.__init__" = some Builtin.«bytearray.__init__» := by first | exact entryFor_of_fast (by kernel_rfl) | exact entryFor_of_tree (by kernel_rfl)
theorem ba_plain_new : plainId "bytearray.__new__" = true := by decide +kernel
theorem ba_plain_init : plainId "bytearray.__init__" = true := by decide +kernel
theorem ba_release : typeLookup (.type "bytearray") "__release_buffer__" = pure (some (.builtin "bytearray.__release_buffer__")) := by rw [typeLookup_type, builtinLookup_eq_fast]; kernel_rfl
theorem ba_sig : Manifest.owners.lookup (String.ofList ['y', 'a', 'r', 'r', 'a', 'e', 't', 'y', 'b'].reverse) = some Manifest.sig_bytearray := by kernel_rfl
theorem ba_args_init (a b : Value) : argsOk "bytearray.__init__" ⟨[a, b], []⟩ := by
  unfold argsOk; rw [signature?_of (id := "bytearray.__init__") (n := ['_', '_', 't', 'i', 'n', 'i', '_', '_']) (o := ['y', 'a', 'r', 'r', 'a', 'e', 't', 'y', 'b']) (by kernel_rfl) ba_sig]; kernel_rfl
theorem ba_bind (v : Value) : Builtin.Bytes.bindOptional "bytearray.__init__" "bytearray" ["source", "encoding", "errors"] [v] [] = pure [some v, none, none] := by kernel_rfl
end
end Mine
end
section
open PySem PySem.W PyProof.Rows PySem.Calls PySem.Spec
set_option maxRecDepth 100000
set_option pp.maxSteps 600
namespace Mine
section
variable {prog : Program} {w : World} {A : Around} {E : Value → Shared → Prop} {s : Shared}
abbrev baObj (b : Array UInt8) : Obj := { cls := .type "bytearray", data := .bytearray b }
theorem wpN_if_false {α : Type} {M : Model} {c : Bool} {a b : Sem α} {Q : α → Shared → Prop} (hc : c = false) (h : wpN M A b Q E s) : wpN M A (if c = true then a else b) Q E s := by
  subst hc
  exact h
theorem wpN_if_true {α : Type} {M : Model} {c : Bool} {a b : Sem α} {Q : α → Shared → Prop} (hc : c = true) (h : wpN M A a Q E s) : wpN M A (if c = true then a else b) Q E s := by
  subst hc
  exact h
theorem ba_write {M : Model} {a : Addr} {b : Array UInt8} {f : Array UInt8 → Array UInt8} {Q : Unit → Shared → Prop} (ho : s.heap.get? a = some (baObj b)) (hz : (f b).size ≤ 1000)
    (h : (s.heap.update a (Obj.mapBytearray f)).get? a = some (baObj (f b)) → Q () { s with heap := s.heap.update a (Obj.mapBytearray f) }) : wpAny M A (Builtin.Bytes.write (.ref a) f) Q E s := by
  have hu : (s.heap.update a (Obj.mapBytearray f)).get? a = some (baObj (f b)) := Heap.get?_update_self (Obj.mapBytearray f) ho rfl
  show wpAny _ _ (updateBytearray a f) _ _ _
  unfold updateBytearray
  refine wpAny_bind (wpAny_load ho ?_)
  show wpAny _ _ (update a (Obj.mapBytearray f) >>= fun _ => lookBehind a) _ _ _
  refine wpAny_bind (wpAny_update ho ?_)
  refine wpAny_lookBehind (s := { s with heap := s.heap.update a (Obj.mapBytearray f) }) hu ?_ (h hu)
  show (if (f b).size > sizeLine then some "bytearray:memory" else none) = none
  rw [if_neg]
  rw [sizeLine_eq]; omega
theorem as_int {M : Model} {n : Int} {t : Tok} {Q : Option Str → Shared → Prop} (h : Q none s) : wpAny M A (asStr? (.int n t)) Q E s := fun _ _ _ => h
theorem init_n {a : Addr} {n : Nat} {t : Tok} {Q : Fin → Shared → Prop} (hg : A.guards = some []) (hz : n ≤ 1000) (ho : s.heap.get? a = some (baObj #[]))
    (h : ∀ s', (∃ h', h'.get? a = some (baObj (Array.replicate n 0)) ∧ s' = { s with heap := h' } ∧ ∀ b o, s.heap.get? b = some o → b ≠ a → h'.get? b = some o) → Q (.done (.ret .none)) s') :
    wpN (model prog w) A (Builtin.«bytearray.__init__» ⟨[.ref a, .int n t], []⟩) Q E s := by
  have hT : s.TypeIs (.ref a) "bytearray" := ⟨_, ho, rfl⟩
  have e1 : asStr? (Value.int (n : Int) t) = pure none := rfl
  unfold Builtin.«bytearray.__init__»
  dsimp only
  refine wpN_any ?_
  unfold Builtin.Bytes.ownRelease Builtin.Bytes.slotIsOwn
  refine wpAny_bind (wpAny_bind (wpAny_specialOf hT ba_release ?_))
  dsimp only
  refine PySem.bm_if_false (by decide +kernel) ?_
  rw [show "bytearray.__release_buffer__".dropRight ("__release_buffer__".length + 1) = "bytearray" from by decide +kernel]
  refine wpAny_isInstance hT ba_sub (wpAny_pure ?_)
  refine wpN_if_false rfl ?_
  refine wpN_any (wpAny_of_eq (ba_bind _) ?_)
  dsimp only
  refine wpN_any (wpAny_of_eq rfl ?_)
  refine wpN_any (wpAny_of_eq rfl ?_)
  refine wpN_bind ?_
  refine wpN_bind (m := Builtin.Bytes.exported (.ref a)) (exported_no hg ?_)
  show wpN _ _ (Builtin.Bytes.exportsOf (.ref a) >>= fun n => pure (decide (n > 0))) _ _ _
  unfold Builtin.Bytes.exportsOf
  refine wpN_any (wpAny_bind (wpAny_load ho ?_))
  dsimp only
  refine wpAny_pure (wpN_of (wpAny_pure ?_))
  refine wpN_if_false (by decide) ?_
  refine wpN_of ?_
  refine wpAny_bind ?_
  refine ba_write (b := #[]) ho ?_ fun hu => ?_
  · show (0 : Nat) ≤ 1000; omega
  refine wpAny_bind ?_
  generalize hs₂ : ({ s with heap := s.heap.update a (Obj.mapBytearray fun _ => #[]) } : Shared) = s₂
  refine wpAny_mono (Q := fun r s' => r = none ∧ s' = s₂) (E := fun _ _ => False) ?_ ?_ ?_
  · intro Γ p hΓ
    exact ⟨rfl, rfl⟩
  rotate_left
  · intro _ _ h
    exact h.elim
  rintro _ s₃ ⟨rfl, rfl⟩
  simp only [Option.isSome_none, Bool.false_eq_true, if_false]
  have e2 : (asIndex (Value.int (n : Int) t)).attempt = pure (.ok (n : Int)) := rfl
  simp only [pure_bind, e2]
  refine wpAny_bind ?_
  refine wpAny_mono (Q := fun r s' => r = some (Value.builtin "int.__index__") ∧ s' = s₃) (E := fun _ _ => False) ?_ ?_ ?_
  · exact wpAny_specialOf (typeIs_int _ _ _) F.slot_int_index.lookup ⟨rfl, rfl⟩
  rotate_left
  · intro _ _ h
    exact h.elim
  rintro _ _ ⟨rfl, rfl⟩
  have f1 : Builtin.Bytes.fitsIndex (n : Int) = true := by
    unfold Builtin.Bytes.fitsIndex
    simp only [Bool.and_eq_true, decide_eq_true_eq]
    omega
  have f2 : ((n : Int) == 2 ^ 63 - 1) = false := by
    rw [beq_eq_false_iff_ne]; omega
  have f3 : Builtin.Bytes.tooLong ((n : Int).toNat) = false := by
    unfold Builtin.Bytes.tooLong
    simp only [decide_eq_false_iff_not, sizeLine_eq]
    omega
  have f4 : ¬ (n : Int) < 0 := by omega
  simp only [Option.isSome_some, if_true, f1, f2, f3, f4, Bool.not_true, Bool.false_eq_true, if_false]
  refine wpAny_bind (wpAny_rule ?_)
  subst hs₂
  rw [Int.toNat_natCast]
  have u2 : s.heap.update a (Obj.mapBytearray fun _ => #[]) = s.heap.update a (Obj.mapBytearray fun _ => #[]) := rfl
  by_cases hn : (n : Int) > 0
  · rw [if_pos hn]
    refine wpAny_bind (ba_write (s := { s with heap := s.heap.update a (Obj.mapBytearray fun _ => #[]) }) (b := #[]) (f := fun _ => Array.replicate n 0) hu (by rw [Array.size_replicate]; omega) fun hu' => ?_)
    exact wpAny_pure (h _ ⟨_, hu', rfl, fun b o e hb => (Heap.get?_update_ne _ _ _ _ hb).trans ((Heap.get?_update_ne _ _ _ _ hb).trans e)⟩)
  · have h0 : n = 0 := by omega
    subst h0
    rw [if_neg hn]
    exact wpAny_pure (h _ ⟨_, hu, rfl, fun b o e hb => (Heap.get?_update_ne _ _ _ _ hb).trans e⟩)
set_option maxRecDepth 1000000 in
set_option maxHeartbeats 4000000 in
theorem ba_owner : ("bytearray.__new__".splitOn ".__new__").headD "" = "bytearray" := by simp +decide [String.splitOn, String.splitOnAux]
theorem code_ba_new (a : Value) {Q₁ : Value → Shared → Prop} (h : Q₁ (.ref s.heap.objs.size) { s with heap := s.heap.push (baObj #[]) }) :
    codeAny (model prog w) A (.call (.builtin "bytearray.__new__") ⟨[.type "bytearray", a], []⟩) (wants Q₁ E) s := by
  refine codeAny_of_tree ?_
  show wpAny _ A.in1 (do checkBuiltinCall "bytearray.__new__" ⟨[.type "bytearray", a], []⟩; again (.builtin "bytearray.__new__" ⟨[.type "bytearray", a], []⟩)) _ _ s
  refine wpAny_bind (wpAny_of_eq (ba_newCall a) (wpAny_pure ⟨plainId_quiet ba_plain_new _, codeAny_builtin_stack ba_entry_new rfl fun p st => ?_⟩))
  rw [Around.under_plainId ba_plain_new _]
  have hsub := ba_sub
  have hown := ba_owner
  obtain ⟨hp, g, d, tk, os⟩ := s
  simp only [hown]
  wp_walk
  exact h
theorem ba_call {n : Nat} {t : Tok} {Q : Value → Shared → Prop} (hg : A.guards = some []) (hz : n ≤ 1000)
    (h : ∀ h' tk, h'.get? s.heap.objs.size = some (baObj (Array.replicate n 0)) → (∀ b o, s.heap.get? b = some o → h'.get? b = some o) → Q (.ref s.heap.objs.size) { s with heap := h', toks := tk }) :
    wpN (model prog w) A (PySem.call (.type "bytearray") [.int n t]) Q E s := by
  refine wpN_call (codeN_of_tree rfl (wpN_of ?_))
  show wpAny _ _ (callAny (.type "bytearray") _) _ _ _
  refine wpAny_pure ⟨Code.quiet_builtin _ (by decide +kernel), codeN_builtin (by decide) F.entry_type_call ?_⟩
  rw [Around.under_plain (weight_type_call_type "bytearray" _ []) rfl]
  have ft := ba_called
  obtain ⟨c, tl, hmro⟩ := ft.mro
  have hmade := ft.made
  have hsub := ft.sub
  have h1 := ft.notType
  have h2 := ft.canCreate
  unfold Builtin.«type.__call__»
  dsimp only
  simp only [h1, h2, Bool.false_eq_true, if_false]
  simp only [ba_typeCall, pure_bind, hmro, List.isEmpty_cons, hmade, Bool.false_eq_true, if_false]
  refine wpN_any (wpAny_holding (wpAny_call (code_ba_new _ ?_)))
  have hpo : (s.heap.push (baObj #[])).get? s.heap.objs.size = some (baObj #[]) := Heap.get?_push_size _ rfl
  have hT : ({ s with heap := s.heap.push (baObj #[]) } : Shared).TypeIs (.ref s.heap.objs.size) "bytearray" := ⟨_, hpo, rfl⟩
  refine wpN_any ?_
  refine wpAny_mono (Q := fun r s' => r = true ∧ s' = { s with heap := s.heap.push (baObj #[]) }) (E := fun _ _ => False) (wpAny_isInstance hT ba_sub ⟨rfl, rfl⟩) ?_ (fun _ _ h => h.elim)
  rintro _ _ ⟨rfl, rfl⟩
  simp only [Bool.not_true, Bool.false_eq_true, if_false]
  refine wpN_bind (wpN_holding ?_)
  unfold callSpecial?
  refine wpN_any (wpAny_specialOf hT ba_slot_init.lookup ?_)
  dsimp only
  refine wpN_holding ?_
  have hbi := ba_slot_init.bind (.ref s.heap.objs.size)
  simp only [hbi, pure_bind]
  refine wpN_bind (wpN_call (codeN_call_builtin (by decide) ba_plain_init ba_entry_init (ba_slot_init.check _ _ _ _ _ _ _ _ hT (ba_args_init _ _) ?_)))
  refine wpN_mono (init_n (a := s.heap.objs.size) (n := n) (Q := fun fin s' => fin = .done (.ret .none) ∧ ∃ h', h'.get? s.heap.objs.size = some (baObj (Array.replicate n 0)) ∧ s' = { s with heap := h' } ∧ ∀ b o, s.heap.get? b = some o → h'.get? b = some o) (E := fun _ _ => False) hg hz hpo ?_) ?_ (fun _ _ h => h.elim)
  · rintro s' ⟨h', q1, rfl, q3⟩
    exact ⟨rfl, h', q1, rfl, fun b o e => q3 b o (Heap.get?_push_of_some _ e) (Nat.ne_of_lt (Heap.lt_size e))⟩
  · rintro _ _ ⟨rfl, h', q1, rfl, q3⟩
    refine wpN_of (wpAny_pure (wpN_of ?_))
    show wpAny _ _ (if (Value.none != Value.none) = true then _ else ret (.ref s.heap.objs.size)) _ _ _
    rw [if_neg (by decide)]
    exact wpAny_pure (h h' s.toks q1 q3)
end
end Mine
end
section
open PySem PySem.W PyProof.Rows PySem.Calls PySem.Spec
set_option maxRecDepth 100000
set_option pp.maxSteps 600
namespace Mine
theorem ba_slot_set : Slot "bytearray" "__setitem__" "bytearray.__setitem__" :=
  .of (owner := "bytearray") (n := "__setitem__") (by rw [typeLookup_type, builtinLookup_eq_fast]; kernel_rfl) (by decide +kernel) (by decide +kernel) (by decide +kernel)
    (by first | exact .inl (by decide +kernel) | exact .inr (by decide +kernel)) (by rw [isSubtype_type]; kernel_rfl)
theorem ba_entry_set : entryFor table "bytearray.__setitem__" = some Builtin.«bytearray.__setitem__» := entryFor_of_tree (by kernel_rfl)
theorem ba_args_set (a b c : Value) : argsOk "bytearray.__setitem__" ⟨[a, b, c], []⟩ := by
  unfold argsOk; rw [signature?_of (id := "bytearray.__setitem__") (n := ['_', '_', 'm', 'e', 't', 'i', 't', 'e', 's', '_', '_']) (o := ['y', 'a', 'r', 'r', 'a', 'e', 't', 'y', 'b']) (by kernel_rfl) ba_sig]; kernel_rfl
section
variable {prog : Program} {w : World} {A : Around} {E : Value → Shared → Prop} {s : Shared}
theorem ba_set {l : Addr} {b : Array UInt8} {k : Int} {t u : Tok} {x : Nat} {Q : Unit → Shared → Prop} (ho : s.heap.get? l = some (baObj b)) (h0 : 0 ≤ k) (h1 : k < b.size) (hz : b.size ≤ 1000) (hx : x < 256)
    (h : (s.heap.update l (Obj.mapBytearray (·.setIfInBounds k.toNat x.toUInt8))).get? l = some (baObj (b.setIfInBounds k.toNat x.toUInt8)) → Q () { s with heap := s.heap.update l (Obj.mapBytearray (·.setIfInBounds k.toNat x.toUInt8)) }) :
    wpAny (model prog w) A (setItem (.ref l) (.int k t) (.int (x : Int) u)) Q E s := by
  have hT : s.TypeIs (.ref l) "bytearray" := ⟨_, ho, rfl⟩
  unfold setItem
  refine wpAny_holding ?_
  refine wpAny_bind (wpAny_sequenceKey hT (by decide) ?_)
  refine wpAny_bind (wpAny_callSpecial?_slot (name := Str.ofString "__setitem__") hT ba_slot_set
    (wpAny_call_entry ba_slot_set hT ba_entry_set ?_ (ba_args_set _ _ _)))
  unfold Builtin.«bytearray.__setitem__»
  dsimp only
  have e1 : asIndex (Value.int k t) = pure k := rfl
  have e2 : asIndex (Value.int (x : Int) u) = pure (x : Int) := rfl
  have f1 : Builtin.Bytes.fitsIndex k = true := by
    unfold Builtin.Bytes.fitsIndex
    simp only [Bool.and_eq_true, decide_eq_true_eq]
    omega
  have f2 : (decide ((x : Int) < 0) || decide ((x : Int) ≥ 256)) = false := by
    simp only [Bool.or_eq_false_iff, decide_eq_false_iff_not]; omega
  rw [if_neg (by decide)]
  unfold Builtin.Bytes.subscript? Builtin.Bytes.byteValue
  simp only [e1, e2, pure_bind, f1, f2, Bool.not_true, Bool.false_eq_true, if_false]
  refine wpAny_bind ?_
  refine wpAny_bind ?_
  refine wpAny_mono (Q := fun r s' => r = some (Value.builtin "int.__index__") ∧ s' = s) (E := fun _ _ => False) ?_ ?_ ?_
  · exact wpAny_specialOf (typeIs_int _ _ _) F.slot_int_index.lookup ⟨rfl, rfl⟩
  rotate_left
  · intro _ _ h
    exact h.elim
  rintro _ _ ⟨rfl, rfl⟩
  simp only [Option.isNone_some, Bool.false_eq_true, if_false]
  refine wpAny_pure ?_
  simp only
  refine wpAny_bind ?_
  unfold Builtin.Bytes.payload Builtin.Bytes.payload?
  dsimp only
  refine wpAny_bind (wpAny_bind (wpAny_load ho ?_))
  dsimp only
  refine wpAny_pure ?_
  simp only
  refine wpAny_pure ?_
  have e3 : seqIndex? k b.size = some k.toNat := by
    unfold seqIndex?
    rw [if_neg (by omega : ¬ k < 0)]
    simp only [h0, h1, decide_true, Bool.and_self, if_true]
  have e4 : ((x : Int).toNat.toUInt8) = x.toUInt8 := by rw [Int.toNat_natCast]
  rw [e3, e4]
  simp only
  refine wpAny_bind (ba_write (b := b) ho (by rw [Array.size_setIfInBounds]; exact hz) fun hu => ?_)
  exact wpAny_pure ⟨_, rfl, wpAny_pure (h hu)⟩
theorem ba_no_bytes : typeLookup (.type "bytearray") "__bytes__" = pure none := by rw [typeLookup_type, builtinLookup_eq_fast]; kernel_rfl
theorem ba_no_index : typeLookup (.type "bytearray") "__index__" = pure none := by rw [typeLookup_type, builtinLookup_eq_fast]; kernel_rfl
theorem ba_buffer : typeLookup (.type "bytearray") "__buffer__" = pure (some (.builtin "bytearray.__buffer__")) := by rw [typeLookup_type, builtinLookup_eq_fast]; kernel_rfl
theorem bb_new {l : Addr} {b : Array UInt8} {Q : Value → Shared → Prop} (ho : s.heap.get? l = some (baObj b)) (hz : b.size ≤ 1000)
    (hQ : ∀ t k, Q (.bytes b t) { s with toks := k }) :
    codeAny (model prog w) A (.call (.builtin "bytes.__new__") ⟨[.type "bytes", .ref l], []⟩) (wants Q E) s := by
  have hT : s.TypeIs (.ref l) "bytearray" := ⟨_, ho, rfl⟩
  refine codeAny_of_tree ?_
  show wpAny _ A.in1 (do checkBuiltinCall "bytes.__new__" ⟨[.type "bytes", .ref l], []⟩; again (.builtin "bytes.__new__" ⟨[.type "bytes", .ref l], []⟩)) _ _ s
  refine wpAny_bind (wpAny_of_eq (F.bm_newCall _) (wpAny_pure ⟨plainId_quiet F.bm_plain _, codeAny_builtin F.bm_entry ?_⟩))
  rw [Around.under_plainId F.bm_plain _]
  unfold Builtin.«bytes.__new__»
  refine wpAny_bind (wpAny_of_eq (a := true) rfl ?_)
  refine bm_if_false rfl ?_
  refine wpAny_bind (wpAny_of_eq F.bm_sub ?_)
  refine bm_if_false rfl ?_
  refine wpAny_bind (wpAny_of_eq (F.bm_bind _) ?_)
  refine wpAny_bind (wpAny_of_eq (a := ()) rfl ?_)
  refine wpAny_bind (wpAny_of_eq (a := ()) rfl ?_)
  refine bm_if_false rfl ?_
  refine wpAny_bind (wpAny_specialOf hT ba_no_bytes ?_)
  refine wpAny_bind (wpAny_bind ?_)
  show wpAny _ _ (load l >>= _) _ _ _
  refine wpAny_bind (wpAny_load ho ?_)
  refine wpAny_pure (wpAny_pure ?_)
  refine bm_if_false rfl ?_
  refine wpAny_bind (wpAny_specialOf hT ba_no_index ?_)
  refine bm_if_true rfl ?_
  show wpAny _ _ (Builtin.Bytes.buffer? "bytes.__new__" (.ref l) true >>= _) _ _ _
  refine wpAny_bind ?_
  refine wpAny_mono (Q := fun r s' => r = some b ∧ s' = s) (E := fun _ _ => False) ?_ ?_ ?_
  rotate_right
  · intro _ _ h
    exact h.elim
  · unfold Builtin.Bytes.buffer?
    refine wpAny_bind (wpAny_specialOf hT ba_buffer ?_)
    unfold Builtin.Bytes.slotIsOwn
    dsimp only
    refine wpAny_bind (wpAny_bind (wpAny_specialOf hT ba_buffer ?_))
    dsimp only
    refine PySem.bm_if_false (by decide +kernel) ?_
    rw [show "bytearray.__buffer__".dropRight ("__buffer__".length + 1) = "bytearray" from by decide +kernel]
    refine wpAny_isInstance hT ba_sub (PySem.bm_if_false rfl ?_)
    refine wpAny_bind (wpAny_specialOf hT ba_buffer ?_)
    show wpAny _ _ (Builtin.Bytes.ownRelease (.ref l) >>= _) _ _ _
    unfold Builtin.Bytes.ownRelease Builtin.Bytes.slotIsOwn
    refine wpAny_bind (wpAny_bind (wpAny_bind (wpAny_specialOf hT ba_release ?_)))
    dsimp only
    refine PySem.bm_if_false (by decide +kernel) ?_
    rw [show "bytearray.__release_buffer__".dropRight ("__release_buffer__".length + 1) = "bytearray" from by decide +kernel]
    refine wpAny_isInstance hT ba_sub (wpAny_pure (PySem.bm_if_false rfl ?_))
    unfold Builtin.Bytes.payload Builtin.Bytes.payload?
    dsimp only
    refine wpAny_bind (wpAny_bind (wpAny_bind (wpAny_load ho ?_)))
    dsimp only
    exact wpAny_pure (wpAny_pure (wpAny_pure ⟨rfl, rfl⟩))
  rintro _ _ ⟨rfl, rfl⟩
  refine wpAny_bind (wpAny_rule ?_)
  refine wpAny_bind (wpAny_mkBytes ?_ (by rw [sizeLine_eq]; omega))
  show wpAny _ _ (if (Value.type "bytes" == Value.type "bytes") = true then _ else _) _ _ _
  refine bm_if_true (by decide) ?_
  first
    | exact wpAny_pure (hQ _ _)
    | exact wpAny_bind (wpAny_pure (wpAny_pure (hQ _ _)))
theorem bb_call {l : Addr} {b : Array UInt8} {Q : Value → Shared → Prop} (ho : s.heap.get? l = some (baObj b)) (hz : b.size ≤ 1000)
    (hQ : ∀ t k, Q (.bytes b t) { s with toks := k }) : wpAny (model prog w) A (call (.type "bytes") [.ref l]) Q E s := by
  refine callType_codes (Q₁ := fun obj s₁ => s₁.TypeIs obj "bytes" ∧ Q obj s₁) F.bm_called (F.bm_typeCall _) F.entry_object_init
    (bb_new ho hz fun t k => ⟨PySem.W.typeIs_bytes _ _ _, hQ t k⟩) fun obj s₁ h₁ => ?_
  exact ⟨h₁.1, F.args_object_init_2 obj _, object_init_meets F.bm_called.init.lookup F.bm_called.made (by decide) prog w A.in1 _ s₁ ⟨h₁.1, rfl, h₁.2⟩⟩
end
end Mine
end
section
open PySem PySem.W PyProof.Rows PySem.Calls PySem.Spec
set_option maxRecDepth 100000
namespace Mine
section
variable {M : Model} {A : Around} {E : Value → Shared → Prop} {s : Shared} {env : Env}
theorem wpN_pure {α : Type} {a : α} {Q : α → Shared → Prop} (h : Q a s) : wpN M A (pure a) Q E s := wpN_of (wpAny_pure h)
theorem wpN_execs_cons {st : Stmt} {rest : List Stmt} {Q : Flow → Shared → Prop}
    (h : wpN M A (exec st env) (fun f s' => match f with | .next => wpN M A (execs rest env) Q E s' | f => Q f s') E s) : wpN M A (execs (st :: rest) env) Q E s := by
  rw [execs_cons]
  refine wpN_bind (wpN_mono h (fun f s' h' => ?_) fun _ _ x => x)
  cases f <;> first | exact h' | exact wpN_pure h'
theorem wpN_Assign_Name {x : Str} {pos' : Pos} {value : Expr} {pos : Pos} {Q : Flow → Shared → Prop}
    (h : wpN M A (eval value env) (fun v s₁ => wpAny M A (storeName env x v) (fun _ s₂ => Q .next s₂) E s₁) E s)
    (hs : swapsWith value (some (.Name x pos')) pos.line env = pure false := by rfl) : wpN M A (exec (.Assign [.Name x pos'] value pos) env) Q E s := by
  rw [exec_Assign_Name env x pos' value pos hs]
  refine wpN_any (wpAny_standAt (wpN_bind (wpN_mono h (fun v s₁ h₁ => wpN_of ?_) fun _ _ x => x)))
  exact wpAny_bind (wpAny_standAt (wpAny_bind (wpAny_bindName (wpAny_mono h₁ (fun _ _ q => wpAny_pure q) fun _ _ x => x))))
theorem wpN_Return {e : Expr} {pos : Pos} {Q : Flow → Shared → Prop} (h : wpN M A (eval e env) (fun v s' => Q (.ret v) s') E s) : wpN M A (exec (.Return (some e) pos) env) Q E s := by
  rw [exec_Return_some]
  exact wpN_any (wpAny_standAt (wpN_bind (wpN_mono h (fun v s₁ h₁ => wpN_pure h₁) fun _ _ x => x)))
theorem wpN_IfExp {test body orelse : Expr} {pos : Pos} {Q : Value → Shared → Prop}
    (h : wpAny M A (isTrue test env (eval test env)) (fun b s₁ => (b = true → wpN M A (eval body env) Q E s₁) ∧ (b = false → wpN M A (eval orelse env) Q E s₁)) E s) : wpN M A (eval (.IfExp test body orelse pos) env) Q E s := by
  rw [arm_eval_IfExp]
  refine wpN_any (wpAny_mono h (fun b s₁ h₁ => ?_) fun _ _ x => x)
  cases b
  · exact h₁.2 rfl
  · exact h₁.1 rfl
theorem wpN_keep {α : Type} {vs : List Value} {m : Sem α} {Q : α → Shared → Prop} (h : wpN M A m Q E s) : wpN M A (m.keep vs) Q E s :=
  fun Γ p hΓ c => by rw [Sem.wp_keep]; exact h Γ p hΓ c
theorem wpN_call_tail {t : Sem Value} {Q : Value → Shared → Prop} (h : wpN M A t Q E s) : wpN M A (t >>= fun r => holding [r] point >>= fun _ => pure r) Q E s :=
  wpN_bind (wpN_mono h (fun _ _ hr => wpN_of (wpAny_bind (wpAny_holding (wpAny_point (wpAny_pure hr))))) fun _ _ x => x)
theorem wpN_callWith_type {pos : Pos} {T : String} {first : List Value} {args : List (Bool × Sem Value)} {Q : Value → Shared → Prop} (hplain : args.any (·.1) = false)
    (h : wpAny M A (evalArgs (.type T) true args []) (fun a s₁ => wpN M A (call (.type T) (first ++ a.pos) a.kw) Q E s₁) E s) : wpN M A (callWith pos (.type T) first args []) Q E s := by
  unfold callWith
  refine wpN_any (wpAny_holding (wpAny_mono h (fun a s₁ h₁ => wpN_any (wpAny_standAt ?_)) fun _ _ x => x))
  simp only [hplain, List.any_nil, Bool.or_false]
  refine wpN_any (wpAny_pure ?_)
  exact wpN_call_tail h₁
theorem wpN_callWith_fn {pos : Pos} {K : Frag} {f : Value} {first : List Value} {args : List (Bool × Sem Value)} {Q : Value → Shared → Prop} (hplain : args.any (·.1) = false) (hk : keepIn K f = true)
    (h : wpAny M A (evalArgs f true args []) (fun a s₁ => K.In s₁.heap ∧ wpN M A (call f (first ++ a.pos) a.kw) Q E s₁) E s) : wpN M A (callWith pos f first args []) Q E s := by
  unfold callWith
  refine wpN_any (wpAny_holding (wpAny_mono h (fun x s₁ h₁ => wpN_any (wpAny_standAt ?_)) fun _ _ x => x))
  obtain ⟨k, hk', L⟩ := keeps_K (M := M) hk _ h₁.1
  simp only [hplain, List.any_nil, Bool.or_false]
  refine wpN_any (L.here ?_)
  have marked (mk : Value) : wpN M A (callMarked mk f (first ++ x.pos) x.kw) Q E s₁ := by unfold callMarked; exact wpN_keep h₁.2
  rcases hk' with rfl | rfl | rfl <;> dsimp only <;> first | exact wpN_call_tail h₁.2 | (split <;> first | exact wpN_call_tail h₁.2 | exact wpN_call_tail (marked _))
/-- T(e) where the name f is said to be a type -/
theorem wpN_Call_type {x : Str} {px pos : Pos} {e : Expr} {T : String} {Q : Value → Shared → Prop} (hst : starEach [e] env = [(false, eval e env)])
    (h : wpAny M A (eval (.Name x px) env) (fun f s₁ => f = .type T ∧ wpAny M A (eval e env) (fun v s₂ => wpN M A (call (.type T) [v]) Q E s₂) E s₁) E s) : wpN M A (eval (.Call (.Name x px) [e] [] pos) env) Q E s := by
  show wpN M A (do callWith pos (← eval (.Name x px) env) [] (backTo pos (starEach [e] env)) (backToKw pos (keywordEach [] env))) Q E s
  refine wpN_any (wpAny_mono h (fun f s₁ h₁ => ?_) fun _ _ x => x)
  obtain ⟨rfl, h₁⟩ := h₁
  rw [hst]
  exact wpN_callWith_type rfl (evalArgs_plain (spliced_cons (wpAny_mono h₁ (fun v s₂ h₂ => spliced_nil h₂) fun _ _ e => e)))
theorem wpN_Call_fn1 {K : Frag} {x : Str} {px pos : Pos} {e : Expr} {a : Addr} {Q : Value → Shared → Prop} (hst : starEach [e] env = [(false, eval e env)]) (hk : keepIn K (.ref a) = true)
    (h : wpAny M A (eval (.Name x px) env) (fun f s₁ => f = .ref a ∧ wpAny M A (eval e env) (fun v s₂ => K.In s₂.heap ∧ wpN M A (call (.ref a) [v]) Q E s₂) E s₁) E s) : wpN M A (eval (.Call (.Name x px) [e] [] pos) env) Q E s := by
  show wpN M A (do callWith pos (← eval (.Name x px) env) [] (backTo pos (starEach [e] env)) (backToKw pos (keywordEach [] env))) Q E s
  refine wpN_any (wpAny_mono h (fun f s₁ h₁ => ?_) fun _ _ x => x)
  obtain ⟨rfl, h₁⟩ := h₁
  rw [hst]
  exact wpN_callWith_fn rfl hk (evalArgs_plain (spliced_cons (wpAny_mono h₁ (fun v s₂ h₂ => spliced_nil h₂) fun _ _ e => e)))
theorem wpN_Call_fn2 {K : Frag} {x : Str} {px pos : Pos} {e e' : Expr} {a : Addr} {Q : Value → Shared → Prop} (hst : starEach [e, e'] env = [(false, eval e env), (false, eval e' env)]) (hk : keepIn K (.ref a) = true)
    (h : wpAny M A (eval (.Name x px) env) (fun f s₁ => f = .ref a ∧ wpAny M A (eval e env) (fun v s₂ => wpAny M A (eval e' env) (fun v' s₃ => K.In s₃.heap ∧ wpN M A (call (.ref a) [v, v']) Q E s₃) E s₂) E s₁) E s) : wpN M A (eval (.Call (.Name x px) [e, e'] [] pos) env) Q E s := by
  show wpN M A (do callWith pos (← eval (.Name x px) env) [] (backTo pos (starEach [e, e'] env)) (backToKw pos (keywordEach [] env))) Q E s
  refine wpN_any (wpAny_mono h (fun f s₁ h₁ => ?_) fun _ _ x => x)
  obtain ⟨rfl, h₁⟩ := h₁
  rw [hst]
  exact wpN_callWith_fn rfl hk (evalArgs_plain (spliced_cons (wpAny_mono h₁ (fun v s₂ h₂ => spliced_cons (wpAny_mono h₂ (fun v' s₃ h₃ => spliced_nil h₃) fun _ _ e => e)) fun _ _ e => e)))
theorem wpN_spliced_nil {Q : List Value → Shared → Prop} (h : Q [] s) : wpN M A (spliced []) Q E s := wpN_pure h
theorem wpN_spliced_cons {x : Sem Value} {rest : List (Bool × Sem Value)} {Q : List Value → Shared → Prop}
    (h : wpN M A x (fun v s₁ => wpN M A (spliced rest) (fun vs s₂ => Q (v :: vs) s₂) E s₁) E s) : wpN M A (spliced ((false, x) :: rest)) Q E s := by
  rw [spliced]
  refine wpN_bind (wpN_mono h (fun v s₁ h₁ => ?_) fun _ _ x => x)
  simp only [Bool.false_eq_true, if_false]
  exact wpN_any (wpAny_pure (wpN_bind (wpN_holding (wpN_mono h₁ (fun vs s₂ h₂ => wpN_pure h₂) fun _ _ x => x))))
/-- n, m = (e, e'), the names being plain -/
theorem wpN_Assign_two {elts : List Expr} {k k' : Nat} {tpos vpos pos : Pos} {e e' : Expr} {names : List Str} {Q : Flow → Shared → Prop} (hst : starEach [e, e'] env = [(false, eval e env), (false, eval e' env)])
    (h : wpN M A (eval e env) (fun v s₁ => wpN M A (eval e' env) (fun v' s₂ => wpAny M A (unpackItems (.ref s₂.heap.objs.size) names.length none) (fun items s₃ =>
      wpAny M A (assignInOrder (names.reverse.map fun n => bindName env n) items.reverse) (fun _ s₄ => Q .next s₄) E s₃) E { s₂ with heap := s₂.heap.push { cls := .type "tuple", data := .seq #[v, v'] } }) E s₁) E s)
    (hs : swapsWithSole [.Tuple elts k tpos] (.Tuple [e, e'] k' vpos) pos.line env = pure false := by rfl)
    (hw : swappedStores [.Tuple elts k tpos] (.Tuple [e, e'] k' vpos) env = pure (some names) := by rfl) :
    wpN M A (exec (.Assign [.Tuple elts k tpos] (.Tuple [e, e'] k' vpos) pos) env) Q E s := by
  rw [exec_Assign]
  refine wpN_any (wpAny_standAt ?_)
  rw [hs]
  refine wpN_any (wpAny_pure ?_)
  rw [if_neg (by decide)]
  rw [arm_eval_Tuple]
  refine wpN_bind (wpN_any (wpAny_standAt (wpN_bind ?_)))
  rw [hst]
  show wpN M A (spliced [(false, eval e env), (false, eval e' env)]) _ _ _
  refine wpN_spliced_cons (wpN_mono h (fun v s₁ h₁ => wpN_spliced_cons (wpN_mono h₁ (fun v' s₂ h₂ => wpN_spliced_nil (wpN_of ?_)) fun _ _ x => x)) fun _ _ x => x)
  refine wpAny_newObj_type ?_ (by show #[v, v'].size ≤ sizeLine; rw [sizeLine_eq]; simp)
  rw [hw]
  refine wpN_any (wpAny_pure (wpN_of ?_))
  show wpAny M A (do rule "assign.swapped-stores"; let items ← unpackItems (.ref s₂.heap.objs.size) names.length none; assignInOrder (names.reverse.map fun n => bindName env n) items.reverse; pure .next) Q E _
  exact wpAny_bind (wpAny_rule (wpAny_bind (wpAny_mono h₂ (fun items s₂ h₂ => wpAny_bind (wpAny_mono h₂ (fun _ _ x => wpAny_pure x) fun _ _ x => x)) fun _ _ x => x)))
/-- n, m = (e, e'), a name being a cell -/
theorem wpN_Assign_tup {elts : List Expr} {k k' : Nat} {tpos vpos pos : Pos} {e e' : Expr} {Q : Flow → Shared → Prop} (hst : starEach [e, e'] env = [(false, eval e env), (false, eval e' env)])
    (hs : swapsWithSole [.Tuple elts k tpos] (.Tuple [e, e'] k' vpos) pos.line env = pure false)
    (hw : swappedStores [.Tuple elts k tpos] (.Tuple [e, e'] k' vpos) env = pure none)
    (h : wpN M A (eval e env) (fun v s₁ => wpN M A (eval e' env) (fun v' s₂ =>
      wpAny M A (assign (.Tuple elts k tpos) env (.ref s₂.heap.objs.size)) (fun _ s₄ => Q .next s₄) E { s₂ with heap := s₂.heap.push { cls := .type "tuple", data := .seq #[v, v'] } }) E s₁) E s) :
    wpN M A (exec (.Assign [.Tuple elts k tpos] (.Tuple [e, e'] k' vpos) pos) env) Q E s := by
  rw [exec_Assign]
  refine wpN_any (wpAny_standAt ?_)
  rw [hs]
  refine wpN_any (wpAny_pure ?_)
  rw [if_neg (by decide)]
  rw [arm_eval_Tuple]
  refine wpN_bind (wpN_any (wpAny_standAt (wpN_bind ?_)))
  rw [hst]
  show wpN M A (spliced [(false, eval e env), (false, eval e' env)]) _ _ _
  refine wpN_spliced_cons (wpN_mono h (fun v s₁ h₁ => wpN_spliced_cons (wpN_mono h₁ (fun v' s₂ h₂ => wpN_spliced_nil (wpN_of ?_)) fun _ _ x => x)) fun _ _ x => x)
  refine wpAny_newObj_type ?_ (by show #[v, v'].size ≤ sizeLine; rw [sizeLine_eq]; simp)
  rw [hw]
  refine wpN_any (wpAny_pure (wpN_of ?_))
  show wpAny M A (do assignAll (.ref s₂.heap.objs.size) [assign (.Tuple elts k tpos) env]; pure .next) Q E _
  exact wpAny_bind (wpAny_mono h₂ (fun _ _ x => wpAny_pure x) fun _ _ x => x)
end
end Mine
end
section
open PySem PySem.W PyProof.Rows PySem.Calls PySem.Spec
set_option maxRecDepth 100000
namespace Mine
section
variable {prog : Program} {w : World} {A : Around} {E : Value → Shared → Prop} {s : Shared} {env : Env} {h₀ h h' : Heap} {L : Addr} {m : Str → Option Value} {news rest : List (Addr × Obj)}
theorem oct_len {x : Str} {t : Tok} {Q : Value → Shared → Prop} (hx : x.length ≤ 40) (h : Q (.int (x.length : Int) (s.toks + 1)) { s with toks := s.toks + 1 + 1 }) : wpAny (model prog w) A (call (.builtin "len") [.bytes (octs x) t]) Q E s :=
  len_bytes (by rw [octs_size]; omega) (by rw [octs_size]; exact h)
def octAt (x : Str) (i : Int) : Nat := ((ls x).getD i.toNat 0).toUInt8.toNat
theorem octAt_lt (x : Str) (i : Int) : octAt x i < 256 := UInt8.toNat_lt _
theorem oct_arr (x : Str) : octs x = ((ls x).map (·.toUInt8)).toArray := by rw [← octs_list]
theorem oct_item {x : Str} {i : Int} {t ui : Tok} {value slice : Expr} {Q : Value → Shared → Prop} (hx : x.length ≤ 40) (h0 : 0 ≤ i) (h1 : i < (x.length : Int)) (h : Q (.int (octAt x i : Nat) s.toks) { s with toks := s.toks + 1 })
    (hs : subscripted slice false (.bytes (octs x) t) (.int i ui) = operate [.bytes (octs x) t, .int i ui] (getItem (.bytes (octs x) t) (.int i ui)) := by with_unfolding_all rfl)
    (ht : ∀ r, letTemporaryGo value (.bytes (octs x) t) r = pure () := by intro _; with_unfolding_all rfl) : wpAny (model prog w) A (subscriptTail value slice (.bytes (octs x) t) (.int i ui)) Q E s := by
  have hl := ls_len x
  rw [oct_arr] at hs ht ⊢
  refine bytes_item_K (by rw [List.length_map]; omega) h0 (by rw [List.length_map]; omega) ?_ h hs ht
  unfold octAt
  rw [List.getD_eq_getElem?_getD, List.getElem?_map, List.getD_eq_getElem?_getD]
  rw [List.getElem?_eq_getElem (by omega)]
  rfl
theorem ba_new_led {o : Obj} (F : Fr h₀ L h m) (N : News h₀ L h news) (hk : ∀ b o, h.get? b = some o → h'.get? b = some o) (ho : h'.get? h.objs.size = some o) :
    Fr h₀ L h' m ∧ News h₀ L h' ((h.objs.size, o) :: news) ∧ ∀ p ∈ news, p.1 ≠ h.objs.size := by
  obtain ⟨oL, _, _, hL, _⟩ := id F.ns
  refine ⟨F.keptAll hk, ?_, fun p hp => Nat.ne_of_lt (Heap.lt_size (N p hp).1)⟩
  intro p hp
  rcases List.mem_cons.mp hp with rfl | hp
  · exact ⟨ho, Nat.ne_of_gt (Heap.lt_size hL), F.fresh⟩
  · exact ⟨hk _ _ (N p hp).1, (N p hp).2⟩
theorem ba_set_led {S : Addr} {b : Array UInt8} {k : Int} {t u : Tok} {x : Nat} {Q : Unit → Shared → Prop} (F : Fr h₀ L s.heap m) (N : News h₀ L s.heap ((S, baObj b) :: rest)) (hap : ∀ p ∈ rest, p.1 ≠ S)
    (h0 : 0 ≤ k) (h1 : k < b.size) (hz : b.size ≤ 1000) (hx : x < 256)
    (h : ∀ h', Fr h₀ L h' m → News h₀ L h' ((S, baObj (b.setIfInBounds k.toNat x.toUInt8)) :: rest) → Q () { s with heap := h' }) :
    wpAny (model prog w) A (setItem (.ref S) (.int k t) (.int (x : Int) u)) Q E s := by
  have hd := N _ (.head _)
  exact ba_set hd.1 h0 h1 hz hx fun ho => h _ (F.change (Heap.SameBut.update ..) hd.2.1 hd.2.2) (N.setHead hap (Heap.SameBut.update ..) ho)
end
section
variable {prog : Program} {w : World} {A : Around} {E : Value → Shared → Prop} {s : Shared} {env : Env} {h₀ : Heap} {x : Str} {body : List Stmt} {Q : Flow → Shared → Prop}
/-- a for over a range of one number, whatever its step -/
theorem kst_once {σ : Type} {r : Addr} {a₀ b₀ d₀ : Int} {t₀ u₀ v₀ : Tok} {m₀ : Str → Option Value} (Led : σ → List (Addr × Obj)) (ps : σ → List (Str × Value)) (Facts : σ → Prop) (stored : List Str) (P : List Int → σ → Prop) (c₀ : σ)
    (hh : A.handled = none) (hr : IsRange s.heap r a₀ b₀ d₀ t₀ u₀ v₀) (hsmall : Builtin.Range.small a₀ b₀ d₀ = true) (hn : Builtin.Range.rangeSize a₀ b₀ d₀ = 1) (F : Fr h₀ env.locals s.heap m₀) (N : News h₀ env.locals s.heap (Led c₀)) (hf : Facts c₀) (hk : ∀ p ∈ ps c₀, m₀ p.1 = some p.2) (hp : P [] c₀)
    (turn : ∀ (c : σ) t (u : Str → Option Value) h tk own, OwnOff own ((Led c₀).map (·.1)) → Facts c → P [] c →
      Fr h₀ env.locals h (fun y => if y = x then some (.int a₀ t) else kstB (fun z => if stored.contains z then u z else m₀ z) (ps c) y) → News h₀ env.locals h (Led c ++ own) →
      wpAny (model prog w) A (execs body env) (InvPostN h₀ env.locals (KstS Led ps Facts x stored m₀ P [a₀]) own ((Led c₀).map (·.1)) { s with heap := h, toks := tk } Q) E { s with heap := h, toks := tk })
    (done : ∀ (c : σ) (u : Str → Option Value) h tk, Facts c → P [a₀] c → Fr h₀ env.locals h (fun y => if y = x then u y else kstB (fun z => if stored.contains z then u z else m₀ z) (ps c) y) → News h₀ env.locals h (Led c) → Q .next { s with heap := h, toks := tk }) :
    wpAny (model prog w) A (pyIter (.ref r)) (fun it s₂ => LoopAtV prog w A h₀ env x body Q E it s₂) E s := by
  refine wpAny_pyIter_range hr hsmall ?_
  have W : Walks prog w A s.heap.objs.size [s.heap.objs.size] [s.heap.objs.size] 1 (fun i v => i < 1 ∧ ∃ t, v = .int (a₀ + i * d₀) t)
      (fun i h => IsRangeIter h s.heap.objs.size (a₀ + (i : Nat) * d₀) (((1 : Nat) : Int) - (i : Nat)) d₀) := (Walks.range hh _ a₀ d₀ 1).bound
  refine loop_invN (fun i m nx => KstS Led ps Facts x stored m₀ P ([a₀].take i) m nx) W ?_ ?_ ?_ ?_ (by show IsRangeIter _ _ _ _ _; rw [hn]; simpa using Heap.get?_push_size _ rfl) (F.push _) (fun p hp => ⟨Heap.get?_push_of_some _ (N p hp).1, (N p hp).2⟩) ⟨c₀, rfl, hf, hk, fun _ _ _ _ => rfl, hp⟩ ?_ ?_
  · intro hm
    exact absurd F.ns.lt ((List.mem_singleton.mp hm) ▸ Nat.lt_irrefl _)
  · intro b hb
    rw [List.mem_singleton.mp hb]
    exact next_is_new F
  · intro p hp hI
    exact absurd (Heap.lt_size (N p hp).1) ((List.mem_singleton.mp hI) ▸ Nat.lt_irrefl _)
  · intro p hp hI
    exact absurd (Heap.lt_size (N p hp).1) ((List.mem_singleton.mp hI) ▸ Nat.lt_irrefl _)
  · rintro i v m₁ nx h tk own hi ⟨_, t, rfl⟩ _ hoff ⟨c, rfl, hf', h1, h2, hp'⟩ F₁ N₁
    obtain rfl : i = 0 := by omega
    have e1 : a₀ + ((0 : Nat) : Int) * d₀ = a₀ := by simp
    rw [e1] at F₁
    exact turn c t m₁ h tk own hoff hf' hp' (kst_fr h1 h2 F₁) N₁
  · rintro m₁ nx h tk ⟨c, rfl, hf', h1, h2, hp'⟩ F₁ N₁
    exact done c m₁ h tk hf' hp' (kst_frOut h1 h2 F₁) N₁
end
/-- the first k octets, turned about at the end of what is still nought -/
def fillL (x : Str) (k : Nat) : List UInt8 := List.replicate (x.length - k) 0 ++ (((ls x).map (·.toUInt8)).take k).reverse
theorem fillL_zero (x : Str) : fillL x 0 = List.replicate x.length 0 := by simp [fillL]
theorem fillL_all (x : Str) : fillL x x.length = ((ls x).map (·.toUInt8)).reverse := by
  unfold fillL
  rw [Nat.sub_self, List.replicate_zero, List.nil_append, List.take_of_length_le (by rw [List.length_map, ls_len]; omega)]
theorem fillL_len (x : Str) {k : Nat} (hk : k ≤ x.length) : (fillL x k).length = x.length := by
  have := ls_len x
  simp only [fillL, List.length_append, List.length_replicate, List.length_reverse, List.length_take, List.length_map]
  omega
theorem fillL_set (x : Str) {k : Nat} (hk : k < x.length) : (fillL x k).set (x.length - 1 - k) (octAt x k).toUInt8 = fillL x (k + 1) := by
  have hl := ls_len x
  unfold fillL octAt
  have e1 : x.length - k = (x.length - (k + 1)) + 1 := by omega
  have e2 : x.length - 1 - k = x.length - (k + 1) := by omega
  rw [e1, e2, List.replicate_succ', List.append_assoc, List.set_append_right _ _ (by simp), List.length_replicate, Nat.sub_self, List.singleton_append, List.set_cons_zero]
  congr 1
  rw [List.take_add_one, List.getElem?_eq_getElem (by rw [List.length_map]; omega), Option.toList_some, List.reverse_append, List.reverse_cons, List.reverse_nil, List.nil_append, List.singleton_append]
  congr 1
  rw [List.getElem_map, List.getD_eq_getElem?_getD, List.getElem?_eq_getElem (by omega)]
  exact UInt8.ofNat_toNat
end Mine
end
section
open PySem PySem.W PyProof.Rows
set_option maxRecDepth 100000
set_option maxHeartbeats 8000000
set_option pp.maxSteps 400
namespace Mine
abbrev ClaimN (d u : Nat) (w : World) (mean : ExcName → Option Value) (mg mb : Str → Option Value) (f : Addr) (news : List (Addr × Obj)) (vs : List Value) (R : Tok → Value) : Prop :=
  ∀ (dp un : Nat) (cn : Str) (cs : Scope) (a : Addr) (ccd : Value) (cl : List (Str × Addr)) (outer : List Env) (A₀ : Around) (base h₀ : Heap) (L : Addr) (m : Str → Option Value) (s : Shared) (Q E : Value → Shared → Prop),
    Below A₀ base outer h₀ → Fr h₀ L s.heap m → Frag.In (hd.heap_39 w.params) h₀ → News h₀ L s.heap news → Top hd.view_39 (looseW hd.view_39 []) mean mg mb h₀ → cs.kind = .function → dp + d < recursionLimit → un + u < cLine →
    (∀ (t : Tok) (h' : Heap) (tk' : Nat), Fr h₀ L h' m → News h₀ L h' news → Q (R t) { s with heap := h', toks := tk' }) →
    wpN (model PySem.Challenge.rw_gk0003_01.row.prog w) (ktrTop dp un (some []) cn cs L a ccd cl outer) (call (.ref f) vs) Q E s
local macro_rules | `(tactic| walk_at "n_enter") => `(tactic| (refine' codeN_def ?k1 ?k2 ?k3 ?k4 ?k5 ?kA ?kF ?kK ?k6 ?k7 ?k8 ?k9 ?kB ?_ ?c2 ?c3 ?c4 ?c5; (case kA => exact rfl); (case kF => exact rfl); (case kK => assumption); (case k1 => k_asm); (case k2 => k_asm); (case k3 => k_asm); (case k4 => k_asm); (case k5 => k_asm); (case k6 => k_is); (case k7 => k_is); (case k8 => ktr_room); (case k9 => exact BindsTo.of_eq rfl); (case c5 => decide); (case kB => exact locs rfl); (case c2 => exact rfl); (case c3 => exact rfl); (case c4 => exact rfl); intro g' L' h' FG' F' N' B' X' T' hLow; (try dsimp only); (try k_lift B'); (try k_fold)))
local macro_rules | `(tactic| walk_at "call builtin:len") => `(tactic| ((with_reducible show wpAny _ _ (call (Value.builtin _) [Value.bytes (octs _) _]) _ _ _); refine oct_len (by assumption) ?_; (try dsimp only)))
local macro_rules | `(tactic| walk_at "exec For") => `(tactic| (k_here; (rename Fr _ _ _ _ => lF'); (with_unfolding_all refine' For_invVF lF' ?k1 ?k2 ?_; (case k1 => exact rfl); (case k2 => exact rfl); k_whole)))
local macro_rules | `(tactic| walk_at "pyIter ref") => `(tactic| refine Stop.of ?_)
local macro_rules | `(tactic| walk_at "subscriptTail") => `(tactic| ((with_reducible show wpAny _ _ (subscriptTail _ _ (Value.bytes (octs _) _) (Value.int _ _)) _ _ _); refine oct_item (by assumption) (by omega) (by omega) ?_ ; (try dsimp only)))
local macro_rules | `(tactic| walk_at "setItem") => `(tactic| refine Stop.of ?_)
theorem once_size {n : Nat} (h0 : n ≠ 0) : Builtin.Range.rangeSize 0 (n : Int) (n : Int) = 1 := by
  unfold Builtin.Range.rangeSize
  rw [if_pos (by omega), if_pos (by omega), Int.ediv_eq_zero_of_lt (by omega) (by omega)]
  rfl
theorem once_small {n : Nat} (h : n ≤ 40) (h0 : n ≠ 0) : Builtin.Range.small 0 (n : Int) (n : Int) = true := by
  unfold Builtin.Range.small
  rw [once_size h0]
  simp only [Builtin.Range.rangeFitsLong, Bool.and_eq_true, Bool.or_eq_true, decide_eq_true_eq, beq_iff_eq, show (n : Int) > 0 by omega, if_true]
  omega
theorem own_off {own : List (Addr × Obj)} {l : List Addr} {S : Addr} (h : OwnOff own l) (hS : S ∈ l) : ∀ p ∈ own, p.1 ≠ S := h.ne hS
theorem swap_claim {w : World} {mean : ExcName → Option Value} {mg mb : Str → Option Value} (cbNews : CbLed) (x : CbStr) (tx tn : Tok) (hx : x.length ≤ 40) (h0 : x.length ≠ 0) :
  ClaimN 1 30 w mean mg mb 35 cbNews [.bytes (octs x) tx, .int (x.length : Int) tn] (fun t => .bytes (octs x).reverse t) := by
  dsimp only [ClaimN]
  k_fill
  intros
  rename_i hret
  refine wpN_call ?_
  k_dflt (walk_at "n_enter")
  refine wpN_execs_cons (wpN_Assign_Name (wpN_Call_type (T := "bytearray") rfl ?_))
  k_steps
  refine ba_call rfl (by omega) ?_
  intro h2 tk2 ho2 hk2
  (with_reducible rename Fr _ _ _ _ => F1)
  (with_reducible rename News _ _ _ _ => N1)
  obtain ⟨F2, N2, hap⟩ := ba_new_led F1 N1 hk2 ho2
  clear F1 N1 hk2 ho2
  (try dsimp only at F2 N2 hap ⊢)
  (rename_i gA LA hA _ _ _ _)
  generalize LA.objs.size = S at *
  k_steps
  refine wpN_of ?_
  k_steps
  refine Stop.to ?_
  (rename IsRange _ _ _ _ _ _ _ _ => rgX); (with_reducible rename Fr _ gA _ _ => F1); (with_reducible rename News _ gA _ _ => N1)
  have hMk := kstMark
  refine kst_once (σ := Array UInt8) (fun b => (S, baObj b) :: cbNews) (fun _ => []) (fun _ => True) [Str.ofString "j"] (fun pre b => b.toList = fillL x (if pre = [] then 0 else x.length)) (Array.replicate x.length 0) rfl rgX ?_ ?_ F1 N1 trivial (by kst_all) ?_ ?_ ?_
  · exact once_small hx h0
  · exact once_size h0
  · show (Array.replicate x.length 0).toList = fillL x 0
    rw [fillL_zero, Array.toList_replicate]
  · clear rgX F1 N1
    rintro b t u h tk own hoff - hb F1 N1
    replace F1 : Fr _ gA _ _ := F1
    replace N1 : News _ gA h (((S, baObj b) :: cbNews) ++ own) := N1
    have hap2 : ∀ p ∈ cbNews ++ own, p.1 ≠ S := fun p hp => by
      rcases List.mem_append.mp hp with hp | hp
      · exact hap p hp
      · exact own_off hoff (.head _) p hp
    clear hMk
    (try dsimp only)
    k_steps
    refine Stop.to ?_
    (rename IsRange _ _ _ _ _ _ _ _ => rgX); (with_reducible rename Fr _ gA _ _ => F1); (with_reducible rename News _ gA _ (_ :: _ ++ _) => N1)
    have hMk := kstMark
    refine kst_range (σ := Array UInt8) (fun b => (S, baObj b) :: (cbNews ++ own)) (fun _ => []) (fun _ => True) [] (fun pre b => b.toList = fillL x pre.length) b rfl rgX (small_one (by omega) (by omega) (by omega) (by omega)) (rangeSize_nat _ _) F1 N1 trivial (by kst_all) hb ?_ ?_
    · clear rgX F1 N1 hb
      rintro b2 pre k t2 u2 h3 tk3 own2 ek hkn hoff2 - hb F1 N1
      replace F1 : Fr _ gA _ _ := F1
      replace N1 : News _ gA h3 (((S, baObj b2) :: (cbNews ++ own)) ++ own2) := N1
      have hap3 : ∀ p ∈ (cbNews ++ own) ++ own2, p.1 ≠ S := fun p hp => by
        rcases List.mem_append.mp hp with hp | hp
        · exact hap2 p hp
        · exact own_off hoff2 (.head _) p hp
      clear hMk
      have hz : b2.size = x.length := by rw [← Array.length_toList, hb, fillL_len x (by omega)]
      (try dsimp only)
      k_steps
      refine Stop.to ?_
      (with_reducible rename Fr _ gA _ _ => F1); (with_reducible rename News _ gA _ _ => N1)
      refine ba_set_led F1 N1 hap3 (by omega) (by omega) (by omega) (octAt_lt _ _) ?_
      intro h4 F4 N4
      have hMk := kstMark
      (try dsimp only)
      k_steps
      (rename News _ _ _ _ => nE')
      refine kst_end (σ := Array UInt8) (b2.setIfInBounds (0 + (x.length : Int) - 1 - k).toNat (octAt x (0 + k)).toUInt8) (by assumption) nE' (by first | kst_in | kst_inAny) (by first | (intro p hp; kst_mem) | kst_anyIn) (by rfl) trivial (by kst_all) (by (intro z h1 h2 h3; (simp only [List.contains_cons, List.contains_nil, Bool.or_false, Bool.or_eq_false_iff, beq_eq_false_iff_ne, ne_eq] at h3); (simp [kstB, h1, h3]))) ?_
      show (b2.setIfInBounds _ _).toList = fillL x (pre ++ [k]).length
      rw [Array.toList_setIfInBounds, hb, List.length_append, List.length_cons, List.length_nil, ← fillL_set x (by omega)]
      rw [show (0 + (x.length : Int) - 1 - k).toNat = x.length - 1 - pre.length by omega, show 0 + k = ((pre.length : Nat) : Int) by omega]
    · clear rgX F1 N1 hb
      rintro b2 u2 h3 tk3 - hb F1 N1
      replace F1 : Fr _ gA _ _ := F1
      replace N1 : News _ gA h3 ((S, baObj b2) :: (cbNews ++ own)) := N1
      rw [rangeKs_length] at hb
      (try dsimp only)
      k_steps
      (rename News _ _ _ _ => nE')
      refine kst_end (σ := Array UInt8) b2 (by assumption) nE' (by first | kst_in | kst_inAny) (by first | (intro p hp; kst_mem) | kst_anyIn) (by rfl) trivial (by kst_all) (by (intro z h1 h2 h3; (simp only [List.contains_cons, List.contains_nil, Bool.or_false, Bool.or_eq_false_iff, beq_eq_false_iff_ne, ne_eq] at h3); (simp [kstB, h1, h3]))) ?_
      rw [hb, show ((x.length : Int) - 0).toNat = x.length by omega]
      rfl
  · clear rgX F1 N1
    rintro b u h tk - hb F1 N1
    (try dsimp only)
    k_steps
    have hb1 : b = (octs x).reverse := by
      apply Array.ext'
      rw [hb, Array.toList_reverse, octs_list]
      exact fillL_all x
    subst hb1
    refine bb_call (N1 _ (.head _)).1 (by rw [Array.size_reverse, octs_size]; omega) fun t k => ?_
    (try dsimp only)
    replace F1 : Fr _ gA _ _ := F1
    replace N1 : News _ gA _ cbNews := fun p hp => N1 p (.tail _ hp)
    k_steps
    exact hret _ _ _ (by assumption) (by assumption)
end Mine
end
section
open PySem PySem.W PyProof.Rows
set_option maxRecDepth 100000
set_option maxHeartbeats 8000000
set_option pp.maxSteps 400
namespace Mine
local macro_rules | `(tactic| walk_at "n_enter") => `(tactic| (refine' codeN_def ?k1 ?k2 ?k3 ?k4 ?k5 ?kA ?kF ?kK ?k6 ?k7 ?k8 ?k9 ?kB ?_ ?c2 ?c3 ?c4 ?c5; (case kA => exact rfl); (case kF => exact rfl); (case kK => assumption); (case k1 => k_asm); (case k2 => k_asm); (case k3 => k_asm); (case k4 => k_asm); (case k5 => k_asm); (case k6 => k_is); (case k7 => k_is); (case k8 => ktr_room); (case k9 => exact BindsTo.of_eq rfl); (case c5 => decide); (case kB => exact locs rfl); (case c2 => exact rfl); (case c3 => exact rfl); (case c4 => exact rfl); intro g' L' h' FG' F' N' B' X' T' hLow; (try dsimp only); (try k_lift B'); (try k_fold)))
theorem swap_use {w : World} {mean : ExcName → Option Value} {mg mb : Str → Option Value} {news : List (Addr × Obj)} {x : Str} {tx tn : Tok} {dp un : Nat} {cn : Str} {cs : Scope} {a : Addr} {ccd : Value} {cl : List (Str × Addr)} {outer : List Env} {A₀ : Around} {base h₀ : Heap} {L : Addr} {m : Str → Option Value} {s : Shared} {Q E : Value → Shared → Prop}
    (B : Below A₀ base outer h₀) (F : Fr h₀ L s.heap m) (X : Frag.In (hd.heap_39 w.params) h₀) (N : News h₀ L s.heap news) (T : Top hd.view_39 (looseW hd.view_39 []) mean mg mb h₀) (hk : cs.kind = .function)
    (hx : x.length ≤ 40) (h0 : x.length ≠ 0) (hd : dp + 1 < recursionLimit) (hu : un + 30 < cLine)
    (ret : ∀ (t : Tok) (h' : Heap) (tk' : Nat), Fr h₀ L h' m → News h₀ L h' news → Q (.bytes (octs x).reverse t) { s with heap := h', toks := tk' }) :
    wpN (model PySem.Challenge.rw_gk0003_01.row.prog w) (ktrTop dp un (some []) cn cs L a ccd cl outer) (call (.ref 35) [.bytes (octs x) tx, .int (x.length : Int) tn]) Q E s :=
  swap_claim news x tx tn hx h0 dp un cn cs a ccd cl outer A₀ base h₀ L m s Q E B F X N T hk hd hu ret
theorem wpN_MethodCall {M : Model} {A : Around} {E : Value → Shared → Prop} {s : Shared} {env : Env} {o : Expr} {name : Str} {apos pos : Pos} {args : List Expr} {pl : Sem Bool} {Q : Value → Shared → Prop}
    (h : wpN M A (eval o env) (fun ov s₁ => wpAny M A (getMethod ov name pl) (fun fx s₂ => wpAny M A (callWith pos fx.1 fx.2 (backTo pos (starEach args env)) []) Q E s₂) E s₁) E s)
    (he : eval (.Call (.Attribute o name apos) args [] pos) env = (do
      let ov ← eval o env
      standAt apos.atName
      let (f, first) ← holding [ov] (getMethod ov name pl)
      callWith pos f first (backTo pos (starEach args env)) (backToKw pos (keywordEach [] env))) := by rfl) :
    wpN M A (eval (.Call (.Attribute o name apos) args [] pos) env) Q E s := by
  rw [he]
  exact wpN_bind (wpN_mono h (fun ov s₁ h₁ => wpN_of (wpAny_bind (wpAny_standAt (wpAny_bind (wpAny_holding (wpAny_mono h₁ (fun fx s₂ h₂ => h₂) fun _ _ x => x)))))) fun _ _ e => e)
def turn (x : Str) : Str := ⟨x.cps.reverse⟩
theorem turn_len (x : Str) : (turn x).length = x.length := by simp [turn, Str.length]
local macro_rules | `(tactic| walk_at "call builtin:len") => `(tactic| ((with_reducible show wpAny _ _ (call (Value.builtin _) [Value.bytes (octs _) _]) _ _ _); refine oct_len (by assumption) ?_; (try dsimp only)))
local macro_rules | `(tactic| walk_at "getMethod str") => `(tactic| ((with_reducible refine enc_meth ?_); (try dsimp only)))
local macro_rules | `(tactic| walk_at "call builtin:str.encode") => `(tactic| ((refine enc_call (by assumption) (by assumption) ?_); intro _ _; (try dsimp only)))
local macro_rules | `(tactic| walk_at "getMethod bytes") => `(tactic| ((with_reducible refine KBd.method ?_); (try dsimp only)))
local macro_rules | `(tactic| walk_at "call builtin:bytes.decode") => `(tactic| refine Stop.of ?_)
theorem letters_turn {x : Str} (ha : ∀ c ∈ ls x, c < 128) : letters (octs x).reverse = turn x := by
  apply ls_ext
  simp only [letters, turn, octs, ls, Array.toList_map, Array.toList_reverse, List.map_reverse, List.map_map]
  congr 1
  conv => rhs; rw [← List.map_id x.cps.toList]
  refine List.map_congr_left fun c hc => ?_
  have := ha c hc
  show c.toUInt8.toNat = c
  exact UInt8.toNat_ofNat_of_lt (by show c < 256; omega)
theorem octs_low {x : Str} (ha : ∀ c ∈ ls x, c < 128) : ∀ c ∈ (octs x).reverse.toList, c.toNat < 128 := by
  intro c hc
  rw [Array.toList_reverse, List.mem_reverse, octs_list, List.mem_map] at hc
  obtain ⟨d, hd, rfl⟩ := hc
  have := ha d hd
  show d.toUInt8.toNat < 128
  rw [show d.toUInt8.toNat = d from UInt8.toNat_ofNat_of_lt (by show d < 256; omega)]
  exact this
theorem turn_none {x : Str} (h : x.length = 0) : turn x = ⟨#[]⟩ := by
  obtain ⟨c⟩ := x
  have : c = #[] := Array.eq_empty_of_size_eq_zero h
  subst this
  rfl
theorem turn_claim {w : World} {mean : ExcName → Option Value} {mg mb : Str → Option Value} (cbNews : CbLed) (x : CbStr) (tx : CbTok) (hx : x.length ≤ 40) (ha : ∀ c ∈ ls x, c < 128) :
  ClaimN 2 60 w mean mg mb 42 cbNews [.str x tx] (fun t => .str (turn x) t) := by
  dsimp only [ClaimN]
  k_fill
  intros
  rename_i hret
  refine wpN_call ?_
  k_dflt (walk_at "n_enter")
  refine wpN_execs_cons (wpN_of ?_)
  k_steps
  refine wpN_execs_cons (wpN_Return (wpN_MethodCall (wpN_IfExp ?_)))
  k_steps
  · have hn : x.length ≠ 0 := by
      intro e
      have : octs x = #[] := Array.eq_empty_of_size_eq_zero (by rw [octs_size, e])
      (rename ((octs x).toList != _) = true => hB)
      rw [this] at hB
      exact absurd hB (by decide)
    refine wpN_Call_fn2 (K := hd.heap_39 w.params) (a := 35) rfl (by k_is) ?_
    k_steps
    k_dflt (refine' swap_use ?k1 ?k2 ?k3 ?k4 ?k5 ?kK ?hx ?h0 ?kd ?ku ?_; (case k1 => k_asm); (case k2 => k_asm); (case k3 => k_asm); (case k4 => k_asm); (case k5 => k_asm); (case kK => first | exact rfl | assumption); (case hx => assumption); (case h0 => assumption); (case kd => ktr_room); (case ku => ktr_units))
    intro t9 h9 tk9 F9 N9
    (try dsimp only)
    (try k_fold)
    k_steps
    refine Stop.to ?_
    refine dec_call (octs_low ha) (by rw [Array.size_reverse, octs_size]; omega) ?_
    intro t' k'
    rw [letters_turn ha]
    k_steps
    exact hret _ _ _ (by assumption) (by assumption)
  · have hn : x.length = 0 := by
      (rename ((octs x).toList != _) = false => hB)
      rw [bne_eq_false_iff_eq] at hB
      rw [← octs_size, ← Array.length_toList, hB]
      rfl
    refine wpN_of ?_
    k_steps
    refine Stop.to ?_
    refine dec_call (fun c hc => nomatch hc) (by decide) ?_
    intro t' k'
    rw [show letters #[] = turn x from (show letters #[] = ⟨#[]⟩ by simp [letters]).trans (turn_none hn).symm]
    k_steps
    exact hret _ _ _ (by assumption) (by assumption)
end Mine
end
section
open PySem PySem.W PyProof.Rows
set_option maxRecDepth 100000
namespace Mine
theorem assign_pair {prog : Program} {w : World} {A : Around} {E : Value → Shared → Prop} {s : Shared} {env : Env} {h₀ h : Heap} {L : Addr} {m : Str → Option Value} {news : List (Addr × Obj)} {x y : Str} {px py tpos : Pos} {k : Nat} {v v' : Value} {Q : Unit → Shared → Prop}
    (hh : A.handled = none) (F : Fr h₀ L h m) (N : News h₀ L h news) (hs : s.heap = h.push { cls := .type "tuple", data := .seq #[v, v'] })
    (ret : ∀ h', Fr h₀ L h' m → News h₀ L h' news → wpAny (model prog w) A (storeName env x v) (fun _ s₁ => wpAny (model prog w) A (storeName env y v') (fun _ s₂ => Q () s₂) E s₁) E { s with heap := h' }) :
    wpAny (model prog w) A (assign (.Tuple [.Name x px, .Name y py] k tpos) env (.ref h.objs.size)) Q E s := by
  refine assign_Tuple_tuple (items := #[v, v']) hh (by rw [hs]; exact ⟨_, Heap.get?_push_size _ rfl, rfl, _, rfl⟩) (by rfl) (by rfl) ?_
  intro h' he
  rw [hs] at he
  have hk : ∀ b o, h.get? b = some o → h'.get? b = some o := fun b o e => he b o (Nat.ne_of_lt (by rw [Heap.size_push]; exact Nat.lt_succ_of_lt (Heap.lt_size e))) (Heap.get?_push_of_some _ e)
  have r := ret h' (F.keptAll hk) (fun p hp => ⟨hk _ _ (N p hp).1, (N p hp).2⟩)
  show wpAny _ _ (assignInOrder [assign (.Name x px) env, assign (.Name y py) env] [v, v']) _ _ _
  show wpAny _ _ (do holding [v'] (assign (.Name x px) env v); assignInOrder [assign (.Name y py) env] [v']) _ _ _
  refine wpAny_bind (wpAny_holding (assign_Name (wpAny_mono r (fun _ s₁ h₁ => ?_) fun _ _ e => e)))
  show wpAny _ _ (do holding [] (assign (.Name y py) env v'); assignInOrder [] []) _ _ _
  exact wpAny_bind (wpAny_holding (assign_Name (wpAny_mono h₁ (fun _ _ q => wpAny_pure q) fun _ _ e => e)))
end Mine
end
section
open PySem PySem.W PyProof.Rows
set_option maxRecDepth 100000
namespace Mine
theorem range_few {a b : Int} (h0 : 0 ≤ a) (h : b ≤ 16) : (sliceRange a b 2).length ≤ 8 := by
  unfold sliceRange
  simp only [List.length_map, List.length_range]
  split <;> omega
theorem pick_few {its : Array Value} {lo : Option Int} (h : lo = none ∨ lo = some 1) : (slicePick its lo (some 16) (some 2)).size ≤ 8 := by
  unfold slicePick
  rw [List.size_toArray]
  refine Nat.le_trans (List.length_filterMap_le _ _) ?_
  rcases h with rfl | rfl <;> refine range_few ?_ ?_ <;> simp [sliceBounds] <;> omega
/-- a text of few letters, all of them plain -/
structure Few (x : Str) : Prop where
  len : x.length ≤ 8
  low : ∀ c ∈ ls x, c < 128
theorem ls_add (x y : Str) : ls (x ++ y) = ls x ++ ls y := by
  show (x.cps ++ y.cps).toList = _
  simp [ls]
theorem join_low : ∀ (l : List Str), (∀ a ∈ l, ∀ c ∈ ls a, c < 128) → ∀ c ∈ ls (Str.join (Str.ofString "") l), c < 128
  | [], _ => fun c hc => nomatch hc
  | [a], h => h a (.head _)
  | a :: b :: r, h => fun c hc => by
    have ih := join_low (b :: r) fun z hz => h z (.tail _ hz)
    have e : ls (Str.join (Str.ofString "") (a :: b :: r)) = ls a ++ ls (Str.join (Str.ofString "") (b :: r)) := by
      show ls (a ++ Str.ofString "" ++ Str.join (Str.ofString "") (b :: r)) = _
      rw [ls_add, ls_add, show ls (Str.ofString "") = [] from by decide, List.append_nil]
    rw [e] at hc
    rcases List.mem_append.mp hc with hc | hc
    · exact h a (.head _) c hc
    · exact ih c hc
theorem fmod3 (k : Int) : Int.fmod k 3 = 0 ∨ Int.fmod k 3 = 1 ∨ Int.fmod k 3 = 2 := by
  rw [Int.fmod_eq_emod_of_nonneg _ (by decide)]
  omega
def abc (k : Int) : Str := Txt.item (Str.ofString "abA") (Int.fmod k 3)
theorem abc_len (k : Int) : (abc k).length = 1 := by
  unfold abc
  rcases fmod3 k with h | h | h <;> rw [h] <;> decide
theorem abc_low (k : Int) : ∀ c ∈ ls (abc k), c < 128 := by
  unfold abc
  rcases fmod3 k with h | h | h <;> rw [h] <;> decide
theorem join_few {prog : Program} {w : World} {A : Around} {E : Value → Shared → Prop} {s : Shared} {D : Addr} {ys : List Value} {l : List Int} {t : Tok} {Q : Value → Shared → Prop} (hl : s.heap.IsList D ys.toArray)
    (hc : CarriedAll ys (l.map fun k => PyData.str (Txt.item (Str.ofString "abA") (Int.fmod k 3)))) (hn : l.length ≤ 8) (h : ∀ x t' k, Few x → Q (.str x t') { s with toks := k }) :
    wpAny (model prog w) A (call (.builtin "str.join") [.str (Str.ofString "") t, .ref D]) Q E s :=
  KT.join_1 (g := abc) hl hc (fun a _ => abc_len a) (by omega) fun t' k e => h _ _ _ ⟨by rw [e]; exact hn, by
    show ∀ c ∈ ls (Builtin.Str.glued _ _), c < 128
    rw [StrLaws.glued_eq_join]
    refine join_low _ fun a ha => ?_
    obtain ⟨b, _, rfl⟩ := List.mem_map.mp ha
    exact abc_low b⟩
end Mine
end
section
open PySem PySem.W PyProof.Rows
set_option maxRecDepth 100000
namespace Mine
theorem ls_turn (x : Str) : ls (turn x) = (ls x).reverse := by simp [turn, ls]
theorem far_turn (x y : Str) : (far (turn x) (turn y) : Int) = far x y := by
  rw [far_def, far_def, ls_turn, ls_turn, lev_reverse]
theorem far_none (x : Str) : (far x (Str.ofString "") : Int) = 2 * x.length := by
  have := far_empty (x := x) (y := Str.ofString "") (.inr (by decide))
  rw [show (Str.ofString "").length = 0 from by decide] at this
  omega
theorem none_far (x : Str) : (far (Str.ofString "") x : Int) = 2 * x.length := by
  have := far_empty (x := Str.ofString "") (y := x) (.inl (by decide))
  rw [show (Str.ofString "").length = 0 from by decide] at this
  omega
theorem far_same (x y : Str) : (((far x y : Int) == 0) != (x == y)) = false := by
  by_cases h : x = y
  · subst h; rw [far_self]; simp
  · have h1 : ¬ far x y = 0 := fun e => h (ls_ext (lev_zero cN_is (by rw [← far_def]; exact e)))
    have h2 : ((far x y : Int) == 0) = false := by simp [h1]
    have h3 : (x == y) = false := by simp [h]
    rw [h2, h3]; rfl
theorem far_add (x y x' y' : Str) : (far (x ++ x') (y ++ y') : Int) ≤ far x y + far x' y' := by
  have := lev_append (c := cN) (ls x) (ls y) (ls x') (ls y')
  rw [far_def, far_def, far_def, ls_add, ls_add]
  omega
theorem far_twice (x y : Str) : (far (x ++ x) (y ++ y) : Int) ≤ 2 * far x y := by
  have := far_add x y x y
  omega
theorem far_both (x y : Str) : (far (x ++ turn x) (y ++ turn y) : Int) ≤ 2 * far x y := by
  have h1 := far_add x y (turn x) (turn y)
  have h2 := far_turn x y
  omega
theorem far_tri (x y z : Str) : (far x z : Int) ≤ far x y + far y z := by
  have := lev_tri cN_is (ls x) (ls y) (ls z)
  rw [far_def, far_def, far_def]
  omega
theorem far_rotate {x : Str} {k : Int} (h0 : 0 ≤ k) (h1 : k ≤ x.length) :
    (far x (Txt.slice x (some k) none ++ Txt.slice x none (some k)) : Int) ≤ 4 * if (x.length : Int) - k < k then (x.length : Int) - k else k := by
  have h := lev_turn cN_is ((ls x).take k.toNat) ((ls x).drop k.toNat)
  rw [List.take_append_drop, ← ls_from h0 h1, ← ls_to h0 h1, ← ls_add, ← far_def, ls_from h0 h1, ls_to h0 h1, List.length_take, List.length_drop, ls_len] at h
  split <;> omega
theorem parts_range (a b : List Nat) (h : a.length = b.length) : parts a b = ((List.range a.length).map fun k => if a.getD k 0 = b.getD k 0 then 0 else 1).sum := by
  induction a generalizing b with
  | nil => cases b <;> rfl
  | cons x a ih =>
    cases b with
    | nil => simp at h
    | cons y b =>
      unfold parts
      rw [ih b (by simpa using h), List.length_cons, List.range_succ_eq_map, List.map_cons, List.map_map, List.sum_cons]
      rfl
theorem fold_len (f : List Int → Int → List Int) (g : Int → Nat) : ∀ (ks : List Int) (l : List Int), (∀ l, ∀ k ∈ ks, (f l k).length = l.length + g k) → (List.foldl f l ks).length = l.length + (ks.map g).sum
  | [], l, _ => by simp
  | k :: ks, l, h => by
    rw [List.foldl_cons, fold_len f g ks _ fun l k hk => h l k (.tail _ hk), h l k (.head _), List.map_cons, List.sum_cons]
    omega
theorem far_fold {x y : Str} {f : List Int → Int → List Int} (hl : y.length = x.length)
    (h : ∀ (l : List Int) (k : Int), 0 ≤ k → k < x.length → (f l k).length = l.length + if Txt.item x k = Txt.item y k then 0 else 1) :
    (far x y : Int) ≤ 2 * (List.foldl f [] (rangeKs 0 ((x.length : Int) - 0).toNat)).length := by
  have h1 := fold_len f (fun k : Int => if Txt.item x k = Txt.item y k then 0 else 1) (rangeKs 0 ((x.length : Int) - 0).toNat) [] fun l k hk => by
    have := mem_rangeKs hk
    exact h l k this.1 (by omega)
  rw [h1]
  have h2 := lev_parts cN_is (ls x) (ls y) (by rw [ls_len, ls_len, hl])
  rw [parts_range _ _ (by rw [ls_len, ls_len, hl]), ← far_def] at h2
  have h3 : ((rangeKs 0 ((x.length : Int) - 0).toNat).map fun k => if Txt.item x k = Txt.item y k then 0 else 1) = (List.range (ls x).length).map fun k => if (ls x).getD k 0 = (ls y).getD k 0 then 0 else 1 := by
    unfold rangeKs
    rw [List.map_map, ls_len, show ((x.length : Int) - 0).toNat = x.length by omega]
    refine List.map_congr_left fun k hk => ?_
    have hk := List.mem_range.mp hk
    show (if Txt.item x (0 + (k : Int)) = Txt.item y (0 + (k : Int)) then 0 else 1) = _
    rw [item_at' (by omega) (by omega), item_at' (by omega) (by omega), show (0 + (k : Int)).toNat = k by omega]
    by_cases e : (ls x).getD k 0 = (ls y).getD k 0
    · rw [e]; simp
    · rw [if_neg e, if_neg fun q => e (one_inj q)]
  rw [h3]
  simp only [List.length_nil, Nat.zero_add]
  omega
theorem far_foldF {x y : Str} {f : List Int → Int → List Int} (h : 2 * ((List.foldl f [] (rangeKs 0 ((x.length : Int) - 0).toNat)).length : Int) < far x y) (hl : y.length = x.length)
    (h' : ∀ (l : List Int) (k : Int), 0 ≤ k → k < x.length → (f l k).length = l.length + if Txt.item x k = Txt.item y k then 0 else 1) : False :=
  Int.not_le.mpr h (far_fold hl h')
theorem bne_no {x : Str} (h : (x != x) = true) : False := by simp at h
theorem item_one {x : Str} {k : Int} (h0 : 0 ≤ k) (h1 : k < x.length) : (Txt.item x k).length = 1 := by rw [item_at' h0 h1]; rfl
theorem place_in {n : Int} {x : Str} : 0 ≤ Int.fmod n ((x.length : Int) + 1) ∧ Int.fmod n ((x.length : Int) + 1) ≤ x.length := by
  have h : (0 : Int) ≤ (x.length : Int) + 1 := by omega
  rw [Int.fmod_eq_emod_of_nonneg _ h]
  have h1 := Int.emod_nonneg n (b := (x.length : Int) + 1) (by omega)
  have h2 := Int.emod_lt_of_pos n (b := (x.length : Int) + 1) (by omega)
  omega
/-- the letters that part, as the walk counts them -/
theorem count_turn {x y : Str} {l : List Int} {k : Int} (hl : y.length = x.length) (h0 : 0 ≤ k) (h1 : k < x.length) :
    (if (1 ≤ (Txt.item x k).length ∧ (Txt.item x k).length ≤ 1) ∧ (1 ≤ (Txt.item y k).length ∧ (Txt.item y k).length ≤ 1) ∧ ¬Txt.item x k = Txt.item y k then l ++ [k]
      else if (1 ≤ (Txt.item x k).length ∧ (Txt.item x k).length ≤ 1) ∧ (1 ≤ (Txt.item y k).length ∧ (Txt.item y k).length ≤ 1) ∧ (Txt.item x k != Txt.item y k) = false then l else l).length
      = l.length + if Txt.item x k = Txt.item y k then 0 else 1 := by
  have i1 := item_one h0 h1
  have i2 := item_one (x := y) h0 (by rw [hl]; exact h1)
  rw [i1, i2]
  by_cases e : Txt.item x k = Txt.item y k <;> simp [e]
end Mine
end
section
open PySem PySem.W PyProof.Rows
set_option maxRecDepth 100000
set_option maxHeartbeats 8000000
set_option pp.maxSteps 400
namespace Mine
theorem few_le {x : Str} (h : Few x) : x.length ≤ 8 := h.len
theorem turn_le {x : Str} (h : Few x) : (turn x).length ≤ 8 := by rw [turn_len]; exact h.len
local macro_rules | `(tactic| walk_at "few_one") => `(tactic| first | exact turn_le (by assumption) | exact few_le (by assumption) | exact Nat.zero_le _)
local macro_rules | `(tactic| walk_at "few_len") => `(tactic| (first | exact Nat.le_trans (by (walk_at "few_one")) (show 8 ≤ 40 by decide) | omega | fail "few_len"))
local macro_rules | `(tactic| walk_at "call ref") => `(tactic| (k_here; (with_reducible show wpAny _ _ (call (Value.ref _) [Value.str _ _, Value.str _ _]) _ _ _); k_dflt (refine' far_use ?k1 ?k2 ?k3 ?k4 ?k5 ?kK ?hx ?hy ?kd ?ku ?_; (case k1 => k_asm); (case k2 => k_asm); (case k3 => k_asm); (case k4 => k_asm); (case k5 => k_asm); (case kK => first | exact rfl | assumption); (case hx => (walk_at "few_len")); (case hy => (walk_at "few_len")); (case kd => ktr_room); (case ku => ktr_units)); intro t9 h9 tk9 F9 N9; (try dsimp only); (try k_fold)))

theorem turn_sliceBy (x : Str) (u : Tok) : Txt.sliceBy x none none (-1, u) = turn x := by
  apply ls_ext
  rw [ls, step_rev_list]
  show _ = x.cps.reverse.toList
  rw [Array.toList_reverse]
  apply List.ext_getElem
  · simp [Str.length]
  · intro i h1 h2
    have h3 : i < x.cps.size := by simpa using h2
    have h4 : x.cps.size - 1 - i < x.cps.size := by omega
    simp [Str.length, List.getElem_reverse, Array.getD, h4]
open PySem.Builtin PySem.Builtin.Str in
theorem slice_rev {prog : Program} {w : World} {A : Around} {E : Value → Shared → Prop} {s : Shared} {value : PySem.Expr} {st : PySem.Expr} {pos : Pos} {x : Str} {t : Tok} {u : Tok} {h₀ : Heap} {L : Addr} {m : Str → Option Value} {news : List (Addr × Obj)} {Q : Value → Shared → Prop}
    (hF : Fr h₀ L s.heap m) (hN : News h₀ L s.heap news) (hsz : x.length ≤ 40)
    (h : ∀ h' t' k, Fr h₀ L h' m → News h₀ L h' news → Q (.str (turn x) t') { s with heap := h', toks := k })
    (ht : ∀ r, letTemporaryGo value (.str x t) r = pure () := by intro _; with_unfolding_all rfl) :
    wpAny (model prog w) A (subscriptTail value (.Slice none none (some st) pos) (.str x t) (.ref s.heap.objs.size)) Q E { s with heap := s.heap.push { cls := .type "slice", data := .fields #[.none, .none, .int (-1) u] } } :=
  slice_strK_nn hF hN (by decide) (fun h' t' k F N => by rw [turn_sliceBy]; exact h h' t' k F N) rfl ht (by rw [PySem.sizeLine_eq]; omega)
local macro_rules | `(tactic| walk_at "subscriptTail Name Slice str ref") => `(tactic| ((with_reducible show wpAny _ _ (subscriptTail _ (PySem.Expr.Slice none none (some _) _) (Value.str _ _) (Value.ref _)) _ _ _); (with_reducible rename Fr _ _ _ _ => F'); (with_reducible rename News _ _ _ _ => N'); refine slice_rev (s := ⟨_, _, _, _, _⟩) F' N' (by (walk_at "few_len")) ?_; intro h' t' k F' N'; (try dsimp only)))
theorem law_rest {w : World} {mean : ExcName → Option Value} {mg mb : Str → Option Value} {fa l cdv : Addr} {s₁ : Shared} {vs : List Value} {ns : List Int} {t1 t2 t3 t4 : Tok} {x1 x2 : Str} {o1 o2 : Obj} {h' : Heap} {tk : Nat} {Q : Flow → Shared → Prop} {E : Value → Shared → Prop} {pm : Arguments} {st1 st2 st3 : Stmt} {rest : List Stmt} {scope : Scope}
    (hd9 : PySem.Challenge.rw_gk0003_01.row.prog.theDef (Str.ofString "law") = some (pm, st1 :: st2 :: st3 :: rest, scope)) (KX : (hd.heap_39 w.params).In s₁.heap) (K0 : Below callerA s₁.heap [] s₁.heap) (T : Top hd.view_39 (looseW hd.view_39 []) mean mg mb s₁.heap) (hl : s₁.heap.IsList l vs.toArray) (hI9 : IntsAre vs ns) (hn : ¬ 63 < ns.length) 
    (d1 : o1.data = Data.cell (some (Value.str x1 t1))) (d2 : o2.data = Data.cell (some (Value.str (turn x1) t3))) (f1 : Few x1) (f2 : Few x2)
    (F : Fr s₁.heap s₁.heap.objs.size h' (fun y => if y = Str.ofString "right" then some (.str (turn x2) t4) else if y = Str.ofString "other" then some (.str x2 t2) else if y = Str.ofString "script" then some (.ref l) else none))
    (N : News s₁.heap s₁.heap.objs.size h' [(s₁.heap.objs.size + 1 + 1, o2), (s₁.heap.objs.size + 1, o1)])
    (hQ : ∀ h m tk', Fr s₁.heap s₁.heap.objs.size h m → Q (.ret (.bool true)) { s₁ with heap := h, toks := tk' }) :
    wpAny (model PySem.Challenge.rw_gk0003_01.row.prog w) (callerA.deeper (envOfC (Str.ofString "law") scope s₁.heap.objs.size fa (.ref cdv))) (execs rest (envOfC (Str.ofString "law") scope s₁.heap.objs.size fa (.ref cdv))) Q E { s₁ with heap := h', toks := tk } := by
  cases hd9
  revert KX
  k_fill
  intro KX
  have len1 : x1.length ≤ 8 := f1.len
  have len2 : x2.length ≤ 8 := f2.len
  have len3 : (turn x1).length = x1.length := turn_len x1
  have len4 : (turn x2).length = x2.length := turn_len x2
  k_steps
  all_goals try exact absurd (far_turn x1 x2) (by assumption)
  all_goals try exact absurd (far_none x1) (by assumption)
  all_goals try exact absurd (none_far x2) (by assumption)
  all_goals try exact absurd (far_twice x1 x2) (Int.not_le.mpr (by assumption))
  all_goals try exact absurd (far_tri x1 (turn x1) x2) (Int.not_le.mpr (by assumption))
  all_goals try exact absurd ((far_same x1 (turn x1)).symm.trans (by assumption)) (by decide)
  all_goals try exact absurd (far_rotate (x := x1) place_in.1 place_in.2) (Int.not_le.mpr (by assumption))
  all_goals try (rw [decide_eq_true (far_both x1 x2)]; exact hQ _ _ _ (by assumption))
  all_goals try exact (bne_no (x := turn x1) (by assumption)).elim
  all_goals try exact (bne_no (x := turn x2) (by assumption)).elim
  refine (far_foldF (x := x1) (y := turn x1) (by assumption) (turn_len x1) ?_).elim
  intro l k h0 h1
  exact count_turn (turn_len x1) h0 h1
end Mine
end
section
open PySem PySem.W PyProof.Rows
set_option maxRecDepth 100000
set_option maxHeartbeats 8000000
set_option pp.maxSteps 400
namespace Mine
local macro_rules | `(tactic| walk_at "eval ListComp") => `(tactic| (k_here; k_dflt (refine LCg.ListComp_U (F₀ := by k_asm) (by with_unfolding_all rfl) (by decide) (by rfl) (by decide) (by rfl) ?_)))
theorem src_few {prog : Program} {w : World} {A : Around} {h₀ : Heap} {L : Addr} {m : Str → Option Value} {env : Env} {elt : Expr} {y : Str} {scope : Scope} {cl : List (Str × Addr)} {Fin : Shared → List Value → List (Addr × Obj) → Prop} {ax : Addr} {vs : List Value} {ns : List Int} {lo : Option Int} {n : Nat} {news : List (Addr × Obj)} {s₁ : Shared}
    (hI : IntsAre vs ns) (hlo : lo = none ∨ lo = some 1) (hh : A.handled = none) (F : Fr h₀ L s₁.heap m) (N : News h₀ L s₁.heap ((ax, ({ cls := .type "list", data := .seq (slicePick vs.toArray lo (some 16) (some 2)) n } : Obj)) :: news))
    (turn : ∀ (g : Heap) (k : Int) t I oI C oC D m₂ ys h tk (E' : Value → Shared → Prop), LCg.NsObj oC m₂ → m₂ y = some (.int k t) → Fr h₀ L h m → News h₀ L h ((I, oI) :: (C, oC) :: (D, LCg.lst ys) :: (ax, ({ cls := .type "list", data := .seq (slicePick vs.toArray lo (some 16) (some 2)) n } : Obj)) :: news) → LCg.Off3 I C D ((ax, ({ cls := .type "list", data := .seq (slicePick vs.toArray lo (some 16) (some 2)) n } : Obj)) :: news) → ((@Ne Nat I C) ∧ (@Ne Nat I D) ∧ (@Ne Nat C D)) → KPfMark →
      wpAny (model prog w) A (eval elt (compEnvC scope cl C env)) (LCg.CompEnd h₀ L m { { s₁ with heap := g } with heap := h, toks := tk } I oI C oC D (LCg.lst ys) (LCg.SrcAt h₀ ax (slicePick vs.toArray lo (some 16) (some 2))) (fun z news' => KCtEl ((ax, ({ cls := .type "list", data := .seq (slicePick vs.toArray lo (some 16) (some 2)) n } : Obj)) :: news) (Txt.item (Str.ofString "abA") (Int.fmod k 3)) z news')) E' { { s₁ with heap := g } with heap := h, toks := tk })
    (fin : ∀ (g : Heap) (ys : List Value) (l : List Int), CarriedAll ys (l.map fun k => PyData.str (Txt.item (Str.ofString "abA") (Int.fmod k 3))) → l.length ≤ 8 → Fin { s₁ with heap := g } ys ((ax, ({ cls := .type "list", data := .seq (slicePick vs.toArray lo (some 16) (some 2)) n } : Obj)) :: news)) :
    LCg.CompSrc prog w A h₀ L m env elt y scope cl Fin (.ref ax) s₁ := by
  have hP := hI.pick lo (some 16) (some 2)
  have hZ := pick_few (its := vs.toArray) hlo
  refine LCg.CompSrc.ledger hh F N (.head _) (by rw [sizeLine_eq]; exact Nat.le_trans hZ (by omega)) ?_
  intro g'
  refine kct_rest (ks := pickNums ns lo (some 16) (some 2)) (fun k => Txt.item (Str.ofString "abA") (Int.fmod k 3)) (by rw [← hP.length, Array.length_toList]) (fun i v _ hv => by
    obtain ⟨k, t, e, hk⟩ := IntsAre.at hP i v (by rw [Array.getElem?_toList]; exact hv)
    exact ⟨k, t, hk, e⟩) (fun k' t' I' oI' C' oC' D' m' ys' h' tk' E' hk' hC' hx' F' N' off' ne' mk => turn g' k' t' I' oI' C' oC' D' m' ys' h' tk' E' hC' hx' F' N' off' ne' mk) ?_
  intro ys hc hl
  exact fin g' ys _ hc (by rw [hl]; exact hZ)
local macro_rules | `(tactic| walk_at "CompSrc") => `(tactic| (k_here; (with_reducible rename Fr _ _ _ _ => FX9); (with_reducible rename News _ _ _ _ => NX9); (try (simp only [List.cons_append, List.nil_append] at NX9)); (rename IntsAre _ _ => hI9); refine src_few hI9 (by first | exact .inl rfl | exact .inr rfl) (by rfl) FX9 NX9 ?_ ?_; (focus (intro _ _ _ _ _ _ _ _ _ _ _ _ _ hC' hx' F' N' off' ne' hMark'; (try (simp only [LCg.Off3, and_true] at off')); (try dsimp only)))))
local macro_rules | `(tactic| walk_at "call builtin:str.join") => `(tactic| (k_here; (with_reducible rename CarriedAll _ (List.map _ _) => ktC); (refine join_few (by first | assumption | is_list | exact News.isList (by k_asm) (by k_mem)) ktC (by assumption) ?_; intro _ _ _ hFew; (try dsimp only))))
theorem turn_use {w : World} {mean : ExcName → Option Value} {mg mb : Str → Option Value} {news : List (Addr × Obj)} {x : Str} {tx : Tok} {dp un : Nat} {cn : Str} {cs : Scope} {a : Addr} {ccd : Value} {cl : List (Str × Addr)} {outer : List Env} {A₀ : Around} {base h₀ : Heap} {L : Addr} {m : Str → Option Value} {s : Shared} {Q E : Value → Shared → Prop}
    (B : Below A₀ base outer h₀) (F : Fr h₀ L s.heap m) (X : Frag.In (hd.heap_39 w.params) h₀) (N : News h₀ L s.heap news) (T : Top hd.view_39 (looseW hd.view_39 []) mean mg mb h₀) (hk : cs.kind = .function)
    (hx : x.length ≤ 40) (ha : ∀ c ∈ ls x, c < 128) (hd : dp + 2 < recursionLimit) (hu : un + 60 < cLine)
    (ret : ∀ (t : Tok) (h' : Heap) (tk' : Nat), Fr h₀ L h' m → News h₀ L h' news → Q (.str (turn x) t) { s with heap := h', toks := tk' }) :
    wpN (model PySem.Challenge.rw_gk0003_01.row.prog w) (ktrTop dp un (some []) cn cs L a ccd cl outer) (call (.ref 42) [.str x tx]) Q E s :=
  turn_claim news x tx hx ha dp un cn cs a ccd cl outer A₀ base h₀ L m s Q E B F X N T hk hd hu ret
local macro_rules | `(tactic| walk_at "turn_call") => `(tactic| (k_dflt (refine' turn_use ?k1 ?k2 ?k3 ?k4 ?k5 ?kK ?hx ?ha ?kd ?ku ?_; (case k1 => k_asm); (case k2 => k_asm); (case k3 => k_asm); (case k4 => k_asm); (case k5 => k_asm); (case kK => first | exact rfl | assumption); (case hx => exact Nat.le_trans (Few.len (by assumption)) (by decide)); (case ha => exact Few.low (by assumption)); (case kd => ktr_room); (case ku => ktr_units))))
theorem News.drop4 {h₀ h : Heap} {L : Addr} {a b c d : Addr × Obj} {l : List (Addr × Obj)} (N : News h₀ L h (a :: b :: c :: d :: l)) : News h₀ L h l := fun p hp => N p (.tail _ (.tail _ (.tail _ (.tail _ hp))))
theorem enter_callN {M : Model} {A : Around} {s : Shared} {f : Value} {pos : List Value} {kw : List (Str × Value)} {c : ClaimW} {cl : Str → Option Addr} {mean : ExcName → Option Value} {args : List WData} {s₁ : Shared}
    (h : codeN M A (.call f ⟨pos, kw⟩) (GoodWG c cl mean args s₁) s) : wpN M A (PySem.call f pos kw) (fun v s' => GoodWG c cl mean args s₁ (.ok (.ret v)) s') (fun e s' => GoodWG c cl mean args s₁ (.error e) s') s :=
  wpN_call (codeN_mono h fun res s' g => by rcases g.1 with ⟨v, _, _, rfl, _⟩ | ⟨e, _, _, rfl, _⟩ <;> exact g)
theorem law_walk : PySem.Challenge.rw_gk0003_01.Holds := by
  refine hd ?_
  k_fill
  intro w s₀ s₁ mg mb G Y fa o pm cd doc dV kV ho hd hcd hD hmg hg args vals as hpre hlay hrd hwl hlo
  have KX := kIn_of Y
  have X := (Ground.X G).1
  have V := (Ground.X G).2
  refine Ground.open G ?_
  intro T B D TE TW
  try (refine guard_noD D (by decide +kernel) ?_; clear D)
  obtain ⟨_, _, M⟩ := bmod_of_top T
  have TA := at_of_top T
  try (obtain ⟨_, _, he, B0⟩ := based_of_top T rfl hmg ho hd; have he' : cd = _ := he; subst he'; clear he)
  clear hmg
  wrow_args hpre hlay hrd hwl hlo
  refine enter_callN ?_
  w_top on
  have K0 : Below callerA s₁.heap [] s₁.heap := below_caller (Top.heap T)
  have he := Dflts.none hD rfl; subst he; have he := Dflts.noKw hD; subst he
  refine codeN_cells (by decide) ho (fd_plain hd) (Top.nolimit T) hcd rfl (kinds_of (by kinds_ok)) (by decide) (fun h₁ tk₁ cells F N0 X0 => ?_) (by rfl) (by rfl) (by rfl)
  cells_open X0
  clear hd TA
  k_drop
  (try clear TE TW); (try clear B); (try clear V); (try clear X); (try clear M); (try clear Y); (try clear ho); (try clear hcd)
  dsimp only at F N0 X0 ⊢
  refine wpN_execs_cons (wpN_of ?_)
  (try k_fold)
  k_steps
  (try dsimp only)
  refine wpN_execs_cons (wpN_of ?_)
  k_steps
  (try dsimp only)
  refine wpN_execs_cons ?_
  refine wpN_Assign_tup (by rfl) (by rfl) (by rfl) ?_
  refine wpN_Call_fn1 (K := hd.heap_39 w.params) (a := 42) (by rfl) (by k_is) ?_
  k_steps
  (walk_at "turn_call")
  intro t9 h9 tk9 F9 N9
  (try dsimp only)
  (try k_fold)
  refine wpN_Call_fn1 (K := hd.heap_39 w.params) (a := 42) (by rfl) (by k_is) ?_
  k_steps
  (walk_at "turn_call")
  clear F9 N9
  intro t9 h9 tk9 F9 N9
  (try dsimp only)
  (try k_fold)
  refine assign_pair (by rfl) F9 N9 (by rfl) ?_
  clear F9 N9
  intro h9 F9 N9
  (try (simp only [List.cons_append, List.nil_append] at N9))
  replace N9 := News.drop4 N9
  (try dsimp only)
  k_steps
  refine wpN_of ?_
  (with_reducible rename Fr _ _ _ _ => FX9)
  (with_reducible rename News _ _ _ _ => NX9)
  refine law_rest rfl KX K0 T (by assumption) (by assumption) (by omega) (by assumption) (by assumption) (by assumption) (by assumption) FX9 NX9 ?_
  intro h9 m9 tk9 F9
  clear FX9
  refine GoodW.toG ?_
  wrow_close
end Mine
end
theorem PySem.Challenge.cw_gk0003_01_holds : PySem.Challenge.rw_gk0003_01.Holds := by
  exact Mine.law_walk
