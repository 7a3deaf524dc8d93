import PyProof.Rows.All
import Wide.All
import OpenK.AllK
import Wide.FinOn
import PySem.Challenge.RW_xg0046_01
set_option Elab.async false
set_option compiler.extract_closed false
section
open PySem PySem.W PyProof.Rows
namespace Mine
section
local macro_rules | `(tactic| o_head $_) => `(tactic| assumption)
set_option maxRecDepth 100000 in
set_option maxHeartbeats 8000000 in
theorem kfr (_h : (OpenLaw.row PySem.Challenge.rw_xg0046_01).Holds) : (OpenLaw.row PySem.Challenge.rw_xg0046_01).Holds := by k_head
end
def hdv : Program := view PySem.Challenge.pw_xg0046_01 [74]
def hdas : List Addr := [2, 3, 15, 17, 18, 20, 21, 22, 24, 25, 27, 28, 29, 31, 32, 34, 35, 36, 38, 39, 41, 42, 43, 45, 46, 48, 49, 50, 52, 53, 55, 56, 57, 59, 60, 62, 63, 64, 66, 67, 69, 70, 71, 73, 74, 76, 77, 78, 80, 81, 83, 84, 85, 88, 90, 91, 93, 94, 95, 97, 98, 100, 101, 102, 104, 105, 107, 108, 109, 111, 112, 114, 115, 116, 118, 119, 121, 122, 123, 126, 127, 128, 130, 131, 133, 134, 135, 137, 138, 140, 141, 142, 145, 146]
theorem hdas_ok : ∀ P, hdas = (kfr.heap_1 P).map (·.1) := fun _ => by kernel_rfl
noncomputable abbrev hdk : Hook := kHook kfr.heap_1 hdas hdas_ok
abbrev hdr : OpenRow := OpenLaw.row PySem.Challenge.rw_xg0046_01
def hdl : List Str := hdr.prog.boundNames.filter (fun n => !(n == Str.ofString "law"))
noncomputable abbrev hdX (s : Shared) : Bool := xlAt hdv [] s && recOk (RowW.records (OpenRow.toRowW hdr)) s
/-- what the top leaves: the names of the builtins are read as one object, not entry by entry -/
noncomputable def hdseen (w : World) (os : OsState) :=
  (topFrom treeTable hdr.prog w 4230 ⟨boot_heap w.params, Array.mk [], boot_drawn, boot_toks, os⟩).map (fun s =>
    (seen ((recsOf hdv).map (·.name)) (ownsOf hdv) [] { s with gens := #[] }, s.heap.get? builtinsNs, (openSeen hdv hdl (importedModules hdr.prog.main.body) hdX true s).2.2, hdk.obs s))
noncomputable def hdgood (w : World) := some (expectedOf hdv, (boot_heap w.params).get? builtinsNs, (openGood hdv hdl).2.2, hdk.val w)
set_option maxRecDepth 100000 in
set_option maxHeartbeats 8000000 in
theorem top0 : ∀ (w : World) (os : OsState), hdseen (w.withFollow "special-get-raises" false) os = hdgood (w.withFollow "special-get-raises" false) := fun w os => by kernel_rfl
set_option maxRecDepth 100000 in
set_option maxHeartbeats 8000000 in
theorem top1 : ∀ (w : World) (os : OsState), hdseen (w.withFollow "special-get-raises" true) os = hdgood (w.withFollow "special-get-raises" true) := fun w os => by kernel_rfl
set_option maxRecDepth 100000 in
theorem blt_boot : ∀ P, (boot_heap P).bltView = bltViewBooted := fun P => by kernel_rfl
theorem blt_of {h h' : Heap} (e : h.get? builtinsNs = h'.get? builtinsNs) : h.bltView = h'.bltView := by
  unfold Heap.bltView Heap.nsPairs
  rw [e]
theorem top_of {w : World} {os : OsState} (h : hdseen w os = hdgood w) :
    (topFrom treeTable hdr.prog w 4230 ⟨boot_heap w.params, Array.mk [], boot_drawn, boot_toks, os⟩).map (fun s => (openSeen hdv hdl (importedModules hdr.prog.main.body) hdX true s, hdk.obs s)) = some (openGood hdv hdl, hdk.val w) := by
  obtain ⟨s, hs, hv⟩ := Option.map_eq_some_iff.mp h
  simp only [Prod.mk.injEq] at hv
  obtain ⟨h1, h2, h3, h4⟩ := hv
  rw [hs]
  have e : openSeen hdv hdl (importedModules hdr.prog.main.body) hdX true s = openGood hdv hdl := Prod.ext h1 (Prod.ext ((blt_of h2).trans (blt_boot _)) h3)
  exact congrArg some (Prod.ext e h4)
theorem said_ok : OpenLaw.wellSaid PySem.Challenge.rw_xg0046_01 = true := by decide +kernel
theorem opens : opening hdr.prog = plainProg hdr.prog.main.scope.names := by kernel_rfl
theorem fences (s : Shared) : fenceModules? hdr.prog s = some s := by kernel_rfl
theorem left : LeftO hdr.prog hdv hdl hdX hdk.obs hdk.val 4230 true := by
  intro w
  refine byRow2 "special-get-raises" (P := fun w => (openEnds treeTable hdr.prog w 4230).map (fun s => (openSeen hdv hdl (importedModules hdr.prog.main.body) hdX true s, hdk.obs s)) = some (openGood hdv hdl, hdk.val w)) ?_ ?_ w
  · intro w
    obtain ⟨⟨a, b, c, d, os⟩, hs, hv⟩ := Option.map_eq_some_iff.mp (boot_open opens (N := 4230) (by decide +kernel) fences (w.withFollow "special-get-raises" false))
    simp only [Prod.mk.injEq] at hv
    obtain ⟨rfl, rfl, rfl, rfl⟩ := hv
    unfold openEnds
    rw [hs, Option.bind_some]
    exact top_of (top0 w _)
  · intro w
    obtain ⟨⟨a, b, c, d, os⟩, hs, hv⟩ := Option.map_eq_some_iff.mp (boot_open opens (N := 4230) (by decide +kernel) fences (w.withFollow "special-get-raises" true))
    simp only [Prod.mk.injEq] at hv
    obtain ⟨rfl, rfl, rfl, rfl⟩ := hv
    unfold openEnds
    rw [hs, Option.bind_some]
    exact top_of (top1 w _)
end Mine
end
section
open PySem PySem.W PyProof.Rows PySem.Calls
namespace Mine

def Keeps (h h' : Heap) : Prop := ∀ b o, h.get? b = some o → h'.get? b = some o
theorem Keeps.refl (h : Heap) : Keeps h h := fun _ _ e => e
theorem Keeps.trans {a b c : Heap} (x : Keeps a b) (y : Keeps b c) : Keeps a c := fun _ _ e => y _ _ (x _ _ e)
theorem keeps_fr {h₀ h h' : Heap} {L : Addr} {m : Str → Option Value} (F : Fr h₀ L h m) (k : Keeps h h') : Fr h₀ L h' m :=
  ⟨F.ns.at' fun o e => k L o e, fun b o e => k b o (F.keep b o e), F.above⟩
theorem keeps_news {h₀ h h' : Heap} {L : Addr} {news : List (Addr × Obj)} (N : News h₀ L h news) (k : Keeps h h') : News h₀ L h' news :=
  fun p hp => ⟨k _ _ (N p hp).1, (N p hp).2⟩

/-- made since g: as they lie in h -/
def Fresh (g h : Heap) (led : List (Addr × Obj)) : Prop := ∀ p ∈ led, h.get? p.1 = some p.2 ∧ g.get? p.1 = none
theorem Fresh.of {g h : Heap} {L : Addr} {led : List (Addr × Obj)} (N : News g L h led) : Fresh g h led := fun p hp => ⟨(N p hp).1, (N p hp).2.2⟩
theorem Fresh.mono {g h : Heap} {led led' : List (Addr × Obj)} (x : Fresh g h led) (k : ∀ p ∈ led', p ∈ led) : Fresh g h led' := fun p hp => x p (k p hp)
theorem Fresh.news {h₀ g h : Heap} {L : Addr} {m : Str → Option Value} {led news : List (Addr × Obj)} (x : Fresh g h led) (k : Keeps g h) (F : Fr h₀ L g m) (N : News h₀ L g news) : News h₀ L h (led ++ news) := by
  intro p hp
  rcases List.mem_append.mp hp with hp | hp
  · refine ⟨(x p hp).1, fun e => ?_, ?_⟩
    · obtain ⟨o, _, _, ho, _⟩ := F.ns
      have := (x p hp).2
      rw [e, ho] at this
      cases this
    · cases q : h₀.get? p.1 with
      | none => rfl
      | some o => have := (x p hp).2; rw [F.keep _ _ q] at this; cases this
  · exact ⟨k _ _ (N p hp).1, (N p hp).2⟩
theorem Fresh.ne {h₀ g h : Heap} {L : Addr} {led news : List (Addr × Obj)} (x : Fresh g h led) (N : News h₀ L g news) : ∀ p ∈ led, ∀ q ∈ news, p.1 ≠ q.1 := by
  intro p hp q hq e
  have := (x p hp).2
  rw [e, (N q hq).1] at this
  cases this

/-- the end of a def's body: what it hands back, and where -/
def RetP (R : Value → Shared → Prop) (v : Value) (s' : Shared) : Prop := R v s'

section
variable {prog : Program} {w : World} {A A₀ : Around} {s : Shared} {K : Frag} {L : Addr} {h₀ base : Heap} {m mg mb : Str → Option Value} {p : Program} {loose : List Str} {mean : ExcName → Option Value}
  {env : Env} {outer : List Env} {Q : Value → Shared → Prop} {E : Value → Shared → Prop} {name qual : Str} {params : Arguments} {body : List Stmt} {scope : Scope} {dV kV doc pm cdv ct oc : Value} {an od : Option Addr} {osl : Array (Option Value)} {f : Addr} {args : Args} {binds : List (Str × Value)}

theorem enterP (B : Below A₀ base outer h₀) (F : Fr h₀ L s.heap m) (X₀ : K.In h₀) (T : Top p loose mean mg mb h₀) (hA : A.frames = some (env :: outer)) (hf : env.frame = some L) (hke : env.scope.kind = .function)
    (ho : K.lookup f = some ⟨oc, od, .func (fnOf name qual params body scope dV kV doc pm an cdv ct), osl⟩) (hcd : codeIn K cdv qual = true) (hroom : A.depth < recursionLimit)
    (hbind : BindsTo s (fnOf name qual params body scope dV kV doc pm an cdv ct) args binds) (hloc : ∀ y ∈ binds, scope.names.lookup y.1 = some .local)
    (h : ∀ L' h₁, Fr s.heap L' h₁ (fun y => binds.reverse.lookup y) → News s.heap L' h₁ [] → Below A base (env :: outer) s.heap → K.In s.heap → Top p loose mean mg mb s.heap →
      wpAny (model prog w) (A.deeper (envOf qual scope L' f cdv)) (execs body (envOf qual scope L' f cdv))
        (fun fl s' => RetP Q (match fl with | .ret v => v | _ => .none) s')
        (fun e s' => wpAny (model prog w) (A.deeper (envOf qual scope L' f cdv)) (leaving (envOf qual scope L' f cdv) e) (fun _ s'' => E e s'') (fun e' s'' => E e' s'') s')
        { s with heap := h₁, toks := s.toks + binds.length })
    (hco : scope.isCoroutine = false) (hgen : scope.isGenerator = false) (hk : scope.kind = .function)
    (hcell : ∀ x ∈ scope.names, x.2 ≠ .cell) : wpAny (model prog w) A (call (.ref f) args.pos args.kw) Q E s := by
  have X := X₀.keeps F.keep
  have B₁ := pushX B F hf hke
  refine wpAny_call (codeAny_call_def (fd := fnOf name qual params body scope dV kV doc pm an cdv ct) (body := body) (binds := binds) hroom (X _ _ ho) rfl (T.nolimit.keeps F.keep) (codeRec_of X hcd) rfl hbind hcell hloc (fun h₁ hns hk₁ => ?_) hco hgen hk)
  exact h s.heap.objs.size h₁ ⟨hns, fun b o e => hk₁ b o e, Nat.le_refl _⟩ News.nil ⟨hA, B₁.stays, B₁.frames⟩ X (T.keeps F.keep)

theorem enterC (B : Below A₀ base outer h₀) (F : Fr h₀ L s.heap m) (X₀ : K.In h₀) (T : Top p loose mean mg mb h₀) (hA : A.frames = some (env :: outer)) (hf : env.frame = some L) (hke : env.scope.kind = .function)
    (ho : K.lookup f = some ⟨oc, od, .func (fnOf name qual params body scope dV kV doc pm an cdv ct), osl⟩) (hcd : codeIn K cdv qual = true) (hroom : A.depth < recursionLimit)
    (hbind : BindsTo s (fnOf name qual params body scope dV kV doc pm an cdv ct) args binds) (hkind : (binds.all fun y => scope.names.lookup y.1 == some .local || scope.names.lookup y.1 == some .cell) = true)
    (hnd : ((cellsFrom 0 scope.names []).map (·.1)).Nodup)
    (h : ∀ L' h₁ tk cells, Fr s.heap L' h₁ (bindL (envOfC qual scope L' f cdv).kindOf binds fun _ => none) → News s.heap L' h₁ cells →
      CellsAre (bindC (envOfC qual scope L' f cdv).kindOf binds fun _ => none) (cellsFrom (L' + 1) scope.names []) cells → Below A base (env :: outer) s.heap → K.In s.heap → Top p loose mean mg mb s.heap →
      wpAny (model prog w) (A.deeper (envOfC qual scope L' f cdv)) (execs body (envOfC qual scope L' f cdv))
        (fun fl s' => RetP Q (match fl with | .ret v => v | _ => .none) s')
        (fun e s' => wpAny (model prog w) (A.deeper (envOfC qual scope L' f cdv)) (leaving (envOfC qual scope L' f cdv) e) (fun _ s'' => E e s'') (fun e' s'' => E e' s'') s')
        { s with heap := h₁, toks := tk })
    (hco : scope.isCoroutine = false) (hgen : scope.isGenerator = false) (hk : scope.kind = .function) : wpAny (model prog w) A (call (.ref f) args.pos args.kw) Q E s := by
  have X := X₀.keeps F.keep
  have B₁ := pushX B F hf hke
  refine wpAny_call (codeAny_call_function (fd := fnOf name qual params body scope dV kV doc pm an cdv ct) hroom (X _ _ ho) rfl hco hgen rfl (codeRec_of X hcd) (hbind _ _ _ _ ?_))
  refine wpAny_newFunctionEnv_cells hk (kindsX hkind _) fun env' he s' x => ?_
  subst he
  refine ⟨(T.nolimit.keeps F.keep).keeps x.toInCall.keep, codeAny_func ?_⟩
  obtain ⟨h₁, tk, rfl, _⟩ := x.done
  have hk₁ := x.toInCall.keep
  obtain ⟨cells, NC, Y⟩ := Cl.news (h₀ := s.heap) (Nat.le_refl _) fun n c hm => ⟨x.cell n c (lookup_of_mem_nodup (cellsFrom_names scope.names 0 (s.heap.objs.size + 1) [] [] rfl ▸ hnd) hm), x.above n c hm⟩
  exact h s.heap.objs.size h₁ tk cells ⟨x.toInCall.ns, fun b o e => hk₁ b o e, Nat.le_refl _⟩ NC Y ⟨hA, B₁.stays, B₁.frames⟩ X (T.keeps F.keep)
end
theorem join_int {M : Model} {A : Around} {c : Sem Value} {Q : Value → Shared → Prop} {E : Value → Shared → Prop} {s : Shared} {V : Int} (h1 : ∀ Q' : Value → Shared → Prop, (∀ t tk, Q' (.int V t) { s with toks := tk }) → wpAny M A c Q' E s) (h2 : ∀ t tk, Q (.int V t) { s with toks := tk }) : wpAny M A c Q E s := h1 Q h2
theorem join_fr {M : Model} {A : Around} {c : Sem Value} {Q : Value → Shared → Prop} {E : Value → Shared → Prop} {s : Shared} {h₀ : Heap} {L : Addr} {m : Str → Option Value} {news : List (Addr × Obj)} (V : Tok → Value) (F : Fr h₀ L s.heap m) (N : News h₀ L s.heap news)
    (h1 : ∀ Q' : Value → Shared → Prop, (∀ t h' tk, Fr h₀ L h' m → News h₀ L h' news → Q' (V t) { s with heap := h', toks := tk }) → wpAny M A c Q' E s) (h2 : ∀ t h' tk, Fr h₀ L h' m → News h₀ L h' news → Q (V t) { s with heap := h', toks := tk }) : wpAny M A c Q E s := h1 Q fun t h' tk F' N' => h2 t h' tk F' N'
end Mine
end
section
open PySem PySem.W PyProof.Rows PySem.Calls PySem.Spec
namespace Mine
section
variable {prog : Program} {w : World} {A : Around} {E : Value → Shared → Prop} {s : Shared} {env : Env} {h₀ : Heap} {target : Expr} {body : List Stmt} {Q : Flow → Shared → Prop}

/-- a turn's end: it came back, it broke off, or the frame, the ledger (own, then the rest, apart from the iterator I) and J one further -/
def TEnd (h₀ : Heap) (L I : Addr) (own : List (Addr × Obj)) (J : (Str → Option Value) → List (Addr × Obj) → Prop) (s₁ : Shared) (Q : Flow → Shared → Prop) (f : Flow) (s₂ : Shared) : Prop :=
  match f with
  | .ret v => Q (.ret v) s₂
  | .brk => Q .next s₂
  | _ => ∃ h' tk m' news', s₂ = { s₁ with heap := h', toks := tk } ∧ Fr h₀ L h' m' ∧ News h₀ L h' (own ++ news') ∧ (∀ p ∈ news', p.1 ≠ I) ∧ J m' news'
theorem TEnd.step {L I : Addr} {own : List (Addr × Obj)} {J : (Str → Option Value) → List (Addr × Obj) → Prop} {s₁ : Shared} {f : Flow} {s₂ : Shared} (h : TEnd h₀ L I own J s₁ Q f s₂) :
    LoopStepV h₀ L [I] own J s₁ (fun v s' => Q (.ret v) s') (fun s' => Q .next s') f s₂ := by
  have fin : (∃ h' tk m' news', s₂ = { s₁ with heap := h', toks := tk } ∧ Fr h₀ L h' m' ∧ News h₀ L h' (own ++ news') ∧ (∀ p ∈ news', p.1 ≠ I) ∧ J m' news') → LoopStepU h₀ L [I] own J s₁ .next s₂ := by
    rintro ⟨h', tk, m', news', e, F', N', ha, hj⟩
    exact ⟨rfl, h', tk, m', news', e, F', N', fun p hp hI => ha p hp (List.mem_singleton.mp hI), hj⟩
  cases f with
  | ret v => exact .ret h
  | brk => exact .brk h
  | next => exact .next (fin h)
  | cont => exact .cont (fin h)

theorem TEnd.mk {L I : Addr} {own : List (Addr × Obj)} {J : (Str → Option Value) → List (Addr × Obj) → Prop} {s₁ : Shared} {h' : Heap} {tk : Nat} {m' : Str → Option Value} {news' : List (Addr × Obj)}
    (F : Fr h₀ L h' m') (N : News h₀ L h' (own ++ news')) (ha : ∀ p ∈ news', p.1 ≠ I) (hj : J m' news') : TEnd h₀ L I own J s₁ Q .next { s₁ with heap := h', toks := tk } := ⟨h', tk, m', news', rfl, F, N, ha, hj⟩
theorem letGo_range {I : Addr} {a n c : Int} {v : Value} {Q' : Unit → Shared → Prop} {s' : Shared} (hit : IsRangeIter s'.heap I a n c) (h : Q' () s') :
    wpAny (model prog w) A (letOwnedTupleGo target (.ref I) v) Q' E s' := by
  unfold IsRangeIter at hit
  unfold letOwnedTupleGo
  cases target <;> first
    | exact wpAny_pure h
    | (cases v <;> first
        | exact wpAny_pure h
        | (refine wpAny_bind (wpAny_load hit ?_)
           exact wpAny_pure h))

theorem turns_list {l : Addr} {vs : List Value} {m₀ : Str → Option Value} {news : List (Addr × Obj)} (J : Nat → (Str → Option Value) → List (Addr × Obj) → Prop)
    (hh : A.handled = none) (hl : s.heap.IsList l vs.toArray) (hlL : env.locals ≠ l) (F : Fr h₀ env.locals s.heap m₀) (N : News h₀ env.locals s.heap news) (h0 : J 0 m₀ news)
    (turn : ∀ i v m₁ news₁ h tk own I, vs[i]? = some v → J i m₁ news₁ → (∀ p ∈ news, p.1 ≠ I) → (∀ p ∈ news₁, p.1 ≠ I) → (∀ p ∈ own, p.1 = I ∨ p.1 = l) → (∃ o, (I, o) ∈ own) → h.IsList l vs.toArray → I ≠ l → Fr h₀ env.locals h m₁ → News h₀ env.locals h (own ++ news₁) →
      wpAny (model prog w) A (assign target env v) (fun _ s₃ => wpAny (model prog w) A (execs body env) (TEnd h₀ env.locals I own (J (i + 1)) { s with heap := h, toks := tk } Q) E s₃) E { s with heap := h, toks := tk })
    (done : ∀ m₁ news₁ h tk, J vs.length m₁ news₁ → Fr h₀ env.locals h m₁ → News h₀ env.locals h news₁ → Q .next { s with heap := h, toks := tk }) :
    wpAny (model prog w) A (pyIter (.ref l)) (fun it s₂ => TurnsAt prog w A h₀ env target body Q E it s₂) E s := by
  have hlt : l < s.heap.objs.size := let ⟨_, ho, _⟩ := hl; Heap.lt_size ho
  have hne : l ≠ s.heap.objs.size := Nat.ne_of_lt hlt
  refine wpAny_pyIter_list hl ?_
  have W := KTurns.ofWalks (target := target) (Walks.list (prog := prog) (w := w) hh s.heap.objs.size l hne vs.toArray) (fun i v s Q E st q => letGo_listiter st.1 q)
  refine ⟨_, _, _, vs.toArray.size, _, _, _, m₀, news, J, rfl, W, ?_, ?_, ?_, ⟨⟨_, Heap.get?_push_size _ rfl, rfl, rfl⟩, hl.at fun o e => Heap.get?_push_of_some _ e⟩, F.push _, (fun p hp => ⟨Heap.get?_push_of_some _ (N p hp).1, (N p hp).2⟩), h0, ?_, ?_⟩
  · intro hm
    rcases List.mem_cons.mp hm with e | hm
    · exact absurd F.ns.lt (e ▸ Nat.lt_irrefl _)
    · exact hlL (List.mem_singleton.mp hm)
  · intro b hb
    rw [List.mem_singleton.mp hb]
    exact next_is_new F
  · intro p hp hI
    exact absurd (Heap.lt_size (N p hp).1) ((List.mem_singleton.mp hI) ▸ Nat.lt_irrefl _)
  · intro i v m₁ news₁ h₁ tk₁ own hin hP hJ hoff hown hget hall hst₁ F₁ N₁
    have hP' : vs[i]? = some v := by simpa using hP
    refine wpAny_mono (turn i v m₁ news₁ h₁ tk₁ own s.heap.objs.size hP' hJ (fun p hp e => absurd (Heap.lt_size (N p hp).1) (e ▸ Nat.lt_irrefl _)) (fun p hp e => hoff p hp (by simp [e])) (fun p hp => by simpa using hown p hp) (let ⟨o, ho, _⟩ := hst₁.1; ⟨o, hall _ (List.mem_cons_self ..) (next_is_new F) o ho⟩) hst₁.2 (Ne.symm hne) F₁ N₁) (fun _ s₃ h₃ => ?_) fun _ _ x => x
    exact wpAny_mono h₃ (fun f s₄ h₄ => h₄.step) fun _ _ x => x
  · intro h' tk m' news' F' N' _ hJ
    exact done m' news' h' tk (by simpa using hJ) F' N'

theorem turns_range {r : Addr} {a₀ b₀ : Int} {t₀ u₀ v₀ : Tok} {n : Nat} {m₀ : Str → Option Value} {news : List (Addr × Obj)} (J : Nat → (Str → Option Value) → List (Addr × Obj) → Prop)
    (hh : A.handled = none) (hr : IsRange s.heap r a₀ b₀ 1 t₀ u₀ v₀) (hsmall : Builtin.Range.small a₀ b₀ 1 = true) (hn : Builtin.Range.rangeSize a₀ b₀ 1 = (n : Int)) (F : Fr h₀ env.locals s.heap m₀) (N : News h₀ env.locals s.heap news) (h0 : J 0 m₀ news)
    (turn : ∀ i t m₁ news₁ h tk own I, i < n → J i m₁ news₁ → (∀ p ∈ news, p.1 ≠ I) → (∀ p ∈ news₁, p.1 ≠ I) → (∀ p ∈ own, p.1 = I) → (∃ o, (I, o) ∈ own) → Fr h₀ env.locals h m₁ → News h₀ env.locals h (own ++ news₁) →
      wpAny (model prog w) A (assign target env (.int (a₀ + (i : Int)) t)) (fun _ s₃ => wpAny (model prog w) A (execs body env) (TEnd h₀ env.locals I own (J (i + 1)) { s with heap := h, toks := tk } Q) E s₃) E { s with heap := h, toks := tk })
    (done : ∀ m₁ news₁ h tk, J n m₁ news₁ → Fr h₀ env.locals h m₁ → News h₀ env.locals h news₁ → Q .next { s with heap := h, toks := tk }) :
    wpAny (model prog w) A (pyIter (.ref r)) (fun it s₂ => TurnsAt prog w A h₀ env target body Q E it s₂) E s := by
  refine wpAny_pyIter_range hr hsmall ?_
  have W := KTurns.ofWalks (target := target) (Walks.range (prog := prog) (w := w) hh s.heap.objs.size a₀ 1 n) (fun i v s Q E st q => letGo_range st q)
  refine ⟨_, _, _, n, _, _, _, m₀, news, J, rfl, W, ?_, ?_, ?_, (by show IsRangeIter _ _ _ _ _; rw [hn]; simpa using Heap.get?_push_size _ rfl), F.push _, (fun p hp => ⟨Heap.get?_push_of_some _ (N p hp).1, (N p hp).2⟩), h0, ?_, ?_⟩
  · intro hm
    exact absurd F.ns.lt ((List.mem_singleton.mp hm) ▸ Nat.lt_irrefl _)
  · intro b hb
    rw [List.mem_singleton.mp hb]
    exact next_is_new F
  · intro p hp hI
    exact absurd (Heap.lt_size (N p hp).1) ((List.mem_singleton.mp hI) ▸ Nat.lt_irrefl _)
  · intro i v m₁ news₁ h₁ tk₁ own hin hP hJ hoff hown hget hall hst₁ F₁ N₁
    obtain ⟨t, rfl⟩ := hP
    have e1 : a₀ + (i : Int) * 1 = a₀ + (i : Int) := by omega
    rw [e1]
    refine wpAny_mono (turn i t m₁ news₁ h₁ tk₁ own s.heap.objs.size hin hJ (fun p hp e => absurd (Heap.lt_size (N p hp).1) (e ▸ Nat.lt_irrefl _)) (fun p hp e => hoff p hp (by simp [e])) (fun p hp => by simpa using hown p hp) ⟨_, hall _ (List.mem_cons_self ..) (next_is_new F) _ hst₁⟩ F₁ N₁) (fun _ s₃ h₃ => ?_) fun _ _ x => x
    exact wpAny_mono h₃ (fun f s₄ h₄ => h₄.step) fun _ _ x => x
  · intro h' tk m' news' F' N' _ hJ
    exact done m' news' h' tk hJ F' N'
end

/-- the frame's map by its named values; the stored names are free; all else as in m₀ -/
def FrJ (x : Str) (ps : List (Str × Value)) (stored : List Str) (m₀ m : Str → Option Value) : Prop :=
  (∀ p ∈ ps, m p.1 = some p.2) ∧ ∀ z, z ≠ x → (∀ p ∈ ps, z ≠ p.1) → stored.contains z = false → m z = m₀ z
theorem FrJ.fr {x : Str} {ps : List (Str × Value)} {stored : List Str} {m₀ m₁ : Str → Option Value} {h₀ h : Heap} {L : Addr} (J : FrJ x ps stored m₀ m₁) (F : Fr h₀ L h m₁) :
    Fr h₀ L h (fun y => if y = x then m₁ y else kstB (fun z => if stored.contains z then m₁ z else m₀ z) ps y) := kst_frOut J.1 J.2 F
end Mine
end
section
open PySem PySem.W PyProof.Rows PySem.Calls PySem.Spec
namespace Mine
section
variable {M : Model} {A : Around} {R : GenEnd} {Y : Protocol} {n : Nat} {s₀ : Shared} {c : Code} {fs : List Frame} {s : Shared} {env : Env}
  {K : Flow → Sem Fin} {H : Value → Sem Fin} {gd : Bool → Bool} {lv : List Value → List Value}

theorem seg_For {target iter : PySem.Expr} {body orelse : List Stmt} {pos : Pos} (hs : ∀ x, foldedSetIterable iter env x = pure x)
    (h : wpAny M (A.over c fs) (eval iter env) (fun x s₁ => wpAny M (A.over c fs) (pyIter x) (fun it s₂ => ∀ p, Seg M A R Y n s₀ (.forLoop target it body orelse env) (M.den (.forLoop target it body orelse env))
      (.ret (fun r => ((match r with | .ok f => (.pure f : Sem Flow) | .error e => .raise e).onRaise fun (x : Value) => do
        if (← field x 1) == Value.none then unsupported "frame.own-activation:exception-without-traceback"
        setFlight x env.frame).wrap K H gd lv) none (gd false) (lv []) c p [] :: fs) s₂) (fun _ _ => False) s₁) (fun _ _ => False) s) :
    Seg M A R Y n s₀ c ((exec (.For target iter body orelse pos) env).wrap K H gd lv) fs s := by
  rw [exec_For]
  refine seg_bind_wrap (wpAny_standAt ?_)
  refine seg_bind_wrap (wpAny_mono h (fun x s₁ h₁ => ?_) fun _ _ e => e.elim)
  refine seg_bind_wrap (wpAny_of_eq (hs x) ?_)
  refine seg_bind_wrap (wpAny_standAt ?_)
  refine seg_bind_wrap (wpAny_holding (wpAny_mono h₁ (fun it s₂ h₂ => ?_) fun _ _ e => e.elim))
  exact seg_call h₂
end
section
variable {prog : Program} {w : World} {A : Around} {R : GenEnd} {Y : Protocol} {n : Nat} {s₀ : Shared} {fs : List Frame} {s : Shared} {env : Env}

theorem seg_forLoop {target : PySem.Expr} {it : Value} {body orelse : List Stmt}
    (h : wpAny (model prog w) (A.over (.forLoop target it body orelse env) fs) (pyNext it) (fun r s₁ => match r with
      | none => Seg (model prog w) A R Y n s₀ (.forLoop target it body orelse env) (.pure (.again (.block orelse env))) fs s₁
      | some v => wpAny (model prog w) (A.over (.forLoop target it body orelse env) fs) (letOwnedTupleGo target it v) (fun _ s₁' =>
          wpAny (model prog w) (A.over (.forLoop target it body orelse env) fs) (assign target env v) (fun _ s₂ =>
            Seg (model prog w) A R Y n s₀ (.forLoop target it body orelse env) ((execs body env).wrap (fun f => match f with
              | .next | .cont => .pure (.again (.forLoop target it body orelse env))
              | .brk => .pure (.done .next)
              | .ret v => .pure (.done (.ret v))) (fun e => (do noteFrame e env; theTreesLotGoes e : Sem Unit).wrap (fun _ => .raise e) .raise id id) id id) fs s₂) (fun _ _ => False) s₁') (fun _ _ => False) s₁) (fun _ _ => False) s) :
    Seg (model prog w) A R Y n s₀ (.forLoop target it body orelse env) ((model prog w).den (.forLoop target it body orelse env)) fs s := by
  show Seg _ A R Y n s₀ _ ((forTurn target it body orelse env).onRaise (fun x => do noteFrame x env; theTreesLotGoes x)) fs s
  unfold forTurn
  rw [Sem.onRaise_eq_wrap]
  refine seg_bind_wrap (wpAny_standAt ?_)
  refine seg_bind_wrap (wpAny_onRaise (wpAny_mono h (fun r s₁ h₁ => ?_) fun _ _ e => e.elim))
  cases r with
  | none => exact h₁
  | some v =>
    refine seg_bind_wrap (wpAny_mono h₁ (fun _ s₁' h₁' => ?_) fun _ _ e => e.elim)
    refine seg_bind_wrap (wpAny_mono h₁' (fun _ s₂ h₂ => ?_) fun _ _ e => e.elim)
    rw [Sem.bind_eq_wrap', Sem.wrap_wrap]
    rw [Sem.wrap_congr (execs body env) _ _ (K' := fun f => match f with
            | .next | .cont => .pure (.again (.forLoop target it body orelse env))
            | .brk => .pure (.done .next)
            | .ret v => .pure (.done (.ret v))) (H' := (fun e => (do noteFrame e env; theTreesLotGoes e : Sem Unit).wrap (fun _ => .raise e) .raise id id))
        (fun f => by cases f <;> rfl)
        (fun e => by first | exact Sem.bind_eq_wrap _ _ | (show (do noteFrame e env; theTreesLotGoes e : Sem Unit).bind (fun _ => .raise e) = _; rw [Sem.bind_eq_wrap]))]
    exact h₂

/-- the for that has come to its end: the empty else block -/
theorem seg_block_nil {k : Result → Sem Fin} {hd : Option Value} {g : Bool} {l : List Value} {c₁ : Code} {p₁ : Pos} {kp : List Value} {fs' : List Frame} {c : Code}
    (h : Seg (model prog w) A R Y n s₀ c₁ (k (.ok .next)) fs' s) : Seg (model prog w) A R Y n s₀ c (.pure (.again (.block [] env))) (.ret k hd g l c₁ p₁ kp :: fs') s := by
  refine seg_again rfl ?_
  show Seg _ A R Y n s₀ _ (.pure (.done .next)) _ s
  exact seg_leaf (.ok .next) h

theorem seg_If_true {c : Code} {K : Flow → Sem Fin} {H : Value → Sem Fin} {gd : Bool → Bool} {lv : List Value → List Value} {test : PySem.Expr} {body orelse : List Stmt} {pos : Pos}
    (h : wpAny (model prog w) (A.over c fs) (isTrue test env (eval test env)) (fun b s' => b = true ∧ Seg (model prog w) A R Y n s₀ c ((execs body env).wrap K H gd lv) fs s') (fun _ _ => False) s) :
    Seg (model prog w) A R Y n s₀ c ((exec (.If test body orelse pos) env).wrap K H gd lv) fs s := by
  show Seg (model prog w) A R Y n s₀ c ((standAt pos >>= fun _ => isTrue test env (eval test env) >>= fun b => if b then execs body env else execs orelse env).wrap K H gd lv) fs s
  refine seg_bind_wrap (wpAny_standAt ?_)
  refine seg_bind_wrap (wpAny_mono h (fun b s' hb => ?_) fun _ _ e => e.elim)
  obtain ⟨rfl, hb⟩ := hb
  exact hb

theorem next_func {a : Addr} {g n : Nat} {gs : GenState} {P : Nat → Shared → Shared → Prop} {Y : Protocol} {E : Value → Shared → Prop} {Q : Option Value → Shared → Prop} (hh : A.handled = none)
    (hl : s.heap.NoLimit) (hroom : A.depth < recursionLimit)
    (hg : s.heap.IsGen a g) (hgs : s.gens[g]? = some gs)
    (hgo : gs.Goes (model prog w) A.in1 (fun n s₀ r s₁ => r = .ok (.ret .none) ∧ P n s₀ s₁) Y n (.send .none) (s.setGen g .running))
    (hY : ∀ v s₁ gs', gs'.bare = true → Y (n - 1) (s.setGen g .running) v s₁ (fun r' s'' => match n with
        | 0 => False
        | m + 1 => gs'.Goes (model prog w) A.in1 (fun n s₀ r s₁ => r = .ok (.ret .none) ∧ P n s₀ s₁) Y m r' s'') → Q (some v) (s₁.setGen g gs'))
    (hP : ∀ s₁, P n (s.setGen g .running) s₁ → ∀ h', (∀ b o, s₁.heap.get? b = some o → h'.get? b = some o) → Q none { s₁.setGen g .finished with heap := h' }) :
    wpAny (model prog w) A (pyNext (.ref a)) Q E s := by
  unfold pyNext
  refine wpAny_bind (wpAny_attempt (wpAny_callSpecial?_slot (name := Str.ofString "__next__") hg.typeIs slot_gen_next
    (wpAny_call_entry slot_gen_next hg.typeIs entry_gen_next ?_ (args_gen_next _))))
  show wpAny _ A.in1 (Builtin.Generator.genWake (.ref a) (.send .none)) _ _ s
  unfold Builtin.Generator.genWake
  refine wpAny_bind (wpAny_holding (wpAny_genNumber hg (wpAny_bind (wpAny_genState hgs ?_))))
  cases gs with
  | running => exact hgo.elim
  | finished => exact hgo.elim
  | _ =>
    refine wpAny_bind (wpAny_roomToWake hl hroom ?_)
    show wpAny _ A.in1 (.resume g (.send .none) [] _) _ _ s
    refine wpAny_resumeQ hgs hgo (fun x s₁ hx => ?_) (fun v s₁ gs' hb hv => ?_)
    · obtain ⟨rfl, hp⟩ := hx
      show wpAny _ A.in1 (newExc (.type "StopIteration") [] >>= _) _ _ _
      refine wpAny_bind ?_
      simp only [newExc, newTuple]
      refine wpAny_bind (wpAny_newObj_type ?_ (by size_fits))
      refine wpAny_bind (m := firstArgMember _ _) (wpAny_of_eq (a := Value.none) (by first | rfl | (simp only [firstArgMember]; rfl)) ?_)
      refine wpAny_newObj_type ?_ (by size_fits)
      simp only [raiseNew]
      refine wpAny_bind (wpAny_bind (wpAny_handled ?_))
      first | rw [show A.in1.handled = none from hh] | rw [hh]
      refine wpAny_throw ?_
      refine wpAny_bind (wpAny_isInstance (T := "StopIteration") (b := true) ⟨_, Heap.get?_push_size _ rfl, rfl⟩ isSubtype_stop ?_)
      exact wpAny_pure (hP s₁ hp _ fun b o hb => Heap.get?_push_of_some _ (Heap.get?_push_of_some _ hb))
    · exact wpAny_pure ⟨v, rfl, wpAny_pure (hY v s₁ gs' hb hv)⟩
end
end Mine
end
section
open PySem
namespace Mine

/-- one deed: its symbol's number, whether its part is x, else the figure -/
theorem six_cases : ∀ op : Nat, op < 6 → op = 0 ∨ op = 1 ∨ op = 2 ∨ op = 3 ∨ op = 4 ∨ op = 5 := by decide
theorem seven_cases : ∀ op : Nat, op < 7 → op = 0 ∨ op = 1 ∨ op = 2 ∨ op = 3 ∨ op = 4 ∨ op = 5 ∨ op = 6 := by decide
theorem ten_nats : ∀ n : Nat, n < 10 → (n : Int) = 0 ∨ (n : Int) = 1 ∨ (n : Int) = 2 ∨ (n : Int) = 3 ∨ (n : Int) = 4 ∨ (n : Int) = 5 ∨ (n : Int) = 6 ∨ (n : Int) = 7 ∨ (n : Int) = 8 ∨ (n : Int) = 9 := by decide
theorem ten_cases {d : Int} (h0 : 0 ≤ d) (h9 : d ≤ 9) : d = 0 ∨ d = 1 ∨ d = 2 ∨ d = 3 ∨ d = 4 ∨ d = 5 ∨ d = 6 ∨ d = 7 ∨ d = 8 ∨ d = 9 := by
  have h := ten_nats d.toNat (by omega)
  rw [Int.toNat_of_nonneg h0] at h
  exact h
structure It where
  op : Nat
  x : Bool
  n : Int
def It.Ok (i : It) : Prop := i.op < 7 ∧ (i.op = 6 → i.x = false ∧ (i.n = 1 ∨ i.n = 2)) ∧ (i.x = false → 0 ≤ i.n ∧ i.n ≤ 9)
def kindOf : Nat → Int
  | 0 => 14 | 1 => 15 | 2 => 16 | 3 => 19 | 4 => 18 | 5 => 32 | _ => 33
def addrOf : Nat → Nat
  | 0 => 21 | 1 => 70 | 2 => 49 | 3 => 28 | 4 => 56 | 5 => 77 | _ => 35
def opI : Nat → Int → Int → Int
  | 0, a, b => a + b
  | 1, a, b => a - b
  | 2, a, b => a * b
  | 3, a, b => Builtin.bitAnd a b
  | 4, a, b => Builtin.bitOr a b
  | 5, a, b => Builtin.bitXor a b
  | _, a, b => a * 2 ^ b.toNat
def It.val (i : It) (x : Int) : Int := if i.x then x else i.n
def reck (its : List It) (x : Int) : Int := its.foldl (fun w i => opI i.op w (i.val x)) x
def partTok (i : It) : Int := if i.x then 256 else 257 + i.n
def enc (its : List It) : List Int := its.flatMap fun i => [kindOf i.op, partTok i]
def rowOf (its : List It) : List Int := 256 :: (enc its ++ [0])

def St (its : List It) (x : Int) (pre : List Int) (w : Int) (f : Nat) : Prop :=
  (pre = [] ∧ w = 0 ∧ f = 21) ∨ (∃ k, k ≤ its.length ∧ pre = 256 :: enc (its.take k) ∧ w = reck (its.take k) x) ∨
  (∃ k i, its[k]? = some i ∧ pre = 256 :: (enc (its.take k) ++ [kindOf i.op]) ∧ w = reck (its.take k) x ∧ f = addrOf i.op)

theorem enc_append (a b : List It) : enc (a ++ b) = enc a ++ enc b := by simp [enc]
theorem enc_split {its : List It} {k : Nat} {i : It} (h : its[k]? = some i) : enc its = enc (its.take k) ++ (kindOf i.op :: partTok i :: enc (its.drop (k + 1))) := by
  have h' : its = its.take k ++ i :: its.drop (k + 1) := by
    have hk : k < its.length := (List.getElem?_eq_some_iff.mp h).1
    have e : its[k] = i := (List.getElem?_eq_some_iff.mp h).2
    rw [← e, ← List.drop_eq_getElem_cons hk, List.take_append_drop]
  conv => lhs; rw [h']
  rw [enc_append]
  rfl
theorem take_succ_some {its : List It} {k : Nat} {i : It} (h : its[k]? = some i) : its.take (k + 1) = its.take k ++ [i] := by
  rw [List.take_add_one, h]; rfl

theorem st_next {its : List It} {x : Int} {pre post : List Int} {n w : Int} {f : Nat} (h : St its x pre w f) (e : rowOf its = pre ++ n :: post) :
    (n = 256 ∧ w = 0 ∧ f = 21 ∧ ∀ f', St its x (pre ++ [n]) x f') ∨ (n = 0 ∧ w = reck its x) ∨
    (∃ i, i ∈ its ∧ n = kindOf i.op ∧ St its x (pre ++ [n]) w (addrOf i.op)) ∨
    (∃ k i, its[k]? = some i ∧ f = addrOf i.op ∧ n = partTok i ∧ w = reck (its.take k) x ∧ ∀ f', St its x (pre ++ [n]) (opI i.op w (i.val x)) f') := by
  rcases h with ⟨rfl, rfl, rfl⟩ | ⟨k, hk, rfl, rfl⟩ | ⟨k, i, hi, rfl, rfl, rfl⟩
  · left
    have : n = 256 := by simpa [rowOf] using (List.cons.inj e).1.symm
    subst this
    exact ⟨rfl, rfl, rfl, fun f' => .inr (.inl ⟨0, Nat.zero_le _, by simp [enc], by simp [reck]⟩)⟩
  · rcases Nat.lt_or_ge k its.length with hlt | hge
    · right; right; left
      have hi : its[k]? = some its[k] := List.getElem?_eq_getElem hlt
      have e' : n = kindOf its[k].op := by
        rw [rowOf, enc_split hi] at e
        simp only [List.cons_append, List.append_assoc, List.cons.injEq, true_and] at e
        have := List.append_cancel_left e
        simpa using (List.cons.inj this).1.symm
      exact ⟨its[k], List.getElem_mem hlt, e', .inr (.inr ⟨k, its[k], hi, by rw [e', List.cons_append], rfl, rfl⟩)⟩
    · right; left
      have hke : k = its.length := Nat.le_antisymm hk hge
      subst hke
      rw [List.take_length] at e ⊢
      rw [rowOf] at e
      simp only [List.cons_append, List.cons.injEq, true_and] at e
      have := List.append_cancel_left e
      exact ⟨by simpa using (List.cons.inj this).1.symm, rfl⟩
  · right; right; right
    have e' : n = partTok i := by
      rw [rowOf, enc_split hi] at e
      simp only [List.cons_append, List.append_assoc, List.cons.injEq, true_and] at e
      have := List.append_cancel_left e
      simpa using (List.cons.inj (List.cons.inj this).2).1.symm
    refine ⟨k, i, hi, rfl, e', rfl, fun f' => .inr (.inl ⟨k + 1, ?_, ?_, ?_⟩)⟩
    · exact (List.getElem?_eq_some_iff.mp hi).1
    · rw [take_succ_some hi, enc_append, e']
      simp [enc]
    · rw [take_succ_some hi]
      simp [reck]
end Mine
end
section
open PySem PyProof.Rows
namespace Mine

/-- two's complement range: -2^n ≤ a < 2^n -/
def Rng (n : Nat) (a : Int) : Prop := -(2 ^ n) ≤ a ∧ a < 2 ^ n
theorem bitAnd_rng {n : Nat} {a b : Int} (ha : Rng n a) (hb : Rng n b) : Rng n (Builtin.bitAnd a b) := by
  unfold Rng at *
  have h2 : ((2 ^ n : Nat) : Int) = (2 : Int) ^ n := by simp
  by_cases pa : 0 ≤ a
  · by_cases pb : 0 ≤ b
    · rw [bitAnd_pp pa pb]
      have := @Nat.and_le_left a.toNat b.toNat
      omega
    · rw [bitAnd_pn pa pb]
      have := @Nat.and_le_left a.toNat (Builtin.bitNot b).toNat
      omega
  · by_cases pb : 0 ≤ b
    · rw [bitAnd_np pa pb]
      have := @Nat.and_le_left b.toNat (Builtin.bitNot a).toNat
      omega
    · rw [bitAnd_nn pa pb]
      have h1 : (Builtin.bitNot a).toNat < 2 ^ n := by unfold Builtin.bitNot; omega
      have h3 : (Builtin.bitNot b).toNat < 2 ^ n := by unfold Builtin.bitNot; omega
      have := Nat.or_lt_two_pow h1 h3
      unfold Builtin.bitNot at *
      omega
theorem bitNot_rng {n : Nat} {a : Int} (ha : Rng n a) : Rng n (Builtin.bitNot a) := by
  unfold Rng Builtin.bitNot at *; omega
theorem bitOr_rng {n : Nat} {a b : Int} (ha : Rng n a) (hb : Rng n b) : Rng n (Builtin.bitOr a b) := by
  unfold Builtin.bitOr
  exact bitNot_rng (bitAnd_rng (bitNot_rng ha) (bitNot_rng hb))
theorem bitXor_rng {n : Nat} {a b : Int} (ha : Rng n a) (hb : Rng n b) : Rng (n + 1) (Builtin.bitXor a b) := by
  unfold Builtin.bitXor
  have h1 := bitOr_rng ha hb
  have h2 := bitAnd_rng ha hb
  unfold Rng at *
  have e : (2 : Int) ^ (n + 1) = 2 ^ n * 2 := Int.pow_succ 2 n
  rw [e]
  omega
theorem Rng.mono {m n : Nat} {a : Int} (h : Rng m a) (hmn : m ≤ n) : Rng n a := by
  unfold Rng at *
  have h2 : ((2 ^ n : Nat) : Int) = (2 : Int) ^ n := by simp
  have h3 : ((2 ^ m : Nat) : Int) = (2 : Int) ^ m := by simp
  have := Nat.pow_le_pow_right (n := 2) (by decide) hmn
  omega
theorem natAbs_mul_lt {a b : Int} {p q : Nat} (ha : a.natAbs ≤ p) (hb : b.natAbs < q) (hp : 0 < p) : (a * b).natAbs < p * q := by
  rw [Int.natAbs_mul]
  exact Nat.lt_of_le_of_lt (Nat.mul_le_mul_right _ ha) (Nat.mul_lt_mul_of_pos_left hb hp)
theorem mul_rng {n k : Nat} {a b : Int} (ha : Rng n a) (hb : b.natAbs < 2 ^ k) : Rng (n + k) (a * b) := by
  unfold Rng at ha
  have h2 : ((2 ^ n : Nat) : Int) = (2 : Int) ^ n := by simp
  have h3 : ((2 ^ (n + k) : Nat) : Int) = (2 : Int) ^ (n + k) := by simp
  have h1 := natAbs_mul_lt (p := 2 ^ n) (q := 2 ^ k) (a := a) (b := b) (by omega) hb (Nat.two_pow_pos n)
  rw [← Nat.pow_add] at h1
  unfold Rng
  omega
theorem rng_of_natAbs {n : Nat} {a : Int} (h : a.natAbs < 2 ^ n) : Rng n a := by
  have h2 : ((2 ^ n : Nat) : Int) = (2 : Int) ^ n := by simp
  unfold Rng; omega
theorem add_rng {n : Nat} {a b : Int} (ha : Rng n a) (hb : Rng n b) : Rng (n + 1) (a + b) := by
  unfold Rng at *
  have e : (2 : Int) ^ (n + 1) = 2 ^ n * 2 := Int.pow_succ 2 n
  rw [e]
  omega
theorem sub_rng {n : Nat} {a b : Int} (ha : Rng n a) (hb : Rng n b) : Rng (n + 1) (a - b) := by
  unfold Rng at *
  have e : (2 : Int) ^ (n + 1) = 2 ^ n * 2 := Int.pow_succ 2 n
  rw [e]
  omega

theorem val_lt {i : It} (h : i.Ok) {x : Int} {k : Nat} (hk : 4 ≤ k) (hx : x.natAbs < 2 ^ k) : (i.val x).natAbs < 2 ^ k := by
  unfold It.val
  split
  · exact hx
  · rename_i hb
    have := h.2.2 (by simpa using hb)
    have h16 := Nat.pow_le_pow_right (n := 2) (by decide) hk
    omega
/-- one deed adds at most k places, k those of x (four at least) -/
theorem op_rng {i : It} (h : i.Ok) {x w : Int} {n k : Nat} (hk : 4 ≤ k) (hkn : k ≤ n) (hx : x.natAbs < 2 ^ k) (hw : Rng n w) : Rng (n + k) (opI i.op w (i.val x)) := by
  have hv := val_lt h hk hx
  have hvr : Rng n (i.val x) := (rng_of_natAbs hv).mono hkn
  obtain ⟨hop, hsh, hdg⟩ := h
  have hop' : i.op = 0 ∨ i.op = 1 ∨ i.op = 2 ∨ i.op = 3 ∨ i.op = 4 ∨ i.op = 5 ∨ i.op = 6 := seven_cases _ (by first | assumption | omega)
  rcases hop' with e | e | e | e | e | e | e
  · rw [e]; exact (add_rng hw hvr).mono (by omega)
  · rw [e]; exact (sub_rng hw hvr).mono (by omega)
  · rw [e]; exact mul_rng hw hv
  · rw [e]; exact (bitAnd_rng hw hvr).mono (by omega)
  · rw [e]; exact (bitOr_rng hw hvr).mono (by omega)
  · rw [e]; exact (bitXor_rng hw hvr).mono (by omega)
  · have hs := hsh e
    have ev : i.val x = i.n := by unfold It.val; rw [hs.1]; rfl
    rw [e, ev]
    show Rng (n + k) (w * 2 ^ i.n.toNat)
    refine (mul_rng (k := 3) hw ?_).mono (by omega)
    rcases hs.2 with e2 | e2 <;> rw [e2] <;> decide
theorem reck_snoc (its : List It) (i : It) (x : Int) : reck (its ++ [i]) x = opI i.op (reck its x) (i.val x) := by simp [reck]
theorem reck_rng {x : Int} {k : Nat} (hk : 4 ≤ k) (hx : x.natAbs < 2 ^ k) : ∀ (r : List It), (∀ i ∈ r, i.Ok) → ∀ (its : List It) (n : Nat), k ≤ n → Rng n (reck its x) → Rng (n + k * r.length) (reck (its ++ r) x)
  | [], _, its, n, _, h => by simpa using h
  | i :: r, hok, its, n, hn, h => by
    have h1 := op_rng (hok i (.head _)) hk hn hx h
    rw [← reck_snoc] at h1
    have h2 := reck_rng hk hx r (fun j hj => hok j (.tail _ hj)) (its ++ [i]) (n + k) (by omega) h1
    rw [List.append_assoc] at h2
    have e : n + k + k * r.length = n + k * (i :: r).length := by rw [List.length_cons, Nat.mul_add]; omega
    rw [e] at h2
    exact h2
theorem bits_of_rng {n : Nat} {a : Int} (h : Rng n a) : Builtin.Int.intBits a ≤ n + 1 := by
  refine intBits_le ?_
  have h2 : ((2 ^ n : Nat) : Int) = (2 : Int) ^ n := by simp
  have e : 2 ^ (n + 1) = 2 ^ n * 2 := Nat.pow_succ ..
  have := Nat.two_pow_pos n
  unfold Rng at h
  omega
theorem reck_bits {its : List It} (hok : ∀ i ∈ its, i.Ok) (hl : its.length ≤ 7) {x : Int} (hx : x.natAbs < 2 ^ 41) (k : Nat) : Builtin.Int.intBits (reck (its.take k) x) ≤ 1000000 := by
  have h0 : Rng 41 (reck [] x) := rng_of_natAbs hx
  have h1 := reck_rng (by decide) hx (its.take k) (fun i hi => hok i (List.mem_of_mem_take hi)) [] 41 (Nat.le_refl _) h0
  have h2 := bits_of_rng h1
  have h3 : (its.take k).length ≤ 7 := Nat.le_trans (by rw [List.length_take]; omega) hl
  rw [List.nil_append] at h2
  omega
end Mine
end
section
open PySem PySem.W PyProof.Rows
namespace Mine

/-- what _law_both hands back -/
def bothI (one two mark : Int) : Int := (List.foldl (fun l' (k' : Int) => if (one.fdiv (2 ^ k'.toNat)).fmod 2 + (two.fdiv (2 ^ k'.toNat)).fmod 2 = 2 then l' ++ [(2 : Int) ^ k'.toNat] else l') [] (rangeKs 0 (mark - 0).toNat)).sum

def stepW : Nat → Int → Int → Int → Int → Int
  | 0, w, o, _, _ => w + o
  | 1, w, o, _, _ => w - o
  | 2, w, o, _, _ => w * o
  | 3, w, o, mk, _ => bothI w o mk
  | 4, w, o, mk, _ => w + o - bothI w o mk
  | 5, w, o, mk, _ => w + o - 2 * bothI w o mk
  | _, w, _, _, n => w * 2 ^ n.toNat
/-- what _law_word hands back -/
def wordI (its : List It) (x mk : Int) : Int := its.foldl (fun w i => (stepW i.op w ((i.val x).fmod (2 ^ mk.toNat)) mk i.n).fmod (2 ^ mk.toNat)) (x.fmod (2 ^ mk.toNat))

def signOf : Nat → Str
  | 0 => Str.ofString "+" | 1 => Str.ofString "-" | 2 => Str.ofString "*" | 3 => Str.ofString "&" | 4 => Str.ofString "|" | 5 => Str.ofString "^" | _ => Str.ofString "<<"
def digOf : Int → Str
  | 0 => Str.ofString "0" | 1 => Str.ofString "1" | 2 => Str.ofString "2" | 3 => Str.ofString "3" | 4 => Str.ofString "4" | 5 => Str.ofString "5" | 6 => Str.ofString "6" | 7 => Str.ofString "7" | 8 => Str.ofString "8" | _ => Str.ofString "9"
def partOf (i : It) : Str := if i.x then Str.ofString "x" else digOf i.n

/-- the list of lists that _law_items hands back, as it lies in a heap -/
def ItemsAt (h : Heap) (vs : List Value) (its : List It) : Prop :=
  vs.length = its.length ∧ ∀ (k : Nat) (i : It), its[k]? = some i → ∃ (b : Addr) (t1 t2 : Tok), vs[k]? = some (Value.ref b) ∧ h.IsList b #[Value.str (signOf i.op) t1, Value.str (partOf i) t2]
theorem ItemsAt.keeps {h h' : Heap} {vs : List Value} {its : List It} (x : ItemsAt h vs its) (k : ∀ b o, h.get? b = some o → h'.get? b = some o) : ItemsAt h' vs its :=
  ⟨x.1, fun j i e => let ⟨b, t1, t2, e1, ⟨o, ho, r⟩⟩ := x.2 j i e; ⟨b, t1, t2, e1, ⟨o, k _ _ ho, r⟩⟩⟩

theorem wordI_snoc (its : List It) (i : It) (x mk : Int) : wordI (its ++ [i]) x mk = (stepW i.op (wordI its x mk) ((i.val x).fmod (2 ^ mk.toNat)) mk i.n).fmod (2 ^ mk.toNat) := by simp [wordI]
theorem fmod_pow_rng (a : Int) (k : Nat) : 0 ≤ a.fmod (2 ^ k) ∧ a.fmod (2 ^ k) < 2 ^ k := by
  have hp : (0 : Int) < 2 ^ k := by
    have h2 : ((2 ^ k : Nat) : Int) = (2 : Int) ^ k := by simp
    have := Nat.two_pow_pos k
    omega
  exact ⟨Int.fmod_nonneg_of_pos a hp, Int.fmod_lt_of_pos a hp⟩
theorem wordI_rng (its : List It) (x mk : Int) : 0 ≤ wordI its x mk ∧ wordI its x mk < 2 ^ mk.toNat := by
  rcases List.eq_nil_or_concat its with rfl | ⟨r, i, rfl⟩
  · exact fmod_pow_rng x mk.toNat
  · rw [List.concat_eq_append, wordI_snoc]
    exact fmod_pow_rng _ _
end Mine
end
section
open PySem PySem.W PyProof.Rows
namespace Mine

/-- the item that a code makes -/
def mkIt (code : Int) : It :=
  if code.fmod 7 = 6 then ⟨6, false, 1 + ((code.fdiv 7).fmod 10).fmod 2⟩ else ⟨(code.fmod 7).toNat, decide ((code.fdiv 7).fmod 10 < 3), (code.fdiv 7).fmod 10⟩
def codesOf (ns : List Int) : List Int := [2, 39, 0] ++ ns.take 4
def itemsOf (ns : List Int) : List It := (codesOf ns).map mkIt

theorem fmod_lo (a : Int) {n : Int} (h : 0 < n) : 0 ≤ a.fmod n ∧ a.fmod n < n := ⟨Int.fmod_nonneg_of_pos a h, Int.fmod_lt_of_pos a h⟩
theorem mkIt_ok (code : Int) : (mkIt code).Ok := by
  have h7 := fmod_lo code (n := 7) (by decide)
  have h10 := fmod_lo (code.fdiv 7) (n := 10) (by decide)
  have h2 := fmod_lo ((code.fdiv 7).fmod 10) (n := 2) (by decide)
  unfold mkIt
  split
  · refine ⟨(by decide : 6 < 7), fun _ => ⟨rfl, ?_⟩, fun _ => ?_⟩
    · show 1 + _ = 1 ∨ 1 + _ = 2
      omega
    · show 0 ≤ 1 + _ ∧ 1 + _ ≤ 9
      omega
  · rename_i h6
    refine ⟨?_, fun e => ?_, fun _ => ?_⟩
    · show (code.fmod 7).toNat < 7
      omega
    · exfalso
      have : (code.fmod 7).toNat = 6 := e
      omega
    · show 0 ≤ (code.fdiv 7).fmod 10 ∧ (code.fdiv 7).fmod 10 ≤ 9
      omega
theorem itemsOf_ok (ns : List Int) : ∀ i ∈ itemsOf ns, i.Ok := by
  intro i hi
  obtain ⟨c, _, rfl⟩ := List.mem_map.mp hi
  exact mkIt_ok c
theorem itemsOf_len (ns : List Int) : (itemsOf ns).length ≤ 7 := by
  simp only [itemsOf, codesOf, List.length_map, List.length_append, List.length_take, List.length_cons, List.length_nil]
  omega

/-- the items as they lie in a ledger -/
def ItemsIn (led : List (Addr × Obj)) (vs : List Value) (its : List It) : Prop :=
  vs.length = its.length ∧ ∀ (k : Nat) (i : It), its[k]? = some i → ∃ (b : Addr) (t1 t2 : Tok) (n : Nat), vs[k]? = some (Value.ref b) ∧ (b, W.listOf #[Value.str (signOf i.op) t1, Value.str (partOf i) t2] n) ∈ led
theorem ItemsIn.nil : ItemsIn [] [] [] := ⟨rfl, fun k i e => by simp at e⟩
theorem ItemsIn.mono {led led' : List (Addr × Obj)} {vs : List Value} {its : List It} (x : ItemsIn led vs its) (h : ∀ p ∈ led, p ∈ led') : ItemsIn led' vs its :=
  ⟨x.1, fun k i e => let ⟨b, t1, t2, n, e1, e2⟩ := x.2 k i e; ⟨b, t1, t2, n, e1, h _ e2⟩⟩
theorem ItemsIn.snoc {led : List (Addr × Obj)} {vs : List Value} {its : List It} {i : It} {b : Addr} {t1 t2 : Tok} {n : Nat} (x : ItemsIn led vs its) :
    ItemsIn ((b, W.listOf #[Value.str (signOf i.op) t1, Value.str (partOf i) t2] n) :: led) (vs ++ [Value.ref b]) (its ++ [i]) := by
  refine ⟨by simp [x.1], fun k j e => ?_⟩
  rcases Nat.lt_trichotomy k its.length with h | h | h
  · rw [List.getElem?_append_left h] at e
    obtain ⟨b', t1', t2', n', e1, e2⟩ := x.2 k j e
    exact ⟨b', t1', t2', n', by rw [List.getElem?_append_left (by rw [x.1]; exact h)]; exact e1, List.mem_cons_of_mem _ e2⟩
  · subst h
    simp only [List.getElem?_concat_length, Option.some.injEq] at e
    subst e
    exact ⟨b, t1, t2, n, by rw [← x.1]; simp, List.mem_cons_self⟩
  · rw [List.getElem?_eq_none (by simp; omega)] at e
    cases e
theorem ItemsIn.at {h₀ h : Heap} {L : Addr} {led : List (Addr × Obj)} {vs : List Value} {its : List It} (x : ItemsIn led vs its) (N : News h₀ L h led) : ItemsAt h vs its :=
  ⟨x.1, fun k i e => let ⟨b, t1, t2, n, e1, e2⟩ := x.2 k i e; ⟨b, t1, t2, e1, ⟨_, (N _ e2).1, rfl, n, rfl⟩⟩⟩
end Mine
namespace Mine
theorem mk_x {code : Int} {r : Nat} (h : code.fmod 7 = (r : Int)) (h6 : r < 6) (hp : (code.fdiv 7).fmod 10 < 3) : mkIt code = ⟨r, true, (code.fdiv 7).fmod 10⟩ := by
  unfold mkIt
  rw [if_neg (by omega), h, decide_eq_true hp]
  rfl
theorem mk_d {code : Int} {r : Nat} (h : code.fmod 7 = (r : Int)) (h6 : r < 6) (hp : ¬ (code.fdiv 7).fmod 10 < 3) : mkIt code = ⟨r, false, (code.fdiv 7).fmod 10⟩ := by
  unfold mkIt
  rw [if_neg (by omega), h, decide_eq_false hp]
  rfl
theorem mk_s {code : Int} (h : code.fmod 7 = 6) : mkIt code = ⟨6, false, 1 + ((code.fdiv 7).fmod 10).fmod 2⟩ := by
  unfold mkIt
  rw [if_pos h]
end Mine
end
section
open PySem PySem.W PyProof.Rows PySem.Builtin.Str PySem.Builtin
namespace Mine

def signL : Nat → List Nat
  | 0 => [43] | 1 => [45] | 2 => [42] | 3 => [38] | 4 => [124] | 5 => [94] | _ => [60, 60]
def digL (d : Int) : List Nat := [48 + d.toNat]
def partL (i : It) : List Nat := if i.x then [120] else digL i.n
/-- the text's pieces, each with the number that it stands for -/
def tokL (its : List It) : List (List Nat × Int) := ([120], 256) :: its.flatMap fun i => [(signL i.op, kindOf i.op), (partL i, partTok i)]
def flatL (ts : List (List Nat × Int)) : List Nat := ts.flatMap (·.1)
def textL (its : List It) : List Nat := flatL (tokL its)
theorem rowOf_tok (its : List It) : rowOf its = (tokL its).map (·.2) ++ [0] := by
  simp only [rowOf, tokL, List.map_cons, List.cons_append, enc]
  congr 2
  induction its with
  | nil => rfl
  | cons i r ih => simp [ih]

/-- what a piece may be, and what may stand behind it -/
inductive Piece (c : List Nat) (k : Int) (rest : List Nat) : Prop where
  | sign (op : Nat) (h : op < 6) (hc : c = signL op) (hk : k = kindOf op) (p : Nat) (hp : p = 120 ∨ (48 ≤ p ∧ p ≤ 57)) (r : List Nat) (hr : rest = p :: r)
  | shift (hc : c = [60, 60]) (hk : k = 33)
  | letter (hc : c = [120]) (hk : k = 256) (hr : rest = [] ∨ ∃ q r, rest = q :: r ∧ (q = 43 ∨ q = 45 ∨ q = 42 ∨ q = 38 ∨ q = 124 ∨ q = 94 ∨ q = 60))
  | digit (d : Int) (h0 : 0 ≤ d) (h9 : d ≤ 9) (hc : c = digL d) (hk : k = 257 + d) (hr : rest = [] ∨ ∃ q r, rest = q :: r ∧ (q = 43 ∨ q = 45 ∨ q = 42 ∨ q = 38 ∨ q = 124 ∨ q = 94 ∨ q = 60))

theorem sign_head {op : Nat} (h : op < 7) : ∃ q r, signL op = q :: r ∧ (q = 43 ∨ q = 45 ∨ q = 42 ∨ q = 38 ∨ q = 124 ∨ q = 94 ∨ q = 60) := by
  have : op = 0 ∨ op = 1 ∨ op = 2 ∨ op = 3 ∨ op = 4 ∨ op = 5 ∨ op = 6 := seven_cases _ (by first | assumption | omega)
  rcases this with rfl | rfl | rfl | rfl | rfl | rfl | rfl <;> exact ⟨_, _, rfl, by decide⟩
theorem rest_head {its : List It} (hok : ∀ i ∈ its, i.Ok) : flatL (its.flatMap fun i => [(signL i.op, kindOf i.op), (partL i, partTok i)]) = [] ∨ ∃ q r, flatL (its.flatMap fun i => [(signL i.op, kindOf i.op), (partL i, partTok i)]) = q :: r ∧ (q = 43 ∨ q = 45 ∨ q = 42 ∨ q = 38 ∨ q = 124 ∨ q = 94 ∨ q = 60) := by
  cases its with
  | nil => exact .inl rfl
  | cons i r =>
    obtain ⟨q, t, e, hq⟩ := sign_head (hok i (.head _)).1
    exact .inr ⟨q, _, by simp [flatL, e]; rfl, hq⟩
theorem part_piece {i : It} (h : i.Ok) {rest : List Nat} (hr : rest = [] ∨ ∃ q r, rest = q :: r ∧ (q = 43 ∨ q = 45 ∨ q = 42 ∨ q = 38 ∨ q = 124 ∨ q = 94 ∨ q = 60)) : Piece (partL i) (partTok i) rest := by
  obtain ⟨op, x, n⟩ := i
  cases x
  · have := h.2.2 rfl
    exact .digit n this.1 this.2 rfl rfl hr
  · exact .letter rfl rfl hr
theorem part_head {i : It} (h : i.Ok) : ∃ p, partL i = [p] ∧ (p = 120 ∨ (48 ≤ p ∧ p ≤ 57)) := by
  obtain ⟨op, x, n⟩ := i
  cases x
  · have h1 : 0 ≤ n ∧ n ≤ 9 := h.2.2 rfl
    exact ⟨48 + n.toNat, rfl, .inr (by omega)⟩
  · exact ⟨120, rfl, .inl rfl⟩
theorem piece_at_aux {its : List It} (hok : ∀ i ∈ its, i.Ok) : ∀ (j : Nat) (c : List Nat) (k : Int), (its.flatMap fun i => [(signL i.op, kindOf i.op), (partL i, partTok i)])[j]? = some (c, k) →
    Piece c k (flatL ((its.flatMap fun i => [(signL i.op, kindOf i.op), (partL i, partTok i)]).drop (j + 1))) := by
  induction its with
  | nil => intro j c k h; simp at h
  | cons i r ih =>
    intro j c k h
    have hi := hok i (.head _)
    have hr := fun j hj => hok j (List.mem_cons_of_mem _ hj)
    match j with
    | 0 =>
      simp only [List.flatMap_cons, List.cons_append, List.getElem?_cons_zero, Option.some.injEq, Prod.mk.injEq] at h
      obtain ⟨rfl, rfl⟩ := h
      obtain ⟨p, ep, hp⟩ := part_head hi
      by_cases h6 : i.op = 6
      · rw [h6]; exact .shift rfl rfl
      · exact .sign i.op (by have := hi.1; omega) rfl rfl p hp (flatL (r.flatMap fun i => [(signL i.op, kindOf i.op), (partL i, partTok i)])) (by simp [flatL, ep])
    | 1 =>
      simp only [List.flatMap_cons, List.cons_append, List.nil_append, List.getElem?_cons_succ, List.getElem?_cons_zero, Option.some.injEq, Prod.mk.injEq] at h
      obtain ⟨rfl, rfl⟩ := h
      exact part_piece hi (rest_head hr)
    | j + 2 =>
      simp only [List.flatMap_cons, List.cons_append, List.nil_append, List.getElem?_cons_succ] at h
      exact ih hr j c k h
theorem piece_at {its : List It} (hok : ∀ i ∈ its, i.Ok) (j : Nat) (c : List Nat) (k : Int) (h : (tokL its)[j]? = some (c, k)) : Piece c k (flatL ((tokL its).drop (j + 1))) := by
  match j with
  | 0 =>
    simp only [tokL, List.getElem?_cons_zero, Option.some.injEq, Prod.mk.injEq] at h
    obtain ⟨rfl, rfl⟩ := h
    exact .letter rfl rfl (rest_head hok)
  | j + 1 =>
    simp only [tokL, List.getElem?_cons_succ] at h
    exact piece_at_aux hok j c k h

theorem Piece.pos {c : List Nat} {k : Int} {rest : List Nat} (h : Piece c k rest) : 0 < c.length := by
  cases h with
  | sign op h hc hk p hp r hr =>
    have : op = 0 ∨ op = 1 ∨ op = 2 ∨ op = 3 ∨ op = 4 ∨ op = 5 := six_cases _ (by first | assumption | omega)
    rcases this with rfl | rfl | rfl | rfl | rfl | rfl <;> rw [hc] <;> decide
  | shift hc hk => rw [hc]; decide
  | letter hc hk hr => rw [hc]; decide
  | digit d h0 h9 hc hk hr => rw [hc]; exact Nat.zero_lt_one

theorem flat_split {ts : List (List Nat × Int)} {j : Nat} {c : List Nat} {k : Int} (h : ts[j]? = some (c, k)) : flatL ts = flatL (ts.take j) ++ (c ++ flatL (ts.drop (j + 1))) := by
  obtain ⟨hj, e⟩ := List.getElem?_eq_some_iff.mp h
  have e2 : ts = ts.take j ++ (c, k) :: ts.drop (j + 1) := by
    rw [← e, ← List.drop_eq_getElem_cons hj, List.take_append_drop]
  conv => lhs; rw [e2]
  simp [flatL]

theorem slice_take {x : Str} {i j : Int} (h0 : 0 ≤ i) (hij : i ≤ j) (hi : i ≤ x.cps.toList.length) : Txt.slice x (some i) (some j) = ⟨((x.cps.toList.drop i.toNat).take (j - i).toNat).toArray⟩ := by
  by_cases hj : j ≤ x.cps.toList.length
  · exact beq_iff_eq.mp (slice_closes ⟨h0, hij, hj⟩)
  · have e : Txt.slice x (some i) (some j) = Txt.slice x (some i) (some (x.cps.toList.length : Int)) := by
      unfold Txt.slice
      have e1 : strSliceIndices (some i) (some j) 1 x.length = strSliceIndices (some i) (some (x.cps.toList.length : Int)) 1 x.length := by
        unfold strSliceIndices
        have hl : (x.length : Int) = x.cps.toList.length := by simp [Str.length]
        simp only [hl]
        congr 1
        have h1 : ¬ j < 0 := by omega
        have h2 : ¬ ((x.cps.toList.length : Int)) < 0 := by omega
        simp only [if_neg h1, if_neg h2, show (1 : Int) > 0 from by decide, if_true]
        omega
      rw [e1]
    rw [e, beq_iff_eq.mp (slice_closes ⟨h0, hi, Int.le_refl _⟩)]
    congr 2
    rw [List.take_of_length_le (by rw [List.length_drop]; omega), List.take_of_length_le (by rw [List.length_drop]; omega)]
end Mine
namespace Mine
theorem signL_len (op : Nat) : (signL op).length ≤ 2 := by
  unfold signL
  split <;> decide
theorem textL_len (its : List It) : (textL its).length ≤ 1 + 3 * its.length := by
  unfold textL tokL
  show (([120] ++ flatL _ : List Nat)).length ≤ _
  rw [List.length_append]
  induction its with
  | nil => decide
  | cons i r ih =>
    have h1 := signL_len i.op
    have h2 : (partL i).length = 1 := by unfold partL; split <;> rfl
    simp only [List.flatMap_cons, List.length_cons, List.length_nil] at ih ⊢
    have e : ∀ l, flatL ([(signL i.op, kindOf i.op), (partL i, partTok i)] ++ l) = signL i.op ++ (partL i ++ flatL l) := by intro l; simp [flatL]
    rw [e, List.length_append, List.length_append]
    omega
end Mine
end
section
open PySem PySem.W PyProof.Rows
namespace Mine
def strL (l : List Nat) : Str := ⟨l.toArray⟩
def partsN : List Nat := [120, 48, 49, 50, 51, 52, 53, 54, 55, 56, 57]
def headsN : List Nat := [43, 45, 42, 38, 124, 94, 60]
def noneL : List (List Nat) := (headsN.take 6).flatMap (fun s => partsN.map fun p => [s, p]) ++ (partsN.map fun p => [p]) ++ partsN.flatMap (fun p => headsN.map fun q => [p, q])
set_option maxRecDepth 100000 in
theorem look_all (P : Params) : (noneL.all fun y => nsIn (kfr.heap_1 P) 85 (strL y) == some none) = true := by kernel_rfl
theorem look_none (P : Params) {y : List Nat} (h : y ∈ noneL) : nsIn (kfr.heap_1 P) 85 (strL y) = some none := by
  have := List.all_eq_true.mp (look_all P) y h
  exact beq_iff_eq.mp this
set_option maxRecDepth 100000 in
theorem look_sign (P : Params) {op : Nat} (h : op < 7) : ∃ t, nsIn (kfr.heap_1 P) 85 (strL (signL op)) = some (some (.int (kindOf op) t)) := by
  have : op = 0 ∨ op = 1 ∨ op = 2 ∨ op = 3 ∨ op = 4 ∨ op = 5 ∨ op = 6 := seven_cases _ (by first | assumption | omega)
  rcases this with rfl | rfl | rfl | rfl | rfl | rfl | rfl
  · exact ⟨292, by kernel_rfl⟩
  · exact ⟨294, by kernel_rfl⟩
  · exact ⟨296, by kernel_rfl⟩
  · exact ⟨302, by kernel_rfl⟩
  · exact ⟨300, by kernel_rfl⟩
  · exact ⟨328, by kernel_rfl⟩
  · exact ⟨330, by kernel_rfl⟩
end Mine
end
section
open PySem PySem.W PyProof.Rows PySem.Calls Mine
namespace Mine
theorem tok_len (its : List It) : (tokL its).length = 1 + 2 * its.length := by
  unfold tokL
  rw [List.length_cons]
  have : (its.flatMap fun i => [(signL i.op, kindOf i.op), (partL i, partTok i)]).length = 2 * its.length := by
    induction its with
    | nil => rfl
    | cons i r ih => rw [List.flatMap_cons, List.length_append, ih]; simp; omega
  omega
/-- what the table, the signs, the figures say of the piece at a place -/
structure AtTok (P : Params) (text : Str) (a : Int) (k : Int) : Prop where
  mk ::
  cases : (∃ t, nsIn (kfr.heap_1 P) 85 (Txt.slice text (some a) (some (a + 2))) = some none ∧ nsIn (kfr.heap_1 P) 85 (Txt.item text a) = some (some (.int k t)) ∧ (Txt.item text a).length = 1) ∨
    (∃ t, nsIn (kfr.heap_1 P) 85 (Txt.slice text (some a) (some (a + 2))) = some (some (.int k t)) ∧ (Txt.slice text (some a) (some (a + 2))).length = 2) ∨
    (nsIn (kfr.heap_1 P) 85 (Txt.slice text (some a) (some (a + 2))) = some none ∧ nsIn (kfr.heap_1 P) 85 (Txt.item text a) = some none ∧ (Txt.item text a == Str.ofString "x") = true ∧ (Txt.item text a).length = 1 ∧ k = 256) ∨
    (∃ d, nsIn (kfr.heap_1 P) 85 (Txt.slice text (some a) (some (a + 2))) = some none ∧ nsIn (kfr.heap_1 P) 85 (Txt.item text a) = some none ∧ (Txt.item text a == Str.ofString "x") = false ∧ PySem.intText? (Txt.item text a) = some d ∧ (Txt.item text a).length = 1 ∧ k = 257 + d)
theorem item_cons {text : Str} {a : Int} {q : Nat} {r : List Nat} (h0 : 0 ≤ a) (h : text.cps.toList.drop a.toNat = q :: r) : Txt.item text a = strL [q] := by
  have e : text.cps[a.toNat]? = some q := by
    have h1 : (text.cps.toList.drop a.toNat)[0]? = some q := by rw [h]; rfl
    rw [List.getElem?_drop, Nat.add_zero, Array.getElem?_toList] at h1
    exact h1
  exact PyProof.Rows.item_meets h0 e
theorem at_tok (P : Params) {its : List It} (hok : ∀ i ∈ its, i.Ok) {text : Str} (ht : text.cps.toList = textL its) {j : Nat} {c : List Nat} {k : Int} (hj : (tokL its)[j]? = some (c, k)) :
    AtTok P text ((flatL ((tokL its).take j)).length : Int) k ∧ (flatL ((tokL its).take (j + 1))).length = (flatL ((tokL its).take j)).length + c.length ∧ ((c.length = 2 ∧ (Txt.slice text (some ((flatL ((tokL its).take j)).length : Int)) (some (((flatL ((tokL its).take j)).length : Int) + 2))).length = 2 ∧ ∃ t, nsIn (kfr.heap_1 P) 85 (Txt.slice text (some ((flatL ((tokL its).take j)).length : Int)) (some (((flatL ((tokL its).take j)).length : Int) + 2))) = some (some (.int k t))) ∨ (c.length = 1 ∧ nsIn (kfr.heap_1 P) 85 (Txt.slice text (some ((flatL ((tokL its).take j)).length : Int)) (some (((flatL ((tokL its).take j)).length : Int) + 2))) = some none)) ∧ (flatL ((tokL its).take j)).length < text.length := by
  have hp := piece_at hok j c k hj
  have hs := flat_split hj
  generalize hR : flatL ((tokL its).drop (j + 1)) = R at hp hs
  generalize hA : (flatL ((tokL its).take j)).length = A at *
  have hdr : text.cps.toList.drop A = c ++ R := by
    rw [ht]
    unfold textL
    rw [hs, ← hA, List.drop_left]
  have hle : A + c.length ≤ text.cps.toList.length := by
    have := congrArg List.length hdr
    rw [List.length_drop, List.length_append] at this
    have hpos := hp.pos
    omega
  have hpos := hp.pos
  have hsl : Txt.slice text (some (A : Int)) (some ((A : Int) + 2)) = strL ((c ++ R).take 2) := by
    rw [slice_take (by omega) (by omega) (by omega)]
    have e1 : ((A : Int) + 2 - A).toNat = 2 := by omega
    rw [e1, Int.toNat_natCast, hdr]
    rfl
  have hdr' : text.cps.toList.drop (A : Int).toNat = c ++ R := by rw [Int.toNat_natCast]; exact hdr
  have htk : (flatL ((tokL its).take (j + 1))).length = A + c.length := by
    rw [List.take_add_one, hj]
    show (flatL (_ ++ [(c, k)])).length = _
    rw [← hA]
    simp [flatL]
  have hlt : A < text.length := by
    have : text.length = text.cps.toList.length := by simp [Str.length]
    omega
  cases hp with
  | sign op h hc hk p hpp r hr =>
    subst hc hk hr
    have hop : op = 0 ∨ op = 1 ∨ op = 2 ∨ op = 3 ∨ op = 4 ∨ op = 5 := six_cases _ (by first | assumption | omega)
    obtain ⟨q, hq, hqs⟩ : ∃ q, signL op = [q] ∧ q ∈ headsN.take 6 := by
      rcases hop with rfl | rfl | rfl | rfl | rfl | rfl <;> exact ⟨_, rfl, by decide⟩
    have hpn : p ∈ partsN := by
      rcases hpp with rfl | ⟨a9, b9⟩
      · decide
      · exact (by decide : ∀ p : Nat, p < 58 → 48 ≤ p → p ∈ partsN) p (Nat.lt_succ_of_le b9) a9
    have hn : [q, p] ∈ noneL := by
      unfold noneL
      refine List.mem_append_left _ (List.mem_append_left _ (List.mem_flatMap.mpr ⟨q, hqs, List.mem_map.mpr ⟨p, hpn, rfl⟩⟩))
    have h1 : nsIn (kfr.heap_1 P) 85 (Txt.slice text (some (A : Int)) (some ((A : Int) + 2))) = some none := by
      rw [hsl, hq]; exact look_none P hn
    have hit : Txt.item text (A : Int) = strL (signL op) := by
      rw [hq] at hdr' ⊢
      exact item_cons (by omega) hdr'
    obtain ⟨t, h2⟩ := look_sign P (op := op) (by omega)
    refine ⟨⟨.inl ⟨t, h1, by rw [hit]; exact h2, by rw [hit, hq]; rfl⟩⟩, htk, .inr ⟨by rw [hq]; rfl, h1⟩, hlt⟩
  | shift hc hk =>
    subst hc hk
    have e2 : Txt.slice text (some (A : Int)) (some ((A : Int) + 2)) = strL (signL 6) := hsl
    obtain ⟨t, h2⟩ := look_sign P (op := 6) (by omega)
    have h1 : nsIn (kfr.heap_1 P) 85 (Txt.slice text (some (A : Int)) (some ((A : Int) + 2))) = some (some (.int 33 t)) := by rw [e2]; exact h2
    have hl2 : (Txt.slice text (some (A : Int)) (some ((A : Int) + 2))).length = 2 := by rw [e2]; rfl
    exact ⟨⟨.inr (.inl ⟨t, h1, hl2⟩)⟩, htk, .inl ⟨rfl, hl2, t, h1⟩, hlt⟩
  | letter hc hk hr =>
    subst hc hk
    have hn : ([120] ++ R).take 2 ∈ noneL := by
      rcases hr with rfl | ⟨q, r, rfl, hq⟩
      · decide +kernel
      · show [120, q] ∈ noneL
        rcases hq with rfl | rfl | rfl | rfl | rfl | rfl | rfl <;> decide +kernel
    have h1 : nsIn (kfr.heap_1 P) 85 (Txt.slice text (some (A : Int)) (some ((A : Int) + 2))) = some none := by rw [hsl]; exact look_none P hn
    have hit : Txt.item text (A : Int) = strL [120] := item_cons (by omega) hdr'
    refine ⟨⟨.inr (.inr (.inl ⟨h1, by rw [hit]; exact look_none P (by decide +kernel), by rw [hit]; decide +kernel, by rw [hit]; rfl, rfl⟩))⟩, htk, .inr ⟨rfl, h1⟩, hlt⟩
  | digit d h0 h9 hc hk hr =>
    subst hc hk
    have hd9 : d = 0 ∨ d = 1 ∨ d = 2 ∨ d = 3 ∨ d = 4 ∨ d = 5 ∨ d = 6 ∨ d = 7 ∨ d = 8 ∨ d = 9 := ten_cases (h0) h9
    have hn : (digL d ++ R).take 2 ∈ noneL := by
      rcases hr with rfl | ⟨q, r, rfl, hq⟩
      · rcases hd9 with rfl | rfl | rfl | rfl | rfl | rfl | rfl | rfl | rfl | rfl <;> decide +kernel
      · show [48 + d.toNat, q] ∈ noneL
        rcases hd9 with rfl | rfl | rfl | rfl | rfl | rfl | rfl | rfl | rfl | rfl <;> (rcases hq with rfl | rfl | rfl | rfl | rfl | rfl | rfl <;> decide +kernel)
    have h1 : nsIn (kfr.heap_1 P) 85 (Txt.slice text (some (A : Int)) (some ((A : Int) + 2))) = some none := by rw [hsl]; exact look_none P hn
    have hit : Txt.item text (A : Int) = strL (digL d) := item_cons (by omega) hdr'
    have hfs : digL d ∈ noneL ∧ (strL (digL d) == Str.ofString "x") = false ∧ PySem.intText? (strL (digL d)) = some d := by
      rcases hd9 with rfl | rfl | rfl | rfl | rfl | rfl | rfl | rfl | rfl | rfl <;> decide +kernel
    refine ⟨⟨.inr (.inr (.inr ⟨d, h1, by rw [hit]; exact look_none P hfs.1, by rw [hit]; exact hfs.2.1, by rw [hit]; exact hfs.2.2, by rw [hit]; rfl, rfl⟩))⟩, htk, .inr ⟨rfl, h1⟩, hlt⟩
end Mine
end
section
open PySem PySem.W PyProof.Rows PySem.Calls Mine
namespace Mine
section
variable {prog : Program} {w : World} {A A₀ : Around} {s : Shared} {K : Frag} {L : Addr} {h₀ base : Heap} {m mg mb : Str → Option Value} {p : Program} {loose : List Str} {mean : ExcName → Option Value}
  {env : Env} {outer : List Env} {Q : Value → Shared → Prop} {E : Value → Shared → Prop} {name qual : Str} {params : Arguments} {body : List Stmt} {scope : Scope} {dV kV doc pm cdv ct oc : Value} {an od : Option Addr} {osl : Array (Option Value)} {f : Addr} {args : Args} {binds : List (Str × Value)}
theorem enterG (F : Fr h₀ L s.heap m) (X₀ : K.In h₀) (T : Top p loose mean mg mb h₀)
    (ho : K.lookup f = some ⟨oc, od, .func (fnOf name qual params body scope dV kV doc pm an cdv ct), osl⟩) (hcd : codeIn K cdv qual = true) (hroom : A.depth < recursionLimit)
    (hbind : BindsTo s (fnOf name qual params body scope dV kV doc pm an cdv ct) args binds) (hloc : ∀ y ∈ binds, scope.names.lookup y.1 = some .local)
    (h : ∀ (h₁ : Heap) (nm qn : Value), h₁.Ns s.heap.objs.size (fun y => binds.reverse.lookup y) → (∀ b o, s.heap.get? b = some o → h₁.get? b = some o) → h₁.objs.size = s.heap.objs.size + 1 →
      Q (.ref h₁.objs.size) { s with gens := s.gens.push (.fresh (.func body (envOf qual scope s.heap.objs.size f cdv))), toks := s.toks + binds.length + 1 + 1, heap := h₁.push { cls := .type "generator", data := .fields #[.int s.gens.size 0, nm, qn] } })
    (hco : scope.isCoroutine = false) (hgen : scope.isGenerator = true) (hk : scope.kind = .function)
    (hcell : ∀ x ∈ scope.names, x.2 ≠ .cell) : wpAny (model prog w) A (call (.ref f) args.pos args.kw) Q E s := by
  have X := X₀.keeps F.keep
  refine wpAny_call (codeAny_call_generator (fd := fnOf name qual params body scope dV kV doc pm an cdv ct) (body := body) hroom (X _ _ ho) rfl hco hgen rfl (codeRec_of X hcd) (hbind _ _ _ _ ?_))
  refine wpAny_newFunctionEnv hcell hloc (fun h₁ hns hsb => ⟨(T.nolimit.keeps F.keep).fresh _ hsb, ?_⟩) hk
  refine h h₁ _ _ hns (fun b o e => ?_) ?_
  · exact hsb.extBut b o (Nat.ne_of_lt (Heap.lt_size e)) (Heap.get?_push_of_some _ e)
  · rw [hsb.1, Heap.size_push]
end
end Mine
end
open PySem PySem.W PyProof.Rows PySem.Calls Mine
-- <pre1>
local macro_rules | `(tactic| k_room) => `(tactic| ktr_room)
local macro_rules | `(tactic| walk_at "u") => `(tactic| first | omega | (simp only [units_deeper, units_in1, Around.mark_units, units_caller]; omega) | ((try dsimp only [Around.deeper]); omega))
local macro_rules | `(tactic| walk_at "lo") => `(tactic| first | (with_reducible assumption) | omega)
local macro_rules | `(tactic| walk_at "aft") => `(tactic| (intro t9 h9 tk9 k9; rename Fr _ _ _ _ => F9'; rename News _ _ _ _ => N9'; replace F9' := keeps_fr F9' k9; replace N9' := keeps_news N9' k9; clear k9; try k_fold))
local macro_rules | `(tactic| walk_at "call builtin:list.append") => `(tactic| (k_here; (with_reducible show wpAny _ _ (call (Value.builtin _) _) _ _ _); (try dsimp only [List.cons_append, List.nil_append]); k_dflt (refine' append_K (by k_asm) (by k_asm) (by k_upd) ?_ (by rw [sizeLine_eq]; first | omega | (rw [List.size_toArray]; omega)); k_whole); intro h' F' N'))
local macro_rules | `(tactic| walk_at "CompSrc") => `(tactic| (k_here; kcf_src; (try k_fmods); (try kcf_lens); k_dflt (refine LCg.CompSrc.range (by rfl) (by k_asm) (by k_asm) (by assumption) (by first | exact small_one (by kcf_bnd) (by kcf_bnd) (by kcf_bnd) (by kcf_bnd) | decide) (by first | exact rangeSize_nat _ _ | rfl) (by first | exact Nat.le_of_ble_eq_true rfl | (rw [PySem.sizeLine_eq]; omega) | size_fits) ?_; intro g'; (refine' kcf_range _ (fun k' t' I' oI' C' oC' D' m' ys' h' tk' E' hlo' hhi' hC' hx' F' N' off' ne' hMark' => ?_) ?_); kcf_last)))
-- </pre1>
section
open PySem PySem.W PyProof.Rows PySem.Calls Mine
namespace Mine
section
set_option maxRecDepth 100000 in
set_option maxHeartbeats 8000000 in
theorem both_tells {w : World} {mean : ExcName → Option Value} {mg mb : Str → Option Value} {dp un : Nat} {gd : Option (List Code)} {cn : Str} {cs : Scope} {a : Addr} {ccd : Value} {cl : List (Str × Addr)} {outer : List Env} {A₀ : Around} {base h₀ : Heap} {L : Addr} {m : Str → Option Value} {s : Shared} {Q E : Value → Shared → Prop}
   {one two mark : Int} {t1 t2 t3 : Tok}
   (B : Below A₀ base outer h₀) (F : Fr h₀ L s.heap m) (X : (kfr.heap_1 w.params).In h₀) (T : Top hdv (looseW hdv hdl) mean mg mb h₀) (hk : cs.kind = .function) (hd : dp + 2 < recursionLimit) (hu : un + 20 < cLine)
   (h1 : 0 ≤ one) (h2 : 0 ≤ two) (h3 : 0 ≤ mark) (h4 : mark ≤ 220)
   (hret : ∀ t h' tk, Keeps s.heap h' → Q (.int (bothI one two mark) t) { s with heap := h', toks := tk }) :
   wpAny (model PySem.Challenge.rw_xg0046_01.row.prog w) (ktrTop dp un gd cn cs L a ccd cl outer) (call (.ref 127) [.int one t1, .int two t2, .int mark t3]) Q E s := by
  revert X
  k_fill
  intro X
  w_on
  k_dflt (refine' enterC (args := ⟨[.int one t1, .int two t2, .int mark t3], []⟩) B F X T ?kA ?kF ?kK ?k6 ?k7 ?k8 ?k9 ?kB ?kD ?_ ?c2 ?c3 ?c4; (case kA => exact rfl); (case kF => exact rfl); (case kK => exact hk); (case k6 => k_is); (case k7 => k_is); (case k8 => ktr_room); (case k9 => exact BindsTo.of_eq rfl); (case kB => exact rfl); (case kD => decide +kernel); (case c2 => exact rfl); (case c3 => exact rfl); (case c4 => exact rfl); k_whole)
  clear F B T X
  intro L' h' tk' cells' F' N' Y' B' X' T'
  k_cells Y'
  (try simp only [List.cons_append, List.nil_append] at N')
  (try dsimp only)
  (try k_fold)
  k_steps
  exact hret _ _ _ (Fr.keep (by assumption))
end
end Mine
end
section
open PySem PySem.W PyProof.Rows PySem.Calls Mine
namespace Mine
section
local macro_rules | `(tactic| walk_at "binaryOp LShift int int") => `(tactic| (k_here; (refine lshift_int ?kbn ?kbs ?_); (case kbn => omega); (case kbs => (rw [show (2 : Int) ^ 27 = 134217728 from by decide]; omega))))
set_option maxRecDepth 100000 in
set_option maxHeartbeats 8000000 in
theorem and_tells {w : World} {mean : ExcName → Option Value} {mg mb : Str → Option Value} {dp un : Nat} {gd : Option (List Code)} {cn : Str} {cs : Scope} {a : Addr} {ccd : Value} {cl : List (Str × Addr)} {outer : List Env} {A₀ : Around} {base h₀ : Heap} {L : Addr} {m : Str → Option Value} {s : Shared} {Q E : Value → Shared → Prop}
   {a' b : Int} {t1 t2 : Tok}
   (B : Below A₀ base outer h₀) (F : Fr h₀ L s.heap m) (X : (kfr.heap_1 w.params).In h₀) (T : Top hdv (looseW hdv hdl) mean mg mb h₀) (hk : cs.kind = .function) (hd : dp + 3 < recursionLimit) (hu : un + 20 < cLine)
   
   (hret : ∀ t h' tk, Keeps s.heap h' → Q (.int (Builtin.bitAnd a' b) t) { s with heap := h', toks := tk }) :
   wpAny (model PySem.Challenge.rw_xg0046_01.row.prog w) (ktrTop dp un gd cn cs L a ccd cl outer) (call (.ref 28) [.int a' t1, .int b t2]) Q E s := by
  revert X
  k_fill
  intro X
  w_on
  k_dflt (refine' enterP (args := ⟨[.int a' t1, .int b t2], []⟩) B F X T ?kA ?kF ?kK ?k6 ?k7 ?k8 ?k9 ?kB ?_ ?c2 ?c3 ?c4 ?c5; (case kA => exact rfl); (case kF => exact rfl); (case kK => exact hk); (case k6 => k_is); (case k7 => k_is); (case k8 => ktr_room); (case k9 => exact BindsTo.of_eq rfl); (case c5 => decide); (case kB => exact locs rfl); (case c2 => exact rfl); (case c3 => exact rfl); (case c4 => exact rfl); k_whole)
  clear F B T X
  intro L' h' F' N' B' X' T'
  (try dsimp only)
  (try k_fold)
  k_with_none
  repeat' ((fail_if_success (with_reducible show TEnd _ _ _ _ _ _ _ _ _)); (fail_if_success (with_reducible show RetP _ _ _)); (fail_if_success (with_reducible show WhileStep2 _ _ _ _ _ _ _ _)); first | (k_unfold; (try dsimp only)) | walk1 | (dsimp only; walk1) | (leave1; walk_say "STEP leave1"; (try dsimp only)) | fail "no step")
  exact hret _ _ _ (Fr.keep (by assumption))
set_option maxRecDepth 100000 in
set_option maxHeartbeats 8000000 in
theorem or_tells {w : World} {mean : ExcName → Option Value} {mg mb : Str → Option Value} {dp un : Nat} {gd : Option (List Code)} {cn : Str} {cs : Scope} {a : Addr} {ccd : Value} {cl : List (Str × Addr)} {outer : List Env} {A₀ : Around} {base h₀ : Heap} {L : Addr} {m : Str → Option Value} {s : Shared} {Q E : Value → Shared → Prop}
   {a' b : Int} {t1 t2 : Tok}
   (B : Below A₀ base outer h₀) (F : Fr h₀ L s.heap m) (X : (kfr.heap_1 w.params).In h₀) (T : Top hdv (looseW hdv hdl) mean mg mb h₀) (hk : cs.kind = .function) (hd : dp + 3 < recursionLimit) (hu : un + 20 < cLine)
   
   (hret : ∀ t h' tk, Keeps s.heap h' → Q (.int (Builtin.bitOr a' b) t) { s with heap := h', toks := tk }) :
   wpAny (model PySem.Challenge.rw_xg0046_01.row.prog w) (ktrTop dp un gd cn cs L a ccd cl outer) (call (.ref 56) [.int a' t1, .int b t2]) Q E s := by
  revert X
  k_fill
  intro X
  w_on
  k_dflt (refine' enterP (args := ⟨[.int a' t1, .int b t2], []⟩) B F X T ?kA ?kF ?kK ?k6 ?k7 ?k8 ?k9 ?kB ?_ ?c2 ?c3 ?c4 ?c5; (case kA => exact rfl); (case kF => exact rfl); (case kK => exact hk); (case k6 => k_is); (case k7 => k_is); (case k8 => ktr_room); (case k9 => exact BindsTo.of_eq rfl); (case c5 => decide); (case kB => exact locs rfl); (case c2 => exact rfl); (case c3 => exact rfl); (case c4 => exact rfl); k_whole)
  clear F B T X
  intro L' h' F' N' B' X' T'
  (try dsimp only)
  (try k_fold)
  k_with_none
  repeat' ((fail_if_success (with_reducible show TEnd _ _ _ _ _ _ _ _ _)); (fail_if_success (with_reducible show RetP _ _ _)); (fail_if_success (with_reducible show WhileStep2 _ _ _ _ _ _ _ _)); first | (k_unfold; (try dsimp only)) | walk1 | (dsimp only; walk1) | (leave1; walk_say "STEP leave1"; (try dsimp only)) | fail "no step")
  exact hret _ _ _ (Fr.keep (by assumption))
set_option maxRecDepth 100000 in
set_option maxHeartbeats 8000000 in
theorem xor_tells {w : World} {mean : ExcName → Option Value} {mg mb : Str → Option Value} {dp un : Nat} {gd : Option (List Code)} {cn : Str} {cs : Scope} {a : Addr} {ccd : Value} {cl : List (Str × Addr)} {outer : List Env} {A₀ : Around} {base h₀ : Heap} {L : Addr} {m : Str → Option Value} {s : Shared} {Q E : Value → Shared → Prop}
   {a' b : Int} {t1 t2 : Tok}
   (B : Below A₀ base outer h₀) (F : Fr h₀ L s.heap m) (X : (kfr.heap_1 w.params).In h₀) (T : Top hdv (looseW hdv hdl) mean mg mb h₀) (hk : cs.kind = .function) (hd : dp + 3 < recursionLimit) (hu : un + 20 < cLine)
   
   (hret : ∀ t h' tk, Keeps s.heap h' → Q (.int (Builtin.bitXor a' b) t) { s with heap := h', toks := tk }) :
   wpAny (model PySem.Challenge.rw_xg0046_01.row.prog w) (ktrTop dp un gd cn cs L a ccd cl outer) (call (.ref 77) [.int a' t1, .int b t2]) Q E s := by
  revert X
  k_fill
  intro X
  w_on
  k_dflt (refine' enterP (args := ⟨[.int a' t1, .int b t2], []⟩) B F X T ?kA ?kF ?kK ?k6 ?k7 ?k8 ?k9 ?kB ?_ ?c2 ?c3 ?c4 ?c5; (case kA => exact rfl); (case kF => exact rfl); (case kK => exact hk); (case k6 => k_is); (case k7 => k_is); (case k8 => ktr_room); (case k9 => exact BindsTo.of_eq rfl); (case c5 => decide); (case kB => exact locs rfl); (case c2 => exact rfl); (case c3 => exact rfl); (case c4 => exact rfl); k_whole)
  clear F B T X
  intro L' h' F' N' B' X' T'
  (try dsimp only)
  (try k_fold)
  k_with_none
  repeat' ((fail_if_success (with_reducible show TEnd _ _ _ _ _ _ _ _ _)); (fail_if_success (with_reducible show RetP _ _ _)); (fail_if_success (with_reducible show WhileStep2 _ _ _ _ _ _ _ _)); first | (k_unfold; (try dsimp only)) | walk1 | (dsimp only; walk1) | (leave1; walk_say "STEP leave1"; (try dsimp only)) | fail "no step")
  exact hret _ _ _ (Fr.keep (by assumption))
set_option maxRecDepth 100000 in
set_option maxHeartbeats 8000000 in
theorem mod_tells {w : World} {mean : ExcName → Option Value} {mg mb : Str → Option Value} {dp un : Nat} {gd : Option (List Code)} {cn : Str} {cs : Scope} {a : Addr} {ccd : Value} {cl : List (Str × Addr)} {outer : List Env} {A₀ : Around} {base h₀ : Heap} {L : Addr} {m : Str → Option Value} {s : Shared} {Q E : Value → Shared → Prop}
   {a' b : Int} {t1 t2 : Tok}
   (B : Below A₀ base outer h₀) (F : Fr h₀ L s.heap m) (X : (kfr.heap_1 w.params).In h₀) (T : Top hdv (looseW hdv hdl) mean mg mb h₀) (hk : cs.kind = .function) (hd : dp + 3 < recursionLimit) (hu : un + 20 < cLine)
   (hb : 0 < b)
   (hret : ∀ t h' tk, Keeps s.heap h' → Q (.int (a'.fmod b) t) { s with heap := h', toks := tk }) :
   wpAny (model PySem.Challenge.rw_xg0046_01.row.prog w) (ktrTop dp un gd cn cs L a ccd cl outer) (call (.ref 42) [.int a' t1, .int b t2]) Q E s := by
  revert X
  k_fill
  intro X
  w_on
  k_dflt (refine' enterP (args := ⟨[.int a' t1, .int b t2], []⟩) B F X T ?kA ?kF ?kK ?k6 ?k7 ?k8 ?k9 ?kB ?_ ?c2 ?c3 ?c4 ?c5; (case kA => exact rfl); (case kF => exact rfl); (case kK => exact hk); (case k6 => k_is); (case k7 => k_is); (case k8 => ktr_room); (case k9 => exact BindsTo.of_eq rfl); (case c5 => decide); (case kB => exact locs rfl); (case c2 => exact rfl); (case c3 => exact rfl); (case c4 => exact rfl); k_whole)
  clear F B T X
  intro L' h' F' N' B' X' T'
  (try dsimp only)
  (try k_fold)
  k_with_none
  repeat' ((fail_if_success (with_reducible show TEnd _ _ _ _ _ _ _ _ _)); (fail_if_success (with_reducible show RetP _ _ _)); (fail_if_success (with_reducible show WhileStep2 _ _ _ _ _ _ _ _)); first | (k_unfold; (try dsimp only)) | walk1 | (dsimp only; walk1) | (leave1; walk_say "STEP leave1"; (try dsimp only)) | fail "no step")
  exact hret _ _ _ (Fr.keep (by assumption))
set_option maxRecDepth 100000 in
set_option maxHeartbeats 8000000 in
theorem rshift_tells {w : World} {mean : ExcName → Option Value} {mg mb : Str → Option Value} {dp un : Nat} {gd : Option (List Code)} {cn : Str} {cs : Scope} {a : Addr} {ccd : Value} {cl : List (Str × Addr)} {outer : List Env} {A₀ : Around} {base h₀ : Heap} {L : Addr} {m : Str → Option Value} {s : Shared} {Q E : Value → Shared → Prop}
   {a' b : Int} {t1 t2 : Tok}
   (B : Below A₀ base outer h₀) (F : Fr h₀ L s.heap m) (X : (kfr.heap_1 w.params).In h₀) (T : Top hdv (looseW hdv hdl) mean mg mb h₀) (hk : cs.kind = .function) (hd : dp + 3 < recursionLimit) (hu : un + 20 < cLine)
   (hb0 : 0 ≤ b)
   (hret : ∀ t h' tk, Keeps s.heap h' → Q (.int (a'.fdiv (2 ^ b.toNat)) t) { s with heap := h', toks := tk }) :
   wpAny (model PySem.Challenge.rw_xg0046_01.row.prog w) (ktrTop dp un gd cn cs L a ccd cl outer) (call (.ref 63) [.int a' t1, .int b t2]) Q E s := by
  revert X
  k_fill
  intro X
  w_on
  k_dflt (refine' enterP (args := ⟨[.int a' t1, .int b t2], []⟩) B F X T ?kA ?kF ?kK ?k6 ?k7 ?k8 ?k9 ?kB ?_ ?c2 ?c3 ?c4 ?c5; (case kA => exact rfl); (case kF => exact rfl); (case kK => exact hk); (case k6 => k_is); (case k7 => k_is); (case k8 => ktr_room); (case k9 => exact BindsTo.of_eq rfl); (case c5 => decide); (case kB => exact locs rfl); (case c2 => exact rfl); (case c3 => exact rfl); (case c4 => exact rfl); k_whole)
  clear F B T X
  intro L' h' F' N' B' X' T'
  (try dsimp only)
  (try k_fold)
  k_with_none
  repeat' ((fail_if_success (with_reducible show TEnd _ _ _ _ _ _ _ _ _)); (fail_if_success (with_reducible show RetP _ _ _)); (fail_if_success (with_reducible show WhileStep2 _ _ _ _ _ _ _ _)); first | (k_unfold; (try dsimp only)) | walk1 | (dsimp only; walk1) | (leave1; walk_say "STEP leave1"; (try dsimp only)) | fail "no step")
  exact hret _ _ _ (Fr.keep (by assumption))
set_option maxRecDepth 100000 in
set_option maxHeartbeats 8000000 in
theorem lshift_tells {w : World} {mean : ExcName → Option Value} {mg mb : Str → Option Value} {dp un : Nat} {gd : Option (List Code)} {cn : Str} {cs : Scope} {a : Addr} {ccd : Value} {cl : List (Str × Addr)} {outer : List Env} {A₀ : Around} {base h₀ : Heap} {L : Addr} {m : Str → Option Value} {s : Shared} {Q E : Value → Shared → Prop}
   {a' b : Int} {t1 t2 : Tok}
   (B : Below A₀ base outer h₀) (F : Fr h₀ L s.heap m) (X : (kfr.heap_1 w.params).In h₀) (T : Top hdv (looseW hdv hdl) mean mg mb h₀) (hk : cs.kind = .function) (hd : dp + 3 < recursionLimit) (hu : un + 20 < cLine)
   (hab : Builtin.Int.intBits a' ≤ 1000000) (hb0 : 0 ≤ b) (hb1 : b < 64)
   (hret : ∀ t h' tk, Keeps s.heap h' → Q (.int (a' * 2 ^ b.toNat) t) { s with heap := h', toks := tk }) :
   wpAny (model PySem.Challenge.rw_xg0046_01.row.prog w) (ktrTop dp un gd cn cs L a ccd cl outer) (call (.ref 35) [.int a' t1, .int b t2]) Q E s := by
  revert X
  k_fill
  intro X
  w_on
  k_dflt (refine' enterP (args := ⟨[.int a' t1, .int b t2], []⟩) B F X T ?kA ?kF ?kK ?k6 ?k7 ?k8 ?k9 ?kB ?_ ?c2 ?c3 ?c4 ?c5; (case kA => exact rfl); (case kF => exact rfl); (case kK => exact hk); (case k6 => k_is); (case k7 => k_is); (case k8 => ktr_room); (case k9 => exact BindsTo.of_eq rfl); (case c5 => decide); (case kB => exact locs rfl); (case c2 => exact rfl); (case c3 => exact rfl); (case c4 => exact rfl); k_whole)
  clear F B T X
  intro L' h' F' N' B' X' T'
  (try dsimp only)
  (try k_fold)
  k_with_none
  repeat' ((fail_if_success (with_reducible show TEnd _ _ _ _ _ _ _ _ _)); (fail_if_success (with_reducible show RetP _ _ _)); (fail_if_success (with_reducible show WhileStep2 _ _ _ _ _ _ _ _)); first | (k_unfold; (try dsimp only)) | walk1 | (dsimp only; walk1) | (leave1; walk_say "STEP leave1"; (try dsimp only)) | fail "no step")
  exact hret _ _ _ (Fr.keep (by assumption))
set_option maxRecDepth 100000 in
set_option maxHeartbeats 8000000 in
theorem add_tells {w : World} {mean : ExcName → Option Value} {mg mb : Str → Option Value} {dp un : Nat} {gd : Option (List Code)} {cn : Str} {cs : Scope} {a : Addr} {ccd : Value} {cl : List (Str × Addr)} {outer : List Env} {A₀ : Around} {base h₀ : Heap} {L : Addr} {m : Str → Option Value} {s : Shared} {Q E : Value → Shared → Prop}
   {a' b : Int} {t1 t2 : Tok}
   (B : Below A₀ base outer h₀) (F : Fr h₀ L s.heap m) (X : (kfr.heap_1 w.params).In h₀) (T : Top hdv (looseW hdv hdl) mean mg mb h₀) (hk : cs.kind = .function) (hd : dp + 3 < recursionLimit) (hu : un + 20 < cLine)
   
   (hret : ∀ t h' tk, Keeps s.heap h' → Q (.int (a' + b) t) { s with heap := h', toks := tk }) :
   wpAny (model PySem.Challenge.rw_xg0046_01.row.prog w) (ktrTop dp un gd cn cs L a ccd cl outer) (call (.ref 21) [.int a' t1, .int b t2]) Q E s := by
  revert X
  k_fill
  intro X
  w_on
  k_dflt (refine' enterP (args := ⟨[.int a' t1, .int b t2], []⟩) B F X T ?kA ?kF ?kK ?k6 ?k7 ?k8 ?k9 ?kB ?_ ?c2 ?c3 ?c4 ?c5; (case kA => exact rfl); (case kF => exact rfl); (case kK => exact hk); (case k6 => k_is); (case k7 => k_is); (case k8 => ktr_room); (case k9 => exact BindsTo.of_eq rfl); (case c5 => decide); (case kB => exact locs rfl); (case c2 => exact rfl); (case c3 => exact rfl); (case c4 => exact rfl); k_whole)
  clear F B T X
  intro L' h' F' N' B' X' T'
  (try dsimp only)
  (try k_fold)
  k_with_none
  repeat' ((fail_if_success (with_reducible show TEnd _ _ _ _ _ _ _ _ _)); (fail_if_success (with_reducible show RetP _ _ _)); (fail_if_success (with_reducible show WhileStep2 _ _ _ _ _ _ _ _)); first | (k_unfold; (try dsimp only)) | walk1 | (dsimp only; walk1) | (leave1; walk_say "STEP leave1"; (try dsimp only)) | fail "no step")
  exact hret _ _ _ (Fr.keep (by assumption))
set_option maxRecDepth 100000 in
set_option maxHeartbeats 8000000 in
theorem sub_tells {w : World} {mean : ExcName → Option Value} {mg mb : Str → Option Value} {dp un : Nat} {gd : Option (List Code)} {cn : Str} {cs : Scope} {a : Addr} {ccd : Value} {cl : List (Str × Addr)} {outer : List Env} {A₀ : Around} {base h₀ : Heap} {L : Addr} {m : Str → Option Value} {s : Shared} {Q E : Value → Shared → Prop}
   {a' b : Int} {t1 t2 : Tok}
   (B : Below A₀ base outer h₀) (F : Fr h₀ L s.heap m) (X : (kfr.heap_1 w.params).In h₀) (T : Top hdv (looseW hdv hdl) mean mg mb h₀) (hk : cs.kind = .function) (hd : dp + 3 < recursionLimit) (hu : un + 20 < cLine)
   
   (hret : ∀ t h' tk, Keeps s.heap h' → Q (.int (a' - b) t) { s with heap := h', toks := tk }) :
   wpAny (model PySem.Challenge.rw_xg0046_01.row.prog w) (ktrTop dp un gd cn cs L a ccd cl outer) (call (.ref 70) [.int a' t1, .int b t2]) Q E s := by
  revert X
  k_fill
  intro X
  w_on
  k_dflt (refine' enterP (args := ⟨[.int a' t1, .int b t2], []⟩) B F X T ?kA ?kF ?kK ?k6 ?k7 ?k8 ?k9 ?kB ?_ ?c2 ?c3 ?c4 ?c5; (case kA => exact rfl); (case kF => exact rfl); (case kK => exact hk); (case k6 => k_is); (case k7 => k_is); (case k8 => ktr_room); (case k9 => exact BindsTo.of_eq rfl); (case c5 => decide); (case kB => exact locs rfl); (case c2 => exact rfl); (case c3 => exact rfl); (case c4 => exact rfl); k_whole)
  clear F B T X
  intro L' h' F' N' B' X' T'
  (try dsimp only)
  (try k_fold)
  k_with_none
  repeat' ((fail_if_success (with_reducible show TEnd _ _ _ _ _ _ _ _ _)); (fail_if_success (with_reducible show RetP _ _ _)); (fail_if_success (with_reducible show WhileStep2 _ _ _ _ _ _ _ _)); first | (k_unfold; (try dsimp only)) | walk1 | (dsimp only; walk1) | (leave1; walk_say "STEP leave1"; (try dsimp only)) | fail "no step")
  exact hret _ _ _ (Fr.keep (by assumption))
set_option maxRecDepth 100000 in
set_option maxHeartbeats 8000000 in
theorem mul_tells {w : World} {mean : ExcName → Option Value} {mg mb : Str → Option Value} {dp un : Nat} {gd : Option (List Code)} {cn : Str} {cs : Scope} {a : Addr} {ccd : Value} {cl : List (Str × Addr)} {outer : List Env} {A₀ : Around} {base h₀ : Heap} {L : Addr} {m : Str → Option Value} {s : Shared} {Q E : Value → Shared → Prop}
   {a' b : Int} {t1 t2 : Tok}
   (B : Below A₀ base outer h₀) (F : Fr h₀ L s.heap m) (X : (kfr.heap_1 w.params).In h₀) (T : Top hdv (looseW hdv hdl) mean mg mb h₀) (hk : cs.kind = .function) (hd : dp + 3 < recursionLimit) (hu : un + 20 < cLine)
   (hab : Builtin.Int.intBits a' ≤ 1000000) (hbb : Builtin.Int.intBits b ≤ 64)
   (hret : ∀ t h' tk, Keeps s.heap h' → Q (.int (a' * b) t) { s with heap := h', toks := tk }) :
   wpAny (model PySem.Challenge.rw_xg0046_01.row.prog w) (ktrTop dp un gd cn cs L a ccd cl outer) (call (.ref 49) [.int a' t1, .int b t2]) Q E s := by
  revert X
  k_fill
  intro X
  w_on
  k_dflt (refine' enterP (args := ⟨[.int a' t1, .int b t2], []⟩) B F X T ?kA ?kF ?kK ?k6 ?k7 ?k8 ?k9 ?kB ?_ ?c2 ?c3 ?c4 ?c5; (case kA => exact rfl); (case kF => exact rfl); (case kK => exact hk); (case k6 => k_is); (case k7 => k_is); (case k8 => ktr_room); (case k9 => exact BindsTo.of_eq rfl); (case c5 => decide); (case kB => exact locs rfl); (case c2 => exact rfl); (case c3 => exact rfl); (case c4 => exact rfl); k_whole)
  clear F B T X
  intro L' h' F' N' B' X' T'
  (try dsimp only)
  (try k_fold)
  k_with_none
  repeat' ((fail_if_success (with_reducible show TEnd _ _ _ _ _ _ _ _ _)); (fail_if_success (with_reducible show RetP _ _ _)); (fail_if_success (with_reducible show WhileStep2 _ _ _ _ _ _ _ _)); first | (k_unfold; (try dsimp only)) | walk1 | (dsimp only; walk1) | (leave1; walk_say "STEP leave1"; (try dsimp only)) | fail "no step")
  exact hret _ _ _ (Fr.keep (by assumption))
end
end Mine
end
section
open PySem PySem.W PyProof.Rows PySem.Calls Mine
namespace Mine
theorem st_end {its : List It} {x w : Int} {f : Nat} (h : St its x (rowOf its) w f) : False := by
  rcases h with ⟨h, _⟩ | ⟨k, hk, h, _⟩ | ⟨k, i, hi, h, _⟩
  · simp [rowOf] at h
  · simp only [rowOf, List.cons.injEq, true_and] at h
    have e : enc its = enc (its.take k) ++ enc (its.drop k) := by rw [← enc_append, List.take_append_drop]
    rw [e, List.append_assoc] at h
    have h' := congrArg List.length h
    simp at h'
  · simp only [rowOf, List.cons.injEq, true_and] at h
    rw [enc_split hi, List.append_assoc] at h
    have := List.append_cancel_left h
    simp at this
theorem kind_bnd {i : It} (h : i.Ok) {n : Int} (hn : n = kindOf i.op) : 14 ≤ n ∧ n ≤ 33 := by
  obtain ⟨op, b, k⟩ := i
  subst hn
  have h7 : op < 7 := h.1
  rcases op with _|_|_|_|_|_|_|op
  iterate 7 (dsimp only [kindOf]; exact ⟨by decide, by decide⟩)
  exact absurd h7 (Nat.not_lt.mpr (Nat.le_add_left 7 op))
theorem deed_at {i : It} (h : i.Ok) {n : Int} (hn : n = kindOf i.op) : valueAt [((14:Int), Value.ref 21), (15, .ref 70), (16, .ref 49), (19, .ref 28), (18, .ref 56), (32, .ref 77), (33, .ref 35)] n = some (.ref (addrOf i.op)) := by
  obtain ⟨op, b, k⟩ := i
  subst hn
  have h7 : op < 7 := h.1
  rcases op with _|_|_|_|_|_|_|op
  iterate 7 rfl
  exact absurd h7 (Nat.not_lt.mpr (Nat.le_add_left 7 op))
theorem keep_addr (P : Params) (op : Nat) : keepIn (kfr.heap_1 P) (.ref (addrOf op)) = true := by
  rcases op with _|_|_|_|_|_|op <;> rfl
theorem deed_tells {w : World} {mean : ExcName → Option Value} {mg mb : Str → Option Value} {dp un : Nat} {gd : Option (List Code)} {cn : Str} {cs : Scope} {a : Addr} {ccd : Value} {cl : List (Str × Addr)} {outer : List Env} {A₀ : Around} {base h₀ : Heap} {L : Addr} {m : Str → Option Value} {s : Shared} {Q E : Value → Shared → Prop}
   {op f : Nat} {wo v : Int} {t1 t2 : Tok}
   (B : Below A₀ base outer h₀) (F : Fr h₀ L s.heap m) (X : (kfr.heap_1 w.params).In h₀) (T : Top hdv (looseW hdv hdl) mean mg mb h₀) (hk : cs.kind = .function) (hd : dp + 3 < recursionLimit) (hu : un + 20 < cLine)
   (hf9 : f = addrOf op) (hop : op < 7) (hwb : Builtin.Int.intBits wo ≤ 1000000) (hvb : Builtin.Int.intBits v ≤ 64) (hsh : op = 6 → 0 ≤ v ∧ v < 64)
   (hret : ∀ t h' tk, Keeps s.heap h' → Q (.int (opI op wo v) t) { s with heap := h', toks := tk }) :
   wpAny (model PySem.Challenge.rw_xg0046_01.row.prog w) (ktrTop dp un gd cn cs L a ccd cl outer) (call (.ref f) [.int wo t1, .int v t2]) Q E s := by
  subst hf9
  have hop' : op = 0 ∨ op = 1 ∨ op = 2 ∨ op = 3 ∨ op = 4 ∨ op = 5 ∨ op = 6 := seven_cases _ (by first | assumption | omega)
  rcases hop' with rfl | rfl | rfl | rfl | rfl | rfl | rfl
  · exact add_tells B F X T hk hd hu hret
  · exact sub_tells B F X T hk hd hu hret
  · exact mul_tells B F X T hk hd hu hwb hvb hret
  · exact and_tells B F X T hk hd hu hret
  · exact or_tells B F X T hk hd hu hret
  · exact xor_tells B F X T hk hd hu hret
  · exact lshift_tells B F X T hk hd hu hwb (hsh rfl).1 (hsh rfl).2 hret
theorem reck_next {its : List It} {x : Int} {pre post : List Int} {n w : Int} {f : Nat} (hok : ∀ i ∈ its, i.Ok) (hlen : its.length ≤ 7) (hx : x.natAbs < 2 ^ 41) (hP : St its x pre w f) (hns : rowOf its = pre ++ n :: post) :
    (∃ op V, f = addrOf op ∧ op < 7 ∧ 256 ≤ n ∧ (n = 256 → V = x) ∧ (n ≠ 256 → V = n - (256 + 1)) ∧ Builtin.Int.intBits w ≤ 1000000 ∧ Builtin.Int.intBits V ≤ 64 ∧ (op = 6 → 0 ≤ V ∧ V < 64) ∧ ∀ f', St its x (pre ++ [n]) (opI op w V) f') ∨
    (n = 0 ∧ w = reck its x) ∨ (∃ i : It, i.Ok ∧ n = kindOf i.op ∧ St its x (pre ++ [n]) w (addrOf i.op)) := by
  have hxb : Builtin.Int.intBits x ≤ 64 := intBits_le (Nat.lt_trans hx (by decide))
  rcases st_next hP hns with ⟨hn, hw, hf, hS⟩ | h | ⟨i, hi9, hn, hS⟩ | ⟨k, i, hi9, hf, hn, hw, hS⟩
  · refine .inl ⟨0, x, hf, by decide, by omega, fun _ => rfl, fun e => absurd hn e, by rw [hw]; decide, hxb, fun e => (by cases e), fun f' => ?_⟩
    rw [hw]
    show St its x _ (0 + x) f'
    rw [Int.zero_add]
    exact hS f'
  · exact .inr (.inl h)
  · exact .inr (.inr ⟨i, hok i hi9, hn, hS⟩)
  · obtain ⟨hop, hsh, hdg⟩ := hok i (List.mem_of_getElem? hi9)
    have hwb : Builtin.Int.intBits w ≤ 1000000 := by rw [hw]; exact reck_bits hok hlen hx k
    left
    obtain ⟨op, b, d⟩ := i
    simp only at hop hsh hdg
    refine ⟨op, It.val ⟨op, b, d⟩ x, hf, hop, ?_⟩
    cases b
    · obtain ⟨hd0, hd1⟩ := hdg rfl
      have e : n = 257 + d := hn
      have hdb : Builtin.Int.intBits d ≤ 64 := intBits_le (by omega)
      exact ⟨by omega, fun h => absurd h (by omega), fun _ => (show d = _ by omega), hwb, hdb, fun _ => (show 0 ≤ d ∧ d < 64 from ⟨hd0, by omega⟩), hS⟩
    · have e : n = 256 := hn
      exact ⟨by omega, fun _ => rfl, fun h => absurd e h, hwb, hxb, fun h => (by cases (hsh h).1), hS⟩
section
local macro_rules | `(tactic| walk_at "subscriptTail") => `(tactic| (k_here; (with_reducible show wpAny _ _ (subscriptTail _ _ (Value.ref _) (Value.int _ _)) _ _ _); refine kda_item (knd := PySem.intKind _ _) (by k_asm) (by k_mem) (by k_asm) (intKind_is _ _ _ _) (deed_at (by assumption) (by assumption)) ?_))
local macro_rules | `(tactic| walk_at "eval Dict") => `(tactic| (k_here; k_dflt (refine' kdn_eval (knd := PySem.intKind _ _) (by k_asm) (by first | k_asm | exact News.nil) (Top.nolimit (by k_asm)) (by rfl) (by rfl) (List.cons_ne_nil _ _) (Nat.le_of_ble_eq_true rfl) ?_); intro d' h' o' F' N' l1 lo' hd'; (try k_lt l1)))
local macro_rules | `(tactic| walk_at "callWith ref") => `(tactic| (k_here; k_dflt (refine' callWith_K (by k_asm) (by with_reducible assumption) ?_; k_whole)))
local macro_rules | `(tactic| walk_at "call ref") => `(tactic| (k_here; (with_reducible show wpAny _ _ (call (Value.ref _) [Value.int _ _, Value.int _ _]) _ _ _); k_dflt (refine' deed_tells ?kB ?kF ?kX ?kT ?kk ?kd ?ku ?kf ?k1 ?k2 ?k3 ?k4 ?_; (case kf => with_reducible assumption); (case kB => k_asm); (case kF => k_asm); (case kX => k_asm); (case kT => k_asm); (case kk => exact rfl); (case kd => ktr_room); (case ku => walk_at "u"); (case k1 => assumption); (case k2 => assumption); (case k3 => assumption); (case k4 => assumption)); walk_at "aft"))
set_option maxRecDepth 100000 in
set_option maxHeartbeats 8000000 in
theorem reck_tells {w : World} {mean : ExcName → Option Value} {mg mb : Str → Option Value} {dp un : Nat} {gd : Option (List Code)} {cn : Str} {cs : Scope} {a : Addr} {ccd : Value} {cl : List (Str × Addr)} {outer : List Env} {A₀ : Around} {base h₀ : Heap} {L : Addr} {m : Str → Option Value} {s : Shared} {Q E : Value → Shared → Prop}
   {x : Int} {t1 : Tok} {l : Addr} {vs : List Value} {its : List It}
   (B : Below A₀ base outer h₀) (F : Fr h₀ L s.heap m) (X : (kfr.heap_1 w.params).In h₀) (T : Top hdv (looseW hdv hdl) mean mg mb h₀) (hk : cs.kind = .function) (hd : dp + 4 < recursionLimit) (hu : un + 30 < cLine)
   (hl : s.heap.IsList l vs.toArray) (hi : IntsAre vs (rowOf its)) (hok : ∀ i ∈ its, i.Ok) (hlen : its.length ≤ 7) (hx : x.natAbs < 2 ^ 41)
   (hret : ∀ t h' tk, Keeps s.heap h' → Q (.int (reck its x) t) { s with heap := h', toks := tk }) :
   wpAny (model PySem.Challenge.rw_xg0046_01.row.prog w) (ktrTop dp un gd cn cs L a ccd cl outer) (call (.ref 122) [.ref l, .int x t1]) Q E s := by
  revert X
  k_fill
  intro X
  w_on
  k_dflt (refine' enterP (args := ⟨[.ref l, .int x t1], []⟩) B F X T ?kA ?kF ?kK ?k6 ?k7 ?k8 ?k9 ?kB ?_ ?c2 ?c3 ?c4 ?c5; (case kA => exact rfl); (case kF => exact rfl); (case kK => exact hk); (case k6 => k_is); (case k7 => k_is); (case k8 => ktr_room); (case k9 => exact BindsTo.of_eq rfl); (case c5 => decide); (case kB => exact locs rfl); (case c2 => exact rfl); (case c3 => exact rfl); (case c4 => exact rfl); k_whole)
  clear F B T X
  intro L' h' F' N' B' X' T'
  (try dsimp only)
  (try k_fold)
  k_with_none
  repeat' ((fail_if_success (with_reducible show wpAny _ _ (pyIter (Value.ref _)) _ _ _)); first | (k_unfold; (try dsimp only)) | (k_end; kc_close) | walk1 | (dsimp only; walk1) | (leave1; walk_say "STEP leave1"; (try dsimp only)) | fail "no step")
  k_with "state" => first | exact hS _ | exact hS
  (rename Fr _ _ _ _ => lF'); (rename News _ _ _ _ => lN')
  (with_unfolding_all refine' kst_list (σ := Int × Tok × Nat) (fun _ => _) (fun c => [(Str.ofString "worth", Value.int c.1 c.2.1), (Str.ofString "deed", Value.ref c.2.2)]) (fun _ => True) [] (fun pre c => St its x pre c.1 c.2.2) (0, _, 21) (by rfl) (by assumption) (by assumption) lF' lN' trivial ?kk ?kp ?kt ?kd)
  (case kk => kst_all)
  (case kp => exact .inl ⟨rfl, rfl, rfl⟩)
  (case kd =>
    clear lF' lN'
    intro c u h tk _ hP F9 N9
    exact (st_end hP).elim)
  clear lF' lN'
  intro c pre post n t u h tk own hns hmem hoff _ hP F9 N9
  obtain ⟨wo, tw, fd⟩ := c
  dsimp only [kstB] at F9 N9 hP
  simp only [List.cons_append, List.nil_append] at N9
  have kMark := kstMark
  clear hmem
  rcases reck_next hok hlen hx hP hns with ⟨op, V, hf, hop, hn9, hV1, hV2, hwb, hvb, hsh, hS⟩ | ⟨hn, hw⟩ | ⟨i, hok9, hn, hS⟩
  · clear hP hns
    have hkeep := keep_addr w.params op
    rw [← hf] at hkeep
    (try k_fold)
    repeat' ((fail_if_success (with_reducible show wpAny _ _ (eval (PySem.Expr.IfExp _ _ _ _) _) _ _ _)); first | (k_unfold; (try dsimp only)) | (k_end; kc_close) | walk1 | (dsimp only; walk1) | (leave1; walk_say "STEP leave1"; (try dsimp only)) | fail "no step")
    all_goals (first | (exfalso; omega) | skip)
    refine join_fr (fun t => Value.int V t) (by k_asm) (by k_asm) ?_ ?_
    · intro Q' hQ'
      (try k_fold)
      k_steps
      · obtain rfl := hV1 ‹_›
        exact hQ' _ _ _ (by assumption) (by assumption)
      · rw [← hV2 ‹_›]
        exact hQ' _ _ _ (by assumption) (by assumption)
    · intro tV hV9 tkV FV NV
      (try dsimp only)
      k_steps
  · subst hn hw
    clear hP
    (try k_fold)
    k_steps
    exact hret _ _ _ (Fr.keep (by assumption))
  · clear hP
    obtain ⟨hb9, hb9'⟩ := kind_bnd hok9 hn
    (try k_fold)
    k_steps
    all_goals (exfalso; omega)
end
end Mine
end
section
open PySem PySem.W PyProof.Rows PySem.Calls Mine
namespace Mine
theorem digOf_facts {d : Int} (h0 : 0 ≤ d) (h9 : d ≤ 9) : PySem.intText? (digOf d) = some d ∧ (digOf d).length ≤ 640 ∧ (digOf d == Str.ofString "x") = false := by
  have : d = 0 ∨ d = 1 ∨ d = 2 ∨ d = 3 ∨ d = 4 ∨ d = 5 ∨ d = 6 ∨ d = 7 ∨ d = 8 ∨ d = 9 := ten_cases (h0) h9
  rcases this with rfl | rfl | rfl | rfl | rfl | rfl | rfl | rfl | rfl | rfl <;> decide +kernel
theorem fmod_small {a mk : Int} (hm : mk ≤ 220) : (a.fmod (2 ^ mk.toNat)).natAbs < 2 ^ 250 := by
  have h := fmod_pow_rng a mk.toNat
  have h2 : ((2 ^ mk.toNat : Nat) : Int) = (2 : Int) ^ mk.toNat := by simp
  have h3 := Nat.pow_le_pow_right (n := 2) (by decide) (show mk.toNat ≤ 249 by omega)
  have h4 : 2 ^ 249 < 2 ^ 250 := by decide
  omega
theorem rng_small {a mk : Int} (hm : mk ≤ 220) (h : 0 ≤ a ∧ a < 2 ^ mk.toNat) : a.natAbs < 2 ^ 250 := by
  have h2 : ((2 ^ mk.toNat : Nat) : Int) = (2 : Int) ^ mk.toNat := by simp
  have h3 := Nat.pow_le_pow_right (n := 2) (by decide) (show mk.toNat ≤ 249 by omega)
  have h4 : 2 ^ 249 < 2 ^ 250 := by decide
  omega
theorem shift_small {d : Int} (h : d = 1 ∨ d = 2) : ((2 : Int) ^ d.toNat).natAbs < 2 ^ 250 := by
  rcases h with rfl | rfl <;> decide
theorem mulOk_of {a b : Int} (ha : a.natAbs < 2 ^ 250) (hb : b.natAbs < 2 ^ 250) : IntMulOk a b := IntMulOk.of_bits (Nat.le_trans (intBits_le ha) (by decide)) (Nat.le_trans (intBits_le hb) (by decide))
theorem op_of : ∀ op : Nat, op < 7 → ((signOf op == Str.ofString "+") = true → op = 0) ∧ ((signOf op == Str.ofString "-") = true → op = 1) ∧ ((signOf op == Str.ofString "*") = true → op = 2) ∧ ((signOf op == Str.ofString "&") = true → op = 3) ∧ ((signOf op == Str.ofString "|") = true → op = 4) ∧ ((signOf op == Str.ofString "^") = true → op = 5) ∧
    ((signOf op == Str.ofString "+") = false → (signOf op == Str.ofString "-") = false → (signOf op == Str.ofString "*") = false → (signOf op == Str.ofString "&") = false → (signOf op == Str.ofString "|") = false → (signOf op == Str.ofString "^") = false → op = 6) := by
  intro op h
  rcases op with _|_|_|_|_|_|_|op
  iterate 7 (decide +kernel)
  exact absurd h (Nat.not_lt.mpr (Nat.le_add_left 7 op))
section
local macro_rules | `(tactic| walk_at "nn") => `(tactic| first | assumption | exact And.left (by assumption) | exact (fmod_pow_rng _ _).1)
local macro_rules | `(tactic| walk_at "call ref") => `(tactic| (k_here; (with_reducible show wpAny _ _ (call (Value.ref 127) _) _ _ _); k_dflt (refine' both_tells (by k_asm) (by k_asm) (by k_asm) (by k_asm) (by exact rfl) (by ktr_room) (by walk_at "u") (by walk_at "nn") (by walk_at "nn") (by assumption) (by assumption) ?_; k_whole); walk_at "aft"))
local macro_rules | `(tactic| walk_at "binaryOp Mult int int") => `(tactic| (k_here; first | (refine mul_int ?_ (mulOk_of (by assumption) (by first | exact fmod_small (by assumption) | exact shift_small (by assumption)))) | (refine mul_int ?_ (IntMulOk.of_left (by decide)))))
set_option maxRecDepth 100000 in
set_option maxHeartbeats 8000000 in
theorem word_tells {w : World} {mean : ExcName → Option Value} {mg mb : Str → Option Value} {dp un : Nat} {gd : Option (List Code)} {cn : Str} {cs : Scope} {a : Addr} {ccd : Value} {cl : List (Str × Addr)} {outer : List Env} {A₀ : Around} {base h₀ : Heap} {L : Addr} {m : Str → Option Value} {s : Shared} {Q E : Value → Shared → Prop}
   {x mk : Int} {t1 t2 : Tok} {l : Addr} {vs : List Value} {its : List It}
   (B : Below A₀ base outer h₀) (F : Fr h₀ L s.heap m) (X : (kfr.heap_1 w.params).In h₀) (T : Top hdv (looseW hdv hdl) mean mg mb h₀) (hk : cs.kind = .function) (hd : dp + 4 < recursionLimit) (hu : un + 60 < cLine)
   (hl : s.heap.IsList l vs.toArray) (hi : ItemsAt s.heap vs its) (hok : ∀ i ∈ its, i.Ok) (hm0 : 0 ≤ mk) (hm1 : mk ≤ 220)
   (hret : ∀ t h' tk, Keeps s.heap h' → Q (.int (wordI its x mk) t) { s with heap := h', toks := tk }) :
   wpAny (model PySem.Challenge.rw_xg0046_01.row.prog w) (ktrTop dp un gd cn cs L a ccd cl outer) (call (.ref 134) [.ref l, .int x t1, .int mk t2]) Q E s := by
  revert X
  k_fill
  intro X
  w_on
  k_dflt (refine' enterP (args := ⟨[.ref l, .int x t1, .int mk t2], []⟩) B F X T ?kA ?kF ?kK ?k6 ?k7 ?k8 ?k9 ?kB ?_ ?c2 ?c3 ?c4 ?c5; (case kA => exact rfl); (case kF => exact rfl); (case kK => exact hk); (case k6 => k_is); (case k7 => k_is); (case k8 => ktr_room); (case k9 => exact BindsTo.of_eq rfl); (case c5 => decide); (case kB => exact locs rfl); (case c2 => exact rfl); (case c3 => exact rfl); (case c4 => exact rfl); k_whole)
  clear F B T X
  intro L' h' F' N' B' X' T'
  (try dsimp only)
  (try k_fold)
  k_with_none
  repeat' ((fail_if_success (with_reducible show wpAny _ _ (exec (Stmt.For _ _ _ _ _) _) _ _ _)); first | (k_unfold; (try dsimp only)) | (k_end; kc_close) | walk1 | (dsimp only; walk1) | (leave1; walk_say "STEP leave1"; (try dsimp only)) | fail "no step")
  (rename Fr _ _ _ _ => lF'); (rename News _ _ _ _ => lN')
  with_unfolding_all refine' For_turns lF' ?_
  repeat' ((fail_if_success (with_reducible show wpAny _ _ (pyIter (Value.ref _)) _ _ _)); first | (k_unfold; (try dsimp only)) | (k_end; kc_close) | walk1 | (dsimp only; walk1) | (leave1; walk_say "STEP leave1"; (try dsimp only)) | fail "no step")
  with_unfolding_all refine' turns_list (fun i m nw => nw = [] ∧ ∃ t, FrJ (Str.ofString "sign") [(Str.ofString "worth", Value.int (wordI (its.take i) x mk) t)] [Str.ofString "part", Str.ofString "other"] _ m) (by rfl) (Heap.IsList.at hl fun o e => Fr.keep (by assumption) _ _ e) ?hlL lF' lN' ⟨rfl, _, by kst_all, by kst_same⟩ ?kt ?kd
  (case hlL => exact fun e => absurd (let ⟨_, ho, _⟩ := hl; Heap.lt_size ho) (Nat.not_lt.mpr (by first | exact e ▸ Fr.above (by assumption) | (have h9 := Fr.above lF'; rw [← e]; exact h9))))
  (case kd =>
    clear lF' lN'
    rintro m₁ nw h tk ⟨rfl, t, hJ⟩ F9 N9
    replace F9 := hJ.fr F9
    clear hJ
    rw [hi.1, List.take_length] at F9
    dsimp only [kstB] at F9
    (try k_fold)
    k_steps
    exact hret _ _ _ (Fr.keep (by assumption)))
  rintro i v m₁ nw h tk own I hv ⟨rfl, t, hJ⟩ hnI hnI1 hown hIo hlh hIl F9 N9
  replace F9 := hJ.fr F9
  clear hJ lF' lN' hnI hnI1 hown hIo hlh hIl
  rw [List.append_nil] at N9
  dsimp only [kstB] at F9
  have hlt : i < its.length := by
    rw [← hi.1]
    exact (List.getElem?_eq_some_iff.mp hv).1
  obtain ⟨it, hit⟩ : ∃ it, its[i]? = some it := ⟨_, List.getElem?_eq_getElem hlt⟩
  obtain ⟨b, u1, u2, hvb, hb⟩ := hi.2 i it hit
  rw [hvb] at hv
  obtain rfl := Option.some.inj hv
  clear hv
  with_unfolding_all refine kun_list F9 N9 (hb.at fun o e => F9.keep _ _ e) rfl rfl rfl ?_
  intro h9 F8 N8
  clear F9 N9
  have kMark := kstMark
  obtain ⟨hop, hsh, hdg⟩ := hok it (List.mem_of_getElem? hit)
  have hwr := wordI_rng (its.take i) x mk
  have hsn := take_succ_some hit
  have hws := wordI_snoc (its.take i) it x mk
  rw [← hsn] at hws
  generalize hW : wordI (its.take i) x mk = W at *
  have hWs : W.natAbs < 2 ^ 250 := rng_small hm1 hwr
  clear hsn hit hvb hb hW hlt
  obtain ⟨op, bx, d⟩ := it
  simp only at hop hsh hdg hws
  generalize hV : It.val ⟨op, bx, d⟩ x = V at *
  generalize hsg : signOf op = sg at *
  generalize hpd : partOf ⟨op, bx, d⟩ = pd at *
  (try k_fold)
  repeat' ((fail_if_success (with_reducible show wpAny _ _ (eval (PySem.Expr.IfExp _ _ _ _) _) _ _ _)); first | (k_unfold; (try dsimp only)) | (k_end; kc_close) | walk1 | (dsimp only; walk1) | (leave1; walk_say "STEP leave1"; (try dsimp only)) | fail "no step")
  refine join_int (V := V) ?_ ?_
  · intro Q' hQ'
    clear hws hsg hwr hWs
    cases bx
    · obtain ⟨hd0, hd9⟩ := hdg rfl
      obtain ⟨hf1, hf2, hf3⟩ := digOf_facts hd0 hd9
      rw [show digOf d = pd from hpd] at hf1 hf2 hf3
      obtain rfl : d = V := hV
      (try k_fold)
      k_steps
      exact hQ' _ _
    · obtain rfl : Str.ofString "x" = pd := hpd
      obtain rfl : x = V := hV
      (try k_fold)
      k_steps
      exact hQ' _ _
  · intro tV tkV
    clear hV
    obtain ⟨o0, o1, o2, o3, o4, o5, o6⟩ := op_of op hop
    rw [hsg] at o0 o1 o2 o3 o4 o5 o6
    (try dsimp only)
    k_steps
    iterate 6 ((first | (have e9 := o0 ‹_›; subst e9) | (have e9 := o1 ‹_›; subst e9) | (have e9 := o2 ‹_›; subst e9) | (have e9 := o3 ‹_›; subst e9) | (have e9 := o4 ‹_›; subst e9) | (have e9 := o5 ‹_›; subst e9)); simp only [stepW] at hws; ((dsimp only; (refine' TEnd.mk (news' := []) (by assumption) (by rw [List.append_nil]; assumption) (List.forall_mem_nil _) ?_); (refine And.intro rfl ?_); (apply Exists.intro); (rw [hws]; exact ⟨by kst_all, by kst_same⟩))))
    have e9 := o6 ‹_› ‹_› ‹_› ‹_› ‹_› ‹_›
    subst e9
    clear o0 o1 o2 o3 o4 o5
    obtain ⟨rfl, hsh2⟩ := hsh rfl
    obtain ⟨hd0, hd9⟩ := hdg rfl
    obtain ⟨hf1, hf2, hf3⟩ := digOf_facts hd0 hd9
    rw [show digOf d = pd from hpd] at hf1 hf2 hf3
    simp only [stepW] at hws
    k_steps
    ((dsimp only; (refine' TEnd.mk (news' := []) (by assumption) (by rw [List.append_nil]; assumption) (List.forall_mem_nil _) ?_); (refine And.intro rfl ?_); (apply Exists.intro); (rw [hws]; exact ⟨by kst_all, by kst_same⟩)))
end
end Mine
end
section
open PySem PySem.W PyProof.Rows PySem.Calls Mine
namespace Mine
theorem item_list {prog : Program} {w : World} {A : Around} {E : Value → Shared → Prop} {s : Shared} {h₀ : Heap} {L : Addr} {news : List (Addr × Obj)} {value slice : PySem.Expr} {l : Addr} {vs : List Value} {n : Nat} {k : Int} {u : Tok} {v : Value} {Q : Value → Shared → Prop}
    (N : News h₀ L s.heap news) (hm : (l, W.listOf vs.toArray n) ∈ news) (h0 : 0 ≤ k) (hhi : k < 2 ^ 63) (hx : vs[k.toNat]? = some v) (h : Q v s)
    (hs : subscripted slice false (.ref l) (.int k u) = operate [.ref l, .int k u] (getItem (.ref l) (.int k u)) := by with_unfolding_all rfl) :
    wpAny (model prog w) A (subscriptTail value slice (.ref l) (.int k u)) Q E s :=
  have hl : s.heap.IsList l vs.toArray := ⟨_, (N _ hm).1, rfl, n, rfl⟩
  tail_any hl.typeIs slot_list_getitem.lookup (wpAny_getItem_list hl h0 hhi (by simpa using hx) h) hs
theorem item_sign {prog : Program} {w : World} {A : Around} {E : Value → Shared → Prop} {s : Shared} {h₀ : Heap} {L : Addr} {news : List (Addr × Obj)} {value slice : PySem.Expr} {l : Addr} {vs : List Value} {n r : Nat} {k : Int} {u a0 a1 a2 a3 a4 a5 a6 : Tok} {sg : Str} {Q : Value → Shared → Prop}
    (N : News h₀ L s.heap news) (hm : (l, W.listOf vs.toArray n) ∈ news) (hv : vs = [Value.str (signOf 0) a0, Value.str (signOf 1) a1, Value.str (signOf 2) a2, Value.str (signOf 3) a3, Value.str (signOf 4) a4, Value.str (signOf 5) a5, Value.str (signOf 6) a6])
    (hk : k = (r : Int)) (h7 : r < 7) (hsg : signOf r = sg) (h : ∀ t, Q (.str sg t) s)
    (hs : subscripted slice false (.ref l) (.int k u) = operate [.ref l, .int k u] (getItem (.ref l) (.int k u)) := by with_unfolding_all rfl) :
    wpAny (model prog w) A (subscriptTail value slice (.ref l) (.int k u)) Q E s := by
  subst hsg
  have hx : ∃ t, vs[k.toNat]? = some (.str (signOf r) t) := by
    subst hv hk
    rcases r with _|_|_|_|_|_|_|r
    iterate 7 exact ⟨_, rfl⟩
    exact absurd h7 (Nat.not_lt.mpr (Nat.le_add_left 7 r))
  obtain ⟨t, hx⟩ := hx
  exact item_list N hm (by omega) (by omega) hx (h t) hs
theorem sh_of : ∀ r : Nat, r < 7 → ((signOf r == Str.ofString "<<") = true → r = 6) ∧ ((signOf r == Str.ofString "<<") = false → r < 6) := by
  intro r h
  rcases r with _|_|_|_|_|_|_|r
  iterate 7 (decide +kernel)
  exact absurd h (Nat.not_lt.mpr (Nat.le_add_left 7 r))
theorem dig_str {a : Int} (h0 : 0 ≤ a) (h9 : a ≤ 9) : Str.ofString (toString a) = digOf a := by
  have : a = 0 ∨ a = 1 ∨ a = 2 ∨ a = 3 ∨ a = 4 ∨ a = 5 ∨ a = 6 ∨ a = 7 ∨ a = 8 ∨ a = 9 := ten_cases (h0) h9
  rcases this with rfl | rfl | rfl | rfl | rfl | rfl | rfl | rfl | rfl | rfl <;> decide +kernel
theorem str_dig {prog : Program} {w : World} {A : Around} {E : Value → Shared → Prop} {s : Shared} {a : Int} {t : Tok} {Q : Value → Shared → Prop} (h0 : 0 ≤ a) (h9 : a ≤ 9) (h : Q (.str (digOf a) s.toks) { s with toks := s.toks + 1 }) :
    wpAny (model prog w) A (call (.type "str") [.int a t]) Q E s := by
  have hl : a.natAbs.log2 < 1920 := by
    have h1 : a.natAbs ≤ 9 := by omega
    have h2 : a.natAbs.log2 ≤ a.natAbs := Nat.log2_le_self _
    omega
  refine P.str_of_int hl ?_
  rw [← dig_str h0 h9] at h
  exact h
theorem end_items {h₀ h' : Heap} {L I Di b : Addr} {own inn T led : List (Addr × Obj)} {vsI : Array Value} {n k i : Nat} {its0 : List Int} {code : Int} {it : It} {t1 t2 : Tok} {m' m₀ : Str → Option Value} {s₁ : Shared} {tk : Nat} {Q : Flow → Shared → Prop}
    (F : Fr h₀ L h' m') (N : News h₀ L h' led)
    (h1 : (b, W.listOf #[Value.str (signOf it.op) t1, Value.str (partOf it) t2] k) ∈ led) (h2 : (Di, W.listOf (vsI.push (Value.ref b)) (n + 1)) ∈ led) (h3 : ∀ p ∈ T, p ∈ led) (hT : T = inn ++ own)
    (hII : ItemsIn inn vsI.toList ((its0.take i).map mkIt)) (hc : its0[i]? = some code) (hit : mkIt code = it) (hin : ∀ p ∈ inn, p.1 ≠ Di) (hbD : b ≠ Di) (hbI : b ≠ I) (hI : ∀ p ∈ (Di, W.listOf vsI n) :: inn, p.1 ≠ I)
    (hj : FrJ (Str.ofString "code") [(Str.ofString "items", Value.ref Di)] [Str.ofString "sign", Str.ofString "part"] m₀ m') :
    TEnd h₀ L I own (fun m nw => ∃ vsI n inn, nw = (Di, W.listOf vsI n) :: inn ∧ ItemsIn inn vsI.toList ((its0.take (i + 1)).map mkIt) ∧ (∀ p ∈ inn, p.1 ≠ Di) ∧ FrJ (Str.ofString "code") [(Str.ofString "items", Value.ref Di)] [Str.ofString "sign", Str.ofString "part"] m₀ m) s₁ Q .next { s₁ with heap := h', toks := tk } := by
  subst hT
  refine TEnd.mk (news' := (Di, W.listOf (vsI.push (Value.ref b)) (n + 1)) :: (b, W.listOf #[Value.str (signOf it.op) t1, Value.str (partOf it) t2] k) :: inn) F ?_ ?_ ⟨_, _, _, rfl, ?_, ?_, hj⟩
  · intro p hp
    simp only [List.mem_append, List.mem_cons] at hp
    rcases hp with hp | rfl | rfl | hp
    · exact N _ (h3 _ (List.mem_append_right _ hp))
    · exact N _ h2
    · exact N _ h1
    · exact N _ (h3 _ (List.mem_append_left _ hp))
  · intro p hp
    simp only [List.mem_cons] at hp
    rcases hp with rfl | rfl | hp
    · exact (hI (Di, W.listOf vsI n) List.mem_cons_self : Di ≠ I)
    · exact hbI
    · exact hI _ (List.mem_cons_of_mem _ hp)
  · have e : its0.take (i + 1) = its0.take i ++ [code] := by rw [List.take_add_one, hc]; rfl
    rw [e, List.map_append, Array.toList_push]
    show ItemsIn _ _ (_ ++ [mkIt code])
    rw [hit]
    exact hII.snoc
  · intro p hp
    rcases List.mem_cons.mp hp with rfl | hp
    · exact hbD
    · exact hin p hp
section
local macro_rules | `(tactic| walk_at "call type:str") => `(tactic| (k_here; (with_reducible show wpAny _ _ (call (Value.type "str") [Value.int _ _]) _ _ _); k_dflt (refine' str_dig (by omega) (by omega) ?_)))
local macro_rules | `(tactic| walk_at "subscriptTail") => `(tactic| (k_here; (with_reducible show wpAny _ _ (subscriptTail _ _ (Value.ref _) (Value.int (Int.fmod _ 7) _)) _ _ _); (rename (Int.fmod _ 7 = _) => hr9); k_dflt (refine' item_sign (by k_asm) List.mem_cons_self (by rfl) hr9 (by assumption) (by assumption) ?_); intro ts9))
local macro_rules | `(tactic| walk_at "newList") => `(tactic| (k_here; k_dflt (refine' newList_K (by k_asm) (by k_asm) ?_ (Nat.le_of_ble_eq_true rfl); k_whole); intro l' h' F' N' l1; (try k_lt l1); (try k_sweep)))
set_option maxRecDepth 100000 in
set_option maxHeartbeats 8000000 in
theorem items_tells {w : World} {mean : ExcName → Option Value} {mg mb : Str → Option Value} {dp un : Nat} {gd : Option (List Code)} {cn : Str} {cs : Scope} {a : Addr} {ccd : Value} {cl : List (Str × Addr)} {outer : List Env} {A₀ : Around} {base h₀ : Heap} {L : Addr} {m : Str → Option Value} {s : Shared} {Q E : Value → Shared → Prop}
   {l : Addr} {vs : List Value} {ns : List Int}
   (B : Below A₀ base outer h₀) (F : Fr h₀ L s.heap m) (X : (kfr.heap_1 w.params).In h₀) (T : Top hdv (looseW hdv hdl) mean mg mb h₀) (hk : cs.kind = .function) (hd : dp + 4 < recursionLimit) (hu : un + 60 < cLine)
   (hl : s.heap.IsList l vs.toArray) (hi : IntsAre vs ns) (hlen : ns.length ≤ 1000000)
   (hret : ∀ D vsI n h' tk inn, Keeps s.heap h' → Fresh s.heap h' ((D, W.listOf vsI n) :: inn) → (∀ p ∈ inn, p.1 ≠ D) → ItemsIn inn vsI.toList (itemsOf ns) → Q (.ref D) { s with heap := h', toks := tk }) :
   wpAny (model PySem.Challenge.rw_xg0046_01.row.prog w) (ktrTop dp un gd cn cs L a ccd cl outer) (call (.ref 108) [.ref l]) Q E s := by
  revert X
  k_fill
  intro X
  w_on
  k_dflt (refine' enterP (args := ⟨[.ref l], []⟩) B F X T ?kA ?kF ?kK ?k6 ?k7 ?k8 ?k9 ?kB ?_ ?c2 ?c3 ?c4 ?c5; (case kA => exact rfl); (case kF => exact rfl); (case kK => exact hk); (case k6 => k_is); (case k7 => k_is); (case k8 => ktr_room); (case k9 => exact BindsTo.of_eq rfl); (case c5 => decide); (case kB => exact locs rfl); (case c2 => exact rfl); (case c3 => exact rfl); (case c4 => exact rfl); k_whole)
  clear F B T X
  intro L' h' F' N' B' X' T'
  (try dsimp only)
  (try k_fold)
  k_with_none
  repeat' ((fail_if_success (with_reducible show wpAny _ _ (exec (Stmt.For _ _ _ _ _) _) _ _ _)); first | (k_unfold; (try dsimp only)) | (k_end; kc_close) | walk1 | (dsimp only; walk1) | (leave1; walk_say "STEP leave1"; (try dsimp only)) | fail "no step")
  (rename Fr _ _ _ _ => lF'); (rename News _ _ _ _ => lN')
  with_unfolding_all refine' For_turns lF' ?_
  repeat' ((fail_if_success (with_reducible show wpAny _ _ (pyIter (Value.ref _)) _ _ _)); first | (k_unfold; (try dsimp only)) | (k_end; kc_close) | walk1 | (dsimp only; walk1) | (leave1; walk_say "STEP leave1"; (try dsimp only)) | fail "no step")
  (rename Fr _ _ _ _ => lF'); (rename News _ _ _ _ => lN')
  rename_i Di hA lA hB D3 hC lC Ds ws2 hD hI2 hC2 hL2 lD Dl ws hE hI lE
  have hLl : (envOf (Str.ofString "_law_items") (Scope.mk .function [] false false []) L' 108 (Value.ref 107)).locals ≠ Dl := fun e => (lN' _ (List.mem_cons_self ..)).2.1 e.symm
  have lN0 := kst_newsOf (l' := [(Di, W.listOf #[] 0)]) lN' (by simp)
  have hDl : Dl ≠ Di := Nat.ne_of_gt lE.2.2
  have hcod : IntsAre ws (codesOf ns) := hI
  with_unfolding_all refine' turns_list (fun i m nw => ∃ vsI n inn, nw = (Di, W.listOf vsI n) :: inn ∧ ItemsIn inn vsI.toList (((codesOf ns).take i).map mkIt) ∧ (∀ p ∈ inn, p.1 ≠ Di) ∧ FrJ (Str.ofString "code") [(Str.ofString "items", Value.ref Di)] [Str.ofString "sign", Str.ofString "part"] _ m) (by rfl) ⟨_, (lN' _ (List.mem_cons_self ..)).1, rfl, _, rfl⟩ hLl lF' lN0 ⟨#[], 0, [], rfl, ItemsIn.nil, List.forall_mem_nil _, by kst_all, by kst_same⟩ ?kt ?kd
  (case kd =>
    clear lF' lN' lN0
    rintro m₁ nw h tk ⟨vsI, n, inn, rfl, hII, hin, hJ⟩ F9 N9
    replace F9 := hJ.fr F9
    clear hJ
    rw [hcod.length, List.take_length] at hII
    dsimp only [kstB] at F9
    (try k_fold)
    repeat' ((fail_if_success (with_reducible show TEnd _ _ _ _ _ _ _ _ _)); (fail_if_success (with_reducible show RetP _ _ _)); (fail_if_success (with_reducible show WhileStep2 _ _ _ _ _ _ _ _)); first | (k_unfold; (try dsimp only)) | walk1 | (dsimp only; walk1) | (leave1; walk_say "STEP leave1"; (try dsimp only)) | fail "no step")
    exact hret _ _ _ _ _ _ (Fr.keep (by assumption)) (Fresh.of (by assumption)) hin hII)
  rintro i v m₁ nw h tk own I hv ⟨vsI, n, inn, rfl, hII, hin, hJ⟩ hnI hnI1 hown hIo hlh hIl F9 N9
  replace F9 := hJ.fr F9
  clear hJ
  have hDI : I ≠ Di := fun e => hnI _ (List.mem_cons_self ..) e.symm
  obtain ⟨T, hT⟩ : ∃ T, T = inn ++ own := ⟨_, rfl⟩
  have hTo : OwnOff T [Di] := by
    intro p hp b hb
    rw [List.mem_singleton.mp hb]
    rw [hT] at hp
    rcases List.mem_append.mp hp with h1 | h1
    · exact hin p h1
    · rcases hown p h1 with h2 | h2 <;> rw [h2] <;> assumption
  have N8 : News s.heap _ h ((Di, W.listOf vsI n) :: T) := kst_newsOf N9 (by rw [hT]; intro p hp; simp only [List.mem_cons, List.mem_append] at hp ⊢; rcases hp with h1 | h1 | h1 <;> simp [h1])
  obtain ⟨code, u, rfl, hcu⟩ := IntsAre.at hcod i v (by simpa using hv)
  have kMark := kstMark
  clear N9 lN0 lN' lF' hnI hI hI2 hC2 hL2 lA lC lD lE hlh
  dsimp only [kstB] at F9
  have hvz : vsI.size ≤ 7 := by
    have h1 := hII.1
    have h2 := itemsOf_len ns
    rw [List.length_map, List.length_take] at h1
    simp only [itemsOf, List.length_map] at h2
    rw [Array.length_toList] at h1
    omega
  have hIb : ∀ b : Addr, AllLt b T → I ≠ b := by
    intro b hb
    obtain ⟨o, ho⟩ := hIo
    exact Nat.ne_of_lt (kst_ltOf hb (I, o) (by rw [hT]; exact List.mem_append_right _ ho))
  have hc7 := fmod_lo code (n := 7) (by decide)
  have hc10 := fmod_lo (code.fdiv 7) (n := 10) (by decide)
  have hc2 := fmod_lo ((code.fdiv 7).fmod 10) (n := 2) (by decide)
  obtain ⟨r, hr, hr7⟩ : ∃ r : Nat, code.fmod 7 = (r : Int) ∧ r < 7 := ⟨(code.fmod 7).toNat, by omega, by omega⟩
  obtain ⟨sg, hsg⟩ : ∃ sg, signOf r = sg := ⟨_, rfl⟩
  have hsh := sh_of r hr7
  rw [hsg] at hsh
  obtain ⟨hs6, hs5⟩ := hsh
  (try k_fold)
  repeat' ((fail_if_success (with_reducible show TEnd _ _ _ _ _ _ _ _ _)); (fail_if_success (with_reducible show RetP _ _ _)); (fail_if_success (with_reducible show WhileStep2 _ _ _ _ _ _ _ _)); first | (k_unfold; (try dsimp only)) | walk1 | (dsimp only; walk1) | (leave1; walk_say "STEP leave1"; (try dsimp only)) | fail "no step")
  · have e9 := hs6 ‹_›
    subst e9
    subst hsg
    (rename Fr _ _ _ _ => nF'); (rename News _ _ _ _ => nE'); (rename (_ < _ ∧ _ < _ ∧ AllLt _ _) => l9)
    dsimp only
    exact end_items nF' nE' (List.mem_cons_self ..) (by k_mem) (by intro p hp; kst_mem) hT hII hcu (mk_s (by assumption)) hin (Nat.ne_of_gt l9.2.1) (Ne.symm (hIb _ l9.2.2)) hnI1 ⟨by kst_all, by kst_same⟩
  · have e9 := hs5 ‹_›
    subst hsg
    (rename ((code.fdiv 7).fmod 10 < 3) => hp9)
    (rename Fr _ _ _ _ => nF'); (rename News _ _ _ _ => nE'); (rename (_ < _ ∧ _ < _ ∧ AllLt _ _) => l9)
    dsimp only
    exact end_items nF' nE' (List.mem_cons_self ..) (by k_mem) (by intro p hp; kst_mem) hT hII hcu (mk_x (by assumption) e9 hp9) hin (Nat.ne_of_gt l9.2.1) (Ne.symm (hIb _ l9.2.2)) hnI1 ⟨by kst_all, by kst_same⟩
  · have e9 := hs5 ‹_›
    subst hsg
    (rename (¬ (code.fdiv 7).fmod 10 < 3) => hp9)
    (rename Fr _ _ _ _ => nF'); (rename News _ _ _ _ => nE'); (rename (_ < _ ∧ _ < _ ∧ AllLt _ _) => l9)
    dsimp only
    exact end_items nF' nE' (List.mem_cons_self ..) (by k_mem) (by intro p hp; kst_mem) hT hII hcu (mk_d (by assumption) e9 hp9) hin (Nat.ne_of_gt l9.2.1) (Ne.symm (hIb _ l9.2.2)) hnI1 ⟨by kst_all, by kst_same⟩
end
end Mine
end
section
open PySem PySem.W PyProof.Rows PySem.Calls Mine
namespace Mine
section
variable {prog : Program} {w : World} {A : Around} {E : Value → Shared → Prop} {s : Shared} {h₀ : Heap} {L a : Addr} {m : Str → Option Value} {K : Frag} {es : Array DictEntry} {n : Nat} {x y : Str} {t u : Tok} {v : Value} {Q : Value → Shared → Prop}
theorem in_no (F : Fr h₀ L s.heap m) (X₀ : K.In h₀) (hl : K.lookup a = some ⟨.type "dict", none, .dict es n, #[]⟩) (hk : KeysLit w.params es.toList) (e : nsIn K a x = some none) (lo : (a == sysModules) = false)
    (h : Q (.bool false) { s with toks := s.toks + 1 }) : wpAny (model prog w) A (compareOp .In (.str x t) (.ref a)) Q E s := topIn_K F X₀ hl hk e lo h
theorem in_yes (F : Fr h₀ L s.heap m) (X₀ : K.In h₀) (hl : K.lookup a = some ⟨.type "dict", none, .dict es n, #[]⟩) (hk : KeysLit w.params es.toList) (e : nsIn K a x = some (some v)) (lo : (a == sysModules) = false)
    (h : Q (.bool true) { s with toks := s.toks + 1 }) : wpAny (model prog w) A (compareOp .In (.str x t) (.ref a)) Q E s := topIn_K F X₀ hl hk e lo h
theorem eq_yes (e : (x == y) = true) (h : Q (.bool true) s) : wpAny (model prog w) A (compareOp .Eq (.str x t) (.str y u)) Q E s := PyProof.Rows.eq_str (by rw [e]; exact h)
theorem eq_no (e : (x == y) = false) (h : Q (.bool false) s) : wpAny (model prog w) A (compareOp .Eq (.str x t) (.str y u)) Q E s := PyProof.Rows.eq_str (by rw [e]; exact h)
theorem len_small (e : x.length ≤ 1000) (h : Q (.int x.length (s.toks + 1)) { s with toks := s.toks + 1 + 1 }) : wpAny (model prog w) A (call (.builtin "len") [.str x t]) Q E s :=
  PyProof.Rows.len_str (by rw [show (2 : Int) ^ 63 = 9223372036854775808 from by decide]; omega) h
end
theorem ws_mk {h₀ : Heap} {L : Addr} {s : Shared} {J : Nat → (Str → Option Value) → List (Addr × Obj) → Prop} {Q : Flow → Shared → Prop} {n n' : Nat} {h' : Heap} {tk : Nat} {m₂ : Str → Option Value} {news₂ : List (Addr × Obj)}
    (F : Fr h₀ L h' m₂) (N : News h₀ L h' news₂) (hn : n' < n) (hj : J n' m₂ news₂) : WhileStep2 h₀ L s J Q n .next { s with heap := h', toks := tk } := ⟨h', tk, m₂, news₂, n', rfl, F, N, hn, hj⟩
theorem pc_facts {P : Params} {text : Str} {a k : Int} {c : List Nat} (h : AtTok P text a k) (hc : (c.length = 2 ∧ (Txt.slice text (some a) (some (a + 2))).length = 2 ∧ ∃ t, nsIn (kfr.heap_1 P) 85 (Txt.slice text (some a) (some (a + 2))) = some (some (.int k t))) ∨ (c.length = 1 ∧ nsIn (kfr.heap_1 P) 85 (Txt.slice text (some a) (some (a + 2))) = some none)) :
    ∃ pc : Str, pc.length = c.length ∧ c.length ≤ 2 ∧ ((nsIn (kfr.heap_1 P) 85 (Txt.slice text (some a) (some (a + 2))) = some none ∧ pc = Txt.item text a) ∨ (∃ v, nsIn (kfr.heap_1 P) 85 (Txt.slice text (some a) (some (a + 2))) = some (some v) ∧ pc = Txt.slice text (some a) (some (a + 2)))) ∧
      ((∃ u, nsIn (kfr.heap_1 P) 85 pc = some (some (.int k u))) ∨ (nsIn (kfr.heap_1 P) 85 pc = some none ∧ (pc == Str.ofString "x") = true ∧ k = 256) ∨ (∃ d, nsIn (kfr.heap_1 P) 85 pc = some none ∧ (pc == Str.ofString "x") = false ∧ PySem.intText? pc = some d ∧ k = 257 + d)) := by
  have one : ∀ {v : Value}, nsIn (kfr.heap_1 P) 85 (Txt.slice text (some a) (some (a + 2))) = some none → (nsIn (kfr.heap_1 P) 85 (Txt.slice text (some a) (some (a + 2))) = some (some v)) → False := fun e f => by rw [e] at f; cases f
  obtain ⟨hat⟩ := h
  rcases hc with ⟨l2, s2, t, e⟩ | ⟨l1, e⟩
  · exact ⟨_, by rw [s2, l2], Nat.le_of_eq l2, .inr ⟨_, e, rfl⟩, .inl ⟨t, e⟩⟩
  · have c2 : c.length ≤ 2 := by rw [l1]; decide
    rcases hat with ⟨u, h1, h2, h3⟩ | ⟨u, h1, h3⟩ | ⟨h1, h2, h4, h3, h5⟩ | ⟨d, h1, h2, h4, h6, h3, h5⟩
    · exact ⟨_, by rw [h3, l1], c2, .inl ⟨e, rfl⟩, .inl ⟨u, h2⟩⟩
    · exact (one e h1).elim
    · exact ⟨_, by rw [h3, l1], c2, .inl ⟨e, rfl⟩, .inr (.inl ⟨h2, h4, h5⟩)⟩
    · exact ⟨_, by rw [h3, l1], c2, .inl ⟨e, rfl⟩, .inr (.inr ⟨d, h2, h4, h6, h5⟩)⟩
section
local macro_rules | `(tactic| walk_at "compareOp In str ref") => `(tactic| (k_here; (with_reducible show wpAny _ _ (compareOp _ (Value.str _ _) (Value.ref 85)) _ _ _); k_dflt (first | (refine' in_no (by k_asm) (by k_asm) (by k_is) (by k_keys) (by assumption) (by decide) ?_) | (refine' in_yes (by k_asm) (by k_asm) (by k_is) (by k_keys) (by assumption) (by decide) ?_))))
local macro_rules | `(tactic| walk_at "subscriptTail") => `(tactic| (k_here; (with_reducible show wpAny _ _ (subscriptTail _ _ (Value.ref 85) (Value.str _ _)) _ _ _); k_dflt (refine' topItem_K (by k_asm) (by k_asm) (by k_is) (by k_keys) (by assumption) ?_)))
local macro_rules | `(tactic| walk_at "compareOp Eq str str") => `(tactic| (k_here; first | (refine eq_yes (by assumption) ?_) | (refine eq_no (by assumption) ?_)))
local macro_rules | `(tactic| walk_at "call builtin:len") => `(tactic| (k_here; (with_reducible show wpAny _ _ (call (Value.builtin "len") [Value.str _ _]) _ _ _); (refine len_small (by omega) ?_)))
set_option maxRecDepth 100000 in
set_option maxHeartbeats 8000000 in
theorem symbols_tells {w : World} {mean : ExcName → Option Value} {mg mb : Str → Option Value} {dp un : Nat} {gd : Option (List Code)} {cn : Str} {cs : Scope} {a : Addr} {ccd : Value} {cl : List (Str × Addr)} {outer : List Env} {A₀ : Around} {base h₀ : Heap} {L : Addr} {m : Str → Option Value} {s : Shared} {Q E : Value → Shared → Prop}
   {text : Str} {t1 : Tok} {its : List It}
   (B : Below A₀ base outer h₀) (F : Fr h₀ L s.heap m) (X : (kfr.heap_1 w.params).In h₀) (T : Top hdv (looseW hdv hdl) mean mg mb h₀) (hk : cs.kind = .function) (hd : dp + 4 < recursionLimit) (hu : un + 60 < cLine)
   (hok : ∀ i ∈ its, i.Ok) (hlen : its.length ≤ 7) (ht : text.cps.toList = textL its)
   (hret : ∀ D vsI n h' tk, Keeps s.heap h' → Fresh s.heap h' [(D, W.listOf vsI.toArray n)] → IntsAre vsI (rowOf its) → Q (.ref D) { s with heap := h', toks := tk }) :
   wpAny (model PySem.Challenge.rw_xg0046_01.row.prog w) (ktrTop dp un gd cn cs L a ccd cl outer) (call (.ref 115) [.str text t1]) Q E s := by
  revert X
  k_fill
  intro X
  w_on
  k_dflt (refine' enterP (args := ⟨[.str text t1], []⟩) B F X T ?kA ?kF ?kK ?k6 ?k7 ?k8 ?k9 ?kB ?_ ?c2 ?c3 ?c4 ?c5; (case kA => exact rfl); (case kF => exact rfl); (case kK => exact hk); (case k6 => k_is); (case k7 => k_is); (case k8 => ktr_room); (case k9 => exact BindsTo.of_eq rfl); (case c5 => decide); (case kB => exact locs rfl); (case c2 => exact rfl); (case c3 => exact rfl); (case c4 => exact rfl); k_whole)
  clear F B T X
  intro L' h' F' N' B' X' T'
  (try dsimp only)
  (try k_fold)
  k_with_none
  repeat' ((fail_if_success (with_reducible show wpAny _ _ (exec (Stmt.While _ _ _ _) _) _ _ _)); first | (k_unfold; (try dsimp only)) | (k_end; kc_close) | walk1 | (dsimp only; walk1) | (leave1; walk_say "STEP leave1"; (try dsimp only)) | fail "no step")
  (rename Fr _ _ _ _ => lF'); (rename News _ _ _ _ => lN')
  rename_i D hA l1 hB hC
  with_unfolding_all refine' While_inv2 (fun n m nw => ∃ j a ta vsr k, j ≤ (tokL its).length ∧ n = (tokL its).length - j ∧ nw = [(D, W.listOf vsr.toArray k)] ∧ IntsAre vsr (((tokL its).take j).map (·.2)) ∧ a = ((flatL ((tokL its).take j)).length : Int) ∧ FrJ (Str.ofString "piece") [(Str.ofString "row", Value.ref D), (Str.ofString "at", Value.int a ta)] [] _ m) lF' lN' ⟨0, 0, _, [], 0, Nat.zero_le _, rfl, rfl, .nil, rfl, by kst_all, by kst_same⟩ ?kt
  clear lF' lN'
  rintro n m₁ nw h tk F9 N9 ⟨j, a', ta, vsr, k, hj, rfl, rfl, hI, ha, hJ⟩
  replace F9 := hJ.fr F9
  clear hJ
  dsimp only [kstB] at F9
  have kMark := kstMark
  have hlt : text.length = (textL its).length := by rw [← ht]; simp [Str.length]
  have hts : text.length ≤ 22 := by have := textL_len its; omega
  have hvz : vsr.length ≤ 15 := by
    have h1 := hI.length
    have h2 := tok_len its
    rw [List.length_map, List.length_take] at h1
    omega
  rcases Nat.lt_or_ge j (tokL its).length with hjl | hjg
  · obtain ⟨c, kd, hjt⟩ : ∃ c kd, (tokL its)[j]? = some (c, kd) := ⟨_, _, List.getElem?_eq_getElem hjl⟩
    obtain ⟨hat, htk, hcl, hal⟩ := at_tok w.params hok ht hjt
    rw [← ha] at hat hcl
    have hal' : a' < (text.length : Int) := by omega
    have ha0 : 0 ≤ a' := by omega
    have hmp : ((tokL its).take (j + 1)).map (·.2) = ((tokL its).take j).map (·.2) ++ [kd] := by
      rw [List.take_add_one, hjt]; simp
    clear hlt
    obtain ⟨pc, hpl, hpl2, hsl, hpt⟩ := pc_facts hat hcl
    clear hat hcl
    (try k_fold)
    repeat' ((fail_if_success (with_reducible show wpAny _ _ (eval (PySem.Expr.IfExp _ _ _ _) _) _ _ _)); first | (k_unfold; (try dsimp only)) | (k_end; kc_close) | walk1 | (dsimp only; walk1) | (leave1; walk_say "STEP leave1"; (try dsimp only)) | fail "no step")
    refine join_fr (fun t => Value.str pc t) (by k_asm) (by k_asm) ?_ ?_
    · intro Q' hQ'
      clear hpt
      rcases hsl with ⟨e1, rfl⟩ | ⟨v9, e1, rfl⟩
      · repeat' ((fail_if_success (with_reducible show TEnd _ _ _ _ _ _ _ _ _)); (fail_if_success (with_reducible show RetP _ _ _)); (fail_if_success (with_reducible show WhileStep2 _ _ _ _ _ _ _ _)); first | (k_unfold; (try dsimp only)) | walk1 | (dsimp only; walk1) | (leave1; walk_say "STEP leave1"; (try dsimp only)) | fail "no step")
        exact hQ' _ _ _ (by assumption) (by assumption)
      · repeat' ((fail_if_success (with_reducible show TEnd _ _ _ _ _ _ _ _ _)); (fail_if_success (with_reducible show RetP _ _ _)); (fail_if_success (with_reducible show WhileStep2 _ _ _ _ _ _ _ _)); first | (k_unfold; (try dsimp only)) | walk1 | (dsimp only; walk1) | (leave1; walk_say "STEP leave1"; (try dsimp only)) | fail "no step")
        exact hQ' _ _ _ (by assumption) (by assumption)
    · intro tV hV9 tkV FV NV
      clear hsl
      (try dsimp only)
      rcases hpt with ⟨u, h2⟩ | ⟨h2, h4, h5⟩ | ⟨d, h2, h4, h6, h5⟩
      · repeat' ((fail_if_success (with_reducible show TEnd _ _ _ _ _ _ _ _ _)); (fail_if_success (with_reducible show RetP _ _ _)); (fail_if_success (with_reducible show WhileStep2 _ _ _ _ _ _ _ _)); first | (k_unfold; (try dsimp only)) | walk1 | (dsimp only; walk1) | (leave1; walk_say "STEP leave1"; (try dsimp only)) | fail "no step")
        (rename Fr _ _ _ _ => nF'); (rename News _ _ _ _ => nE')
        simp only [List.push_toArray] at nE'
        dsimp only
        refine' ws_mk nF' nE' (n' := (tokL its).length - (j + 1)) (by omega) ⟨j + 1, _, _, _, _, by omega, rfl, rfl, by rw [hmp]; exact IntsAre.append hI (.cons _ _ .nil), ?_, by kst_all, by kst_same⟩
        omega
      · repeat' ((fail_if_success (with_reducible show TEnd _ _ _ _ _ _ _ _ _)); (fail_if_success (with_reducible show RetP _ _ _)); (fail_if_success (with_reducible show WhileStep2 _ _ _ _ _ _ _ _)); first | (k_unfold; (try dsimp only)) | walk1 | (dsimp only; walk1) | (leave1; walk_say "STEP leave1"; (try dsimp only)) | fail "no step")
        (rename Fr _ _ _ _ => nF'); (rename News _ _ _ _ => nE')
        simp only [List.push_toArray] at nE'
        dsimp only
        refine' ws_mk nF' nE' (n' := (tokL its).length - (j + 1)) (by omega) ⟨j + 1, _, _, _, _, by omega, rfl, rfl, by rw [hmp]; exact IntsAre.append hI (by rw [h5]; exact .cons _ _ .nil), ?_, by kst_all, by kst_same⟩
        omega
      · repeat' ((fail_if_success (with_reducible show TEnd _ _ _ _ _ _ _ _ _)); (fail_if_success (with_reducible show RetP _ _ _)); (fail_if_success (with_reducible show WhileStep2 _ _ _ _ _ _ _ _)); first | (k_unfold; (try dsimp only)) | walk1 | (dsimp only; walk1) | (leave1; walk_say "STEP leave1"; (try dsimp only)) | fail "no step")
        (rename Fr _ _ _ _ => nF'); (rename News _ _ _ _ => nE')
        simp only [List.push_toArray] at nE'
        dsimp only
        refine' ws_mk nF' nE' (n' := (tokL its).length - (j + 1)) (by omega) ⟨j + 1, _, _, _, _, by omega, rfl, rfl, by rw [hmp]; exact IntsAre.append hI (by rw [h5, show 257 + d = 256 + (1 + d) from by omega]; exact .cons _ _ .nil), ?_, by kst_all, by kst_same⟩
        omega
  · have hje : j = (tokL its).length := Nat.le_antisymm hj hjg
    rw [hje, List.take_length] at hI ha
    have hae : a' = (text.length : Int) := by rw [ha, hlt]; rfl
    clear ha hlt
    (try k_fold)
    repeat' ((fail_if_success (with_reducible show TEnd _ _ _ _ _ _ _ _ _)); (fail_if_success (with_reducible show RetP _ _ _)); (fail_if_success (with_reducible show WhileStep2 _ _ _ _ _ _ _ _)); first | (k_unfold; (try dsimp only)) | walk1 | (dsimp only; walk1) | (leave1; walk_say "STEP leave1"; (try dsimp only)) | fail "no step")
    (rename Fr _ _ _ _ => nF'); (rename News _ _ _ _ => nE')
    dsimp only at nE' ⊢
    exact hret _ (vsr ++ [Value.int 0 276]) 0 _ _ nF'.keep (Fresh.of (kst_newsOf nE' (by intro p hp; rw [List.mem_singleton.mp hp]; exact List.mem_cons_self ..))) (by rw [rowOf_tok]; exact IntsAre.append hI (.cons _ _ .nil))
end
end Mine
end
section
open PySem PySem.W PyProof.Rows PySem.Calls Mine
namespace Mine

/-- what a yield tells: the value; what stays; what must stand for the next wake -/
def GY (base : Heap) (prot : List Addr) (N : Nat) (s0 s1 : Int) : Protocol := fun m sa v sb κ =>
  (∃ t, v = .int (if m + 1 = N then s0 else s1) t) ∧ (∃ h' tk, sb = { sa with heap := h', toks := tk } ∧ (∀ b o, base.get? b = some o → h'.get? b = some o) ∧ ∀ b ∈ prot, ∀ o, sa.heap.get? b = some o → h'.get? b = some o) ∧
  (∃ own : List (Addr × Obj), (∀ p ∈ own, sb.heap.get? p.1 = some p.2 ∧ p.1 ∉ prot ∧ base.get? p.1 = none) ∧ (0 < m → ∀ s'' : Shared, (∀ p ∈ own, s''.heap.get? p.1 = some p.2) → (∀ b o, base.get? b = some o → s''.heap.get? b = some o) → κ (.send .none) s'')) ∧
  (N = 3 → 0 < m)
def GR (base : Heap) (prot : List Addr) (N : Nat) : Nat → Shared → Shared → Prop := fun n sa sb =>
  n = 1 ∧ N = 3 ∧ ∃ h' tk, sb = { sa with heap := h', toks := tk } ∧ (∀ b o, base.get? b = some o → h'.get? b = some o) ∧ ∀ b ∈ prot, ∀ o, sa.heap.get? b = some o → h'.get? b = some o
abbrev GRe (base : Heap) (prot : List Addr) (N : Nat) : GenEnd := fun n sa r sb => r = .ok (.ret .none) ∧ GR base prot N n sa sb


/-- the protected addresses as they lie in h -/
def plOf (prot : List Addr) (h : Heap) : List (Addr × Obj) := prot.filterMap fun b => (h.get? b).map fun o => (b, o)
theorem mem_plOf {prot : List Addr} {h : Heap} {p : Addr × Obj} : p ∈ plOf prot h ↔ p.1 ∈ prot ∧ h.get? p.1 = some p.2 := by
  obtain ⟨b, o⟩ := p
  simp only [plOf, List.mem_filterMap, Option.map_eq_some_iff, Prod.mk.injEq]
  constructor
  · rintro ⟨b', hb', o', ho', rfl, rfl⟩
    exact ⟨hb', ho'⟩
  · rintro ⟨hb, ho⟩
    exact ⟨b, hb, o, ho, rfl, rfl⟩

theorem gy_mk {base : Heap} {prot : List Addr} {N m : Nat} {s0 s1 : Int} {sa s : Shared} {v : Value} {C D I : Addr} {oD oI : Obj} {mm : Str → Option Value} {kap : Resume → Shared → Prop}
    (hp : ∀ b ∈ prot, b ≠ C ∧ b ≠ D ∧ b ≠ I ∧ base.get? b = none)
    (F : Fr base C s.heap mm) (Nw : News base C s.heap ((D, oD) :: (I, oI) :: plOf prot sa.heap)) (hs : ∃ h tk, s = { sa with heap := h, toks := tk })
    (hv : ∃ t, v = .int (if m + 1 = N then s0 else s1) t) (hN : N = 3 → 0 < m)
    (hk : 0 < m → ∀ s'' : Shared, Fr base C s''.heap mm → News base C s''.heap ((D, oD) :: (I, oI) :: plOf prot s''.heap) → kap (.send .none) s'') :
    GY base prot N s0 s1 m sa v s kap := by
  refine ⟨hv, ?_, ?_, hN⟩
  · obtain ⟨h, tk, rfl⟩ := hs
    exact ⟨h, tk, rfl, F.keep, fun b hb o ho => (Nw (b, o) (List.mem_cons_of_mem _ (List.mem_cons_of_mem _ (mem_plOf.mpr ⟨hb, ho⟩)))).1⟩
  · obtain ⟨oC, hC⟩ : ∃ oC, s.heap.get? C = some oC := by obtain ⟨o, _, _, h, _⟩ := F.ns; exact ⟨o, h⟩
    have hCb : base.get? C = none := by
      cases q : base.get? C with
      | none => rfl
      | some o => exact absurd (Heap.lt_size q) (Nat.not_lt.mpr F.above)
    have hD := Nw _ (List.mem_cons_self ..)
    have hI := Nw _ (List.mem_cons_of_mem _ (List.mem_cons_self ..))
    refine ⟨[(C, oC), (D, oD), (I, oI)], ?_, fun hm s'' hown hbase => hk hm s'' ?_ ?_⟩
    · intro p hpm
      simp only [List.mem_cons, List.mem_nil_iff, or_false] at hpm
      rcases hpm with rfl | rfl | rfl
      · exact ⟨hC, fun e => (hp _ e).1 rfl, hCb⟩
      · exact ⟨hD.1, fun e => (hp _ e).2.1 rfl, hD.2.2⟩
      · exact ⟨hI.1, fun e => (hp _ e).2.2.1 rfl, hI.2.2⟩
    · exact ⟨F.ns.at' fun o e => by rw [hC] at e; cases e; exact hown _ (List.mem_cons_self ..), hbase, F.above⟩
    · intro p hpm
      rcases List.mem_cons.mp hpm with rfl | hpm
      · exact ⟨hown _ (by simp), hD.2⟩
      rcases List.mem_cons.mp hpm with rfl | hpm
      · exact ⟨hown _ (by simp), hI.2⟩
      have := mem_plOf.mp hpm
      exact ⟨this.2, (hp _ this.1).1, (hp _ this.1).2.2.2⟩

def ItAt (oI : Obj) (D : Addr) (i : Nat) : Prop := oI.cls = .type "list_iterator" ∧ oI.data = .fields #[.ref D, .int i 0]

section
variable {prog : Program} {w : World} {A : Around} {R : GenEnd} {Y : Protocol} {n : Nat} {sa : Shared} {fs : List Frame} {s : Shared} {env : Env} {target : Expr} {body : List Stmt}
  {base : Heap} {C D I : Addr} {oD oI : Obj} {mm : Str → Option Value} {pl : List (Addr × Obj)} {items : Array Value} {i : Nat} {c : Code} {Q : Option Value → Shared → Prop}

theorem g_item {x : Value} (F : Fr base C s.heap mm) (Nw : News base C s.heap ((D, oD) :: (I, oI) :: pl)) (hoI : ItAt oI D i) (hID : I ≠ D) (hpl : ∀ p ∈ pl, p.1 ≠ I)
    (hL : s.heap.IsList D items) (hx : items[i]? = some x)
    (h : ∀ h' oI', Fr base C h' mm → News base C h' ((D, oD) :: (I, oI') :: pl) → ItAt oI' D (i + 1) →
      wpAny (model prog w) (A.over (.forLoop target (.ref I) body [] env) fs) (assign target env x) (fun _ s₂ =>
            Seg (model prog w) A R Y n sa (.forLoop target (.ref I) body [] env) ((execs body env).wrap (fun f => match f with
              | .next | .cont => .pure (.again (.forLoop target (.ref I) body [] env))
              | .brk => .pure (.done .next)
              | .ret v => .pure (.done (.ret v))) (fun e => (do noteFrame e env; theTreesLotGoes e : Sem Unit).wrap (fun _ => .raise e) .raise id id) id id) fs s₂) (fun _ _ => False) { s with heap := h' }) :
    Seg (model prog w) A R Y n sa (.forLoop target (.ref I) body [] env) ((model prog w).den (.forLoop target (.ref I) body [] env)) fs s := by
  have hI := Nw _ (List.mem_cons_of_mem _ (List.mem_cons_self ..))
  refine seg_forLoop (wpAny_pyNext_list_item ⟨oI, hI.1, hoI.1, hoI.2⟩ hL hx fun h' hit hsb => letGo_listiter hit ?_)
  obtain ⟨oI', ho', hc', hd'⟩ := hit
  refine h h' oI' ?_ ?_ ⟨hc', hd'⟩
  · exact ⟨F.ns.at' fun o e => (hsb.2 _ (Ne.symm hI.2.1)).trans e, fun b o e => (hsb.2 b (fun q => by rw [q] at e; exact absurd (e.symm.trans hI.2.2) (by simp))).trans (F.keep b o e), F.above⟩
  · intro p hp
    rcases List.mem_cons.mp hp with rfl | hp
    · have hDn := Nw _ (List.mem_cons_self ..)
      exact ⟨(hsb.2 _ (Ne.symm hID)).trans hDn.1, hDn.2⟩
    rcases List.mem_cons.mp hp with rfl | hp
    · exact ⟨ho', hI.2⟩
    · have := Nw p (List.mem_cons_of_mem _ (List.mem_cons_of_mem _ hp))
      exact ⟨(hsb.2 _ (hpl p hp)).trans this.1, this.2⟩

theorem g_end (hh : (marksOver fs (A.handled, A.handled)).1 = none) (F : Fr base C s.heap mm) (Nw : News base C s.heap ((D, oD) :: (I, oI) :: pl)) (hoI : ItAt oI D i) (hID : I ≠ D) (hpl : ∀ p ∈ pl, p.1 ≠ I)
    (hL : s.heap.IsList D items) (hx : items[i]? = none)
    (h : ∀ h', Fr base C h' mm → News base C h' pl →
      Seg (model prog w) A R Y n sa (.forLoop target (.ref I) body [] env) (.pure (.again (.block [] env))) fs { s with heap := h' }) :
    Seg (model prog w) A R Y n sa (.forLoop target (.ref I) body [] env) ((model prog w).den (.forLoop target (.ref I) body [] env)) fs s := by
  have hI := Nw _ (List.mem_cons_of_mem _ (List.mem_cons_self ..))
  refine seg_forLoop (wpAny_pyNext_list_end hh ⟨oI, hI.1, hoI.1, hoI.2⟩ hL hx fun h' hsb => ?_)
  refine h h' ?_ ?_
  · exact ⟨F.ns.at' fun o e => hsb _ _ (Ne.symm hI.2.1) e, fun b o e => hsb b o (fun q => by rw [q] at e; exact absurd (e.symm.trans hI.2.2) (by simp)) (F.keep b o e), F.above⟩
  · intro p hp
    have := Nw p (List.mem_cons_of_mem _ (List.mem_cons_of_mem _ hp))
    exact ⟨hsb _ _ (hpl p hp) this.1, this.2⟩

/-- the frames below the loop, by what they answer -/
structure FsOk (M : Model) (A : Around) (R : GenEnd) (Y : Protocol) (env : Env) (fs : List Frame) : Prop where
  split : splitAtGen fs = none
  guard : fs.any Frame.guarded = false
  mark : (marksOver fs (A.handled, A.handled)).1 = none
  over : ∀ n sa c s, R n sa (.ok (.ret .none)) s → Seg M A R Y n sa c (.pure (.again (.block [] env))) fs s
  ret : ∀ n sa c s, R n sa (.ok (.ret .none)) s → Seg M A R Y n sa c (.pure (.done (.ret .none))) fs s
theorem seg_fs {M : Model} {it : Value} {orelse : List Stmt} (hf : FsOk M A R Y env fs) (h : ∀ fs', FsOk M A R Y env fs' → Seg M A R Y n sa (.forLoop target it body orelse env) (M.den (.forLoop target it body orelse env)) fs' s) :
    Seg M A R Y n sa (.forLoop target it body orelse env) (M.den (.forLoop target it body orelse env)) fs s := h fs hf

def WP (base : Heap) (C D I : Addr) (oD oI : Obj) (prot : List Addr) (mm : Str → Option Value) (sa s : Shared) : Prop :=
  ∃ h tk, s = { sa with heap := h, toks := tk } ∧ Fr base C h mm ∧ News base C h ((D, oD) :: (I, oI) :: plOf prot sa.heap)
theorem seg_while_ind {M : Model} {test : Expr} (B : Nat) {P : Shared → Shared → Prop} (hs : splitAtGen fs = none) (hg : fs.any Frame.guarded = false) (h : P sa s)
    (step : ∀ n fs, splitAtGen fs = none → fs.any Frame.guarded = false → n ≤ B → ∀ sa s, P sa s →
      (∀ n', n = n' + 1 → ∀ sa' s', P sa' s' → Seg M A R Y (n' + 1) sa' (.whileLoop test body [] env) (M.den (.whileLoop test body [] env)) fs s') →
      Seg M A R Y (n + 1) sa (.whileLoop test body [] env) (M.den (.whileLoop test body [] env)) fs s) (hn : n ≤ B) :
    Seg M A R Y (n + 1) sa (.whileLoop test body [] env) (M.den (.whileLoop test body [] env)) fs s := by
  induction n generalizing sa s with
  | zero => exact step 0 fs hs hg hn sa s h fun n' e => by omega
  | succ n ih =>
    refine step (n + 1) fs hs hg hn sa s h fun n' e sa' s' h' => ?_
    obtain rfl : n' = n := by omega
    exact ih h' (by omega)
end
section
set_option maxRecDepth 100000 in
set_option maxHeartbeats 8000000 in
theorem gen_goes {w : World} {mean : ExcName → Option Value} {mg mb : Str → Option Value} {A : Around} {base : Heap} {sa : Shared} {name qual : Str} {params : Arguments} {body : List Stmt} {scope : Scope} {dV kV doc pm cdv ct oc : Value} {an od : Option Addr} {osl : Array (Option Value)}
   {C D : Addr} {prot : List Addr} {s0 s1 : Int} {t0 t1 t2 t3 : Tok} {items : Array Value} {N k : Nat}
   (ho : (kfr.heap_1 w.params).lookup 84 = some ⟨oc, od, .func (fnOf name qual params body scope dV kV doc pm an cdv ct), osl⟩) (hh : A.handled = none)
   (X : (kfr.heap_1 w.params).In base) (T : Top hdv (looseW hdv hdl) mean mg mb base) (h0 : s0 = 1 ∨ s0 = 2) (h1 : s1 = 1 ∨ s1 = 2)
   (F : Fr base C sa.heap (fun y => [(Str.ofString "grouping", Value.ref D)].lookup y)) (N0 : News base C sa.heap ((D, W.listOf items k) :: plOf prot sa.heap))
   (hp : ∀ b ∈ prot, b ≠ C ∧ b ≠ D ∧ base.get? b = none ∧ ∃ o, sa.heap.get? b = some o)
   (hw : (items = #[.int s0 t0, .int s1 t1, .int 0 t2, .int 3 t3] ∧ N = 5) ∨ (items = #[.int s0 t0, .int s1 t1, .int 127 t2, .int 1 t3] ∧ N = 3) ∨ (items = #[.int s0 t0, .int s1 t1] ∧ N = 3)) :
   GenState.Goes (model PySem.Challenge.rw_xg0046_01.row.prog w) A (GRe base prot N) (GY base prot N s0 s1) N (.fresh (.func body (envOf qual scope C 84 cdv))) (.send .none) sa := by
  revert X
  k_fill
  intro X
  w_on
  have key : ∀ (o : Obj), (kfr.heap_1 w.params).lookup 84 = some o → o = ⟨oc, od, .func (fnOf name qual params body scope dV kV doc pm an cdv ct), osl⟩ := fun o e => Option.some.inj (e.symm.trans ho)
  have h3 := key _ (by k_is)
  clear key ho
  injection h3 with e1 e2 e3 e4
  injection e3 with e3
  injection e3 with f1 f2 f3 f4 f5
  injection f4 with f4
  subst f4
  subst f5
  subst f2
  (try clear h3)
  refine ⟨rfl, ?_⟩
  refine seg_func ?_
  refine seg_execs_cons ?_
  refine seg_wrap ?_
  (try k_fold)
  repeat' ((fail_if_success (with_reducible show TEnd _ _ _ _ _ _ _ _ _)); (fail_if_success (with_reducible show RetP _ _ _)); (fail_if_success (with_reducible show WhileStep2 _ _ _ _ _ _ _ _)); first | (k_unfold; (try dsimp only)) | walk1 | (dsimp only; walk1) | (leave1; walk_say "STEP leave1"; (try dsimp only)) | fail "no step")
  (try dsimp only)
  (with_reducible rename Fr _ _ _ _ => F1)
  (with_reducible rename News _ _ _ _ => N1)
  refine seg_execs_cons ?_
  refine seg_For (by intro x; rfl) ?_
  repeat' ((fail_if_success (with_reducible show TEnd _ _ _ _ _ _ _ _ _)); (fail_if_success (with_reducible show RetP _ _ _)); (fail_if_success (with_reducible show WhileStep2 _ _ _ _ _ _ _ _)); first | (k_unfold; (try dsimp only)) | walk1 | (dsimp only; walk1) | (leave1; walk_say "STEP leave1"; (try dsimp only)) | fail "no step")
  have hL1 := N1 _ (List.mem_cons_self ..)
  refine wpAny_pyIter_list (items := items) ⟨_, hL1.1, rfl, k, rfl⟩ ?_
  intro p
  refine seg_fs ⟨rfl, rfl, hh, ?_, ?_⟩ ?_
  · intro n sa' c s' hr
    refine seg_block_nil ?_
    exact seg_end (.ok (.ret .none)) hr
  · intro n sa' c s' hr
    exact seg_leaf (.ok (.ret .none)) (seg_end (.ok (.ret .none)) hr)
  intro fs hfs
  (with_reducible rename Heap => g1)
  dsimp only at *
  have F2 := F1.push { cls := .type "list_iterator", data := .fields #[.ref D, .int 0 0] }
  have N2 : News base C (g1.push { cls := .type "list_iterator", data := .fields #[.ref D, .int 0 0] }) ((D, W.listOf items k) :: (g1.objs.size, { cls := .type "list_iterator", data := .fields #[.ref D, .int 0 0] }) :: plOf prot sa.heap) := by
    intro q hq
    rcases List.mem_cons.mp hq with rfl | hq
    · exact ⟨Heap.get?_push_of_some _ hL1.1, hL1.2⟩
    rcases List.mem_cons.mp hq with rfl | hq
    · exact ⟨Heap.get?_push_size _ rfl, (Nat.ne_of_lt F1.ns.lt).symm, next_is_new F1⟩
    · have := N1 q (List.mem_cons_of_mem _ hq)
      exact ⟨Heap.get?_push_of_some _ this.1, this.2⟩
  have hID : g1.objs.size ≠ D := fun e => absurd (Heap.lt_size hL1.1) (e ▸ Nat.lt_irrefl _)
  have hp' : ∀ b ∈ prot, b ≠ C ∧ b ≠ D ∧ b ≠ g1.objs.size ∧ base.get? b = none := by
    intro b hb
    obtain ⟨q1, q2, q3, o, q4⟩ := hp b hb
    exact ⟨q1, q2, fun e => absurd (Heap.lt_size (N1 (b, o) (List.mem_cons_of_mem _ (mem_plOf.mpr ⟨hb, q4⟩))).1) (by rw [e]; exact Nat.lt_irrefl _), q3⟩
  have hoI : ItAt { cls := .type "list_iterator", data := .fields #[.ref D, .int 0 0] } D 0 := ⟨rfl, rfl⟩
  clear N1 F1 hL1 hp
  generalize g1.push { cls := .type "list_iterator", data := .fields #[.ref D, .int 0 0] } = g2 at *
  generalize g1.objs.size = I at *
  generalize ({ cls := .type "list_iterator", data := .fields #[.ref D, .int 0 0] } : Obj) = oI at *
  have hpl : ∀ h : Heap, ∀ p ∈ plOf prot h, p.1 ≠ I := fun h p q => (hp' p.1 (mem_plOf.mp q).1).2.2.1
  obtain ⟨n, rfl⟩ : ∃ n, N = n + 1 := ⟨N - 1, by omega⟩
  have x0 : items[0]? = some (.int s0 t0) := by rcases hw with ⟨rfl, _⟩ | ⟨rfl, _⟩ | ⟨rfl, _⟩ <;> rfl
  (with_reducible rename ItAt _ _ _ => hoI)
  refine g_item (fs := fs) F2 N2 hoI hID (hpl _) ⟨_, (N2 _ (List.mem_cons_self ..)).1, rfl, k, rfl⟩ x0 ?_
  clear F2 N2 hoI
  intro g3 oI3 F3 N3 hoI3
  repeat' ((fail_if_success (with_reducible show TEnd _ _ _ _ _ _ _ _ _)); (fail_if_success (with_reducible show RetP _ _ _)); (fail_if_success (with_reducible show WhileStep2 _ _ _ _ _ _ _ _)); first | (k_unfold; (try dsimp only)) | walk1 | (dsimp only; walk1) | (leave1; walk_say "STEP leave1"; (try dsimp only)) | fail "no step")
  refine seg_execs_cons ?_
  refine seg_wrap ?_
  repeat' ((fail_if_success (with_reducible show TEnd _ _ _ _ _ _ _ _ _)); (fail_if_success (with_reducible show RetP _ _ _)); (fail_if_success (with_reducible show WhileStep2 _ _ _ _ _ _ _ _)); first | (k_unfold; (try dsimp only)) | walk1 | (dsimp only; walk1) | (leave1; walk_say "STEP leave1"; (try dsimp only)) | fail "no step")
  all_goals (first | (exfalso; omega) | skip)
  (try dsimp only)
  refine seg_execs_cons ?_
  refine seg_wrap ?_
  repeat' ((fail_if_success (with_reducible show TEnd _ _ _ _ _ _ _ _ _)); (fail_if_success (with_reducible show RetP _ _ _)); (fail_if_success (with_reducible show WhileStep2 _ _ _ _ _ _ _ _)); first | (k_unfold; (try dsimp only)) | walk1 | (dsimp only; walk1) | (leave1; walk_say "STEP leave1"; (try dsimp only)) | fail "no step")
  all_goals (first | (exfalso; omega) | skip)
  (try dsimp only)
  refine seg_execs_cons ?_
  refine seg_Expr_Yield hfs.split rfl hfs.guard ?_
  repeat' ((fail_if_success (with_reducible show TEnd _ _ _ _ _ _ _ _ _)); (fail_if_success (with_reducible show RetP _ _ _)); (fail_if_success (with_reducible show WhileStep2 _ _ _ _ _ _ _ _)); first | (k_unfold; (try dsimp only)) | walk1 | (dsimp only; walk1) | (leave1; walk_say "STEP leave1"; (try dsimp only)) | fail "no step")
  rename_i kap hkap
  (with_reducible rename Fr _ _ _ _ => F4)
  (with_reducible rename News _ _ _ _ => N4)
  refine gy_mk hp' F4 N4 ⟨_, _, rfl⟩ ⟨t0, by rw [if_pos rfl]⟩ (by omega) fun hm s2 F5 N5 => hkap .none s2 ?_
  clear hkap F4 N4
  (try dsimp only)
  obtain ⟨n2, rfl⟩ : ∃ n', n = n' + 1 := ⟨n - 1, by omega⟩
  refine seg_execs_cons ?_
  refine seg_wrap ?_
  repeat' ((fail_if_success (with_reducible show TEnd _ _ _ _ _ _ _ _ _)); (fail_if_success (with_reducible show RetP _ _ _)); (fail_if_success (with_reducible show WhileStep2 _ _ _ _ _ _ _ _)); first | (k_unfold; (try dsimp only)) | walk1 | (dsimp only; walk1) | (leave1; walk_say "STEP leave1"; (try dsimp only)) | fail "no step")
  all_goals (first | (exfalso; omega) | skip)
  (try dsimp only)
  refine seg_execs_nil ?_
  refine seg_again rfl ?_
  (with_reducible rename Fr _ _ _ _ => F2)
  (with_reducible rename News _ _ _ _ => N2)
  (try clear F5)
  (try clear N5)
  have x1 : items[1]? = some (.int s1 t1) := by rcases hw with ⟨rfl, _⟩ | ⟨rfl, _⟩ | ⟨rfl, _⟩ <;> rfl
  clear x0
  have x0 := x1
  clear hm x1
  (with_reducible rename ItAt _ _ _ => hoI)
  refine g_item (fs := fs) F2 N2 hoI hID (hpl _) ⟨_, (N2 _ (List.mem_cons_self ..)).1, rfl, k, rfl⟩ x0 ?_
  clear F2 N2 hoI
  intro g3 oI3 F3 N3 hoI3
  repeat' ((fail_if_success (with_reducible show TEnd _ _ _ _ _ _ _ _ _)); (fail_if_success (with_reducible show RetP _ _ _)); (fail_if_success (with_reducible show WhileStep2 _ _ _ _ _ _ _ _)); first | (k_unfold; (try dsimp only)) | walk1 | (dsimp only; walk1) | (leave1; walk_say "STEP leave1"; (try dsimp only)) | fail "no step")
  refine seg_execs_cons ?_
  refine seg_wrap ?_
  repeat' ((fail_if_success (with_reducible show TEnd _ _ _ _ _ _ _ _ _)); (fail_if_success (with_reducible show RetP _ _ _)); (fail_if_success (with_reducible show WhileStep2 _ _ _ _ _ _ _ _)); first | (k_unfold; (try dsimp only)) | walk1 | (dsimp only; walk1) | (leave1; walk_say "STEP leave1"; (try dsimp only)) | fail "no step")
  all_goals (first | (exfalso; omega) | skip)
  (try dsimp only)
  refine seg_execs_cons ?_
  refine seg_wrap ?_
  repeat' ((fail_if_success (with_reducible show TEnd _ _ _ _ _ _ _ _ _)); (fail_if_success (with_reducible show RetP _ _ _)); (fail_if_success (with_reducible show WhileStep2 _ _ _ _ _ _ _ _)); first | (k_unfold; (try dsimp only)) | walk1 | (dsimp only; walk1) | (leave1; walk_say "STEP leave1"; (try dsimp only)) | fail "no step")
  all_goals (first | (exfalso; omega) | skip)
  (try dsimp only)
  refine seg_execs_cons ?_
  refine seg_Expr_Yield hfs.split rfl hfs.guard ?_
  repeat' ((fail_if_success (with_reducible show TEnd _ _ _ _ _ _ _ _ _)); (fail_if_success (with_reducible show RetP _ _ _)); (fail_if_success (with_reducible show WhileStep2 _ _ _ _ _ _ _ _)); first | (k_unfold; (try dsimp only)) | walk1 | (dsimp only; walk1) | (leave1; walk_say "STEP leave1"; (try dsimp only)) | fail "no step")
  rename_i kap hkap
  (with_reducible rename Fr _ _ _ _ => F4)
  (with_reducible rename News _ _ _ _ => N4)
  refine gy_mk hp' F4 N4 ⟨_, _, rfl⟩ ⟨t1, by rw [if_neg (by omega)]⟩ (by omega) fun hm s2 F5 N5 => hkap .none s2 ?_
  clear hkap F4 N4
  (try dsimp only)
  obtain ⟨n3, rfl⟩ : ∃ n', n2 = n' + 1 := ⟨n2 - 1, by omega⟩
  refine seg_execs_cons ?_
  refine seg_wrap ?_
  repeat' ((fail_if_success (with_reducible show TEnd _ _ _ _ _ _ _ _ _)); (fail_if_success (with_reducible show RetP _ _ _)); (fail_if_success (with_reducible show WhileStep2 _ _ _ _ _ _ _ _)); first | (k_unfold; (try dsimp only)) | walk1 | (dsimp only; walk1) | (leave1; walk_say "STEP leave1"; (try dsimp only)) | fail "no step")
  all_goals (first | (exfalso; omega) | skip)
  (try dsimp only)
  refine seg_execs_nil ?_
  refine seg_again rfl ?_
  (with_reducible rename Fr _ _ _ _ => F2)
  (with_reducible rename News _ _ _ _ => N2)
  (try clear F5)
  (try clear N5)
  clear x0
  rcases hw with ⟨rfl, hw⟩ | ⟨rfl, hw⟩ | ⟨rfl, hw⟩
  · have x0 : (#[Value.int s0 t0, .int s1 t1, .int 0 t2, .int 3 t3] : Array Value)[2]? = some (.int 0 t2) := rfl
    obtain rfl : n3 = 2 := by omega
    (with_reducible rename ItAt _ _ _ => hoI)
    refine g_item (fs := fs) F2 N2 hoI hID (hpl _) ⟨_, (N2 _ (List.mem_cons_self ..)).1, rfl, k, rfl⟩ x0 ?_
    clear F2 N2 hoI
    intro g3 oI3 F3 N3 hoI3
    repeat' ((fail_if_success (with_reducible show TEnd _ _ _ _ _ _ _ _ _)); (fail_if_success (with_reducible show RetP _ _ _)); (fail_if_success (with_reducible show WhileStep2 _ _ _ _ _ _ _ _)); first | (k_unfold; (try dsimp only)) | walk1 | (dsimp only; walk1) | (leave1; walk_say "STEP leave1"; (try dsimp only)) | fail "no step")
    refine seg_execs_cons ?_
    refine seg_wrap ?_
    repeat' ((fail_if_success (with_reducible show TEnd _ _ _ _ _ _ _ _ _)); (fail_if_success (with_reducible show RetP _ _ _)); (fail_if_success (with_reducible show WhileStep2 _ _ _ _ _ _ _ _)); first | (k_unfold; (try dsimp only)) | walk1 | (dsimp only; walk1) | (leave1; walk_say "STEP leave1"; (try dsimp only)) | fail "no step")
    all_goals (first | (exfalso; omega) | skip)
    (try dsimp only)
    refine seg_execs_cons ?_
    refine seg_If_true ?_
    repeat' ((fail_if_success (with_reducible show TEnd _ _ _ _ _ _ _ _ _)); (fail_if_success (with_reducible show RetP _ _ _)); (fail_if_success (with_reducible show WhileStep2 _ _ _ _ _ _ _ _)); first | (k_unfold; (try dsimp only)) | walk1 | (dsimp only; walk1) | (leave1; walk_say "STEP leave1"; (try dsimp only)) | fail "no step")
    refine seg_execs_cons ?_
    refine seg_wrap ?_
    repeat' ((fail_if_success (with_reducible show TEnd _ _ _ _ _ _ _ _ _)); (fail_if_success (with_reducible show RetP _ _ _)); (fail_if_success (with_reducible show WhileStep2 _ _ _ _ _ _ _ _)); first | (k_unfold; (try dsimp only)) | walk1 | (dsimp only; walk1) | (leave1; walk_say "STEP leave1"; (try dsimp only)) | fail "no step")
    all_goals (first | (exfalso; omega) | skip)
    (try dsimp only)
    refine seg_execs_cons ?_
    refine seg_While ?_
    intro p2
    (with_reducible rename Fr _ _ _ _ => F4)
    (with_reducible rename News _ _ _ _ => N4)
    refine seg_while_ind 2 (by simp [splitAtGen, hfs.split]) (by simp [Frame.guarded, hfs.guard]) (show WP base C D I _ _ prot _ s2 _ from ⟨_, _, rfl, F4, N4⟩) ?_ (by omega)
    clear F4 N4
    rintro n fs' hs hg hn sa3 s3 ⟨h3, tk3, rfl, F2, N2⟩ ih
    refine seg_whileLoop ?_
    repeat' ((fail_if_success (with_reducible show TEnd _ _ _ _ _ _ _ _ _)); (fail_if_success (with_reducible show RetP _ _ _)); (fail_if_success (with_reducible show WhileStep2 _ _ _ _ _ _ _ _)); first | (k_unfold; (try dsimp only)) | walk1 | (dsimp only; walk1) | (leave1; walk_say "STEP leave1"; (try dsimp only)) | fail "no step")
    refine seg_execs_cons ?_
    refine seg_Expr_Yield hs rfl hg ?_
    repeat' ((fail_if_success (with_reducible show TEnd _ _ _ _ _ _ _ _ _)); (fail_if_success (with_reducible show RetP _ _ _)); (fail_if_success (with_reducible show WhileStep2 _ _ _ _ _ _ _ _)); first | (k_unfold; (try dsimp only)) | walk1 | (dsimp only; walk1) | (leave1; walk_say "STEP leave1"; (try dsimp only)) | fail "no step")
    rename_i kap hkap
    (with_reducible rename Fr _ _ _ _ => F4)
    (with_reducible rename News _ _ _ _ => N4)
    refine gy_mk hp' F4 N4 ⟨_, _, rfl⟩ ⟨t1, by rw [if_neg (by omega)]⟩ (by omega) fun hm s2 F5 N5 => hkap .none s2 ?_
    obtain ⟨n', rfl⟩ : ∃ n', n = n' + 1 := ⟨n - 1, by omega⟩
    refine seg_execs_nil ?_
    refine seg_again rfl ?_
    exact ih n' rfl s2 s2 ⟨_, _, rfl, F5, N5⟩
  · have x0 : (#[Value.int s0 t0, .int s1 t1, .int 127 t2, .int 1 t3] : Array Value)[2]? = some (.int 127 t2) := rfl
    obtain rfl : n3 = 0 := by omega
    (with_reducible rename ItAt _ _ _ => hoI)
    refine g_item (fs := fs) F2 N2 hoI hID (hpl _) ⟨_, (N2 _ (List.mem_cons_self ..)).1, rfl, k, rfl⟩ x0 ?_
    clear F2 N2 hoI
    intro g3 oI3 F3 N3 hoI3
    repeat' ((fail_if_success (with_reducible show TEnd _ _ _ _ _ _ _ _ _)); (fail_if_success (with_reducible show RetP _ _ _)); (fail_if_success (with_reducible show WhileStep2 _ _ _ _ _ _ _ _)); first | (k_unfold; (try dsimp only)) | walk1 | (dsimp only; walk1) | (leave1; walk_say "STEP leave1"; (try dsimp only)) | fail "no step")
    refine seg_execs_cons ?_
    refine seg_wrap ?_
    repeat' ((fail_if_success (with_reducible show TEnd _ _ _ _ _ _ _ _ _)); (fail_if_success (with_reducible show RetP _ _ _)); (fail_if_success (with_reducible show WhileStep2 _ _ _ _ _ _ _ _)); first | (k_unfold; (try dsimp only)) | walk1 | (dsimp only; walk1) | (leave1; walk_say "STEP leave1"; (try dsimp only)) | fail "no step")
    all_goals (first | (exfalso; omega) | skip)
    (try dsimp only)
    (with_reducible rename Fr _ _ _ _ => F4)
    (with_reducible rename News _ _ _ _ => N4)
    refine hfs.ret _ _ _ _ ⟨rfl, rfl, rfl, _, _, rfl, F4.keep, fun b hb o ho => (N4 (b, o) (List.mem_cons_of_mem _ (List.mem_cons_of_mem _ (mem_plOf.mpr ⟨hb, ho⟩)))).1⟩
  · have x0 : (#[Value.int s0 t0, .int s1 t1] : Array Value)[2]? = none := rfl
    obtain rfl : n3 = 0 := by omega
    (with_reducible rename ItAt _ _ _ => hoI)
    refine g_end (fs := fs) hfs.mark F2 N2 hoI hID (hpl _) ⟨_, (N2 _ (List.mem_cons_self ..)).1, rfl, k, rfl⟩ x0 ?_
    intro g3 F3 N3
    refine hfs.over _ _ _ _ ⟨rfl, rfl, rfl, _, _, rfl, F3.keep, fun b hb o ho => (N3 (b, o) (mem_plOf.mpr ⟨hb, ho⟩)).1⟩
end
end Mine
end
section
open PySem PySem.W PyProof.Rows PySem.Calls Mine
namespace Mine
theorem push_set {α : Type} (a : Array α) (x y : α) : (a.push x).setIfInBounds a.size y = a.push y := by
  apply Array.ext'
  simp
theorem setGen_push (s : Shared) (x y : GenState) (h : Heap) (tk : Nat) : Shared.setGen { s with heap := h, toks := tk, gens := s.gens.push x } s.gens.size y = { s with heap := h, toks := tk, gens := s.gens.push y } := by
  simp only [Shared.setGen]
  rw [push_set]
section
variable {prog : Program} {w : World} {A : Around} {env : Env} {base : Heap} {sB : Shared} {Dm G : Addr} {gobj : Obj} {N : Nat} {s0 s1 : Int} {R : Result → Shared → Prop} {body : List Stmt} {x : Str} {px : Pos}

def GI (prog : Program) (w : World) (A : Around) (env : Env) (base : Heap) (sB : Shared) (Dm G : Addr) (gobj : Obj) (N : Nat) (s0 s1 : Int) (J : Nat → (Str → Option Value) → Obj → Prop) (n : Nat) (s' : Shared) : Prop :=
  ∃ j h tk gs m₁ oD own, n = N - j ∧ j < N ∧ s' = { sB with heap := h, toks := tk, gens := sB.gens.push gs } ∧ gs.bare = true ∧ J j m₁ oD ∧ Fr base env.locals h m₁ ∧ News base env.locals h ((Dm, oD) :: (G, gobj) :: own) ∧ (∀ p ∈ own, p.1 ∉ [env.locals, Dm, G]) ∧
    ∀ s'' : Shared, (∀ p ∈ own, s''.heap.get? p.1 = some p.2) → (∀ b o, base.get? b = some o → s''.heap.get? b = some o) → (∃ tk', s'' = { sB with heap := h, toks := tk', gens := sB.gens.push .running } ∨ 0 < j) → gs.Goes (model prog w) A.in1 (GRe base [env.locals, Dm, G] N) (GY base [env.locals, Dm, G] N s0 s1) n (.send .none) s''

def GEnd (base : Heap) (L : Addr) (sB : Shared) (Dm G : Addr) (gobj : Obj) (N : Nat) (J : Nat → (Str → Option Value) → Obj → Prop) (R : Result → Shared → Prop) (own : List (Addr × Obj)) (gs : GenState) (j : Nat) (f : Flow) (s₃ : Shared) : Prop := match f with
        | .next | .cont => ∃ h' tk' m' oD', s₃ = { sB with heap := h', toks := tk', gens := sB.gens.push gs } ∧ j + 1 < N ∧ J (j + 1) m' oD' ∧ Fr base L h' m' ∧ News base L h' ((Dm, oD') :: (G, gobj) :: own)
        | .brk => R (.ok .next) s₃
        | .ret v => R (.ok (.ret v)) s₃
theorem GEnd.mk {L : Addr} {J : Nat → (Str → Option Value) → Obj → Prop} {own : List (Addr × Obj)} {gs : GenState} {j : Nat} {h' : Heap} {tk' : Nat} {m' : Str → Option Value} {oD' : Obj} (F : Fr base L h' m') (Nw : News base L h' ((Dm, oD') :: (G, gobj) :: own)) (hj : j + 1 < N) (hJ : J (j + 1) m' oD') :
    GEnd base L sB Dm G gobj N J R own gs j .next { sB with heap := h', toks := tk', gens := sB.gens.push gs } := ⟨h', tk', m', oD', rfl, hj, hJ, F, Nw⟩
theorem GEnd.brk {L : Addr} {J : Nat → (Str → Option Value) → Obj → Prop} {own : List (Addr × Obj)} {gs : GenState} {j : Nat} {s₃ : Shared} (h : R (.ok .next) s₃) :
    GEnd base L sB Dm G gobj N J R own gs j .brk s₃ := h
theorem gen_turns (hh : A.handled = none) (hroom : A.depth < recursionLimit) (hlim : base.NoLimit)
    (hG : gobj.cls = .type "generator" ∧ ∃ nm qn, gobj.data = .fields #[.int sB.gens.size 0, nm, qn] ∧ gobj.slots = #[])
    (J : Nat → (Str → Option Value) → Obj → Prop)
    (turn : ∀ j t m₁ oD h tk own gs, j < N → (N = 3 → j < 2) → J j m₁ oD → Fr base env.locals h m₁ → News base env.locals h ((Dm, oD) :: (G, gobj) :: own) → (∀ p ∈ own, p.1 ≠ Dm) → gs.bare = true →
      wpAny (model prog w) A (assign (.Name x px) env (.int (if j = 0 then s0 else s1) t)) (fun _ s₂ => wpAny (model prog w) A (execs body env) (GEnd base env.locals sB Dm G gobj N J R own gs j) (notedBy (model prog w) A env fun e s' => R (.error e) s') s₂) (notedBy (model prog w) A env fun e s' => R (.error e) s') { sB with heap := h, toks := tk, gens := sB.gens.push gs })
    (done : ∀ m₁ oD h tk gs, N = 3 → J 2 m₁ oD → Fr base env.locals h m₁ → News base env.locals h [(Dm, oD)] → gs.bare = true → R (.ok .next) { sB with heap := h, toks := tk, gens := sB.gens.push gs })
    {n : Nat} {s' : Shared} (h0 : GI prog w A env base sB Dm G gobj N s0 s1 J n s') :
    codeAny (model prog w) A (.forLoop (.Name x px) (.ref G) body [] env) R s' := by
  refine codeAny_forLoop_any (GI prog w A env base sB Dm G gobj N s0 s1 J) ?_ n h0
  clear h0
  rintro n s ⟨j, h, tk, gs, m₁, oD, own, rfl, hj, rfl, hb, hJ, F, Nw, hown, hgo⟩
  obtain ⟨hc, nm, qn, hdat⟩ := hG
  have hGh := Nw _ (List.mem_cons_of_mem _ (List.mem_cons_self ..))
  have hDh := Nw _ (List.mem_cons_self ..)
  obtain ⟨oL, hL⟩ : ∃ oL, h.get? env.locals = some oL := by obtain ⟨o, _, _, q, _⟩ := F.ns; exact ⟨o, q⟩
  have prot_fr : ∀ h' : Heap, (∀ b o, base.get? b = some o → h'.get? b = some o) → (∀ b ∈ [env.locals, Dm, G], ∀ o, h.get? b = some o → h'.get? b = some o) → Fr base env.locals h' m₁ := fun h' k1 k2 =>
    ⟨F.ns.at' fun o e => k2 _ (by simp) o e, k1, F.above⟩
  refine next_func (a := G) (g := sB.gens.size) (n := N - j) (gs := gs) (P := GR base [env.locals, Dm, G] N) (Y := GY base [env.locals, Dm, G] N s0 s1) hh (hlim.keeps F.keep) hroom ⟨gobj, nm, qn, hGh.1, hc, hdat⟩ (by simp) ?_ ?_ ?_
  · rw [setGen_push]
    exact hgo _ (fun p hp => (Nw p (by simp [hp])).1) F.keep ⟨tk, .inl rfl⟩
  · rintro v s₁ gs' hb' ⟨⟨t, hv⟩, ⟨h', tk', hs1, hk1, hk2⟩, ⟨own', ho1, ho2⟩, h3⟩
    rw [setGen_push] at hs1 hk2
    subst hs1
    have e1 : (if N - j - 1 + 1 = N then s0 else s1) = (if j = 0 then s0 else s1) := by
      by_cases e : j = 0
      · rw [if_pos e, if_pos (by omega)]
      · rw [if_neg e, if_neg (by omega)]
    rw [e1] at hv
    subst hv
    show wpAny _ _ (letOwnedTupleGo (.Name x px) _ _) _ _ _
    refine wpAny_pure ?_
    have e2 : Shared.setGen { sB with heap := h', toks := tk', gens := sB.gens.push .running } sB.gens.size gs' = { sB with heap := h', toks := tk', gens := sB.gens.push gs' } := setGen_push ..
    show wpAny _ _ _ _ _ (Shared.setGen { sB with heap := h', toks := tk', gens := sB.gens.push .running } sB.gens.size gs')
    rw [e2]
    refine wpAny_mono (turn j t m₁ oD h' tk' own' gs' hj (fun e => by have := h3 e; omega) hJ (prot_fr h' hk1 hk2) ?_ (fun p hp e => (ho1 p hp).2.1 (by simp [e])) hb') (fun _ s₂ h₂ => wpAny_mono h₂ (fun f s₃ h₃ => ?_) fun _ _ e => e) fun _ _ e => e
    · intro p hp
      rcases List.mem_cons.mp hp with rfl | hp
      · exact ⟨hk2 _ (by simp) _ hDh.1, hDh.2⟩
      rcases List.mem_cons.mp hp with rfl | hp
      · exact ⟨hk2 _ (by simp) _ hGh.1, hGh.2⟩
      · exact ⟨(ho1 p hp).1, fun e => (ho1 p hp).2.1 (by simp [e]), (ho1 p hp).2.2⟩
    · have key : (∃ h'' tk'' m' oD', s₃ = { sB with heap := h'', toks := tk'', gens := sB.gens.push gs' } ∧ j + 1 < N ∧ J (j + 1) m' oD' ∧ Fr base env.locals h'' m' ∧ News base env.locals h'' ((Dm, oD') :: (G, gobj) :: own')) →
          ∃ m, m < N - j ∧ GI prog w A env base sB Dm G gobj N s0 s1 J m s₃ := by
        rintro ⟨h'', tk'', m', oD', rfl, hj', hJ', F', N'⟩
        refine ⟨N - (j + 1), by omega, j + 1, h'', tk'', gs', m', oD', own', rfl, hj', rfl, hb', hJ', F', N', fun p hp => (ho1 p hp).2.1, fun s'' q1 q2 _ => ?_⟩
        have := ho2 (by omega) s'' q1 q2
        obtain ⟨k, hk⟩ : ∃ k, N - j = k + 1 := ⟨N - j - 1, by omega⟩
        rw [hk] at this
        rw [show N - (j + 1) = k by omega]
        exact this
      cases f with
      | next => exact key h₃
      | cont => exact key h₃
      | brk => exact h₃
      | ret v => exact h₃
  · rintro s₁ ⟨hn, hN, h', tk', hs1, hk1, hk2⟩ h'' hk3
    rw [setGen_push] at hs1 hk2
    subst hs1
    show wpAny _ _ (execs [] env) _ _ { Shared.setGen { sB with heap := h', toks := tk', gens := sB.gens.push .running } sB.gens.size .finished with heap := h'' }
    rw [setGen_push]
    have F' := prot_fr h'' (fun b o e => hk3 b o (hk1 b o e)) (fun b hb o e => hk3 b o (hk2 b hb o e))
    obtain rfl : j = 2 := by omega
    refine wpAny_pure (done m₁ oD h'' tk' .finished hN hJ F' ?_ rfl)
    intro p hp
    rw [List.mem_singleton.mp hp]
    exact ⟨hk3 _ _ (hk2 _ (by simp) _ hDh.1), hDh.2⟩
end
end Mine
end
section
open PySem PySem.W PyProof.Rows PySem.Calls Mine
namespace Mine
def marksOf (s0 s1 way : Int) : List Int := if way = 0 then [s0, s0 + s1, s0 + s1 + s1, s0 + s1 + s1 + s1] else [s0, s0 + s1]

def placeOf (s0 s1 : Int) (j : Nat) : Int := if j = 0 then 0 else s0 + s1 * ((j : Int) - 1)
def mkOf (s0 s1 : Int) (j : Nat) : List Int := (List.range j).map fun i => placeOf s0 s1 (i + 1)
theorem mkOf_succ (s0 s1 : Int) (j : Nat) : mkOf s0 s1 (j + 1) = mkOf s0 s1 j ++ [placeOf s0 s1 (j + 1)] := by simp [mkOf, List.range_succ]
theorem placeOf_succ (s0 s1 : Int) (j : Nat) : placeOf s0 s1 (j + 1) = placeOf s0 s1 j + (if j = 0 then s0 else s1) := by
  unfold placeOf
  rw [if_neg (Nat.succ_ne_zero j)]
  by_cases e : j = 0
  · subst e; simp
  · rw [if_neg e, if_neg e]
    have : ((j + 1 : Nat) : Int) - 1 = ((j : Int) - 1) + 1 := by omega
    rw [this, Int.mul_add, Int.mul_one, Int.add_assoc]
theorem mkOf_four (s0 s1 : Int) : mkOf s0 s1 4 = marksOf s0 s1 0 := by
  simp only [mkOf, marksOf, placeOf, List.range, List.range.loop, List.map, if_pos, List.cons.injEq, and_true]
  refine ⟨?_, ?_, ?_, ?_⟩ <;> simp <;> omega
theorem mkOf_two (s0 s1 way : Int) (h : way ≠ 0) : mkOf s0 s1 2 = marksOf s0 s1 way := by
  simp only [mkOf, marksOf, placeOf, List.range, List.range.loop, List.map, if_neg h, List.cons.injEq, and_true]
  refine ⟨?_, ?_⟩ <;> simp
def MJ (Dm : Addr) (s0 s1 : Int) (m₀ : Str → Option Value) (j : Nat) (m₁ : Str → Option Value) (oD : Obj) : Prop :=
  ∃ t vs k, oD = W.listOf vs k ∧ IntsAre vs.toList (mkOf s0 s1 j) ∧ FrJ (Str.ofString "wide") [(Str.ofString "marks", Value.ref Dm), (Str.ofString "place", Value.int (placeOf s0 s1 j) t)] [] m₀ m₁
theorem lt_sz {h : Heap} {a : Addr} {o : Obj} (e : h.get? a = some o) : @LT.lt Nat instLTNat a h.objs.size := Heap.lt_size e
theorem news_gen {base h q : Heap} {L C D : Addr} {o : Obj} {rest : List (Addr × Obj)} {prot : List Addr} (N : News base L q ((D, o) :: rest)) (hk : Keeps q h) (hD : D ≠ C) (hp : ∀ b ∈ prot, b ≠ C ∧ b ≠ D ∧ base.get? b = none ∧ ∃ o, h.get? b = some o) : News base C h ((D, o) :: plOf prot h) := by
  intro p hpm
  rcases List.mem_cons.mp hpm with rfl | hpm
  · have := N _ (List.mem_cons_self ..)
    exact ⟨hk _ _ this.1, hD, this.2.2⟩
  · have h5 := mem_plOf.mp hpm
    exact ⟨h5.2, (hp _ h5.1).1, (hp _ h5.1).2.2.1⟩
theorem ints_snoc {vs : List Value} {ns : List Int} {n : Int} {t : Tok} (h : IntsAre vs ns) : IntsAre (vs ++ [.int n t]) (ns ++ [n]) := by
  induction h with
  | nil => exact .cons _ _ .nil
  | cons _ _ _ ih => exact .cons _ _ ih
theorem fr_name {h₀ h : Heap} {L : Addr} {m : Str → Option Value} (F : Fr h₀ L h m) : ∃ m0, m0 = m ∧ Fr h₀ L h m0 := ⟨m, rfl, F⟩
section
set_option maxRecDepth 100000 in
set_option maxHeartbeats 8000000 in
theorem marks_tells {w : World} {mean : ExcName → Option Value} {mg mb : Str → Option Value} {dp un : Nat} {gd : Option (List Code)} {cn : Str} {cs : Scope} {a : Addr} {ccd : Value} {cl : List (Str × Addr)} {outer : List Env} {A₀ : Around} {base h₀ : Heap} {L : Addr} {m : Str → Option Value} {s : Shared} {Q E : Value → Shared → Prop}
   {lz : Addr} {t0 t1 tw : Tok} {s0 s1 way : Int}
   (B : Below A₀ base outer h₀) (F : Fr h₀ L s.heap m) (X : (kfr.heap_1 w.params).In h₀) (T : Top hdv (looseW hdv hdl) mean mg mb h₀) (hk : cs.kind = .function) (hd : dp + 4 < recursionLimit) (hu : un + 60 < cLine)
   (hz : s.heap.IsList lz #[.int s0 t0, .int s1 t1]) (h0 : s0 = 1 ∨ s0 = 2) (h1 : s1 = 1 ∨ s1 = 2) (hw : way = 0 ∨ way = 1 ∨ way = 2)
   (hret : ∀ D vs n h' tk gs, Keeps s.heap h' → Fresh s.heap h' [(D, W.listOf vs.toArray n)] → IntsAre vs (marksOf s0 s1 way) → gs.bare = true → Q (.ref D) { s with heap := h', toks := tk, gens := s.gens.push gs }) :
   wpAny (model PySem.Challenge.rw_xg0046_01.row.prog w) (ktrTop dp un gd cn cs L a ccd cl outer) (call (.ref 141) [.ref lz, .int way tw]) Q E s := by
  revert X
  k_fill
  intro X
  w_on
  k_dflt (refine' enterP (args := ⟨[.ref lz, .int way tw], []⟩) B F X T ?kA ?kF ?kK ?k6 ?k7 ?k8 ?k9 ?kB ?_ ?c2 ?c3 ?c4 ?c5; (case kA => exact rfl); (case kF => exact rfl); (case kK => exact hk); (case k6 => k_is); (case k7 => k_is); (case k8 => ktr_room); (case k9 => exact BindsTo.of_eq rfl); (case c5 => decide); (case kB => exact locs rfl); (case c2 => exact rfl); (case c3 => exact rfl); (case c4 => exact rfl); k_whole)
  clear F B T X
  intro L' h' F' N' B' X' T'
  (try dsimp only)
  (try k_fold)
  k_with_none
  have hzi : IntsAre [.int s0 t0, .int s1 t1] [s0, s1] := .cons _ _ (.cons _ _ .nil)
  rcases hw with rfl | rfl | rfl
  · repeat' ((fail_if_success (with_reducible show wpAny _ _ (exec (Stmt.For _ _ _ _ _) _) _ _ _)); first | (k_unfold; (try dsimp only)) | (k_end; kc_close) | walk1 | (dsimp only; walk1) | (leave1; walk_say "STEP leave1"; (try dsimp only)) | fail "no step")
    refine wpAny_For ?_ (by intro x; rfl)
    repeat' ((fail_if_success (with_reducible show wpAny _ _ (call (Value.ref 84) _) _ _ _)); first | (k_unfold; (try dsimp only)) | (k_end; kc_close) | walk1 | (dsimp only; walk1) | (leave1; walk_say "STEP leave1"; (try dsimp only)) | fail "no step")
    (rename Fr _ _ _ _ => lF'); (rename News _ _ _ _ => lN')
    rename_i q1 q2 q3 q4 q5 q6 q7 q8 q9 q10 q11 q12 q13 Dm q15 q16 q17 q18 D q20 q21
    have lN0 := kst_newsOf (l' := [(Dm, W.listOf #[] 0)]) lN' (by simp)
    k_dflt (refine' enterG (args := ⟨[.ref D], []⟩) lF' X' T' ?k6 ?k7 ?k8 ?k9 ?kB ?_ ?c2 ?c3 ?c4 ?c5; (case k6 => k_is); (case k7 => k_is); (case k8 => ktr_room); (case k9 => exact BindsTo.of_eq rfl); (case c5 => decide); (case kB => exact locs rfl); (case c2 => exact rfl); (case c3 => exact rfl); (case c4 => exact rfl); k_whole)
    intro h₁ nm qn hns hk₁ hsz
    dsimp only at hns hk₁ hsz
    have hCk : ∀ b o, q20.get? b = some o → (h₁.push { cls := .type "generator", data := .fields #[.int s.gens.size 0, nm, qn] }).get? b = some o := fun b o e => Heap.get?_push_of_some _ (hk₁ b o e)
    obtain ⟨m0, hm0, F3⟩ := fr_name (keeps_fr lF' hCk)
    obtain ⟨tp0, htp⟩ : ∃ tp0, m0 (Str.ofString "place") = some (.int 0 tp0) := by subst hm0; exact ⟨_, rfl⟩
    have hmk : m0 (Str.ofString "marks") = some (.ref Dm) := by subst hm0; rfl
    clear hm0
    have N3 := keeps_news lN' hCk
    have hLq : @LT.lt Nat instLTNat L' q20.objs.size := lF'.ns.lt
    have hsz' : h₁.objs.size = q20.objs.size + 1 := hsz
    clear hsz
    have hab : s.heap.objs.size ≤ L' := lF'.above
    have hDmD : Dm ≠ D := Nat.ne_of_lt q21.1
    refine wpAny_pyIter_gen (g := s.gens.size) ⟨_, nm, qn, Heap.get?_push_size _ rfl, rfl, rfl, rfl⟩ ?_
    refine gen_turns (base := s.heap) (sB := s) (Dm := Dm) (G := h₁.objs.size) (gobj := { cls := .type "generator", data := .fields #[.int s.gens.size 0, nm, qn] }) (N := 5) (s0 := s0) (s1 := s1) (n := 5) (by rfl) (by ktr_room) T'.nolimit ⟨rfl, nm, qn, rfl, rfl⟩ (MJ Dm s0 s1 m0) ?kt ?kd ?k0
    (case k0 =>
      refine ⟨0, _, _, _, _, _, [], rfl, by decide, rfl, rfl, ⟨tp0, #[], 0, rfl, .nil, ⟨?_, fun _ _ _ _ => rfl⟩⟩, F3, ?_, List.forall_mem_nil _, ?_⟩
      · intro p hp
        rcases List.mem_cons.mp hp with rfl | hp
        · exact hmk
        · rw [List.mem_singleton.mp hp]; exact htp
      · intro p hp
        rcases List.mem_cons.mp hp with rfl | hp
        · exact N3 _ (by simp)
        · rw [List.mem_singleton.mp hp]
          refine ⟨Heap.get?_push_size _ rfl, fun e => ?_, ?_⟩
          · have e' : h₁.objs.size = L' := e
            omega
          · cases q : s.heap.get? h₁.objs.size with
            | none => rfl
            | some o => exact absurd (lt_sz q) (by have := lF'.above; omega)
      · intro s'' _ _ hst
        obtain ⟨tk', hst⟩ := hst
        rcases hst with rfl | hst
        · skip
          have hDq := lN' _ (List.mem_cons_self ..)
          have hD2 : @LT.lt Nat instLTNat D q20.objs.size := lt_sz hDq.1
          have hDm2 : @LT.lt Nat instLTNat Dm q20.objs.size := lt_sz (lN0 _ (List.mem_cons_self ..)).1
          have hCb : s.heap.get? q20.objs.size = none := by
            cases q : s.heap.get? q20.objs.size with
            | none => rfl
            | some o => exact absurd (lt_sz q) (by have := lF'.above; omega)
          have hprot : ∀ b ∈ [L', Dm, h₁.objs.size], b ≠ q20.objs.size ∧ b ≠ D ∧ s.heap.get? b = none ∧ ∃ o, (h₁.push { cls := .type "generator", data := .fields #[.int s.gens.size 0, nm, qn] }).get? b = some o := by
            intro b hb
            simp only [List.mem_cons, List.mem_nil_iff, or_false] at hb
            rcases hb with rfl | rfl | rfl
            · refine ⟨Nat.ne_of_lt hLq, fun e => hDq.2.1 e.symm, ?_, let ⟨o, _, _, q, _⟩ := F3.ns; ⟨o, q⟩⟩
              cases q : s.heap.get? b with
              | none => rfl
              | some o => exact absurd (lt_sz q) (by have := lF'.above; omega)
            · exact ⟨Nat.ne_of_lt hDm2, hDmD, (lN0 _ (List.mem_cons_self ..)).2.2, _, hCk _ _ (lN0 _ (List.mem_cons_self ..)).1⟩
            · refine ⟨Nat.ne_of_gt (show @LT.lt Nat instLTNat q20.objs.size h₁.objs.size by omega), Nat.ne_of_gt (show @LT.lt Nat instLTNat D h₁.objs.size by omega), ?_, _, Heap.get?_push_size _ rfl⟩
              cases q : s.heap.get? h₁.objs.size with
              | none => rfl
              | some o => exact absurd (lt_sz q) (by have := lF'.above; omega)
          refine gen_goes (C := q20.objs.size) (D := D) (by k_is) (by rfl) X' T' h0 h1 ⟨hns.at' fun o e => Heap.get?_push_of_some _ e, F3.keep, by have := lF'.above; omega⟩ (news_gen lN' hCk (Nat.ne_of_lt hD2) hprot) hprot (.inl ⟨rfl, rfl⟩)
        · exact absurd hst (by decide))
    (case kd =>
      intro _ _ _ _ _ e
      exact absurd e (by decide))
    (case kt =>
      rintro j t m₁ oD h tk own gs hj5 - ⟨tp, vs, kn, rfl, hI, hJ⟩ F9 N9 hoD hb
      replace F9 := hJ.fr F9
      clear hJ
      obtain ⟨wv, hwv⟩ : ∃ wv, wv = (if j = 0 then s0 else s1) := ⟨_, rfl⟩
      rw [← hwv]
      have hvl : vs.size = j := by
        have := hI.length
        simpa [mkOf] using this
      obtain ⟨T, hT⟩ : ∃ T, T = (h₁.objs.size, ({ cls := .type "generator", data := .fields #[.int s.gens.size 0, nm, qn] } : Obj)) :: own := ⟨_, rfl⟩
      rw [← hT] at N9
      have hTo : OwnOff T [Dm] := by
        intro p hp b hb
        rw [List.mem_singleton.mp hb]
        rw [hT] at hp
        rcases List.mem_cons.mp hp with rfl | h1
        · have a2 : @LT.lt Nat instLTNat Dm q20.objs.size := lt_sz (lN0 _ (List.mem_cons_self ..)).1
          exact Nat.ne_of_gt (show @LT.lt Nat instLTNat Dm h₁.objs.size by omega)
        · exact hoD p h1
      clear lN' lF' lN0 F3 N3 q16 q21 q12 q9 q6 hns hk₁ hCk
      dsimp only [kstB] at F9
      (try k_fold)
      repeat' ((fail_if_success (with_reducible show TEnd _ _ _ _ _ _ _ _ _)); (fail_if_success (with_reducible show RetP _ _ _)); (fail_if_success (with_reducible show WhileStep2 _ _ _ _ _ _ _ _)); first | (k_unfold; (try dsimp only)) | walk1 | (dsimp only; walk1) | (leave1; walk_say "STEP leave1"; (try dsimp only)) | fail "no step")
      · (rename News _ _ _ _ => nE')
        dsimp only
        refine GEnd.brk ?_
        dsimp only
        obtain rfl : j = 4 := by omega
        rw [mkOf_four] at hI
        repeat' ((fail_if_success (with_reducible show TEnd _ _ _ _ _ _ _ _ _)); (fail_if_success (with_reducible show RetP _ _ _)); (fail_if_success (with_reducible show WhileStep2 _ _ _ _ _ _ _ _)); first | (k_unfold; (try dsimp only)) | walk1 | (dsimp only; walk1) | (leave1; walk_say "STEP leave1"; (try dsimp only)) | fail "no step")
        exact hret Dm vs.toList kn _ _ gs (Fr.keep (by assumption)) (by rw [Array.toArray_toList]; exact (Fresh.of nE').mono (by simp)) hI hb
      · (rename Fr _ _ _ _ => nF'); (rename News _ _ _ _ => nE')
        dsimp only
        refine GEnd.mk nF' (kst_newsOf nE' (by rw [hT]; intro p hp; kst_mem)) (by omega) ?_
        refine' ⟨_, _, _, rfl, ?h1, ?h2, ?h3⟩
        (case h2 =>
          refine List.forall_mem_cons.mpr ⟨rfl, List.forall_mem_cons.mpr ⟨?_, List.forall_mem_nil _⟩⟩
          rw [placeOf_succ, ← hwv]
          exact rfl)
        (case h1 =>
          rw [mkOf_succ, Array.toList_push, placeOf_succ, ← hwv]
          exact ints_snoc hI)
        (case h3 => kst_same))
  · repeat' ((fail_if_success (with_reducible show wpAny _ _ (exec (Stmt.For _ _ _ _ _) _) _ _ _)); first | (k_unfold; (try dsimp only)) | (k_end; kc_close) | walk1 | (dsimp only; walk1) | (leave1; walk_say "STEP leave1"; (try dsimp only)) | fail "no step")
    refine wpAny_For ?_ (by intro x; rfl)
    repeat' ((fail_if_success (with_reducible show wpAny _ _ (call (Value.ref 84) _) _ _ _)); first | (k_unfold; (try dsimp only)) | (k_end; kc_close) | walk1 | (dsimp only; walk1) | (leave1; walk_say "STEP leave1"; (try dsimp only)) | fail "no step")
    (rename Fr _ _ _ _ => lF'); (rename News _ _ _ _ => lN')
    rename_i q1 q2 q3 q4 q5 q6 q7 q8 q9 q10 q11 q12 q13 Dm q15 q16 q17 q18 D q20 q21
    have lN0 := kst_newsOf (l' := [(Dm, W.listOf #[] 0)]) lN' (by simp)
    k_dflt (refine' enterG (args := ⟨[.ref D], []⟩) lF' X' T' ?k6 ?k7 ?k8 ?k9 ?kB ?_ ?c2 ?c3 ?c4 ?c5; (case k6 => k_is); (case k7 => k_is); (case k8 => ktr_room); (case k9 => exact BindsTo.of_eq rfl); (case c5 => decide); (case kB => exact locs rfl); (case c2 => exact rfl); (case c3 => exact rfl); (case c4 => exact rfl); k_whole)
    intro h₁ nm qn hns hk₁ hsz
    dsimp only at hns hk₁ hsz
    have hCk : ∀ b o, q20.get? b = some o → (h₁.push { cls := .type "generator", data := .fields #[.int s.gens.size 0, nm, qn] }).get? b = some o := fun b o e => Heap.get?_push_of_some _ (hk₁ b o e)
    obtain ⟨m0, hm0, F3⟩ := fr_name (keeps_fr lF' hCk)
    obtain ⟨tp0, htp⟩ : ∃ tp0, m0 (Str.ofString "place") = some (.int 0 tp0) := by subst hm0; exact ⟨_, rfl⟩
    have hmk : m0 (Str.ofString "marks") = some (.ref Dm) := by subst hm0; rfl
    clear hm0
    have N3 := keeps_news lN' hCk
    have hLq : @LT.lt Nat instLTNat L' q20.objs.size := lF'.ns.lt
    have hsz' : h₁.objs.size = q20.objs.size + 1 := hsz
    clear hsz
    have hab : s.heap.objs.size ≤ L' := lF'.above
    have hDmD : Dm ≠ D := Nat.ne_of_lt q21.1
    refine wpAny_pyIter_gen (g := s.gens.size) ⟨_, nm, qn, Heap.get?_push_size _ rfl, rfl, rfl, rfl⟩ ?_
    refine gen_turns (base := s.heap) (sB := s) (Dm := Dm) (G := h₁.objs.size) (gobj := { cls := .type "generator", data := .fields #[.int s.gens.size 0, nm, qn] }) (N := 3) (s0 := s0) (s1 := s1) (n := 3) (by rfl) (by ktr_room) T'.nolimit ⟨rfl, nm, qn, rfl, rfl⟩ (MJ Dm s0 s1 m0) ?kt ?kd ?k0
    (case k0 =>
      refine ⟨0, _, _, _, _, _, [], rfl, by decide, rfl, rfl, ⟨tp0, #[], 0, rfl, .nil, ⟨?_, fun _ _ _ _ => rfl⟩⟩, F3, ?_, List.forall_mem_nil _, ?_⟩
      · intro p hp
        rcases List.mem_cons.mp hp with rfl | hp
        · exact hmk
        · rw [List.mem_singleton.mp hp]; exact htp
      · intro p hp
        rcases List.mem_cons.mp hp with rfl | hp
        · exact N3 _ (by simp)
        · rw [List.mem_singleton.mp hp]
          refine ⟨Heap.get?_push_size _ rfl, fun e => ?_, ?_⟩
          · have e' : h₁.objs.size = L' := e
            omega
          · cases q : s.heap.get? h₁.objs.size with
            | none => rfl
            | some o => exact absurd (lt_sz q) (by have := lF'.above; omega)
      · intro s'' _ _ hst
        obtain ⟨tk', hst⟩ := hst
        rcases hst with rfl | hst
        · skip
          have hDq := lN' _ (List.mem_cons_self ..)
          have hD2 : @LT.lt Nat instLTNat D q20.objs.size := lt_sz hDq.1
          have hDm2 : @LT.lt Nat instLTNat Dm q20.objs.size := lt_sz (lN0 _ (List.mem_cons_self ..)).1
          have hCb : s.heap.get? q20.objs.size = none := by
            cases q : s.heap.get? q20.objs.size with
            | none => rfl
            | some o => exact absurd (lt_sz q) (by have := lF'.above; omega)
          have hprot : ∀ b ∈ [L', Dm, h₁.objs.size], b ≠ q20.objs.size ∧ b ≠ D ∧ s.heap.get? b = none ∧ ∃ o, (h₁.push { cls := .type "generator", data := .fields #[.int s.gens.size 0, nm, qn] }).get? b = some o := by
            intro b hb
            simp only [List.mem_cons, List.mem_nil_iff, or_false] at hb
            rcases hb with rfl | rfl | rfl
            · refine ⟨Nat.ne_of_lt hLq, fun e => hDq.2.1 e.symm, ?_, let ⟨o, _, _, q, _⟩ := F3.ns; ⟨o, q⟩⟩
              cases q : s.heap.get? b with
              | none => rfl
              | some o => exact absurd (lt_sz q) (by have := lF'.above; omega)
            · exact ⟨Nat.ne_of_lt hDm2, hDmD, (lN0 _ (List.mem_cons_self ..)).2.2, _, hCk _ _ (lN0 _ (List.mem_cons_self ..)).1⟩
            · refine ⟨Nat.ne_of_gt (show @LT.lt Nat instLTNat q20.objs.size h₁.objs.size by omega), Nat.ne_of_gt (show @LT.lt Nat instLTNat D h₁.objs.size by omega), ?_, _, Heap.get?_push_size _ rfl⟩
              cases q : s.heap.get? h₁.objs.size with
              | none => rfl
              | some o => exact absurd (lt_sz q) (by have := lF'.above; omega)
          refine gen_goes (C := q20.objs.size) (D := D) (by k_is) (by rfl) X' T' h0 h1 ⟨hns.at' fun o e => Heap.get?_push_of_some _ e, F3.keep, by have := lF'.above; omega⟩ (news_gen lN' hCk (Nat.ne_of_lt hD2) hprot) hprot (.inr (.inl ⟨rfl, rfl⟩))
        · exact absurd hst (by decide))
    (case kd =>
      clear lN' lF' lN0 F3 N3 q16 q21 q12 q9 q6 hns hk₁ hCk
      rintro m₁ oD h tk gs - ⟨tp, vs, kn, rfl, hI, hJ⟩ F9 N9 hb
      replace F9 := hJ.fr F9
      clear hJ
      dsimp only [kstB] at F9
      dsimp only
      rw [mkOf_two _ _ 1 (by decide)] at hI
      (try k_fold)
      repeat' ((fail_if_success (with_reducible show TEnd _ _ _ _ _ _ _ _ _)); (fail_if_success (with_reducible show RetP _ _ _)); (fail_if_success (with_reducible show WhileStep2 _ _ _ _ _ _ _ _)); first | (k_unfold; (try dsimp only)) | walk1 | (dsimp only; walk1) | (leave1; walk_say "STEP leave1"; (try dsimp only)) | fail "no step")
      (rename News _ _ _ _ => nE')
      (try dsimp only)
      exact hret Dm vs.toList kn _ _ gs (Fr.keep (by assumption)) (by rw [Array.toArray_toList]; exact (Fresh.of nE').mono (by simp)) hI hb)
    (case kt =>
      rintro j t m₁ oD h tk own gs hj5 hj2 ⟨tp, vs, kn, rfl, hI, hJ⟩ F9 N9 hoD hb
      replace F9 := hJ.fr F9
      clear hJ
      obtain ⟨wv, hwv⟩ : ∃ wv, wv = (if j = 0 then s0 else s1) := ⟨_, rfl⟩
      rw [← hwv]
      have hvl : vs.size = j := by
        have := hI.length
        simpa [mkOf] using this
      obtain ⟨T, hT⟩ : ∃ T, T = (h₁.objs.size, ({ cls := .type "generator", data := .fields #[.int s.gens.size 0, nm, qn] } : Obj)) :: own := ⟨_, rfl⟩
      rw [← hT] at N9
      have hTo : OwnOff T [Dm] := by
        intro p hp b hb
        rw [List.mem_singleton.mp hb]
        rw [hT] at hp
        rcases List.mem_cons.mp hp with rfl | h1
        · have a2 : @LT.lt Nat instLTNat Dm q20.objs.size := lt_sz (lN0 _ (List.mem_cons_self ..)).1
          exact Nat.ne_of_gt (show @LT.lt Nat instLTNat Dm h₁.objs.size by omega)
        · exact hoD p h1
      clear lN' lF' lN0 F3 N3 q16 q21 q12 q9 q6 hns hk₁ hCk
      dsimp only [kstB] at F9
      (try k_fold)
      repeat' ((fail_if_success (with_reducible show TEnd _ _ _ _ _ _ _ _ _)); (fail_if_success (with_reducible show RetP _ _ _)); (fail_if_success (with_reducible show WhileStep2 _ _ _ _ _ _ _ _)); first | (k_unfold; (try dsimp only)) | walk1 | (dsimp only; walk1) | (leave1; walk_say "STEP leave1"; (try dsimp only)) | fail "no step")
      · exact absurd hvl (by omega)
      · (rename Fr _ _ _ _ => nF'); (rename News _ _ _ _ => nE')
        dsimp only
        refine GEnd.mk nF' (kst_newsOf nE' (by rw [hT]; intro p hp; kst_mem)) (by have := hj2 rfl; omega) ?_
        refine' ⟨_, _, _, rfl, ?h1, ?h2, ?h3⟩
        (case h2 =>
          refine List.forall_mem_cons.mpr ⟨rfl, List.forall_mem_cons.mpr ⟨?_, List.forall_mem_nil _⟩⟩
          rw [placeOf_succ, ← hwv]
          exact rfl)
        (case h1 =>
          rw [mkOf_succ, Array.toList_push, placeOf_succ, ← hwv]
          exact ints_snoc hI)
        (case h3 => kst_same))
  · repeat' ((fail_if_success (with_reducible show wpAny _ _ (exec (Stmt.For _ _ _ _ _) _) _ _ _)); first | (k_unfold; (try dsimp only)) | (k_end; kc_close) | walk1 | (dsimp only; walk1) | (leave1; walk_say "STEP leave1"; (try dsimp only)) | fail "no step")
    refine wpAny_For ?_ (by intro x; rfl)
    repeat' ((fail_if_success (with_reducible show wpAny _ _ (call (Value.ref 84) _) _ _ _)); first | (k_unfold; (try dsimp only)) | (k_end; kc_close) | walk1 | (dsimp only; walk1) | (leave1; walk_say "STEP leave1"; (try dsimp only)) | fail "no step")
    (rename Fr _ _ _ _ => lF'); (rename News _ _ _ _ => lN')
    rename_i q1 q2 q3 q4 q5 q6 q7 q8 q9 q10 q11 q12 q13 Dm q15 q16 q17 q18 D q20 q21
    have lN0 := kst_newsOf (l' := [(Dm, W.listOf #[] 0)]) lN' (by simp)
    k_dflt (refine' enterG (args := ⟨[.ref D], []⟩) lF' X' T' ?k6 ?k7 ?k8 ?k9 ?kB ?_ ?c2 ?c3 ?c4 ?c5; (case k6 => k_is); (case k7 => k_is); (case k8 => ktr_room); (case k9 => exact BindsTo.of_eq rfl); (case c5 => decide); (case kB => exact locs rfl); (case c2 => exact rfl); (case c3 => exact rfl); (case c4 => exact rfl); k_whole)
    intro h₁ nm qn hns hk₁ hsz
    dsimp only at hns hk₁ hsz
    have hCk : ∀ b o, q20.get? b = some o → (h₁.push { cls := .type "generator", data := .fields #[.int s.gens.size 0, nm, qn] }).get? b = some o := fun b o e => Heap.get?_push_of_some _ (hk₁ b o e)
    obtain ⟨m0, hm0, F3⟩ := fr_name (keeps_fr lF' hCk)
    obtain ⟨tp0, htp⟩ : ∃ tp0, m0 (Str.ofString "place") = some (.int 0 tp0) := by subst hm0; exact ⟨_, rfl⟩
    have hmk : m0 (Str.ofString "marks") = some (.ref Dm) := by subst hm0; rfl
    clear hm0
    have N3 := keeps_news lN' hCk
    have hLq : @LT.lt Nat instLTNat L' q20.objs.size := lF'.ns.lt
    have hsz' : h₁.objs.size = q20.objs.size + 1 := hsz
    clear hsz
    have hab : s.heap.objs.size ≤ L' := lF'.above
    have hDmD : Dm ≠ D := Nat.ne_of_lt q21.1
    refine wpAny_pyIter_gen (g := s.gens.size) ⟨_, nm, qn, Heap.get?_push_size _ rfl, rfl, rfl, rfl⟩ ?_
    refine gen_turns (base := s.heap) (sB := s) (Dm := Dm) (G := h₁.objs.size) (gobj := { cls := .type "generator", data := .fields #[.int s.gens.size 0, nm, qn] }) (N := 3) (s0 := s0) (s1 := s1) (n := 3) (by rfl) (by ktr_room) T'.nolimit ⟨rfl, nm, qn, rfl, rfl⟩ (MJ Dm s0 s1 m0) ?kt ?kd ?k0
    (case k0 =>
      refine ⟨0, _, _, _, _, _, [], rfl, by decide, rfl, rfl, ⟨tp0, #[], 0, rfl, .nil, ⟨?_, fun _ _ _ _ => rfl⟩⟩, F3, ?_, List.forall_mem_nil _, ?_⟩
      · intro p hp
        rcases List.mem_cons.mp hp with rfl | hp
        · exact hmk
        · rw [List.mem_singleton.mp hp]; exact htp
      · intro p hp
        rcases List.mem_cons.mp hp with rfl | hp
        · exact N3 _ (by simp)
        · rw [List.mem_singleton.mp hp]
          refine ⟨Heap.get?_push_size _ rfl, fun e => ?_, ?_⟩
          · have e' : h₁.objs.size = L' := e
            omega
          · cases q : s.heap.get? h₁.objs.size with
            | none => rfl
            | some o => exact absurd (lt_sz q) (by have := lF'.above; omega)
      · intro s'' _ _ hst
        obtain ⟨tk', hst⟩ := hst
        rcases hst with rfl | hst
        · skip
          have hDq := lN' _ (List.mem_cons_self ..)
          have hD2 : @LT.lt Nat instLTNat D q20.objs.size := lt_sz hDq.1
          have hDm2 : @LT.lt Nat instLTNat Dm q20.objs.size := lt_sz (lN0 _ (List.mem_cons_self ..)).1
          have hCb : s.heap.get? q20.objs.size = none := by
            cases q : s.heap.get? q20.objs.size with
            | none => rfl
            | some o => exact absurd (lt_sz q) (by have := lF'.above; omega)
          have hprot : ∀ b ∈ [L', Dm, h₁.objs.size], b ≠ q20.objs.size ∧ b ≠ D ∧ s.heap.get? b = none ∧ ∃ o, (h₁.push { cls := .type "generator", data := .fields #[.int s.gens.size 0, nm, qn] }).get? b = some o := by
            intro b hb
            simp only [List.mem_cons, List.mem_nil_iff, or_false] at hb
            rcases hb with rfl | rfl | rfl
            · refine ⟨Nat.ne_of_lt hLq, fun e => hDq.2.1 e.symm, ?_, let ⟨o, _, _, q, _⟩ := F3.ns; ⟨o, q⟩⟩
              cases q : s.heap.get? b with
              | none => rfl
              | some o => exact absurd (lt_sz q) (by have := lF'.above; omega)
            · exact ⟨Nat.ne_of_lt hDm2, hDmD, (lN0 _ (List.mem_cons_self ..)).2.2, _, hCk _ _ (lN0 _ (List.mem_cons_self ..)).1⟩
            · refine ⟨Nat.ne_of_gt (show @LT.lt Nat instLTNat q20.objs.size h₁.objs.size by omega), Nat.ne_of_gt (show @LT.lt Nat instLTNat D h₁.objs.size by omega), ?_, _, Heap.get?_push_size _ rfl⟩
              cases q : s.heap.get? h₁.objs.size with
              | none => rfl
              | some o => exact absurd (lt_sz q) (by have := lF'.above; omega)
          refine gen_goes (t2 := tw) (t3 := tw) (C := q20.objs.size) (D := D) (by k_is) (by rfl) X' T' h0 h1 ⟨hns.at' fun o e => Heap.get?_push_of_some _ e, F3.keep, by have := lF'.above; omega⟩ (news_gen lN' hCk (Nat.ne_of_lt hD2) hprot) hprot (.inr (.inr ⟨rfl, rfl⟩))
        · exact absurd hst (by decide))
    (case kd =>
      clear lN' lF' lN0 F3 N3 q16 q21 q12 q9 q6 hns hk₁ hCk
      rintro m₁ oD h tk gs - ⟨tp, vs, kn, rfl, hI, hJ⟩ F9 N9 hb
      replace F9 := hJ.fr F9
      clear hJ
      dsimp only [kstB] at F9
      dsimp only
      rw [mkOf_two _ _ 2 (by decide)] at hI
      (try k_fold)
      repeat' ((fail_if_success (with_reducible show TEnd _ _ _ _ _ _ _ _ _)); (fail_if_success (with_reducible show RetP _ _ _)); (fail_if_success (with_reducible show WhileStep2 _ _ _ _ _ _ _ _)); first | (k_unfold; (try dsimp only)) | walk1 | (dsimp only; walk1) | (leave1; walk_say "STEP leave1"; (try dsimp only)) | fail "no step")
      (rename News _ _ _ _ => nE')
      (try dsimp only)
      exact hret Dm vs.toList kn _ _ gs (Fr.keep (by assumption)) (by rw [Array.toArray_toList]; exact (Fresh.of nE').mono (by simp)) hI hb)
    (case kt =>
      rintro j t m₁ oD h tk own gs hj5 hj2 ⟨tp, vs, kn, rfl, hI, hJ⟩ F9 N9 hoD hb
      replace F9 := hJ.fr F9
      clear hJ
      obtain ⟨wv, hwv⟩ : ∃ wv, wv = (if j = 0 then s0 else s1) := ⟨_, rfl⟩
      rw [← hwv]
      have hvl : vs.size = j := by
        have := hI.length
        simpa [mkOf] using this
      obtain ⟨T, hT⟩ : ∃ T, T = (h₁.objs.size, ({ cls := .type "generator", data := .fields #[.int s.gens.size 0, nm, qn] } : Obj)) :: own := ⟨_, rfl⟩
      rw [← hT] at N9
      have hTo : OwnOff T [Dm] := by
        intro p hp b hb
        rw [List.mem_singleton.mp hb]
        rw [hT] at hp
        rcases List.mem_cons.mp hp with rfl | h1
        · have a2 : @LT.lt Nat instLTNat Dm q20.objs.size := lt_sz (lN0 _ (List.mem_cons_self ..)).1
          exact Nat.ne_of_gt (show @LT.lt Nat instLTNat Dm h₁.objs.size by omega)
        · exact hoD p h1
      clear lN' lF' lN0 F3 N3 q16 q21 q12 q9 q6 hns hk₁ hCk
      dsimp only [kstB] at F9
      (try k_fold)
      repeat' ((fail_if_success (with_reducible show TEnd _ _ _ _ _ _ _ _ _)); (fail_if_success (with_reducible show RetP _ _ _)); (fail_if_success (with_reducible show WhileStep2 _ _ _ _ _ _ _ _)); first | (k_unfold; (try dsimp only)) | walk1 | (dsimp only; walk1) | (leave1; walk_say "STEP leave1"; (try dsimp only)) | fail "no step")
      · exact absurd hvl (by omega)
      · (rename Fr _ _ _ _ => nF'); (rename News _ _ _ _ => nE')
        dsimp only
        refine GEnd.mk nF' (kst_newsOf nE' (by rw [hT]; intro p hp; kst_mem)) (by have := hj2 rfl; omega) ?_
        refine' ⟨_, _, _, rfl, ?h1, ?h2, ?h3⟩
        (case h2 =>
          refine List.forall_mem_cons.mpr ⟨rfl, List.forall_mem_cons.mpr ⟨?_, List.forall_mem_nil _⟩⟩
          rw [placeOf_succ, ← hwv]
          exact rfl)
        (case h1 =>
          rw [mkOf_succ, Array.toList_push, placeOf_succ, ← hwv]
          exact ints_snoc hI)
        (case h3 => kst_same))
end
end Mine
end
section
open PySem PySem.W PyProof.Rows
namespace Mine

theorem p2 (k : Nat) : (0 : Int) < 2 ^ k := kbt_pos k
theorem fm (a : Int) (k : Nat) : a.fmod (2 ^ k) = a % 2 ^ k := Int.fmod_eq_emod_of_nonneg _ (Int.le_of_lt (p2 k))
theorem fd (a : Int) (k : Nat) : a.fdiv (2 ^ k) = a / 2 ^ k := Int.fdiv_eq_ediv_of_nonneg _ (Int.le_of_lt (p2 k))
theorem fm2 (a : Int) : a.fmod 2 = a % 2 := Int.fmod_eq_emod_of_nonneg _ (by decide)
theorem div_succ (a : Int) (k : Nat) : a / 2 ^ (k + 1) = a / 2 / 2 ^ k := by
  rw [Int.pow_succ, Int.mul_comm, Int.ediv_ediv_of_nonneg (by decide)]
theorem div_succ' (a : Int) (k : Nat) : a / 2 ^ (k + 1) = a / 2 ^ k / 2 := by
  rw [Int.pow_succ, Int.ediv_ediv_of_nonneg (Int.le_of_lt (p2 k))]
/-- the rest by one place more, from the top -/
theorem mod_top (a : Int) (k : Nat) : a % 2 ^ (k + 1) = a % 2 ^ k + 2 ^ k * (a / 2 ^ k % 2) := by
  have h1 := Int.emod_def a (2 ^ (k + 1))
  have h2 := Int.emod_def a (2 ^ k)
  have h3 := Int.emod_def (a / 2 ^ k) 2
  rw [h1, h2, h3, div_succ', Int.pow_succ, Int.mul_sub, Int.mul_assoc]
  omega
/-- .. from below -/
theorem mod_low (a : Int) (k : Nat) : a % 2 ^ (k + 1) = 2 * (a / 2 % 2 ^ k) + a % 2 := by
  have h1 := Int.emod_def a (2 ^ (k + 1))
  have h2 := Int.emod_def (a / 2) (2 ^ k)
  rw [h1, h2, div_succ, Int.pow_succ, Int.mul_sub, Int.mul_comm (2 ^ k) 2, Int.mul_assoc]
  omega
theorem and_div (a b : Int) (k : Nat) : Builtin.bitAnd a b / 2 ^ k = Builtin.bitAnd (a / 2 ^ k) (b / 2 ^ k) := by
  induction k generalizing a b with
  | zero => simp
  | succ k ih =>
    rw [div_succ, div_succ, div_succ, ← ih]
    congr 1
    rw [kbt_halves a b]
    split <;> omega
theorem and_odd (a b : Int) : Builtin.bitAnd a b % 2 = if a % 2 = 1 ∧ b % 2 = 1 then 1 else 0 := by
  rw [kbt_halves]
  split <;> omega
theorem and_mod (a b : Int) (k : Nat) : Builtin.bitAnd a b % 2 ^ k = Builtin.bitAnd (a % 2 ^ k) (b % 2 ^ k) % 2 ^ k := by
  induction k generalizing a b with
  | zero => simp [Int.emod_one]
  | succ k ih =>
    have h1 := mod_low (Builtin.bitAnd a b) k
    have h2 := mod_low (Builtin.bitAnd (a % 2 ^ (k + 1)) (b % 2 ^ (k + 1))) k
    have e1 : Builtin.bitAnd a b / 2 = Builtin.bitAnd (a / 2) (b / 2) := by have := and_div a b 1; simpa using this
    have e2 : Builtin.bitAnd (a % 2 ^ (k + 1)) (b % 2 ^ (k + 1)) / 2 = Builtin.bitAnd (a / 2 % 2 ^ k) (b / 2 % 2 ^ k) := by
      have := and_div (a % 2 ^ (k + 1)) (b % 2 ^ (k + 1)) 1
      rw [Int.pow_one] at this
      rw [this]
      congr 1
      · rw [mod_low]; omega
      · rw [mod_low]; omega
    have e3 : a % 2 ^ (k + 1) % 2 = a % 2 := by rw [mod_low]; omega
    have e4 : b % 2 ^ (k + 1) % 2 = b % 2 := by rw [mod_low]; omega
    rw [h1, h2, e1, e2, ih, and_odd, and_odd, e3, e4]

theorem range_ks (n : Nat) (a : Int) : rangeKs a (n + 1) = rangeKs a n ++ [a + n] := by
  simp [rangeKs, List.range_succ]
theorem both_fold (a b : Int) (n : Nat) : (List.foldl (fun l' (k' : Int) => if (a.fdiv (2 ^ k'.toNat)).fmod 2 + (b.fdiv (2 ^ k'.toNat)).fmod 2 = 2 then l' ++ [(2 : Int) ^ k'.toNat] else l') [] (rangeKs 0 n)).sum = Builtin.bitAnd a b % 2 ^ n := by
  induction n with
  | zero => simp [rangeKs, Int.emod_one]
  | succ n ih =>
    rw [range_ks, List.foldl_append, List.foldl_cons, List.foldl_nil, mod_top, and_div, and_odd]
    have e : ((0 : Int) + (n : Int)).toNat = n := by omega
    rw [e, fd, fd, fm2, fm2]
    by_cases h : a / 2 ^ n % 2 = 1 ∧ b / 2 ^ n % 2 = 1
    · rw [if_pos h, if_pos (by omega), List.sum_append, ih]; simp
    · rw [if_neg h, if_neg (by omega), ih]; simp
theorem both_is (a b mk : Int) : bothI a b mk = Builtin.bitAnd a b % 2 ^ mk.toNat := by
  unfold bothI
  rw [show mk - 0 = mk from by omega]
  exact both_fold a b mk.toNat

/-- a deed on rests leaves what the deed on the whole leaves -/
theorem step_mod {i : It} (h : i.Ok) (x w mk : Int) :
    stepW i.op (w % 2 ^ mk.toNat) ((i.val x) % 2 ^ mk.toNat) mk i.n % 2 ^ mk.toNat = opI i.op w (i.val x) % 2 ^ mk.toNat := by
  obtain ⟨hop, hsh, hdg⟩ := h
  have hop' : i.op = 0 ∨ i.op = 1 ∨ i.op = 2 ∨ i.op = 3 ∨ i.op = 4 ∨ i.op = 5 ∨ i.op = 6 := seven_cases _ (by first | assumption | omega)
  rcases hop' with e | e | e | e | e | e | e
  · rw [e]; simp only [stepW, opI]; rw [← Int.add_emod]
  · rw [e]; simp only [stepW, opI]; rw [← Int.sub_emod]
  · rw [e]; simp only [stepW, opI]; rw [← Int.mul_emod]
  · rw [e]; simp only [stepW, opI]; rw [both_is, Int.emod_emod_of_dvd _ (Int.dvd_refl _), ← and_mod]
  · rw [e]; simp only [stepW, opI]; rw [both_is, bitOr_and, Int.sub_emod, Int.emod_emod_of_dvd _ (Int.dvd_refl _), ← and_mod, ← Int.add_emod, ← Int.sub_emod]
  · rw [e]; simp only [stepW, opI]; rw [both_is, bitXor_and, Int.sub_emod, Int.mul_emod 2, Int.emod_emod_of_dvd _ (Int.dvd_refl _), ← and_mod, ← Int.add_emod, ← Int.mul_emod, ← Int.sub_emod]
  · have hs := hsh e
    have ev : i.val x = i.n := by unfold It.val; rw [hs.1]; rfl
    rw [e, ev]
    simp only [stepW, opI]
    rw [Int.mul_emod, Int.emod_emod_of_dvd _ (Int.dvd_refl _), ← Int.mul_emod]
theorem word_aux (x mk : Int) : ∀ (r : List It), (∀ i ∈ r, i.Ok) → ∀ w : Int,
    r.foldl (fun w i => (stepW i.op w ((i.val x).fmod (2 ^ mk.toNat)) mk i.n).fmod (2 ^ mk.toNat)) (w % 2 ^ mk.toNat) = (r.foldl (fun w i => opI i.op w (i.val x)) w) % 2 ^ mk.toNat
  | [], _, w => rfl
  | i :: r, h, w => by
    rw [List.foldl_cons, List.foldl_cons, fm, fm, step_mod (h i (.head _)), word_aux x mk r (fun j hj => h j (.tail _ hj))]
theorem word_is {its : List It} (h : ∀ i ∈ its, i.Ok) (x mk : Int) : wordI its x mk = reck its x % 2 ^ mk.toNat := by
  unfold wordI reck
  rw [fm, word_aux x mk its h]
/-- the word asks for x's rest alone -/
theorem word_rest (its : List It) {x y mk : Int} (h : x % 2 ^ mk.toNat = y % 2 ^ mk.toNat) : wordI its x mk = wordI its y mk := by
  unfold wordI
  have e : ∀ i : It, (i.val x).fmod (2 ^ mk.toNat) = (i.val y).fmod (2 ^ mk.toNat) := by
    intro i
    unfold It.val
    split
    · rw [fm, fm, h]
    · rfl
  rw [fm, fm, h]
  congr 1
  funext w i
  rw [e]
theorem reck_rest {its : List It} (h : ∀ i ∈ its, i.Ok) {x y : Int} {k : Nat} (e : x % 2 ^ k = y % 2 ^ k) : reck its x % 2 ^ k = reck its y % 2 ^ k := by
  have h1 := word_is h x k
  have h2 := word_is h y k
  have h3 := word_rest its (x := x) (y := y) (mk := (k : Int)) e
  rw [h1, h2] at h3
  exact h3
theorem xor_bit (a b : Int) (k : Nat) : Builtin.bitXor a b / 2 ^ k % 2 = (a / 2 ^ k + b / 2 ^ k) % 2 := by
  have e : Builtin.bitXor a b / 2 ^ k = Builtin.bitXor (a / 2 ^ k) (b / 2 ^ k) := by
    induction k generalizing a b with
    | zero => simp
    | succ k ih =>
      rw [div_succ, div_succ, div_succ, ← ih]
      congr 1
      rw [bitXor_and, bitXor_and, kbt_halves a b]
      split <;> omega
  rw [e, bitXor_and]
  omega
/-- what the law reckons of far, at 220 places -/
theorem far_is {ns : List Int} {x : Int} (hx : x.natAbs < 2 ^ 36) :
    reck (itemsOf ns) x = if wordI (itemsOf ns) x 220 < 2 ^ 219 then wordI (itemsOf ns) x 220 else wordI (itemsOf ns) x 220 - 2 ^ 220 := by
  have hok := itemsOf_ok ns
  have h3 : itemsOf ns = [mkIt 2, mkIt 39, mkIt 0] ++ (ns.take 4).map mkIt := by simp [itemsOf, codesOf]
  have hr : Rng 217 (reck (itemsOf ns) x) := by
    have e2 : mkIt 2 = ⟨2, true, 0⟩ := by rfl
    have e39 : mkIt 39 = ⟨4, false, 5⟩ := by rfl
    have e0 : mkIt 0 = ⟨0, true, 0⟩ := by rfl
    have hx1 : Rng 36 x := rng_of_natAbs hx
    have r1 : Rng 72 (x * x) := mul_rng hx1 hx
    have r2 : Rng 72 (Builtin.bitOr (x * x) 5) := bitOr_rng r1 (by unfold Rng; omega)
    have r3 : Rng 73 (Builtin.bitOr (x * x) 5 + x) := add_rng r2 (hx1.mono (by decide))
    have hl : ((ns.take 4).map mkIt).length ≤ 4 := by simp; omega
    have h := reck_rng (k := 36) (by decide) hx ((ns.take 4).map mkIt) (fun i hi => hok i (by rw [h3]; exact List.mem_append_right _ hi)) [mkIt 2, mkIt 39, mkIt 0] 73 (by decide)
      (by rw [e2, e39, e0]; exact r3)
    rw [← h3] at h
    exact h.mono (by omega)
  rw [word_is hok]
  have e : (220 : Int).toNat = 220 := rfl
  rw [e]
  generalize reck (itemsOf ns) x = y at hr
  unfold Rng at hr
  have hp : (2 : Int) ^ 217 > 0 := p2 217
  have e1 : (2 : Int) ^ 219 = 4 * 2 ^ 217 := by decide
  have e2 : (2 : Int) ^ 220 = 8 * 2 ^ 217 := by decide
  rw [e1, e2]
  generalize (2 : Int) ^ 217 = P at *
  by_cases hy : 0 ≤ y
  · rw [Int.emod_eq_of_lt hy (by omega), if_pos (by omega)]
  · have e3 : y % (8 * P) = y + 8 * P := by
      rw [← Int.add_emod_right, Int.emod_eq_of_lt (by omega) (by omega)]
    rw [e3, if_neg (by omega)]
    omega
end Mine
end
section
open PySem PySem.W PyProof.Rows
namespace Mine
/-- the places to which the deeds lead from 0 -/
def orb (its : List It) : Nat → Int
  | 0 => 0
  | j + 1 => (reck its (orb its j)).fmod (2 ^ 40)
def pathOf (its : List It) (n : Nat) : List Int := (List.range (n + 1)).map (orb its)
theorem pathOf_succ (its : List It) (n : Nat) : pathOf its (n + 1) = pathOf its n ++ [orb its (n + 1)] := by
  simp [pathOf, List.range_succ]
theorem pathOf_zero (its : List It) : pathOf its 0 = [0] := rfl
theorem orb_rng (its : List It) (j : Nat) : 0 ≤ orb its j ∧ orb its j < 2 ^ 40 := by
  cases j with
  | zero => exact ⟨Int.le_refl 0, (by decide : (0 : Int) < 2 ^ 40)⟩
  | succ j => exact ⟨Int.fmod_nonneg_of_pos _ (by decide), Int.fmod_lt_of_pos _ (by decide)⟩
theorem orb_abs (its : List It) (j : Nat) : (orb its j).natAbs < 2 ^ 41 := by
  have := orb_rng its j
  omega
theorem own_off {own inn news : List (Addr × Obj)} {I : Addr} {l : List Addr} (hown : ∀ p ∈ own, p.1 = I) (hnI : ∀ p ∈ news, p.1 ≠ I) (hT : OwnOff inn l) (hl : ∀ b ∈ l, ∃ o, (b, o) ∈ news) : OwnOff (inn ++ own) l := by
  intro p hp b hb
  rcases List.mem_append.mp hp with h | h
  · exact hT p h b hb
  · obtain ⟨o, ho⟩ := hl b hb
    rw [hown p h]
    exact fun e => hnI _ ho e.symm
theorem news_end {b h : Heap} {L : Addr} {led T inn own A : List (Addr × Obj)} (N : News b L h led) (hT : T = inn ++ own) (hA : ∀ p ∈ A, p ∈ led) (h3 : ∀ p ∈ T, p ∈ led) : News b L h (own ++ (A ++ inn)) := by
  subst hT
  intro p hp
  refine N p ?_
  rcases List.mem_append.mp hp with h | h
  · exact h3 p (List.mem_append_right _ h)
  · rcases List.mem_append.mp h with h | h
    · exact hA p h
    · exact h3 p (List.mem_append_left _ h)
theorem news_start {b h : Heap} {L : Addr} {T inn own A : List (Addr × Obj)} (N : News b L h (own ++ (A ++ inn))) (hT : T = inn ++ own) : News b L h (A ++ T) := by
  subst hT
  intro p hp
  refine N p ?_
  rcases List.mem_append.mp hp with h | h
  · exact List.mem_append_right _ (List.mem_append_left _ h)
  · rcases List.mem_append.mp h with h | h
    · exact List.mem_append_right _ (List.mem_append_right _ h)
    · exact List.mem_append_left _ h
theorem off_of_lt {inn : List (Addr × Obj)} {D : Addr} {l : List Addr} (h : AllLt D inn) (hT : OwnOff inn l) : OwnOff inn (D :: l) := by
  intro p hp b hb
  rcases List.mem_cons.mp hb with rfl | hb
  · exact Nat.ne_of_lt (kst_ltOf h p hp)
  · exact hT p hp b hb
theorem off_sub {inn : List (Addr × Obj)} {l l' : List Addr} (hT : OwnOff inn l) (h : ∀ b ∈ l', b ∈ l) : OwnOff inn l' := fun p hp b hb => hT p hp b (h b hb)
section
variable {prog : Program} {w : World} {A : Around} {E : Value → Shared → Prop} {s : Shared} {h₀ : Heap} {L : Addr} {news : List (Addr × Obj)} {value slice : PySem.Expr} {l : Addr} {Q : Value → Shared → Prop}
theorem item_last {vs : List Value} {ns : List Int} {n : Nat} {k x : Int} {u : Tok} (N : News h₀ L s.heap news) (hm : (l, W.listOf vs.toArray n) ∈ news) (hI : IntsAre vs (ns ++ [x])) (hk : k = -1) (h : ∀ t, Q (.int x t) s)
    (hs : subscripted slice false (.ref l) (.int k u) = operate [.ref l, .int k u] (getItem (.ref l) (.int k u)) := by with_unfolding_all rfl) :
    wpAny (model prog w) A (subscriptTail value slice (.ref l) (.int k u)) Q E s := by
  have hl : s.heap.IsList l vs.toArray := ⟨_, (N _ hm).1, rfl, n, rfl⟩
  have hlen := hI.length
  rw [List.length_append, List.length_cons, List.length_nil] at hlen
  have hsz : vs.toArray.size = ns.length + 1 := by rw [List.size_toArray, hlen]
  subst hk
  have e1 : ((-1 : Int) + (vs.toArray.size : Int)).toNat = ns.length := by rw [hsz]; omega
  obtain ⟨v, hv⟩ : ∃ v, vs[ns.length]? = some v := ⟨_, List.getElem?_eq_getElem (by omega)⟩
  obtain ⟨y, t, rfl, hy⟩ := hI.at _ _ hv
  have hyx : y = x := by simpa using hy.symm
  subst hyx
  exact tail_any hl.typeIs slot_list_getitem.lookup (wpAny_getItem_list_neg hl (by decide) (by rw [hsz]; omega) (by decide) (by rw [e1]; simpa using hv) (h t)) hs
theorem item_at {vs : List Value} {ns : List Int} {n : Nat} {k x : Int} {u : Tok} (N : News h₀ L s.heap news) (hm : (l, W.listOf vs.toArray n) ∈ news) (hI : IntsAre vs ns) (h0 : 0 ≤ k) (hk : k < 2 ^ 63) (hx : ns[k.toNat]? = some x) (h : ∀ t, Q (.int x t) s)
    (hs : subscripted slice false (.ref l) (.int k u) = operate [.ref l, .int k u] (getItem (.ref l) (.int k u)) := by with_unfolding_all rfl) :
    wpAny (model prog w) A (subscriptTail value slice (.ref l) (.int k u)) Q E s := by
  have hl : s.heap.IsList l vs.toArray := ⟨_, (N _ hm).1, rfl, n, rfl⟩
  have hlen := hI.length
  have hlt : k.toNat < ns.length := (List.getElem?_eq_some_iff.mp hx).1
  obtain ⟨v, hv⟩ : ∃ v, vs[k.toNat]? = some v := ⟨_, List.getElem?_eq_getElem (by omega)⟩
  obtain ⟨y, t, rfl, hy⟩ := hI.at _ _ hv
  rw [hx] at hy
  obtain rfl := Option.some.inj hy
  exact tail_any hl.typeIs slot_list_getitem.lookup (wpAny_getItem_list hl h0 hk (by simpa using hv) (h t)) hs
end
end Mine
namespace Mine
theorem ne_of_map {l l' : List (Addr × Obj)} {I : Addr} (e : l'.map (·.1) = l.map (·.1)) (h : ∀ p ∈ l, p.1 ≠ I) : ∀ p ∈ l', p.1 ≠ I := by
  intro p hp
  have h1 : p.1 ∈ l'.map (·.1) := List.mem_map_of_mem hp
  rw [e] at h1
  obtain ⟨q, hq, e2⟩ := List.mem_map.mp h1
  rw [← e2]
  exact h q hq
def worthsOf (its : List It) : List Int := List.map (fun k => reck its k) (rangeKs 0 16)
theorem worths_at (its : List It) {x : Int} (h0 : 0 ≤ x) (h1 : x < 16) : (worthsOf its)[x.toNat]? = some (reck its x) := by
  unfold worthsOf rangeKs
  have h2 : x.toNat < 16 := by omega
  rw [List.getElem?_map, List.getElem?_map, List.getElem?_range h2]
  simp only [Option.map_some]
  congr 2
  omega
/-- the lists of the alike, as they lie in a ledger -/
def ListsIn (led : List (Addr × Obj)) (vs : List Value) (nss : List (List Int)) : Prop :=
  vs.length = nss.length ∧ ∀ (k : Nat) (ns : List Int), nss[k]? = some ns → ∃ (b : Addr) (us : List Value) (n : Nat), vs[k]? = some (Value.ref b) ∧ (b, W.listOf us.toArray n) ∈ led ∧ IntsAre us ns
theorem ListsIn.nil {led : List (Addr × Obj)} : ListsIn led [] [] := ⟨rfl, fun k i e => by simp at e⟩
theorem ListsIn.mono {led led' : List (Addr × Obj)} {vs : List Value} {nss : List (List Int)} (x : ListsIn led vs nss) (h : ∀ p ∈ led, p ∈ led') : ListsIn led' vs nss :=
  ⟨x.1, fun k i e => let ⟨b, us, n, e1, e2, e3⟩ := x.2 k i e; ⟨b, us, n, e1, h _ e2, e3⟩⟩
theorem ListsIn.snoc {led : List (Addr × Obj)} {vs us : List Value} {nss : List (List Int)} {ns : List Int} {b : Addr} {n : Nat} (x : ListsIn led vs nss) (hm : (b, W.listOf us.toArray n) ∈ led) (hI : IntsAre us ns) :
    ListsIn led (vs ++ [Value.ref b]) (nss ++ [ns]) := by
  refine ⟨by simp [x.1], fun k j e => ?_⟩
  rcases Nat.lt_trichotomy k nss.length with h | h | h
  · rw [List.getElem?_append_left h] at e
    obtain ⟨b', us', n', e1, e2, e3⟩ := x.2 k j e
    exact ⟨b', us', n', by rw [List.getElem?_append_left (by rw [x.1]; exact h)]; exact e1, e2, e3⟩
  · subst h
    simp only [List.getElem?_concat_length, Option.some.injEq] at e
    subst e
    exact ⟨b, us, n, by rw [← x.1]; simp, hm, hI⟩
  · rw [List.getElem?_eq_none (by simp; omega)] at e
    cases e
end Mine
namespace Mine
theorem news_end2 {b h : Heap} {L : Addr} {led T inn own A : List (Addr × Obj)} {d : Addr × Obj} (N : News b L h led) (hT : T = inn ++ own) (hA : ∀ p ∈ A, p ∈ led) (hd : d ∈ led) (h3 : ∀ p ∈ T, p ∈ led) : News b L h (own ++ (A ++ (d :: inn))) := by
  subst hT
  intro p hp
  refine N p ?_
  rcases List.mem_append.mp hp with h | h
  · exact h3 p (List.mem_append_right _ h)
  · rcases List.mem_append.mp h with h | h
    · exact hA p h
    · rcases List.mem_cons.mp h with rfl | h
      · exact hd
      · exact h3 p (List.mem_append_left _ h)
theorem off_cons {al : List (Addr × Obj)} {d : Addr × Obj} {l : List Addr} (h1 : ∀ b ∈ l, d.1 ≠ b) (h : OwnOff al l) : OwnOff (d :: al) l := by
  intro p hp b hb
  rcases List.mem_cons.mp hp with rfl | hp
  · exact h1 b hb
  · exact h p hp b hb
theorem off_app {al inn : List (Addr × Obj)} {l : List Addr} (h1 : OwnOff al l) (h : OwnOff inn l) : OwnOff (al ++ inn) l := fun p hp b hb => (List.mem_append.mp hp).elim (fun q => h1 p q b hb) (fun q => h p q b hb)
/-- which x below 2 ** k leave the two results alike in place k -/
def alikeOf (its : List It) (k : Nat) : List Int := (rangeKs 0 ((2 : Int) ^ k - 0).toNat).filter (fun x => decide (Builtin.bitAnd ((Builtin.bitXor (reck its x) (reck its (x + 2 ^ k))).fdiv (2 ^ k)) 1 = 0))
def alikesOf (its : List It) (n : Nat) : List (List Int) := (List.range n).map (alikeOf its)
theorem alikesOf_succ (its : List It) (n : Nat) : alikesOf its (n + 1) = alikesOf its n ++ [alikeOf its n] := by
  simp [alikesOf, List.range_succ]
end Mine
namespace Mine
/-- the body of the loop that stands first -/
def loopBody : List PySem.Stmt → List PySem.Stmt
  | .For _ _ b _ _ :: _ => b
  | _ => []
def wordsOf (its : List It) (mk : Int) : List Int := (rangeKs 0 ((2 : Int) ^ mk.toNat - 0).toNat).map fun x => wordI its x mk
end Mine
namespace Mine
/-- an address apart from those of a list (hidden from omega) -/
def ApAll (D : Nat) (l : List Nat) : Prop := ∀ b ∈ l, D ≠ b
theorem ap_ne {D b : Nat} {l : List Nat} (h : ApAll D l) (hb : b ∈ l) : D ≠ b := h b hb
theorem ap_nil (D : Nat) : ApAll D [] := fun _ h => by cases h
theorem ap_cons {D b : Nat} {l : List Nat} (h : D ≠ b) (hl : ApAll D l) : ApAll D (b :: l) := List.forall_mem_cons.mpr ⟨h, hl⟩
end Mine
namespace Mine
theorem off1_mem {D : Addr} : ∀ {l : List (Addr × Obj)}, LCg.Off1 D l → ∀ p ∈ l, p.1 ≠ D
  | [], _, _, hp => (by cases hp)
  | q :: r, h, p, hp => by
    rcases List.mem_cons.mp hp with rfl | hp
    · exact h.1
    · exact off1_mem h.2 p hp
end Mine
namespace Mine
theorem ne_ins {A A' rest : List (Addr × Obj)} {I : Addr} {d : Addr × Obj} (e : A'.map (·.1) = A.map (·.1)) (h : ∀ p ∈ A ++ rest, p.1 ≠ I) (hd : d.1 ≠ I) : ∀ p ∈ A' ++ (d :: rest), p.1 ≠ I := by
  intro p hp
  rcases List.mem_append.mp hp with hp | hp
  · exact ne_of_map e (fun q hq => h q (List.mem_append_left _ hq)) p hp
  · rcases List.mem_cons.mp hp with rfl | hp
    · exact hd
    · exact h p (List.mem_append_right _ hp)
theorem ne_same {A A' rest : List (Addr × Obj)} {I : Addr} (e : A'.map (·.1) = A.map (·.1)) (h : ∀ p ∈ A ++ rest, p.1 ≠ I) : ∀ p ∈ A' ++ rest, p.1 ≠ I := by
  intro p hp
  rcases List.mem_append.mp hp with hp | hp
  · exact ne_of_map e (fun q hq => h q (List.mem_append_left _ hq)) p hp
  · exact h p (List.mem_append_right _ hp)
end Mine
namespace Mine
theorem alikes_at (its : List It) {k : Int} (h0 : 0 ≤ k) (h4 : k < 4) : (alikesOf its 4)[k.toNat]? = some (alikeOf its k.toNat) := by
  unfold alikesOf
  rw [List.getElem?_map, List.getElem?_range (by omega)]
  rfl
theorem item_lists {prog : Program} {w : World} {A : Around} {E : Value → Shared → Prop} {s : Shared} {h₀ : Heap} {L : Addr} {news inn : List (Addr × Obj)} {value slice : PySem.Expr} {l : Addr} {Q : Value → Shared → Prop} {vs : List Value} {nss : List (List Int)} {ns : List Int} {n : Nat} {k : Int} {u : Tok}
    (N : News h₀ L s.heap news) (hm : (l, W.listOf vs.toArray n) ∈ news) (hA : ListsIn inn vs nss) (hsub : ∀ p ∈ inn, p ∈ news) (h0 : 0 ≤ k) (hk : k < 2 ^ 63) (hx : nss[k.toNat]? = some ns)
    (h : ∀ b us nb, IntsAre us ns → News h₀ L s.heap ((b, W.listOf us.toArray nb) :: news) → Q (.ref b) s)
    (hs : subscripted slice false (.ref l) (.int k u) = operate [.ref l, .int k u] (getItem (.ref l) (.int k u)) := by with_unfolding_all rfl) :
    wpAny (model prog w) A (subscriptTail value slice (.ref l) (.int k u)) Q E s := by
  have hl : s.heap.IsList l vs.toArray := ⟨_, (N _ hm).1, rfl, n, rfl⟩
  obtain ⟨b, us, nb, hv, hb, hI⟩ := hA.2 k.toNat ns hx
  refine tail_any hl.typeIs slot_list_getitem.lookup (wpAny_getItem_list hl h0 hk (by simpa using hv) (h b us nb hI ?_)) hs
  intro p hp
  rcases List.mem_cons.mp hp with rfl | hp
  · exact N _ (hsub _ hb)
  · exact N p hp
end Mine
namespace Mine
def keptB (its : List It) (mk : Int) : Bool := decide (List.filter (fun k => !decide (alikeOf its k.toNat = [])) (rangeKs 0 (mk - 0).toNat) = [])
def astrayOf (its : List It) (mk : Int) : List Int := List.filter (fun k => !decide ((orb its ((2 : Int) ^ k.toNat).toNat).fmod (2 ^ (k + 1).toNat) = 2 ^ k.toNat)) (rangeKs 0 (mk - 0).toNat)
/-- found, place by place -/
def foundOf (its : List It) (far : Int) : Nat → Int
  | 0 => 0
  | i + 1 => if Builtin.bitAnd ((Builtin.bitXor (reck its (foundOf its far i)) far).fdiv (2 ^ i)) 1 = 1 then Builtin.bitOr (foundOf its far i) (1 * 2 ^ i) else foundOf its far i
/-- the words to which the words lead from 0 -/
def herOf (its : List It) (mk : Int) : Nat → Int
  | 0 => 0
  | j + 1 => wordI its (herOf its mk j) mk
theorem found_rng (its : List It) (far : Int) (i : Nat) : 0 ≤ foundOf its far i ∧ foundOf its far i < 2 ^ i := by
  induction i with
  | zero => exact ⟨Int.le_refl 0, (by decide : (0 : Int) < 2 ^ 0)⟩
  | succ i ih =>
    have hs : (2 : Int) ^ (i + 1) = 2 ^ i * 2 := Int.pow_succ 2 i
    have hp := p2 i
    unfold foundOf
    split
    · rw [bitOr_and, Int.one_mul, kbt_bit, Int.ediv_eq_zero_of_lt ih.1 ih.2, hs]
      simp only [Int.zero_emod, Int.zero_mul]
      omega
    · rw [hs]
      omega
theorem her_rng (its : List It) (mk : Int) (j : Nat) : 0 ≤ herOf its mk j ∧ herOf its mk j < 2 ^ mk.toNat := by
  cases j with
  | zero => exact ⟨Int.le_refl 0, p2 _⟩
  | succ j => exact wordI_rng its _ mk
theorem words_at (its : List It) {mk x : Int} (h0 : 0 ≤ x) (h1 : x < 2 ^ mk.toNat) : (wordsOf its mk)[x.toNat]? = some (wordI its x mk) := by
  unfold wordsOf rangeKs
  have h2 : x.toNat < ((2 : Int) ^ mk.toNat - 0).toNat := by omega
  rw [List.getElem?_map, List.getElem?_map, List.getElem?_range h2]
  simp only [Option.map_some]
  congr 2
  omega
theorem path_at (its : List It) {x : Int} (h0 : 0 ≤ x) (h1 : x ≤ 8) : (pathOf its 8)[x.toNat]? = some (orb its x.toNat) := by
  unfold pathOf
  rw [List.getElem?_map, List.getElem?_range (by omega)]
  rfl
end Mine
namespace Mine
theorem own_off2 {own inn news : List (Addr × Obj)} {I d : Addr} {l : List Addr} (hown : ∀ p ∈ own, p.1 = I ∨ p.1 = d) (hnI : ∀ p ∈ news, p.1 ≠ I) (hd : ApAll d l) (hT : OwnOff inn l) (hl : ∀ b ∈ l, ∃ o, (b, o) ∈ news) : OwnOff (inn ++ own) l := by
  intro p hp b hb
  rcases List.mem_append.mp hp with h | h
  · exact hT p h b hb
  · rcases hown p h with e | e
    · obtain ⟨o, ho⟩ := hl b hb
      rw [e]
      exact fun e => hnI _ ho e.symm
    · rw [e]
      exact hd b hb
end Mine
end
section
open PySem PySem.W PyProof.Rows
namespace Mine
/-- numbers below n, each once: not more than n -/
theorem nodup_few : ∀ (n : Nat) (l : List Nat), l.Nodup → (∀ x ∈ l, x < n) → l.length ≤ n
  | 0, l, _, h => by
    cases l with
    | nil => exact Nat.le_refl 0
    | cons a r => exact absurd (h a (.head _)) (Nat.not_lt_zero a)
  | n + 1, l, hd, h => by
    by_cases hm : n ∈ l
    · have h1 := nodup_few n (l.erase n) (hd.erase n) (fun x hx => by
        have h2 := (hd.mem_erase_iff).mp hx
        have h3 := h x h2.2
        omega)
      rw [List.length_erase_of_mem hm] at h1
      omega
    · have h1 := nodup_few n l hd (fun x hx => by
        have h3 := h x hx
        have h4 : x ≠ n := fun e => hm (e ▸ hx)
        omega)
      omega
theorem nodup_map {α β : Type} {f : α → β} : ∀ {l : List α}, l.Nodup → (∀ a ∈ l, ∀ b ∈ l, f a = f b → a = b) → (l.map f).Nodup
  | [], _, _ => .nil
  | a :: r, hd, h => by
    have h1 := List.nodup_cons.mp hd
    rw [List.map_cons]
    refine List.nodup_cons.mpr ⟨fun hm => ?_, nodup_map h1.2 (fun x hx y hy e => h x (.tail _ hx) y (.tail _ hy) e)⟩
    obtain ⟨b, hb, e⟩ := List.mem_map.mp hm
    have := h b (.tail _ hb) a (.head _) e
    exact h1.1 (this ▸ hb)
/-- two of n + 1 places agree where there are n values -/
theorem pigeon (h : Nat → Nat) (n : Nat) (hb : ∀ i, i ≤ n → h i < n) : ∃ i j, i < j ∧ j ≤ n ∧ h i = h j := by
  refine Classical.byContradiction fun hno => ?_
  have inj : ∀ i j, i ≤ n → j ≤ n → h i = h j → i = j := by
    intro i j hi hj e
    rcases Nat.lt_trichotomy i j with hl | hl | hl
    · exact (hno ⟨i, j, hl, hj, e⟩).elim
    · exact hl
    · exact (hno ⟨j, i, hl, hi, e.symm⟩).elim
  have hd : ((List.range (n + 1)).map h).Nodup := nodup_map List.nodup_range (fun a ha b hb e => inj a b (by have := List.mem_range.mp ha; omega) (by have := List.mem_range.mp hb; omega) e)
  have hl := nodup_few n _ hd (fun x hx => by
    obtain ⟨i, hi, rfl⟩ := List.mem_map.mp hx
    exact hb i (by have := List.mem_range.mp hi; omega))
  rw [List.length_map, List.length_range] at hl
  omega
/-- one for one below n: onto -/
theorem onto_of_inj (h : Nat → Nat) (n : Nat) (hb : ∀ i, i < n → h i < n) (hi : ∀ i j, i < n → j < n → h i = h j → i = j) (y : Nat) (hy : y < n) : ∃ i, i < n ∧ h i = y := by
  refine Classical.byContradiction fun hno => ?_
  obtain ⟨i, j, hij, hj, e⟩ := pigeon (fun i => if i < n then h i else y) n (fun i _ => by
    show (if i < n then h i else y) < n
    split
    · rename_i q; exact hb i q
    · exact hy)
  have hin : i < n := by omega
  simp only [hin, if_true] at e
  by_cases hjn : j < n
  · simp only [hjn, if_true] at e
    have := hi i j hin hjn e
    omega
  · simp only [hjn, if_false] at e
    exact hno ⟨i, hin, e⟩

/-- rests go to rests -/
def TF (f : Int → Int) : Prop := ∀ (k : Nat) (x y : Int), x % 2 ^ k = y % 2 ^ k → f x % 2 ^ k = f y % 2 ^ k
def Inj (f : Int → Int) (m : Nat) : Prop := ∀ x y : Int, 0 ≤ x → x < 2 ^ m → 0 ≤ y → y < 2 ^ m → f x % 2 ^ m = f y % 2 ^ m → x = y
/-- in place k the results at x and at 2 ^ k more differ, whatever x below 2 ^ k -/
def Dif (f : Int → Int) (k : Nat) : Prop := ∀ x : Int, 0 ≤ x → x < 2 ^ k → f x / 2 ^ k % 2 ≠ f (x + 2 ^ k) / 2 ^ k % 2
theorem p2_succ (m : Nat) : (2 : Int) ^ (m + 1) = 2 * 2 ^ m := by rw [Int.pow_succ, Int.mul_comm]
theorem bit01 (a : Int) : a % 2 = 0 ∨ a % 2 = 1 := by omega
/-- a rest by one place more is the rest, or the rest and 2 ^ m -/
theorem rest_two (v : Int) (m : Nat) : (v / 2 ^ m % 2 = 0 ∧ v % 2 ^ (m + 1) = v % 2 ^ m) ∨ (v / 2 ^ m % 2 = 1 ∧ v % 2 ^ (m + 1) = v % 2 ^ m + 2 ^ m) := by
  have h := mod_top v m
  rcases bit01 (v / 2 ^ m) with e | e
  · left
    rw [e, Int.mul_zero, Int.add_zero] at h
    exact ⟨e, h⟩
  · right
    rw [e, Int.mul_one] at h
    exact ⟨e, h⟩
theorem rest_rng (v : Int) (m : Nat) : 0 ≤ v % 2 ^ m ∧ v % 2 ^ m < 2 ^ m := ⟨Int.emod_nonneg _ (by have := p2 m; omega), Int.emod_lt_of_pos _ (p2 m)⟩
theorem rest_up {x y : Int} {m : Nat} (h : x % 2 ^ m = y % 2 ^ m) (hb : x / 2 ^ m % 2 = y / 2 ^ m % 2) : x % 2 ^ (m + 1) = y % 2 ^ (m + 1) := by
  rw [mod_top, mod_top, h, hb]
theorem rest_down {x y : Int} {m : Nat} (h : x % 2 ^ (m + 1) = y % 2 ^ (m + 1)) : x % 2 ^ m = y % 2 ^ m := by
  have hx := rest_two x m
  have hy := rest_two y m
  have rx := rest_rng x m
  have ry := rest_rng y m
  omega
theorem rest_bit {x y : Int} {m : Nat} (h : x % 2 ^ (m + 1) = y % 2 ^ (m + 1)) : x / 2 ^ m % 2 = y / 2 ^ m % 2 := by
  have hx := rest_two x m
  have hy := rest_two y m
  have rx := rest_rng x m
  have ry := rest_rng y m
  have hp := p2 m
  omega
theorem rest_le {x y : Int} {m k : Nat} (hk : k ≤ m) (h : x % 2 ^ m = y % 2 ^ m) : x % 2 ^ k = y % 2 ^ k := by
  induction m with
  | zero =>
    have : k = 0 := by omega
    rw [this]
    exact h
  | succ m ih =>
    rcases Nat.lt_or_ge k (m + 1) with h1 | h1
    · exact ih (by omega) (rest_down h)
    · have : k = m + 1 := by omega
      rw [this]
      exact h
theorem rest_self (x : Int) (m : Nat) : x % 2 ^ m % 2 ^ m = x % 2 ^ m := Int.emod_emod_of_dvd _ (Int.dvd_refl _)
theorem rest_small {x : Int} {m : Nat} (h0 : 0 ≤ x) (h1 : x < 2 ^ m) : x % 2 ^ m = x := Int.emod_eq_of_lt h0 h1
theorem rest_plus (x : Int) (m : Nat) : (x + 2 ^ m) % 2 ^ m = x % 2 ^ m := Int.add_emod_right x (2 ^ m)

section
variable {f : Int → Int} (T : TF f)
include T
theorem inj_succ (m : Nat) : Inj f (m + 1) ↔ (Inj f m ∧ Dif f m) := by
  have hp := p2 m
  have hs := p2_succ m
  constructor
  · intro hI
    have hDif : Dif f m := by
      intro x h0 h1 e
      have hlow := T m x (x + 2 ^ m) (rest_plus x m).symm
      have := hI x (x + 2 ^ m) h0 (by omega) (by omega) (by omega) (rest_up hlow e)
      omega
    refine ⟨fun x y hx0 hx1 hy0 hy1 e => ?_, hDif⟩
    refine Classical.byContradiction fun hne => ?_
    have b1 := bit01 (f x / 2 ^ m)
    have b2 := bit01 (f y / 2 ^ m)
    have b3 := bit01 (f (x + 2 ^ m) / 2 ^ m)
    have hd := hDif x hx0 hx1
    have hlow := T m x (x + 2 ^ m) (rest_plus x m).symm
    rcases (by omega : f x / 2 ^ m % 2 = f y / 2 ^ m % 2 ∨ f (x + 2 ^ m) / 2 ^ m % 2 = f y / 2 ^ m % 2) with hb | hb
    · exact hne (hI x y hx0 (by omega) hy0 (by omega) (rest_up e hb))
    · have := hI (x + 2 ^ m) y (by omega) (by omega) hy0 (by omega) (rest_up (hlow.symm.trans e) hb)
      omega
  · rintro ⟨hI, hD⟩ x y hx0 hx1 hy0 hy1 e
    have hx := rest_two x m
    have hy := rest_two y m
    rw [rest_small hx0 hx1] at hx
    rw [rest_small hy0 hy1] at hy
    have rx := rest_rng x m
    have ry := rest_rng y m
    have e1 := T m x (x % 2 ^ m) (rest_self x m).symm
    have e2 := T m y (y % 2 ^ m) (rest_self y m).symm
    have e0 := rest_down e
    have hr := hI (x % 2 ^ m) (y % 2 ^ m) rx.1 rx.2 ry.1 ry.2 (by rw [← e1, ← e2]; exact e0)
    have hb := rest_bit e
    have hd := hD (x % 2 ^ m) rx.1 rx.2
    rcases hx with ⟨_, hx⟩ | ⟨_, hx⟩ <;> rcases hy with ⟨_, hy⟩ | ⟨_, hy⟩
    · rw [hx, hy, hr]
    · exfalso
      have ex : x % 2 ^ m = x := hx.symm
      rw [ex] at hr hd
      have ey : y = x + 2 ^ m := by omega
      rw [← ey] at hd
      exact hd hb
    · exfalso
      have ey : y % 2 ^ m = y := hy.symm
      rw [hr, ey] at hd
      have ex : x = y + 2 ^ m := by omega
      rw [← ex] at hd
      exact hd hb.symm
    · rw [hx, hy, hr]
theorem inj_all (m : Nat) : Inj f m ↔ ∀ k, k < m → Dif f k := by
  induction m with
  | zero =>
    refine ⟨fun _ k hk => absurd hk (Nat.not_lt_zero k), fun _ x y hx0 hx1 hy0 hy1 _ => ?_⟩
    simp only [Int.pow_zero] at hx1 hy1
    omega
  | succ m ih =>
    rw [inj_succ T, ih]
    constructor
    · rintro ⟨h1, h2⟩ k hk
      rcases Nat.lt_or_ge k m with h | h
      · exact h1 k h
      · have : k = m := by omega
        rw [this]
        exact h2
    · intro h
      exact ⟨fun k hk => h k (by omega), h m (by omega)⟩
end
/-- where f leads from 0 -/
def gon (f : Int → Int) : Nat → Int
  | 0 => 0
  | j + 1 => f (gon f j)
def Cyc (f : Int → Int) (m : Nat) : Prop := ∀ j : Nat, gon f j % 2 ^ m = 0 ↔ 2 ^ m ∣ j
def Odo (f : Int → Int) (k : Nat) : Prop := gon f (2 ^ k) % 2 ^ (k + 1) = 2 ^ k
section
variable {f : Int → Int} (T : TF f)
include T
theorem gon_shift {m i j : Nat} (h : gon f i % 2 ^ m = gon f j % 2 ^ m) (t : Nat) : gon f (i + t) % 2 ^ m = gon f (j + t) % 2 ^ m := by
  induction t with
  | zero => exact h
  | succ t ih => exact T m _ _ ih
theorem gon_period {m P : Nat} (h : gon f P % 2 ^ m = 0) (t : Nat) : gon f (P + t) % 2 ^ m = gon f t % 2 ^ m := by
  have h0 : gon f P % 2 ^ m = gon f 0 % 2 ^ m := by
    rw [h]
    show (0 : Int) = 0 % 2 ^ m
    rw [Int.zero_emod]
  have h1 := gon_shift T h0 t
  rw [Nat.zero_add] at h1
  exact h1
theorem gon_periods {m P : Nat} (h : gon f P % 2 ^ m = 0) (q t : Nat) : gon f (P * q + t) % 2 ^ m = gon f t % 2 ^ m := by
  induction q with
  | zero => rw [Nat.mul_zero, Nat.zero_add]
  | succ q ih =>
    rw [Nat.mul_succ, Nat.add_assoc, Nat.add_comm P t, ← Nat.add_assoc, Nat.add_comm (P * q + t) P, gon_period T h, ih]
/-- full: back at 0 after 2 ^ m steps and not before -/
theorem cyc_of_full {m : Nat} (h : gon f (2 ^ m) % 2 ^ m = 0) (hne : ∀ i, 0 < i → i < 2 ^ m → gon f i % 2 ^ m ≠ 0) : Cyc f m := by
  intro j
  have e : 2 ^ m * (j / 2 ^ m) + j % 2 ^ m = j := Nat.div_add_mod j (2 ^ m)
  have hr := gon_periods T h (j / 2 ^ m) (j % 2 ^ m)
  rw [e] at hr
  rw [hr, Nat.dvd_iff_mod_eq_zero]
  have hlt := Nat.mod_lt j (Nat.two_pow_pos m)
  constructor
  · intro hz
    refine Classical.byContradiction fun hn => ?_
    exact hne _ (by omega) hlt hz
  · intro hz
    rw [hz]
    show (0 : Int) % 2 ^ m = 0
    rw [Int.zero_emod]
theorem cyc_down {k : Nat} (hC : Cyc f (k + 1)) : Cyc f k ∧ Dif f k ∧ Odo f k := by
  have hp := p2 k
  have hs := p2_succ k
  have hP := Nat.two_pow_pos k
  have hPs : 2 ^ (k + 1) = 2 * 2 ^ k := by rw [Nat.pow_succ, Nat.mul_comm]
  have notd : ∀ j, 0 < j → j < 2 * 2 ^ k → gon f j % 2 ^ (k + 1) ≠ 0 := by
    intro j h0 h1 hz
    have h2 := (hC j).mp hz
    rw [hPs] at h2
    have := Nat.le_of_dvd h0 h2
    omega
  have full2 : gon f (2 ^ (k + 1)) % 2 ^ (k + 1) = 0 := (hC _).mpr (Nat.dvd_refl _)
  -- no earlier return, by k places
  have no1 : ∀ j, 0 < j → j < 2 ^ k → gon f j % 2 ^ k ≠ 0 := by
    intro j h0 h1 hz
    have h2 := rest_two (gon f j) k
    have hj : gon f j % 2 ^ (k + 1) = 2 ^ k := by
      have := notd j h0 (by omega)
      omega
    have hz2 : gon f (j + j) % 2 ^ k = 0 := by
      rw [gon_period T hz j, hz]
    have h3 := rest_two (gon f (j + j)) k
    have hjj : gon f (j + j) % 2 ^ (k + 1) = 2 ^ k := by
      have := notd (j + j) (by omega) (by omega)
      omega
    have h4 := gon_shift T (hjj.trans hj.symm) (2 ^ (k + 1) - 2 * j)
    have e1 : j + j + (2 ^ (k + 1) - 2 * j) = 2 ^ (k + 1) := by omega
    have e2 : j + (2 ^ (k + 1) - 2 * j) = 2 ^ (k + 1) - j := by omega
    rw [e1, e2, full2] at h4
    exact notd (2 ^ (k + 1) - j) (by omega) (by omega) h4.symm
  -- it does return
  have ret : gon f (2 ^ k) % 2 ^ k = 0 := by
    have hc : ∀ i, (gon f i % 2 ^ k).toNat < 2 ^ k := by
      intro i
      have h1 := rest_rng (gon f i) k
      have h2 : ((2 ^ k : Nat) : Int) = (2 : Int) ^ k := by simp
      omega
    obtain ⟨i, j, hij, hj, e⟩ := pigeon (fun i => (gon f i % 2 ^ k).toNat) (2 ^ k) (fun i _ => hc i)
    have e' : gon f i % 2 ^ k = gon f j % 2 ^ k := by
      have h1 := rest_rng (gon f i) k
      have h2 := rest_rng (gon f j) k
      have e0 : (gon f i % 2 ^ k).toNat = (gon f j % 2 ^ k).toNat := e
      omega
    have h4 := gon_shift T e' (2 ^ (k + 1) - i)
    have e1 : i + (2 ^ (k + 1) - i) = 2 ^ (k + 1) := by omega
    have e2 : j + (2 ^ (k + 1) - i) = 2 ^ (k + 1) + (j - i) := by omega
    have z0 : gon f (2 ^ (k + 1)) % 2 ^ k = 0 := by
      have h5 : gon f (2 ^ (k + 1)) % 2 ^ (k + 1) = (0 : Int) % 2 ^ (k + 1) := by rw [full2, Int.zero_emod]
      have h6 := rest_down h5
      rw [Int.zero_emod] at h6
      exact h6
    rw [e1, e2, gon_period T z0, z0] at h4
    rcases Nat.lt_or_ge (j - i) (2 ^ k) with hl | hl
    · exact absurd h4.symm (no1 (j - i) (by omega) hl)
    · have : j - i = 2 ^ k := by omega
      rw [this] at h4
      exact h4.symm
  have hCk : Cyc f k := cyc_of_full T ret no1
  have hO : Odo f k := by
    have h2 := rest_two (gon f (2 ^ k)) k
    have := notd (2 ^ k) hP (by omega)
    show gon f (2 ^ k) % 2 ^ (k + 1) = 2 ^ k
    omega
  refine ⟨hCk, ?_, hO⟩
  -- the places are all met
  have far0 : ∀ a b, a < b → b < 2 ^ (k + 1) → gon f a % 2 ^ (k + 1) ≠ gon f b % 2 ^ (k + 1) := by
    intro a b hab hb e
    have h4 := gon_shift T e (2 ^ (k + 1) - a)
    have e1 : a + (2 ^ (k + 1) - a) = 2 ^ (k + 1) := by omega
    have e2 : b + (2 ^ (k + 1) - a) = 2 ^ (k + 1) + (b - a) := by omega
    rw [e1, e2, gon_period T full2, full2] at h4
    exact notd (b - a) (by omega) (by omega) h4.symm
  have hcast : ((2 ^ (k + 1) : Nat) : Int) = (2 : Int) ^ (k + 1) := by simp
  have met : ∀ y : Int, 0 ≤ y → y < 2 ^ (k + 1) → ∃ a, a < 2 ^ (k + 1) ∧ gon f a % 2 ^ (k + 1) = y := by
    intro y h0 h1
    obtain ⟨a, ha, e⟩ := onto_of_inj (fun i => (gon f i % 2 ^ (k + 1)).toNat) (2 ^ (k + 1)) (fun i _ => by
        have h1 := rest_rng (gon f i) (k + 1)
        show (gon f i % 2 ^ (k + 1)).toNat < 2 ^ (k + 1)
        omega)
      (fun i j hi hj e => by
        have h1 := rest_rng (gon f i) (k + 1)
        have h2 := rest_rng (gon f j) (k + 1)
        have e0 : (gon f i % 2 ^ (k + 1)).toNat = (gon f j % 2 ^ (k + 1)).toNat := e
        have e1 : gon f i % 2 ^ (k + 1) = gon f j % 2 ^ (k + 1) := by omega
        rcases Nat.lt_trichotomy i j with hl | hl | hl
        · exact absurd e1 (far0 i j hl hj)
        · exact hl
        · exact absurd e1.symm (far0 j i hl hi)) y.toNat (by omega)
    have h3 := rest_rng (gon f a) (k + 1)
    have e0 : (gon f a % 2 ^ (k + 1)).toNat = y.toNat := e
    exact ⟨a, ha, by omega⟩
  intro x h0 h1 hb
  have hlow := T k x (x + 2 ^ k) (rest_plus x k).symm
  have heq := rest_up hlow hb
  obtain ⟨a, ha, ea⟩ := met x h0 (by omega)
  obtain ⟨b, hb', eb⟩ := met (x + 2 ^ k) (by omega) (by omega)
  have fa := T (k + 1) (gon f a) x (by rw [ea, rest_small h0 (by omega)])
  have fb := T (k + 1) (gon f b) (x + 2 ^ k) (by rw [eb, rest_small (by omega) (by omega)])
  have e1 : gon f (a + 1) % 2 ^ (k + 1) = gon f (b + 1) % 2 ^ (k + 1) := by
    show f (gon f a) % 2 ^ (k + 1) = f (gon f b) % 2 ^ (k + 1)
    rw [fa, fb, heq]
  have step : ∀ a b, a < b → b < 2 ^ (k + 1) → gon f (a + 1) % 2 ^ (k + 1) = gon f (b + 1) % 2 ^ (k + 1) → False := by
    intro a b hab hb e
    have h4 := gon_shift T e (2 ^ (k + 1) - 1 - a)
    have e1 : a + 1 + (2 ^ (k + 1) - 1 - a) = 2 ^ (k + 1) := by omega
    have e2 : b + 1 + (2 ^ (k + 1) - 1 - a) = 2 ^ (k + 1) + (b - a) := by omega
    rw [e1, e2, gon_period T full2, full2] at h4
    exact notd (b - a) (by omega) (by omega) h4.symm
  rcases Nat.lt_trichotomy a b with hl | hl | hl
  · exact step a b hl hb' e1
  · rw [hl, eb] at ea
    omega
  · exact step b a hl ha e1.symm
theorem cyc_up {k : Nat} (hC : Cyc f k) (hI : Inj f (k + 1)) (hO : Odo f k) : Cyc f (k + 1) := by
  have hp := p2 k
  have hs := p2_succ k
  have hP := Nat.two_pow_pos k
  have hPs : 2 ^ (k + 1) = 2 * 2 ^ k := by rw [Nat.pow_succ, Nat.mul_comm]
  have cancel : ∀ t i j, gon f (i + t) % 2 ^ (k + 1) = gon f (j + t) % 2 ^ (k + 1) → gon f i % 2 ^ (k + 1) = gon f j % 2 ^ (k + 1) := by
    intro t
    induction t with
    | zero => intro i j e; exact e
    | succ t ih =>
      intro i j e
      refine ih i j ?_
      have ri := rest_rng (gon f (i + t)) (k + 1)
      have rj := rest_rng (gon f (j + t)) (k + 1)
      have ei := T (k + 1) (gon f (i + t)) (gon f (i + t) % 2 ^ (k + 1)) (rest_self _ _).symm
      have ej := T (k + 1) (gon f (j + t)) (gon f (j + t) % 2 ^ (k + 1)) (rest_self _ _).symm
      exact hI _ _ ri.1 ri.2 rj.1 rj.2 (by rw [← ei, ← ej]; exact e)
  have hO' : gon f (2 ^ k) % 2 ^ (k + 1) = 2 ^ k := hO
  have full2 : gon f (2 ^ (k + 1)) % 2 ^ (k + 1) = 0 := by
    have hz : gon f (2 ^ (k + 1)) % 2 ^ k = 0 := (hC _).mpr ⟨2, by rw [hPs, Nat.mul_comm]⟩
    have h2 := rest_two (gon f (2 ^ (k + 1))) k
    refine Classical.byContradiction fun hn => ?_
    have he : gon f (2 ^ (k + 1)) % 2 ^ (k + 1) = 2 ^ k := by omega
    have h3 : gon f (2 ^ k + 2 ^ k) % 2 ^ (k + 1) = gon f (0 + 2 ^ k) % 2 ^ (k + 1) := by
      rw [← Nat.two_mul, ← hPs, he, Nat.zero_add, hO']
    have h4 := cancel (2 ^ k) (2 ^ k) 0 h3
    rw [hO'] at h4
    have h5 : gon f 0 % 2 ^ (k + 1) = 0 := by
      show (0 : Int) % 2 ^ (k + 1) = 0
      rw [Int.zero_emod]
    omega
  intro j
  constructor
  · intro hz
    have h5 : gon f j % 2 ^ (k + 1) = (0 : Int) % 2 ^ (k + 1) := by rw [hz, Int.zero_emod]
    have h6 := rest_down h5
    rw [Int.zero_emod] at h6
    obtain ⟨q, hq⟩ := (hC j).mp h6
    rcases Nat.mod_two_eq_zero_or_one q with h2 | h2
    · refine ⟨q / 2, ?_⟩
      have e : q = 2 * (q / 2) := by omega
      rw [hq, hPs, Nat.mul_comm 2 (2 ^ k), Nat.mul_assoc, ← e]
    · exfalso
      have e : q = 2 * (q / 2) + 1 := by omega
      have ej : j = 2 ^ (k + 1) * (q / 2) + 2 ^ k := by
        rw [hq, hPs]
        conv => lhs; rw [e]
        rw [Nat.mul_add, Nat.mul_one, Nat.mul_comm 2 (2 ^ k), Nat.mul_assoc]
      rw [ej, gon_periods T full2, hO'] at hz
      omega
  · rintro ⟨q, rfl⟩
    have h1 := gon_periods T full2 q 0
    rw [Nat.add_zero] at h1
    rw [h1]
    show (0 : Int) % 2 ^ (k + 1) = 0
    rw [Int.zero_emod]
omit T in
theorem cyc_zero : Cyc f 0 := by
  intro j
  rw [Int.pow_zero, Int.emod_one, Nat.pow_zero]
  exact ⟨fun _ => Nat.one_dvd j, fun _ => rfl⟩
theorem cyc_iff (m : Nat) : Cyc f m ↔ ∀ k, k < m → Dif f k ∧ Odo f k := by
  induction m with
  | zero => exact ⟨fun _ k hk => absurd hk (Nat.not_lt_zero k), fun _ => cyc_zero⟩
  | succ m ih =>
    constructor
    · intro hC
      obtain ⟨h1, h2, h3⟩ := cyc_down T hC
      intro k hk
      rcases Nat.lt_or_ge k m with h | h
      · exact ih.mp h1 k h
      · have : k = m := by omega
        rw [this]
        exact ⟨h2, h3⟩
    · intro h
      have h1 := ih.mpr (fun k hk => h k (by omega))
      exact cyc_up T h1 ((inj_all T (m + 1)).mpr (fun k hk => (h k hk).1)) (h m (by omega)).2
end
end Mine
end
section
open PySem PySem.W PyProof.Rows
namespace Mine
theorem tf_reck {its : List It} (hok : ∀ i ∈ its, i.Ok) : TF (reck its) := fun k _ _ e => reck_rest hok (k := k) e
theorem word_mod {its : List It} (hok : ∀ i ∈ its, i.Ok) (x mk : Int) : wordI its x mk = reck its x % 2 ^ mk.toNat := word_is hok x mk
theorem range_take {n m : Nat} (h : n ≤ m) : List.take n (rangeKs 0 m) = rangeKs 0 n := by
  unfold rangeKs
  rw [← List.map_take, List.take_range, Nat.min_eq_left h]
theorem words_fact {its : List It} (hok : ∀ i ∈ its, i.Ok) {mk : Int} (h1 : 1 ≤ mk) (h4 : mk ≤ 4) : List.map (fun k' => k'.fmod (2 ^ mk.toNat)) (List.take ((2 : Int) ^ mk.toNat).toNat (worthsOf its)) = List.map (fun k' => wordI its k' mk) (rangeKs 0 ((2 : Int) ^ mk.toNat - 0).toNat) := by
  have hn : ((2 : Int) ^ mk.toNat).toNat ≤ 16 := by
    have : mk = 1 ∨ mk = 2 ∨ mk = 3 ∨ mk = 4 := by omega
    rcases this with e | e | e | e <;> rw [e] <;> decide
  unfold worthsOf
  rw [← List.map_take, range_take hn, List.map_map, Int.sub_zero]
  refine List.map_congr_left fun x _ => ?_
  show (reck its x).fmod (2 ^ mk.toNat) = _
  rw [word_mod hok, fm]
theorem dist_fact {its : List It} (hok : ∀ i ∈ its, i.Ok) (far mk : Int) : (reck its far).fmod (2 ^ mk.toNat) = wordI its far mk := by
  rw [word_mod hok, fm]
theorem alike_nil (its : List It) (k : Nat) : alikeOf its k = [] ↔ Dif (reck its) k := by
  unfold alikeOf Dif
  rw [List.filter_eq_nil_iff]
  have key : ∀ x : Int, Builtin.bitAnd ((Builtin.bitXor (reck its x) (reck its (x + 2 ^ k))).fdiv (2 ^ k)) 1 = 0 ↔ reck its x / 2 ^ k % 2 = reck its (x + 2 ^ k) / 2 ^ k % 2 := by
    intro x
    rw [bitAnd_m1, fd, xor_bit]
    omega
  have hp := p2 k
  constructor
  · intro h x h0 h1 e
    have hm : x ∈ rangeKs 0 ((2 : Int) ^ k - 0).toNat := by
      unfold rangeKs
      exact List.mem_map.mpr ⟨x.toNat, List.mem_range.mpr (by omega), by omega⟩
    exact h x hm (decide_eq_true ((key x).mpr e))
  · intro h x hm hd
    have hr := mem_rangeKs hm
    exact h x hr.1 (by omega) ((key x).mp (of_decide_eq_true hd))
theorem kept_iff (its : List It) {mk : Int} (h1 : 1 ≤ mk) : keptB its mk = true ↔ ∀ k, k < mk.toNat → Dif (reck its) k := by
  unfold keptB
  rw [decide_eq_true_iff, List.filter_eq_nil_iff]
  constructor
  · intro h k hk
    have hm : (k : Int) ∈ rangeKs 0 (mk - 0).toNat := by
      unfold rangeKs
      exact List.mem_map.mpr ⟨k, List.mem_range.mpr (by omega), by omega⟩
    have h2 := h (k : Int) hm
    refine (alike_nil its k).mp ?_
    refine Classical.byContradiction fun hn => h2 ?_
    show (!decide (alikeOf its k = [])) = true
    rw [decide_eq_false hn]
    rfl
  · intro h x hm hd
    have hr := mem_rangeKs hm
    have h2 := (alike_nil its x.toNat).mpr (h x.toNat (by omega))
    rw [decide_eq_true h2] at hd
    cases hd
theorem range_mem {n : Nat} {x : Int} : x ∈ rangeKs 0 n ↔ 0 ≤ x ∧ x < n := by
  constructor
  · intro h
    have := mem_rangeKs h
    omega
  · intro h
    unfold rangeKs
    exact List.mem_map.mpr ⟨x.toNat, List.mem_range.mpr (by omega), by omega⟩
theorem range_nodup (n : Nat) : (rangeKs 0 n).Nodup := nodup_map List.nodup_range (fun a _ b _ e => by
  have : (0 : Int) + (a : Int) = 0 + (b : Int) := e
  omega)
theorem range_sorted (n : Nat) : List.Pairwise (fun x1 x2 : Int => x1 ≤ x2) (rangeKs 0 n) := by
  unfold rangeKs
  rw [List.pairwise_map]
  exact List.pairwise_lt_range.imp (fun h => by omega)
theorem kept_fact {its : List It} (hok : ∀ i ∈ its, i.Ok) {mk : Int} (h1 : 1 ≤ mk) (h4 : mk ≤ 4) {ns : List Int} (hs : List.Pairwise (fun x1 x2 => x1 ≤ x2) ns) (hp : ns.Perm (wordsOf its mk)) : decide (ns = rangeKs 0 ((2 : Int) ^ mk.toNat - 0).toNat) = keptB its mk := by
  have hpos := p2 mk.toNat
  have hN : ((((2 : Int) ^ mk.toNat - 0).toNat : Nat) : Int) = 2 ^ mk.toNat := by omega
  have hI : keptB its mk = true ↔ Inj (reck its) mk.toNat := (kept_iff its h1).trans (inj_all (tf_reck hok) mk.toNat).symm
  have key : ns = rangeKs 0 ((2 : Int) ^ mk.toNat - 0).toNat ↔ Inj (reck its) mk.toNat := by
    constructor
    · intro e x y hx0 hx1 hy0 hy1 hxy
      have hd : (wordsOf its mk).Nodup := hp.nodup_iff.mp (e ▸ range_nodup _)
      unfold wordsOf rangeKs at hd
      rw [List.map_map] at hd
      unfold List.Nodup at hd
      rw [List.pairwise_map] at hd
      have hne : ∀ a b : Nat, a < b → b < ((2 : Int) ^ mk.toNat - 0).toNat → wordI its (0 + (a : Int)) mk ≠ wordI its (0 + (b : Int)) mk := by
        intro a b hab hb
        have h2 := List.pairwise_iff_getElem.mp hd a b (by rw [List.length_range]; omega) (by rw [List.length_range]; omega) hab
        simpa using h2
      have wxy : wordI its x mk = wordI its y mk := by rw [word_mod hok, word_mod hok, hxy]
      have ex : (0 : Int) + (x.toNat : Int) = x := by omega
      have ey : (0 : Int) + (y.toNat : Int) = y := by omega
      rcases Nat.lt_trichotomy x.toNat y.toNat with hl | hl | hl
      · have := hne _ _ hl (by omega)
        rw [ex, ey] at this
        exact absurd wxy this
      · omega
      · have := hne _ _ hl (by omega)
        rw [ex, ey] at this
        exact absurd wxy.symm this
    · intro hInj
      have hwd : (wordsOf its mk).Nodup := by
        unfold wordsOf
        refine nodup_map (range_nodup _) (fun a ha b hb e => ?_)
        have ra := range_mem.mp ha
        have rb := range_mem.mp hb
        rw [word_mod hok, word_mod hok] at e
        exact hInj a b ra.1 (by omega) rb.1 (by omega) e
      have hsub : ∀ y, y ∈ wordsOf its mk ↔ y ∈ rangeKs 0 ((2 : Int) ^ mk.toNat - 0).toNat := by
        intro y
        constructor
        · intro hy
          obtain ⟨x, _, rfl⟩ := List.mem_map.mp hy
          have := wordI_rng its x mk
          exact range_mem.mpr ⟨this.1, by omega⟩
        · intro hy
          have ry := range_mem.mp hy
          obtain ⟨i, hi, e⟩ := onto_of_inj (fun i => (reck its (i : Int) % 2 ^ mk.toNat).toNat) ((2 : Int) ^ mk.toNat - 0).toNat (fun i _ => by
              have h3 := rest_rng (reck its (i : Int)) mk.toNat
              show (reck its (i : Int) % 2 ^ mk.toNat).toNat < _
              omega)
            (fun i j hi hj e => by
              have h3 := rest_rng (reck its (i : Int)) mk.toNat
              have h4 := rest_rng (reck its (j : Int)) mk.toNat
              have e0 : (reck its (i : Int) % 2 ^ mk.toNat).toNat = (reck its (j : Int) % 2 ^ mk.toNat).toNat := e
              have := hInj (i : Int) (j : Int) (by omega) (by omega) (by omega) (by omega) (by omega)
              omega) y.toNat (by omega)
          have e0 : (reck its (i : Int) % 2 ^ mk.toNat).toNat = y.toNat := e
          have h3 := rest_rng (reck its (i : Int)) mk.toNat
          refine List.mem_map.mpr ⟨(i : Int), range_mem.mpr ⟨by omega, by omega⟩, ?_⟩
          rw [word_mod hok]
          omega
      have hperm : ns.Perm (rangeKs 0 ((2 : Int) ^ mk.toNat - 0).toNat) := hp.trans ((List.perm_ext_iff_of_nodup hwd (range_nodup _)).mpr hsub)
      exact List.Perm.eq_of_pairwise (fun a b _ _ h1 h2 => by omega) hs (range_sorted _) hperm
  by_cases hk : keptB its mk = true
  · rw [hk]
    exact decide_eq_true (key.mpr (hI.mp hk))
  · rw [Bool.not_eq_true] at hk
    rw [hk]
    refine decide_eq_false fun e => ?_
    have := hI.mpr (key.mp e)
    rw [hk] at this
    cases this
theorem found_is {its : List It} (hok : ∀ i ∈ its, i.Ok) (far : Int) : ∀ m : Nat, (∀ k, k < m → Dif (reck its) k) → reck its (foundOf its far m) % 2 ^ m = far % 2 ^ m
  | 0, _ => by rw [Int.pow_zero, Int.emod_one, Int.emod_one]
  | m + 1, h => by
    have ih := found_is hok far m (fun k hk => h k (by omega))
    have hr := found_rng its far m
    have hp := p2 m
    have key : Builtin.bitAnd ((Builtin.bitXor (reck its (foundOf its far m)) far).fdiv (2 ^ m)) 1 = 1 ↔ reck its (foundOf its far m) / 2 ^ m % 2 ≠ far / 2 ^ m % 2 := by
      rw [bitAnd_m1, fd, xor_bit]
      omega
    unfold foundOf
    by_cases hb : reck its (foundOf its far m) / 2 ^ m % 2 = far / 2 ^ m % 2
    · rw [if_neg (fun e => key.mp e hb)]
      exact rest_up ih hb
    · rw [if_pos (key.mpr hb)]
      have e1 : Builtin.bitOr (foundOf its far m) (1 * 2 ^ m) = foundOf its far m + 2 ^ m := by
        rw [bitOr_and, Int.one_mul, kbt_bit, Int.ediv_eq_zero_of_lt hr.1 hr.2]
        simp only [Int.zero_emod, Int.zero_mul]
        omega
      rw [e1]
      have hlow := tf_reck hok m (foundOf its far m) (foundOf its far m + 2 ^ m) (rest_plus _ m).symm
      have hd := h m (by omega) (foundOf its far m) hr.1 hr.2
      refine rest_up (hlow.symm.trans ih) ?_
      omega
theorem found_fact {its : List It} (hok : ∀ i ∈ its, i.Ok) {mk : Int} (h1 : 1 ≤ mk) (_h4 : mk ≤ 4) (far : Int) (hk : keptB its mk = true) : wordI its (foundOf its far mk.toNat) mk = far.fmod (2 ^ mk.toNat) := by
  rw [word_mod hok, fm]
  exact found_is hok far mk.toNat ((kept_iff its h1).mp hk)
theorem her_is {its : List It} (hok : ∀ i ∈ its, i.Ok) (mk : Int) (j : Nat) : herOf its mk j = gon (reck its) j % 2 ^ mk.toNat := by
  induction j with
  | zero =>
    show (0 : Int) = 0 % 2 ^ mk.toNat
    rw [Int.zero_emod]
  | succ j ih =>
    show wordI its (herOf its mk j) mk = reck its (gon (reck its) j) % 2 ^ mk.toNat
    rw [word_mod hok]
    exact tf_reck hok mk.toNat _ _ (by rw [ih, rest_self])
theorem orb_is {its : List It} (hok : ∀ i ∈ its, i.Ok) {k : Nat} (hk : k ≤ 40) (j : Nat) : orb its j % 2 ^ k = gon (reck its) j % 2 ^ k := by
  refine rest_le hk ?_
  induction j with
  | zero => rfl
  | succ j ih =>
    show (reck its (orb its j)).fmod (2 ^ 40) % 2 ^ 40 = reck its (gon (reck its) j) % 2 ^ 40
    rw [fm, rest_self]
    exact tf_reck hok 40 _ _ ih
theorem astray_iff {its : List It} (hok : ∀ i ∈ its, i.Ok) {mk : Int} (h1 : 1 ≤ mk) (h4 : mk ≤ 4) : astrayOf its mk = [] ↔ ∀ k, k < mk.toNat → Odo (reck its) k := by
  unfold astrayOf
  rw [List.filter_eq_nil_iff]
  have key : ∀ k : Nat, k ≤ 4 → ((orb its ((2 : Int) ^ ((k : Int)).toNat).toNat).fmod (2 ^ ((k : Int) + 1).toNat) = 2 ^ ((k : Int)).toNat ↔ Odo (reck its) k) := by
    intro k hk
    have e1 : ((k : Int)).toNat = k := by omega
    have e2 : ((k : Int) + 1).toNat = k + 1 := by omega
    have e3 : ((2 : Int) ^ k).toNat = 2 ^ k := by
      have h2 : ((2 ^ k : Nat) : Int) = (2 : Int) ^ k := by simp
      have h3 := p2 k
      omega
    rw [e1, e2, e3, fm, orb_is hok (by omega)]
    exact Iff.rfl
  constructor
  · intro h k hk
    have hm : (k : Int) ∈ rangeKs 0 (mk - 0).toNat := range_mem.mpr ⟨by omega, by omega⟩
    have h2 := h (k : Int) hm
    refine (key k (by omega)).mp ?_
    refine Classical.byContradiction fun hn => h2 ?_
    show (!decide _) = true
    rw [decide_eq_false hn]
    rfl
  · intro h x hm hd
    have hr := mem_rangeKs hm
    have ex : ((x.toNat : Nat) : Int) = x := by omega
    have h2 := (key x.toNat (by omega)).mpr (h x.toNat (by omega))
    rw [ex] at h2
    rw [decide_eq_true h2] at hd
    cases hd
theorem cycle_fact {its : List It} (hok : ∀ i ∈ its, i.Ok) {mk : Int} (h1 : 1 ≤ mk) (h4 : mk ≤ 4) {j : Nat} (hj1 : 1 ≤ j) (hj2 : (j : Int) ≤ 2 ^ mk.toNat) (hne : ∀ i, 0 < i → i < j → herOf its mk i ≠ 0) (hend : herOf its mk j = 0 ∨ ¬ (j : Int) < 2 ^ mk.toNat) :
   ((herOf its mk j = 0 ∧ (j : Int) = 2 ^ mk.toNat) ↔ (keptB its mk = true ∧ astrayOf its mk = [])) := by
  have T := tf_reck hok
  have hcast : ((2 ^ mk.toNat : Nat) : Int) = (2 : Int) ^ mk.toNat := by simp
  have hR : (keptB its mk = true ∧ astrayOf its mk = []) ↔ Cyc (reck its) mk.toNat := by
    rw [cyc_iff T, kept_iff its h1, astray_iff hok h1 h4]
    exact ⟨fun h k hk => ⟨h.1 k hk, h.2 k hk⟩, fun h => ⟨fun k hk => (h k hk).1, fun k hk => (h k hk).2⟩⟩
  rw [hR, her_is hok]
  constructor
  · rintro ⟨hz, hj⟩
    have ej : j = 2 ^ mk.toNat := by omega
    refine cyc_of_full T (by rw [← ej]; exact hz) (fun i hi0 hi1 => ?_)
    have := hne i hi0 (by omega)
    rw [her_is hok] at this
    exact this
  · intro hC
    rcases Nat.lt_or_ge j (2 ^ mk.toNat) with hl | hl
    · rcases hend with hz | hn
      · rw [her_is hok] at hz
        have := Nat.le_of_dvd (by omega) ((hC j).mp hz)
        omega
      · omega
    · have ej : j = 2 ^ mk.toNat := by omega
      exact ⟨(hC j).mpr (by rw [ej]; exact Nat.dvd_refl _), by omega⟩
end Mine
end
section
open PySem PySem.W PyProof.Rows PySem.Calls PySem.Spec
namespace Mine
/-- a comprehension's test is told: then its element, else the turn's end -/
def CTurn (b ok : Bool) (T F : Prop) : Prop := ok = b ∧ if ok = true then T else F
theorem CTurn.yes {b : Bool} {T F : Prop} (h : b = true) (t : T) : CTurn b true T F := ⟨h.symm, t⟩
theorem CTurn.no {b : Bool} {T F : Prop} (h : b = false) (f : F) : CTurn b false T F := ⟨h.symm, f⟩
theorem CTurn.of {b ok : Bool} {T F : Prop} (e : ok = b) (t : b = true → T) (f : b = false → F) : CTurn b ok T F := by
  subst e
  refine ⟨rfl, ?_⟩
  cases ok
  · exact f rfl
  · exact t rfl
section
variable {prog : Program} {w : World} {A : Around} {h₀ : Heap} {L : Addr} {m : Str → Option Value} {env : Env} {ct elt : Expr} {x : Str} {scope : Scope} {cl : List (Str × Addr)} {s : Shared} {S : List (Addr × Obj) → Prop} {P : Nat → Value → Prop} {Fin : List Value → List (Addr × Obj) → Prop} {news : List (Addr × Obj)}
theorem ct_rest {n : Nat} {ks : List Int} (p : Int → Bool) (hks : ks.length = n) (hP : ∀ i v, i < n → P i v → ∃ k t, ks[i]? = some k ∧ v = .int k t)
    (turn : ∀ k t I oI C oC D m₂ ys h tk (E' : Value → Shared → Prop), k ∈ ks → LCg.NsObj oC m₂ → m₂ x = some (.int k t) → Fr h₀ L h m → News h₀ L h ((I, oI) :: (C, oC) :: (D, LCg.lst ys) :: news) → LCg.Off3 I C D news → ((@Ne Nat I C) ∧ (@Ne Nat I D) ∧ (@Ne Nat C D)) →
      wpAny (model prog w) A (isTrue ct (compEnvC scope cl C env) (eval ct (compEnvC scope cl C env))) (fun ok s' => CTurn (p k) ok
        (wpAny (model prog w) A (eval elt (compEnvC scope cl C env)) (LCg.CompEnd h₀ L m { s with heap := h, toks := tk } I oI C oC D (LCg.lst ys) S (fun y news' => KCfEl news k y news')) E' s')
        (LCg.CompEnd h₀ L m { s with heap := h, toks := tk } I oI C oC D (LCg.lst ys) S (fun y news' => KCfEl news 0 y news') (Value.int 0 0) s')) E' { s with heap := h, toks := tk })
    (fin : ∀ ys, IntsAre ys (ks.filter p) → Fin ys news) : LCt.CompRestT prog w A h₀ L m env ct elt x scope cl s S P Fin n 0 [] news := by
  have key : ∀ (j i : Nat) (ys : List Value), i + j = n → IntsAre ys ((ks.take i).filter p) → LCt.CompRestT prog w A h₀ L m env ct elt x scope cl s S P Fin j i ys news := by
    intro j
    induction j with
    | zero =>
      intro i ys hi hy
      have e : i = ks.length := by omega
      subst e
      rw [List.take_length] at hy
      exact LCt.CompRestT.zero (fin ys hy)
    | succ j ih =>
      intro i ys hi hy
      refine LCt.CompRestT.succ ?_
      intro v I oI C oC D m₂ h tk E' hv hC hx F N off ne
      obtain ⟨k, t, hk, hv'⟩ := hP i v (by omega) hv
      rw [hv'] at hx
      refine wpAny_mono (turn k t I oI C oC D m₂ ys h tk E' (List.mem_of_getElem? hk) hC hx F N off ne) (fun ok s₂ hq => ?_) fun _ _ e => e
      obtain ⟨hb, hq⟩ := hq
      have htk : ks.take (i + 1) = ks.take i ++ [k] := by rw [List.take_add_one, hk]; rfl
      cases ok with
      | true =>
        simp only [if_true] at hq ⊢
        refine wpAny_mono hq (fun y s₃ hq => ?_) fun _ _ e => e
        obtain ⟨h', tk', nw, e, F', N', off', hS, hn, t', hy'⟩ := hq
        rw [hn] at N' off' hS
        refine ⟨h', tk', news, e, F', N', off', hS, ?_⟩
        rw [hy']
        refine ih (i + 1) _ (by omega) ?_
        rw [htk, List.filter_append, List.filter_cons, ← hb, if_pos rfl, List.filter_nil]
        exact IntsAre.append hy (.cons k t' .nil)
      | false =>
        simp only [Bool.false_eq_true, if_false] at hq ⊢
        obtain ⟨h', tk', nw, e, F', N', off', hS, hn, _⟩ := hq
        rw [hn] at N' off' hS
        refine ⟨h', tk', news, e, F', N', off', hS, ?_⟩
        refine ih (i + 1) _ (by omega) ?_
        rw [htk, List.filter_append, List.filter_cons, ← hb, if_neg (by decide), List.filter_nil, List.append_nil]
        exact hy
  exact key n 0 [] (by omega) (by simp only [List.take_zero, List.filter_nil]; exact .nil)
theorem ct_range {n : Nat} {a : Int} (p : Int → Bool)
    (turn : ∀ k t I oI C oC D m₂ ys h tk (E' : Value → Shared → Prop), a ≤ k → k < a + (n : Int) → LCg.NsObj oC m₂ → m₂ x = some (.int k t) → Fr h₀ L h m → News h₀ L h ((I, oI) :: (C, oC) :: (D, LCg.lst ys) :: news) → LCg.Off3 I C D news → ((@Ne Nat I C) ∧ (@Ne Nat I D) ∧ (@Ne Nat C D)) →
      wpAny (model prog w) A (isTrue ct (compEnvC scope cl C env) (eval ct (compEnvC scope cl C env))) (fun ok s' => CTurn (p k) ok
        (wpAny (model prog w) A (eval elt (compEnvC scope cl C env)) (LCg.CompEnd h₀ L m { s with heap := h, toks := tk } I oI C oC D (LCg.lst ys) S (fun y news' => KCfEl news k y news')) E' s')
        (LCg.CompEnd h₀ L m { s with heap := h, toks := tk } I oI C oC D (LCg.lst ys) S (fun y news' => KCfEl news 0 y news') (Value.int 0 0) s')) E' { s with heap := h, toks := tk })
    (fin : ∀ ys, IntsAre ys ((rangeKs a n).filter p) → Fin ys news) : LCt.CompRestT prog w A h₀ L m env ct elt x scope cl s S (fun i v => ∃ t, v = .int (a + (i : Int)) t) Fin n 0 [] news :=
  ct_rest (ks := rangeKs a n) p (rangeKs_length a n) (fun i v hi hv => by
    obtain ⟨t, e⟩ := hv
    exact ⟨a + (i : Int), t, by simp [rangeKs, hi], e⟩)
    (fun k t I oI C oC D m₂ ys h tk E' hk hC hx F N off ne => turn k t I oI C oC D m₂ ys h tk E' (mem_rangeKs hk).1 (mem_rangeKs hk).2 hC hx F N off ne) fin
end
end Mine
namespace Mine
theorem wstep_mk {h₀ : Heap} {L : Addr} {s : Shared} {J : Nat → (Str → Option Value) → List (Addr × Obj) → Prop} {Q : Flow → Shared → Prop} {n n' : Nat} {h' : Heap} {tk : Nat} {m₂ : Str → Option Value} {news₂ : List (Addr × Obj)}
    (F : Fr h₀ L h' m₂) (N : News h₀ L h' news₂) (hn : n' < n) (hj : J n' m₂ news₂) : WhileStep2 h₀ L s J Q n .next { s with heap := h', toks := tk } := ⟨h', tk, m₂, news₂, n', rfl, F, N, hn, hj⟩
theorem her_step {its : List It} {mk : Int} {j : Nat} (h : herOf its mk j ≠ 0) (hne : ∀ i, 0 < i → i < j → herOf its mk i ≠ 0) : ∀ i, 0 < i → i < j + 1 → herOf its mk i ≠ 0 := by
  intro i h0 h1
  rcases Nat.lt_or_ge i j with h2 | h2
  · exact hne i h0 h2
  · have : i = j := by omega
    rw [this]
    exact h
end Mine
namespace Mine
section
variable {its : List It} {mk : Int} {j : Nat} {K : Bool} {S : List Int} {M h : Int}
theorem t5_a (C : h = 0 ∨ ¬ (j : Int) < M → ((h = 0 ∧ (j : Int) = M) ↔ (K = true ∧ S = []))) (h0 : h ≠ 0) (hl : ¬ (j : Int) < M) (hk : K = true) (hx : ((h == 0) != decide (S = [])) = true) : False := by
  have hS : S = [] := by
    by_cases hS : S = []
    · exact hS
    · simp [h0, hS] at hx
  exact h0 ((C (.inr hl)).mpr ⟨hk, hS⟩).1
theorem t5_b (h0 : h ≠ 0) (hk : K = false) (hx : ((h == 0) != K) = true) : False := by
  rw [hk] at hx
  simp [h0] at hx
theorem t5_c (C : h = 0 ∨ ¬ (j : Int) < M → ((h = 0 ∧ (j : Int) = M) ↔ (K = true ∧ S = []))) (h0 : h = 0) (hk : K = true) (hx : (((j : Int) == M) != decide (S = [])) = true) : False := by
  have hC := C (.inl h0)
  by_cases hS : S = []
  · have := (hC.mpr ⟨hk, hS⟩).2
    simp [this, hS] at hx
  · by_cases hj : (j : Int) = M
    · exact hS (hC.mp ⟨h0, hj⟩).2
    · simp [hj, hS] at hx
theorem t5_d (C : h = 0 ∨ ¬ (j : Int) < M → ((h = 0 ∧ (j : Int) = M) ↔ (K = true ∧ S = []))) (h0 : h = 0) (hk : K = false) (hx : (((j : Int) == M) != K) = true) : False := by
  have hC := C (.inl h0)
  by_cases hj : (j : Int) = M
  · have := (hC.mp ⟨h0, hj⟩).1
    rw [hk] at this
    cases this
  · rw [hk] at hx
    simp [hj] at hx
end
end Mine
namespace Mine
theorem found_yes {its : List It} {far K : Int} {i : Nat} (hK : K.toNat = i) (h : Builtin.bitAnd ((Builtin.bitXor (reck its (foundOf its far i)) far).fdiv (2 ^ K.toNat)) 1 = 1) : foundOf its far (i + 1) = Builtin.bitOr (foundOf its far i) (1 * 2 ^ K.toNat) := by
  subst hK
  rw [foundOf, if_pos h]
theorem found_no {its : List It} {far K : Int} {i : Nat} (hK : K.toNat = i) (h : Builtin.bitAnd ((Builtin.bitXor (reck its (foundOf its far i)) far).fdiv (2 ^ K.toNat)) 1 ≠ 1) : foundOf its far (i + 1) = foundOf its far i := by
  subst hK
  rw [foundOf, if_neg h]
end Mine
end
section
open PySem PySem.W PyProof.Rows PySem.Calls PySem.Spec
namespace Mine
section
variable {prog : Program} {w : World} {A : Around} {E : Value → Shared → Prop} {s : Shared} {env : Env}
/-- two names take the two items of a list -/
theorem two_names {a b : Str} {pa pb tp : Pos} {kk : Nat} {T : Addr} {x y : Value} {m : Str → Option Value} {Q : Unit → Shared → Prop} (hh : A.handled = none) (ht : s.heap.IsList T #[x, y])
    (ha : env.kindOf a = some .local) (hb : env.kindOf b = some .local) (hp : (env.scope.kind == .class || (env.scope.kind == .module && env.locals != env.globals)) = false) (hn : s.heap.Ns env.locals m)
    (h : ∀ (h' : Heap) (tk : Nat), h'.Ns env.locals (fun z => if z = b then some y else if z = a then some x else m z) → (∀ c o, c ≠ env.locals → s.heap.get? c = some o → h'.get? c = some o) → Q () { s with heap := h', toks := tk }) :
    wpAny (model prog w) A (assign (.Tuple [.Name a pa, .Name b pb] kk tp) env (.ref T)) Q E s := by
  rw [assign_Tuple]
  refine wpAny_bind (wpAny_standAt ?_)
  have hne : env.locals ≠ s.heap.objs.size := Nat.ne_of_lt hn.lt
  show wpAny _ _ (unpack (.ref T) (assignEach [.Name a pa, .Name b pb] env)) _ _ _
  unfold unpack
  refine wpAny_bind (wpAny_holding (kun_itemsOf (items := #[x, y]) hh ht fun h₁ he => ?_))
  have k1 : ∀ c o, s.heap.get? c = some o → h₁.get? c = some o := fun c o e => he c o (Nat.ne_of_lt (Heap.lt_size e)) e
  refine assignInOrder_cons (wpAny_assign_Name (wpAny_storeName_local ha (hn.at' fun o e => k1 _ o e) (fun h₂ hn₂ hs₂ => ?_) hp))
  refine assignInOrder_cons (wpAny_assign_Name (wpAny_storeName_local hb hn₂ (fun h₃ hn₃ hs₃ => ?_) hp))
  exact assignInOrder_nil (h h₃ _ hn₃ fun c o hc e => hs₃.extBut c o hc (hs₂.extBut c o hc (k1 c o e)))
/-- a comprehension over a list of lists of two, its element leaving the heap as it is -/
theorem comp_lists {elt iter : PySem.Expr} {x x₂ : Str} {px px₂ tp : Pos} {tk : Nat} {scope : Scope} {cl : List (Str × Addr)} {pos : Pos} {Q : Value → Shared → Prop} (R : Nat → Value → Prop)
    (hclos : closureFor scope env = pure cl) (hcell : ∀ y ∈ scope.names, y.2 ≠ .cell) (hkind : scope.kind = .function)
    (hnames : ∀ y ∈ scope.names, y.2 = .local → scope.names.lookup y.1 = some .local) (hx : scope.names.lookup x = some .local) (hx₂ : scope.names.lookup x₂ = some .local) (hxx : x ≠ x₂) (hh : A.handled = none)
    (h : wpAny (model prog w) A (eval iter env) (fun xv s₁ => ∃ ax vs, xv = .ref ax ∧ s₁.heap.IsList ax vs ∧ vs.size ≤ sizeLine ∧
      (∀ i v, vs[i]? = some v → ∃ b p q, v = .ref b ∧ s₁.heap.IsList b #[p, q] ∧
        ∀ (C : Addr) (m₂ : Str → Option Value) (s' : Shared) (E' : Value → Shared → Prop), s'.heap.Ns C m₂ → m₂ x = some p → m₂ x₂ = some q →
          wpAny (model prog w) A (eval elt (compEnvC scope cl C env)) (fun y s'' => R i y ∧ ∃ t, s'' = { s' with toks := t }) E' s') ∧
      ∀ D ys h' t, ys.length = vs.size → (∀ i y, ys[i]? = some y → R i y) → (∀ b o, s₁.heap.get? b = some o → h'.get? b = some o) → h'.get? D = some (LCg.lst ys) → s₁.heap.get? D = none →
        Q (.ref D) { s₁ with heap := h', toks := t }) E s)
    (hs : ∀ x, foldedSetIterable iter env x = pure x := by intro _; rfl) :
    wpAny (model prog w) A (eval (.ListComp elt [⟨.Tuple [.Name x px, .Name x₂ px₂] tk tp, iter, [], 0⟩] scope pos) env) Q E s := by
  rw [eval_ListComp]
  refine wpAny_comprehension_free (use := none) rfl hs hclos hkind hnames (wpAny_mono h (fun xv s₁ h₁ => ?_) fun _ _ e => e)
  obtain ⟨ax, vs, rfl, hl, hz, hrow, hQ⟩ := h₁
  have hax : ax < s₁.heap.objs.size := by obtain ⟨_, e, _⟩ := hl; exact Heap.lt_size e
  refine wpAny_pyIter_list hl ?_
  refine wpAny_newObj_type (wpAny_newFunctionEnv hcell (by intro y hy; simp at hy) (fun h₁ hns hsb => ?_) hkind)
  dsimp only at hns hsb ⊢
  -- the three that are new: the iterator, the list, the frame
  obtain ⟨HI, hHI⟩ : ∃ HI, HI = s₁.heap.push { cls := .type "list_iterator", data := .fields #[.ref ax, .int 0 0] } := ⟨_, rfl⟩
  rw [← hHI] at hns hsb ⊢
  have zI : HI.objs.size = s₁.heap.objs.size + 1 := by rw [hHI, Heap.size_push]
  obtain ⟨HD, hHD⟩ : ∃ HD, HD = HI.push { cls := .type "list", data := .seq ([] : List Value).toArray } := ⟨_, rfl⟩
  rw [← hHD] at hns hsb ⊢
  have zD : HD.objs.size = s₁.heap.objs.size + 2 := by rw [hHD, Heap.size_push, zI]
  have upI : ∀ b o, s₁.heap.get? b = some o → HI.get? b = some o := fun b o e => by rw [hHI]; exact Heap.get?_push_of_some _ e
  have upD : ∀ b o, HI.get? b = some o → HD.get? b = some o := fun b o e => by rw [hHD]; exact Heap.get?_push_of_some _ e
  have upC : ∀ b o, HD.get? b = some o → h₁.get? b = some o := fun b o e => hsb.extBut b o (Nat.ne_of_lt (Heap.lt_size e)) (Heap.get?_push_of_some _ e)
  obtain ⟨I, hI⟩ : ∃ I : Nat, I = s₁.heap.objs.size := ⟨_, rfl⟩
  obtain ⟨D, hD⟩ : ∃ D : Nat, D = HI.objs.size := ⟨_, rfl⟩
  obtain ⟨C, hC⟩ : ∃ C : Nat, C = HD.objs.size := ⟨_, rfl⟩
  have iI : h₁.IsListIter I ax 0 := ⟨_, upC _ _ (upD _ _ (by rw [hI, hHI]; exact Heap.get?_push_size _ rfl)), rfl, rfl⟩
  have iD : h₁.get? D = some (LCg.lst []) := upC _ _ (by rw [hD, hHD]; exact Heap.get?_push_size _ rfl)
  have old₁ : ∀ b o, s₁.heap.get? b = some o → h₁.get? b = some o := fun b o e => upC _ _ (upD _ _ (upI _ _ e))
  have nD : s₁.heap.get? D = none := by
    cases e : s₁.heap.get? D with
    | none => rfl
    | some o => exact absurd (show @LT.lt Nat instLTNat D s₁.heap.objs.size from Heap.lt_size e) (by omega)
  have oldne : ∀ b o, s₁.heap.get? b = some o → b ≠ I ∧ b ≠ D ∧ b ≠ C := fun b o e => by
    have hb : @LT.lt Nat instLTNat b s₁.heap.objs.size := Heap.lt_size e
    exact ⟨fun q => by rw [q] at hb; omega, fun q => by rw [q] at hb; omega, fun q => by rw [q] at hb; omega⟩
  have hDI : D ≠ I := by omega
  have hCI : C ≠ I := by omega
  have hCD : C ≠ D := by omega
  rw [← hC] at hns
  rw [← hI, ← hD, ← hC]
  have loop : ∀ s₃ : Shared, s₃ = { s₁ with heap := h₁, toks := s₁.toks + ([] : List (Str × Value)).length } →
      codeAny (model prog w) A (.compLoop (.ListComp elt [⟨.Tuple [.Name x px, .Name x₂ px₂] tk tp, iter, [], 0⟩] scope pos) 0 (.ref I) (.ref D) (compEnvC scope cl C env))
        (compPost (model prog w) A E none Q (.ref D) C) s₃ := by
    rintro s₃ rfl
    refine LCp.codeAny_compLoop_pair (fun k s' => ∃ h' t i ys m', s' = { s₁ with heap := h', toks := t } ∧ i ≤ vs.size ∧ k = vs.size + 1 - i ∧ ys.length = i ∧ (∀ j y, ys[j]? = some y → R j y) ∧
        h'.IsListIter I ax i ∧ h'.Ns C m' ∧ h'.get? D = some (LCg.lst ys) ∧ ∀ b o, s₁.heap.get? b = some o → h'.get? b = some o) ?_ (vs.size + 1)
      ⟨h₁, _, 0, [], _, rfl, Nat.zero_le _, rfl, rfl, (fun j y e => by simp at e), iI, hns, iD, old₁⟩
    rintro k s' ⟨h', t, i, ys, m', rfl, hi, rfl, hyl, hyR, hit, hn', hDl, hold⟩
    have hl' : h'.IsList ax vs := let ⟨o, e, r⟩ := hl; ⟨o, hold _ _ e, r⟩
    by_cases hlt : i < vs.size
    · obtain ⟨v, hv⟩ : ∃ v, vs[i]? = some v := ⟨_, Array.getElem?_eq_getElem hlt⟩
      obtain ⟨b, p, q, rfl, hb, helt⟩ := hrow i v hv
      refine wpAny_pyNext_list_item hit hl' hv fun h₂ hit₂ hs₂ => ?_
      have old₂ : ∀ c o, s₁.heap.get? c = some o → h₂.get? c = some o := fun c o e => hs₂.extBut c o (oldne c o e).1 (hold c o e)
      refine wpAny_letOwnedTupleGo_listiter hit₂ ?_
      have hb₂ : h₂.IsList b #[p, q] := let ⟨o, e, r⟩ := hb; ⟨o, old₂ _ _ e, r⟩
      refine two_names (env := compEnvC scope cl C env) hh hb₂ (lookup_relabel_local hx) (lookup_relabel_local hx₂) (by simp [compEnvC, relabel, hkind]) (hn'.at' fun o e => hs₂.extBut C o hCI e) fun h₃ t₃ hn₃ hk₃ => ?_
      refine wpAny_mono (helt C _ _ _ hn₃ (by simp [hxx]) (by simp)) (fun y s₄ h₄ => ?_) fun _ _ e => e
      obtain ⟨hy, t₄, rfl⟩ := h₄
      have hk23 : ∀ c o, c ≠ C → h₂.get? c = some o → h₃.get? c = some o := fun c o hc e => hk₃ c o hc e
      have hD₃ : h₃.get? D = some (LCg.lst ys) := hk23 _ _ (Ne.symm hCD) (hs₂.extBut _ _ hDI hDl)
      refine append_at (hsz := by show ys.toArray.size ≤ sizeLine; rw [List.size_toArray, hyl]; exact Nat.le_trans hi hz) hD₃ fun h₅ hs₅ hD₅ => ?_
      refine ⟨vs.size + 1 - (i + 1), by omega, h₅, t₄, i + 1, ys ++ [y], _, rfl, hlt, rfl, by rw [List.length_append, List.length_singleton, hyl], ?_, ?_, hn₃.sameBut hs₅ hCD, hD₅.trans (congrArg some (LCg.lst_snoc ys y)), ?_⟩
      · intro j z hj
        rcases Nat.lt_trichotomy j ys.length with hlj | hlj | hlj
        · rw [List.getElem?_append_left hlj] at hj
          exact hyR j z hj
        · subst hlj
          simp only [List.getElem?_concat_length, Option.some.injEq] at hj
          subst hj
          rw [hyl]
          exact hy
        · rw [List.getElem?_eq_none (by simp; omega)] at hj
          cases hj
      · obtain ⟨o, e, r⟩ := hit₂
        exact ⟨o, hs₅.extBut _ _ (Ne.symm hDI) (hk23 _ _ (Ne.symm hCI) e), r⟩
      · intro c o e
        have hne := oldne c o e
        exact hs₅.extBut c o hne.2.1 (hk23 c o hne.2.2 (old₂ c o e))
    · obtain rfl : i = vs.size := Nat.le_antisymm hi (Nat.not_lt.mp hlt)
      refine wpAny_pyNext_list_end hh hit hl' (by simp) fun h₂ he₂ => ?_
      refine ⟨m', hn'.at' fun o e => he₂ C o hCI e, fun h₃ hs₃ => ?_⟩
      exact hQ D ys h₃ _ hyl hyR (fun c o e => hs₃.extBut c o (oldne c o e).2.2 (he₂ c o (oldne c o e).1 (hold c o e))) (hs₃.extBut D _ (Ne.symm hCD) (he₂ D _ hDI hDl)) nD
  exact codeAny_compStart_list (loop _ rfl) (wpAny_pyIter_listiter iI (loop _ rfl))
end
end Mine
end
section
open PySem PySem.W PyProof.Rows PySem.Calls PySem.Spec
namespace Mine
def pieceS (i : It) : Str := signOf i.op ++ partOf i
def textS (its : List It) : Str := Str.ofString "x" ++ Txt.join (Str.ofString "") (its.map pieceS)
theorem app_cps (a b : Str) : (a ++ b).cps.toList = a.cps.toList ++ b.cps.toList := by
  show (a.cps ++ b.cps).toList = _
  exact Array.toList_append
theorem sign_cps {op : Nat} (h : op < 7) : (signOf op).cps.toList = signL op := by
  have : op = 0 ∨ op = 1 ∨ op = 2 ∨ op = 3 ∨ op = 4 ∨ op = 5 ∨ op = 6 := seven_cases _ (by first | assumption | omega)
  rcases this with rfl | rfl | rfl | rfl | rfl | rfl | rfl <;> decide +kernel
theorem dig_cps {d : Int} (h0 : 0 ≤ d) (h9 : d ≤ 9) : (digOf d).cps.toList = digL d := by
  have : d = 0 ∨ d = 1 ∨ d = 2 ∨ d = 3 ∨ d = 4 ∨ d = 5 ∨ d = 6 ∨ d = 7 ∨ d = 8 ∨ d = 9 := ten_cases (h0) h9
  rcases this with rfl | rfl | rfl | rfl | rfl | rfl | rfl | rfl | rfl | rfl <;> decide +kernel
theorem part_cps {i : It} (h : i.Ok) : (partOf i).cps.toList = partL i := by
  unfold partOf partL
  split
  · decide +kernel
  · rename_i hx
    have := h.2.2 (by simpa using hx)
    exact dig_cps this.1 this.2
theorem piece_cps {i : It} (h : i.Ok) : (pieceS i).cps.toList = signL i.op ++ partL i := by
  unfold pieceS
  rw [app_cps, sign_cps h.1, part_cps h]
theorem join_cps (ys : List Str) : (Txt.join (Str.ofString "") ys).cps.toList = ys.flatMap fun y => y.cps.toList := by
  have e2 : (Str.ofString "").cps.toList = [] := by decide +kernel
  have key : ∀ (r : List Str) (acc : Array Nat), (r.foldl (fun acc p => acc ++ (Str.ofString "").cps ++ p.cps) acc).toList = acc.toList ++ r.flatMap fun y => y.cps.toList := by
    intro r
    induction r with
    | nil => intro acc; simp
    | cons y r ih =>
      intro acc
      rw [List.foldl_cons, ih, Array.toList_append, Array.toList_append, e2, List.append_nil, List.flatMap_cons, List.append_assoc]
  show (ys.drop 1 |>.foldl (fun acc p => acc ++ (Str.ofString "").cps ++ p.cps) (ys.headD Str.empty).cps).toList = _
  rw [key]
  cases ys with
  | nil => rfl
  | cons y r => rfl
theorem text_is {its : List It} (h : ∀ i ∈ its, i.Ok) : (textS its).cps.toList = textL its := by
  unfold textS textL tokL flatL
  rw [app_cps, join_cps, List.flatMap_cons]
  have e : (Str.ofString "x").cps.toList = [120] := by decide +kernel
  rw [e]
  congr 1
  rw [List.flatMap_map]
  induction its with
  | nil => rfl
  | cons i r ih =>
    rw [List.flatMap_cons, List.flatMap_cons, List.flatMap_append, ← ih (fun j hj => h j (.tail _ hj)), piece_cps (h i (.head _))]
    simp
theorem piece_len {i : It} (h : i.Ok) : (pieceS i).length ≤ 3 := by
  have e := congrArg List.length (piece_cps h)
  have h2 := signL_len i.op
  obtain ⟨p, hp, _⟩ := part_head h
  rw [hp] at e
  simp only [List.length_append, List.length_cons, List.length_nil] at e
  show (pieceS i).cps.size ≤ 3
  rw [← Array.length_toList]
  omega
theorem pieces_sum : ∀ {its : List It}, (∀ i ∈ its, i.Ok) → ((its.map pieceS).map (·.length)).sum ≤ 3 * its.length
  | [], _ => Nat.le_refl _
  | i :: r, h => by
    have h1 := piece_len (h i (.head _))
    have h2 := pieces_sum (its := r) (fun j hj => h j (.tail _ hj))
    simp only [List.map_cons, List.sum_cons, List.length_cons]
    omega
end Mine
namespace Mine
section
variable {prog : Program} {w : World} {A : Around} {E : Value → Shared → Prop} {s : Shared}
/-- the sum of two names that hold texts -/
theorem add_names {env : Env} {a b : Str} {pa pb pos : Pos} {x y : Str} {t1 t2 : Tok} {m : Str → Option Value} {Q : Value → Shared → Prop} (hk : env.scope.kind = .function) (ha : env.kindOf a = some .local) (hb : env.kindOf b = some .local)
    (da : (a == ("__debug__" : Str)) = false) (db : (b == ("__debug__" : Str)) = false)
    (hn : s.heap.Ns env.locals m) (hx : m a = some (.str x t1)) (hy : m b = some (.str y t2)) (hsz : x.length + y.length ≤ sizeLine) (h : ∀ t tk, Q (.str (x ++ y) t) { s with toks := tk }) :
    wpAny (model prog w) A (eval (.BinOp (.Name a pa) .Add (.Name b pb) pos) env) Q E s :=
  wpAny_BinOp (wpAny_Name (wpAny_loadName_local hk ha hn hx (wpAny_Name (wpAny_loadName_local hk hb hn hy (PyProof.Rows.add_str h hsz)) db)) da)
end
theorem strs_are {its : List It} : ∀ {ys : List Value}, ys.length = its.length → (∀ (i : Nat) (y : Value), ys[i]? = some y → ∃ it t, its[i]? = some it ∧ y = Value.str (pieceS it) t) → StrsAre ys (its.map pieceS) := by
  induction its with
  | nil =>
    intro ys hl _
    have : ys = [] := List.eq_nil_of_length_eq_zero hl
    subst this
    exact .nil
  | cons i r ih =>
    intro ys hl h
    cases ys with
    | nil => cases hl
    | cons y ys =>
      obtain ⟨it, t, hit, rfl⟩ := h 0 y rfl
      have e : i = it := by simpa using hit
      subst e
      exact .cons _ _ (ih (by simpa using hl) (fun j z hz => by simpa using h (j + 1) z (by simpa using hz)))
theorem text_len {its : List It} (h : ∀ i ∈ its, i.Ok) (hl : its.length ≤ 7) : (Str.ofString "x").length + (Txt.join (Str.ofString "") (its.map pieceS)).length ≤ 22 := by
  have e := congrArg List.length (text_is h)
  have h2 := textL_len its
  unfold textS at e
  rw [app_cps, List.length_append] at e
  show (Str.ofString "x").cps.size + (Txt.join (Str.ofString "") (its.map pieceS)).cps.size ≤ 22
  rw [← Array.length_toList, ← Array.length_toList]
  omega
theorem off_fresh {g0 g h : Heap} {L : Addr} {led inn news : List (Addr × Obj)} {l : List Addr} (x : Fresh g h led) (N : News g0 L g news) (hi : ∀ p ∈ inn, p ∈ led) (hl : ∀ b ∈ l, ∃ o, (b, o) ∈ news) : OwnOff inn l := by
  intro p hp b hb
  obtain ⟨o, ho⟩ := hl b hb
  exact x.ne N p (hi p hp) _ ho
theorem ap_fresh {g0 g h : Heap} {L D : Addr} {o : Obj} {led news : List (Addr × Obj)} {l : List Addr} (x : Fresh g h led) (N : News g0 L g news) (hd : (D, o) ∈ led) (hl : ∀ b ∈ l, ∃ o, (b, o) ∈ news) : ApAll D l := by
  intro b hb
  obtain ⟨q, hq⟩ := hl b hb
  exact x.ne N (D, o) hd _ hq
end Mine
namespace Mine
theorem news_rot {b h : Heap} {L : Addr} {d : Addr × Obj} {A B : List (Addr × Obj)} (N : News b L h ((d :: A) ++ B)) : News b L h (d :: (B ++ A)) := by
  intro p hp
  refine N p ?_
  rcases List.mem_cons.mp hp with rfl | hp
  · exact List.mem_append_left _ (List.mem_cons_self ..)
  · rcases List.mem_append.mp hp with hp | hp
    · exact List.mem_append_right _ hp
    · exact List.mem_append_left _ (List.mem_cons_of_mem _ hp)
end Mine
end
section
open PySem PySem.W PyProof.Rows
namespace Mine
theorem marks_four {s0 s1 wy : Int} (h : wy = 0) : marksOf s0 s1 wy = List.map (fun k' => [s0, s1].getD (Int.toNat 0) 0 + [s0, s1].getD (Int.toNat 1) 0 * k') (rangeKs 0 (4 - 0 : Int).toNat) := by
  subst h
  show [s0, s0 + s1, s0 + s1 + s1, s0 + s1 + s1 + s1] = [s0 + s1 * (0 + 0), s0 + s1 * (0 + 1), s0 + s1 * (0 + 2), s0 + s1 * (0 + 3)]
  have e1 : s0 = s0 + s1 * (0 + 0) := by omega
  have e2 : s0 + s1 = s0 + s1 * (0 + 1) := by omega
  have e3 : s0 + s1 + s1 = s0 + s1 * (0 + 2) := by omega
  have e4 : s0 + s1 + s1 + s1 = s0 + s1 * (0 + 3) := by omega
  rw [← e1, ← e2, ← e3, ← e4]
theorem marks_two {s0 s1 wy : Int} (h : ¬ wy = 0) : marksOf s0 s1 wy = List.map (fun k' => [s0, s1].getD (Int.toNat 0) 0 + [s0, s1].getD (Int.toNat 1) 0 * k') (rangeKs 0 (2 - 0 : Int).toNat) := by
  unfold marksOf
  rw [if_neg h]
  show [s0, s0 + s1] = [s0 + s1 * (0 + 0), s0 + s1 * (0 + 1)]
  have e1 : s0 = s0 + s1 * (0 + 0) := by omega
  have e2 : s0 + s1 = s0 + s1 * (0 + 1) := by omega
  rw [← e1, ← e2]
theorem marks_pos {s0 s1 wy : Int} (h0 : s0 = 1 ∨ s0 = 2) (h1 : s1 = 1 ∨ s1 = 2) : ∀ x ∈ marksOf s0 s1 wy, 1 ≤ x := by
  intro x hx
  unfold marksOf at hx
  split at hx <;> simp only [List.mem_cons, List.not_mem_nil, or_false] at hx <;> omega
theorem marks_len (s0 s1 wy : Int) : (marksOf s0 s1 wy).length ≤ 4 := by
  unfold marksOf
  split <;> simp
end Mine
namespace Mine
theorem cut_abs (k : Int) : (if 0 ≤ k then k.fmod (10 ^ Int.toNat 9) else -(-k).fmod (10 ^ Int.toNat 9)).natAbs ≤ 1000000000 := by
  have e : (10 : Int) ^ Int.toNat 9 = 1000000000 := by decide
  rw [e]
  have h1 := Int.fmod_nonneg_of_pos k (b := 1000000000) (by decide)
  have h2 := Int.fmod_lt_of_pos k (b := 1000000000) (by decide)
  have h3 := Int.fmod_nonneg_of_pos (-k) (b := 1000000000) (by decide)
  have h4 := Int.fmod_lt_of_pos (-k) (b := 1000000000) (by decide)
  split <;> omega
theorem sum_abs {f : Int → Int} {M : Nat} (h : ∀ k, (f k).natAbs ≤ M) : ∀ l : List Int, ((l.map f).sum).natAbs ≤ M * l.length
  | [] => by simp
  | k :: r => by
    have h1 := h k
    have h2 := sum_abs h r
    rw [List.map_cons, List.sum_cons, List.length_cons, Nat.mul_succ]
    omega
theorem tot_abs (ns : List Int) : (List.map (fun (k' : Int) => if 0 ≤ k' then k'.fmod (10 ^ Int.toNat 9) else -(-k').fmod (10 ^ Int.toNat 9)) (List.take 60 ns)).sum.natAbs ≤ 60000000000 := by
  have h := sum_abs (f := fun (k' : Int) => if 0 ≤ k' then k'.fmod (10 ^ Int.toNat 9) else -(-k').fmod (10 ^ Int.toNat 9)) cut_abs (List.take 60 ns)
  have h2 : (List.take 60 ns).length ≤ 60 := by rw [List.length_take]; omega
  omega
theorem one_two (x : Int) : 1 + x.fmod 2 = 1 ∨ 1 + x.fmod 2 = 2 := by
  have h1 := Int.fmod_nonneg_of_pos x (b := 2) (by decide)
  have h2 := Int.fmod_lt_of_pos x (b := 2) (by decide)
  omega
theorem of_three (x : Int) : x.fmod 3 = 0 ∨ x.fmod 3 = 1 ∨ x.fmod 3 = 2 := by
  have h1 := Int.fmod_nonneg_of_pos x (b := 3) (by decide)
  have h2 := Int.fmod_lt_of_pos x (b := 3) (by decide)
  omega
end Mine
end
open PySem PySem.W PyProof.Rows PySem.Calls Mine
-- <pre2>
local macro_rules | `(tactic| k_ne) => `(tactic| first | exact ap_ne (by assumption) (by k_mem) | exact Ne.symm (ap_ne (by assumption) (by k_mem)))
local macro_rules | `(tactic| walk_at "CTurn") => `(tactic| (refine CTurn.of (by rfl) (fun hct9 => ?_) (fun hct9 => ?_)))
local macro_rules | `(tactic| walk_at "call ref") => `(tactic| (k_here; (with_reducible show wpAny _ _ (call (Value.ref 28) _) _ _ _); k_dflt (refine' and_tells (by k_asm) (by k_asm) (by k_asm) (by k_asm) (by exact rfl) (by ktr_room) (by walk_at "u")  ?_; k_whole); walk_at "aft"))
local macro_rules | `(tactic| walk_at "call ref") => `(tactic| (k_here; (with_reducible show wpAny _ _ (call (Value.ref 56) _) _ _ _); k_dflt (refine' or_tells (by k_asm) (by k_asm) (by k_asm) (by k_asm) (by exact rfl) (by ktr_room) (by walk_at "u")  ?_; k_whole); walk_at "aft"))
local macro_rules | `(tactic| walk_at "call ref") => `(tactic| (k_here; (with_reducible show wpAny _ _ (call (Value.ref 77) _) _ _ _); k_dflt (refine' xor_tells (by k_asm) (by k_asm) (by k_asm) (by k_asm) (by exact rfl) (by ktr_room) (by walk_at "u")  ?_; k_whole); walk_at "aft"))
local macro_rules | `(tactic| walk_at "call ref") => `(tactic| (k_here; (with_reducible show wpAny _ _ (call (Value.ref 42) _) _ _ _); k_dflt (refine' mod_tells (by k_asm) (by k_asm) (by k_asm) (by k_asm) (by exact rfl) (by ktr_room) (by walk_at "u") (by first | omega | exact p2 _) ?_; k_whole); walk_at "aft"))
local macro_rules | `(tactic| walk_at "call ref") => `(tactic| (k_here; (with_reducible show wpAny _ _ (call (Value.ref 63) _) _ _ _); k_dflt (refine' rshift_tells (by k_asm) (by k_asm) (by k_asm) (by k_asm) (by exact rfl) (by ktr_room) (by walk_at "u") (by walk_at "lo") ?_; k_whole); walk_at "aft"))
local macro_rules | `(tactic| walk_at "call ref") => `(tactic| (k_here; (with_reducible show wpAny _ _ (call (Value.ref 35) _) _ _ _); k_dflt (refine' lshift_tells (by k_asm) (by k_asm) (by k_asm) (by k_asm) (by exact rfl) (by ktr_room) (by walk_at "u") (by decide) (by walk_at "lo") (by omega) ?_; k_whole); walk_at "aft"))
local macro_rules | `(tactic| walk_at "call ref") => `(tactic| (k_here; (with_reducible show wpAny _ _ (call (Value.ref 122) _) _ _ _); k_dflt (refine' reck_tells (by k_asm) (by k_asm) (by k_asm) (by k_asm) (by exact rfl) (by ktr_room) (by walk_at "u") ⟨_, News.get (by k_asm) (by k_mem), rfl, _, rfl⟩ (by assumption) (by assumption) (by assumption) (by first | assumption | exact orb_abs _ _ | omega) ?_; k_whole); walk_at "aft"))
local macro_rules | `(tactic| walk_at "sub") => `(tactic| (intro p9 hp9; (repeat (first | exact hp9 | apply List.mem_cons_of_mem))))
local macro_rules | `(tactic| walk_at "call ref") => `(tactic| (k_here; (with_reducible show wpAny _ _ (call (Value.ref 134) _) _ _ _); k_dflt (refine' word_tells (by k_asm) (by k_asm) (by k_asm) (by k_asm) (by exact rfl) (by ktr_room) (by walk_at "u") ⟨_, News.get (by k_asm) (by k_mem), rfl, _, rfl⟩ (by refine ItemsIn.at (ItemsIn.mono (by assumption) ?_) (by k_asm); walk_at "sub") (by assumption) (by walk_at "lo") (by walk_at "lo") ?_; k_whole); walk_at "aft"))
local macro_rules | `(tactic| walk_at "subscriptTail") => `(tactic| (k_here; (with_reducible show wpAny _ _ (subscriptTail _ _ (Value.ref _) (Value.int _ _)) _ _ _); k_dflt (refine' item_at (by k_asm) (by k_mem) (by assumption) (by walk_at "lo") (by walk_at "lo") (by first | exact worths_at _ (by walk_at "lo") (by walk_at "lo") | exact words_at _ (by walk_at "lo") (by walk_at "lo") | exact path_at _ (by walk_at "lo") (by walk_at "lo")) ?_); intro t9))
-- </pre2>
section
open PySem PySem.W PyProof.Rows PySem.Calls Mine
namespace Mine
section
set_option maxRecDepth 100000 in
set_option maxHeartbeats 8000000 in
theorem piece_t5 {w : World} {mean : ExcName → Option Value} {mg mb : Str → Option Value} {dp un : Nat} {gd : Option (List Code)} {A₀ : Around} {base base0 : Heap} {outer : List Env} {name qual : Str} {params : Arguments} {body stmts : List Stmt} {scope : Scope} {dV kV doc pm cdv ct oc : Value} {an od : Option Addr} {osl : Array (Option Value)} {L ea : Addr} {ecd : Value} {m : Str → Option Value} {s : Shared} {Q : Flow → Shared → Prop} {E : Value → Shared → Prop}
   {its : List It} {mk far : Int} {t1 t2 t8 : Tok} {Di Dw Dp Da : Addr} {vsW vsP vsA vsI : List Value} {nI nW nP nA : Nat} {Dq Ds : Addr} {vsQ vsS : List Value} {nQ nS : Nat}
   (ho : (kfr.heap_1 w.params).lookup 146 = some ⟨oc, od, .func (fnOf name qual params body scope dV kV doc pm an cdv ct), osl⟩) (hst : stmts = (loopBody (body.drop 16)).drop 7) (B : Below A₀ base0 outer base) (X : (kfr.heap_1 w.params).In base) (T : Top hdv (looseW hdv hdl) mean mg mb base) (hdp : dp + 10 < recursionLimit) (hun : un + 100 < cLine) (hE : PassesOwn (model PySem.Challenge.rw_xg0046_01.row.prog w) (ktrTop dp un gd qual scope L ea ecd (cellsFrom (L + 1) scope.names []) outer) (envOfC qual scope L ea ecd) E)
   {c1 c2 c3 c4 c5 c6 c7 c8 : Obj} {inn : List (Addr × Obj)}
   {x1 x2 x4 : Option Value}
   (F : Fr base L s.heap m) (hm : ∀ p ∈ [(Str.ofString "far", Value.int far t1), (Str.ofString "distant", Value.int (reck its far) t2), (Str.ofString "words", Value.ref Dq), (Str.ofString "kept", Value.bool (keptB its mk)), (Str.ofString "astray", Value.ref Ds)], m p.1 = some p.2)
   (N : News base L s.heap ((Ds, W.listOf vsS.toArray nS) :: (Dq, W.listOf vsQ.toArray nQ) :: (Da, W.listOf vsA.toArray nA) :: (Dp, W.listOf vsP.toArray nP) :: (Dw, W.listOf vsW.toArray nW) :: (Di, W.listOf vsI.toArray nI) :: (L + 1 + 1 + 1 + 1 + 1 + 1 + 1 + 1, c8) :: (L + 1 + 1 + 1 + 1 + 1 + 1 + 1, c7) :: (L + 1 + 1 + 1 + 1 + 1 + 1, c6) :: (L + 1 + 1 + 1 + 1 + 1, c5) :: (L + 1 + 1 + 1 + 1, c4) :: (L + 1 + 1 + 1, c3) :: (L + 1 + 1, c2) :: (L + 1, c1) :: inn))
   (h1 : c1.data = .cell x1) (h2 : c2.data = .cell x2) (h3 : c3.data = .cell (some (Value.ref Di))) (h4 : c4.data = .cell x4) (h5 : c5.data = .cell (some (Value.ref Dw))) (h6 : c6.data = .cell (some (Value.ref Dp))) (h7 : c7.data = .cell (some (Value.ref Da))) (h8 : c8.data = .cell (some (Value.int mk t8)))
   (hT : OwnOff inn [L + 1 + 1 + 1 + 1 + 1 + 1 + 1 + 1, L + 1 + 1 + 1 + 1 + 1 + 1 + 1, L + 1 + 1 + 1 + 1 + 1 + 1, L + 1 + 1 + 1 + 1 + 1, L + 1 + 1 + 1 + 1, L + 1 + 1 + 1, L + 1 + 1, L + 1])
   (aDs : ApAll Ds [L + 1 + 1 + 1 + 1 + 1 + 1 + 1 + 1, L + 1 + 1 + 1 + 1 + 1 + 1 + 1, L + 1 + 1 + 1 + 1 + 1 + 1, L + 1 + 1 + 1 + 1 + 1, L + 1 + 1 + 1 + 1, L + 1 + 1 + 1, L + 1 + 1, L + 1]) (aDq : ApAll Dq [L + 1 + 1 + 1 + 1 + 1 + 1 + 1 + 1, L + 1 + 1 + 1 + 1 + 1 + 1 + 1, L + 1 + 1 + 1 + 1 + 1 + 1, L + 1 + 1 + 1 + 1 + 1, L + 1 + 1 + 1 + 1, L + 1 + 1 + 1, L + 1 + 1, L + 1]) (aDa : ApAll Da [L + 1 + 1 + 1 + 1 + 1 + 1 + 1 + 1, L + 1 + 1 + 1 + 1 + 1 + 1 + 1, L + 1 + 1 + 1 + 1 + 1 + 1, L + 1 + 1 + 1 + 1 + 1, L + 1 + 1 + 1 + 1, L + 1 + 1 + 1, L + 1 + 1, L + 1]) (aDp : ApAll Dp [L + 1 + 1 + 1 + 1 + 1 + 1 + 1 + 1, L + 1 + 1 + 1 + 1 + 1 + 1 + 1, L + 1 + 1 + 1 + 1 + 1 + 1, L + 1 + 1 + 1 + 1 + 1, L + 1 + 1 + 1 + 1, L + 1 + 1 + 1, L + 1 + 1, L + 1]) (aDw : ApAll Dw [L + 1 + 1 + 1 + 1 + 1 + 1 + 1 + 1, L + 1 + 1 + 1 + 1 + 1 + 1 + 1, L + 1 + 1 + 1 + 1 + 1 + 1, L + 1 + 1 + 1 + 1 + 1, L + 1 + 1 + 1 + 1, L + 1 + 1 + 1, L + 1 + 1, L + 1]) (aDi : ApAll Di [L + 1 + 1 + 1 + 1 + 1 + 1 + 1 + 1, L + 1 + 1 + 1 + 1 + 1 + 1 + 1, L + 1 + 1 + 1 + 1 + 1 + 1, L + 1 + 1 + 1 + 1 + 1, L + 1 + 1 + 1 + 1, L + 1 + 1 + 1, L + 1 + 1, L + 1])
   (hok : ∀ i ∈ its, i.Ok) (hlen : its.length ≤ 7) (hfar : far.natAbs < 2 ^ 36) (hm1 : 1 ≤ mk) (hm4 : mk ≤ 4) (hiI : ItemsIn inn vsI its) (hiP : IntsAre vsP (pathOf its 8)) (hiW : IntsAre vsW (worthsOf its)) (hiA : ListsIn inn vsA (alikesOf its 4)) (hiQ : IntsAre vsQ (wordsOf its mk)) (hiS : IntsAre vsS (astrayOf its mk))
   (hfin : ∀ h' m' tk' c2' c8' y2 y8, Fr base L h' m' → (∀ p ∈ [(Str.ofString "far", Value.int far t1), (Str.ofString "distant", Value.int (reck its far) t2)], m' p.1 = some p.2) → c2'.data = .cell y2 → c8'.data = .cell y8 → News base L h' ((Da, W.listOf vsA.toArray nA) :: (Dp, W.listOf vsP.toArray nP) :: (Dw, W.listOf vsW.toArray nW) :: (Di, W.listOf vsI.toArray nI) :: (L + 1 + 1 + 1 + 1 + 1 + 1 + 1 + 1, c8') :: (L + 1 + 1 + 1 + 1 + 1 + 1 + 1, c7) :: (L + 1 + 1 + 1 + 1 + 1 + 1, c6) :: (L + 1 + 1 + 1 + 1 + 1, c5) :: (L + 1 + 1 + 1 + 1, c4) :: (L + 1 + 1 + 1, c3) :: (L + 1 + 1, c2') :: (L + 1, c1) :: inn) → Q .next { s with heap := h', toks := tk' }) :
   wpAny (model PySem.Challenge.rw_xg0046_01.row.prog w) (ktrTop dp un gd qual scope L ea ecd (cellsFrom (L + 1) scope.names []) outer) (execs stmts (envOfC qual scope L ea ecd)) Q E s := by
  subst hst
  revert X
  k_fill
  intro X
  w_on
  have key : ∀ (o : Obj), (kfr.heap_1 w.params).lookup 146 = some o → o = ⟨oc, od, .func (fnOf name qual params body scope dV kV doc pm an cdv ct), osl⟩ := fun o e => Option.some.inj (e.symm.trans ho)
  have hfo9 := key _ (by k_is)
  clear key ho
  injection hfo9 with e1 e2 e3 e4
  injection e3 with e3
  injection e3 with f1 f2 f3 f4 f5
  injection f4 with f4
  subst f4
  subst f5
  subst f2
  (try clear hfo9)
  subst_vars
  dsimp only [List.drop, loopBody]
  replace F := FrJ.fr (x := Str.ofString "steps") (ps := [(Str.ofString "far", Value.int far t1), (Str.ofString "distant", Value.int (reck its far) t2), (Str.ofString "words", Value.ref Dq), (Str.ofString "kept", Value.bool (keptB its mk)), (Str.ofString "astray", Value.ref Ds)]) (stored := []) (m₀ := m) ⟨hm, fun _ _ _ _ => rfl⟩ F
  clear hm
  dsimp only [kstB] at F
  have kMark := kstMark
  have hpw : 2 ≤ (2 : Int) ^ mk.toNat ∧ (2 : Int) ^ mk.toNat ≤ 16 := by
    have : mk = 1 ∨ mk = 2 ∨ mk = 3 ∨ mk = 4 := by omega
    rcases this with e | e | e | e <;> rw [e] <;> decide
  have hpp : (0 : Int) ≤ 2 ^ mk.toNat := by omega
  have hz0 : (0 : Int) < 2 ^ mk.toNat := by omega
  repeat' ((fail_if_success (with_reducible show wpAny _ _ (exec (Stmt.While _ _ _ _) _) _ _ _)); first | (k_unfold; (try dsimp only)) | (k_end; kc_close) | walk1 | (dsimp only; walk1) | (leave1; walk_say "STEP leave1"; (try dsimp only)) | fail "no step")
  (rename Fr _ _ _ _ => lF'); (rename News _ _ _ _ => lN')
  rename_i tA hA hB tB hC
  with_unfolding_all refine' While_inv2 (fun n m9 nw => ∃ (j : Nat) (tj : Tok) (th : Tok), 1 ≤ j ∧ (j : Int) ≤ 2 ^ mk.toNat ∧ (n : Int) = 2 ^ mk.toNat - (j : Int) ∧ nw = _ ∧ (∀ i, 0 < i → i < j → herOf its mk i ≠ 0) ∧ FrJ (Str.ofString "found") [(Str.ofString "here", Value.int (herOf its mk j) th), (Str.ofString "steps", Value.int (j : Int) tj)] [] _ m9) (n₀ := ((2 : Int) ^ mk.toNat - 1).toNat) (hE := hE) lF' lN' ⟨1, _, _, by omega, by omega, by omega, rfl, (fun i h1 h2 => by omega), by kst_all, by kst_same⟩ ?kt
  clear lF' lN'
  rintro n m₁ nw h tk F9 N9 ⟨j, tj, th, hj1, hj2, hn, rfl, hne, hJ⟩
  replace F9 := hJ.fr F9
  clear hJ
  dsimp only [kstB] at F9
  have hr := her_rng its mk j
  obtain ⟨hr0, hr1⟩ := hr
  have hC9 := cycle_fact hok hm1 hm4 hj1 hj2 hne
  repeat' ((fail_if_success (with_reducible show TEnd _ _ _ _ _ _ _ _ _)); (fail_if_success (with_reducible show RetP _ _ _)); (fail_if_success (with_reducible show WhileStep2 _ _ _ _ _ _ _ _)); first | (k_unfold; (try dsimp only)) | walk1 | (dsimp only; walk1) | (leave1; walk_say "STEP leave1"; (try dsimp only)) | fail "no step")
  · (rename Fr _ _ _ _ => nF'); (rename News _ _ _ _ => nN')
    dsimp only
    exact wstep_mk (n' := n - 1) nF' nN' (by omega) ⟨j + 1, _, _, by omega, by omega, by omega, rfl, her_step (by assumption) hne, by kst_all, by kst_same⟩
  · exfalso; exact absurd (by assumption : herOf its mk j = 0) (by assumption)
  · exfalso; exact t5_a hC9 (by assumption) (by assumption) (by assumption) (by assumption)
  · (refine' hfin _ _ _ _ _ _ _ ?F9 ?hm9 ?d29 ?d89 ?N9; (case F9 => k_asm); (case hm9 => kst_all); (case N9 => (refine kst_newsOf (by k_asm) ?_; (repeat (refine List.forall_mem_cons.mpr (And.intro (by k_mem) ?_))); intro p9 hp9; (repeat (first | exact hp9 | apply List.mem_cons_of_mem)))); (case d29 => assumption); (case d89 => assumption))
  · exfalso; exact t5_b (by assumption) (by assumption) (by assumption)
  · (refine' hfin _ _ _ _ _ _ _ ?F9 ?hm9 ?d29 ?d89 ?N9; (case F9 => k_asm); (case hm9 => kst_all); (case N9 => (refine kst_newsOf (by k_asm) ?_; (repeat (refine List.forall_mem_cons.mpr (And.intro (by k_mem) ?_))); intro p9 hp9; (repeat (first | exact hp9 | apply List.mem_cons_of_mem)))); (case d29 => assumption); (case d89 => assumption))
  · exfalso; exact t5_c hC9 (by assumption) (by assumption) (by assumption)
  · (refine' hfin _ _ _ _ _ _ _ ?F9 ?hm9 ?d29 ?d89 ?N9; (case F9 => k_asm); (case hm9 => kst_all); (case N9 => (refine kst_newsOf (by k_asm) ?_; (repeat (refine List.forall_mem_cons.mpr (And.intro (by k_mem) ?_))); intro p9 hp9; (repeat (first | exact hp9 | apply List.mem_cons_of_mem)))); (case d29 => assumption); (case d89 => assumption))
  · exfalso; exact t5_d hC9 (by assumption) (by assumption) (by assumption)
  · (refine' hfin _ _ _ _ _ _ _ ?F9 ?hm9 ?d29 ?d89 ?N9; (case F9 => k_asm); (case hm9 => kst_all); (case N9 => (refine kst_newsOf (by k_asm) ?_; (repeat (refine List.forall_mem_cons.mpr (And.intro (by k_mem) ?_))); intro p9 hp9; (repeat (first | exact hp9 | apply List.mem_cons_of_mem)))); (case d29 => assumption); (case d89 => assumption))
  · exfalso; exact absurd (by assumption : herOf its mk j = 0) (by assumption)
end
end Mine
end
section
open PySem PySem.W PyProof.Rows PySem.Calls Mine
namespace Mine
section
set_option maxRecDepth 100000 in
set_option maxHeartbeats 8000000 in
theorem piece_t4 {w : World} {mean : ExcName → Option Value} {mg mb : Str → Option Value} {dp un : Nat} {gd : Option (List Code)} {A₀ : Around} {base base0 : Heap} {outer : List Env} {name qual : Str} {params : Arguments} {body stmts : List Stmt} {scope : Scope} {dV kV doc pm cdv ct oc : Value} {an od : Option Addr} {osl : Array (Option Value)} {L ea : Addr} {ecd : Value} {m : Str → Option Value} {s : Shared} {Q : Flow → Shared → Prop} {E : Value → Shared → Prop}
   {its : List It} {mk far : Int} {t1 t2 t8 : Tok} {Di Dw Dp Da : Addr} {vsW vsP vsA vsI : List Value} {nI nW nP nA : Nat} {Dq : Addr} {vsQ : List Value} {nQ : Nat}
   (ho : (kfr.heap_1 w.params).lookup 146 = some ⟨oc, od, .func (fnOf name qual params body scope dV kV doc pm an cdv ct), osl⟩) (hst : stmts = (loopBody (body.drop 16)).drop 6) (B : Below A₀ base0 outer base) (X : (kfr.heap_1 w.params).In base) (T : Top hdv (looseW hdv hdl) mean mg mb base) (hdp : dp + 10 < recursionLimit) (hun : un + 100 < cLine) (hE : PassesOwn (model PySem.Challenge.rw_xg0046_01.row.prog w) (ktrTop dp un gd qual scope L ea ecd (cellsFrom (L + 1) scope.names []) outer) (envOfC qual scope L ea ecd) E)
   {c1 c2 c3 c4 c5 c6 c7 c8 : Obj} {inn : List (Addr × Obj)}
   {x1 x2 x4 : Option Value}
   (F : Fr base L s.heap m) (hm : ∀ p ∈ [(Str.ofString "far", Value.int far t1), (Str.ofString "distant", Value.int (reck its far) t2), (Str.ofString "words", Value.ref Dq), (Str.ofString "kept", Value.bool (keptB its mk))], m p.1 = some p.2)
   (N : News base L s.heap ((Dq, W.listOf vsQ.toArray nQ) :: (Da, W.listOf vsA.toArray nA) :: (Dp, W.listOf vsP.toArray nP) :: (Dw, W.listOf vsW.toArray nW) :: (Di, W.listOf vsI.toArray nI) :: (L + 1 + 1 + 1 + 1 + 1 + 1 + 1 + 1, c8) :: (L + 1 + 1 + 1 + 1 + 1 + 1 + 1, c7) :: (L + 1 + 1 + 1 + 1 + 1 + 1, c6) :: (L + 1 + 1 + 1 + 1 + 1, c5) :: (L + 1 + 1 + 1 + 1, c4) :: (L + 1 + 1 + 1, c3) :: (L + 1 + 1, c2) :: (L + 1, c1) :: inn))
   (h1 : c1.data = .cell x1) (h2 : c2.data = .cell x2) (h3 : c3.data = .cell (some (Value.ref Di))) (h4 : c4.data = .cell x4) (h5 : c5.data = .cell (some (Value.ref Dw))) (h6 : c6.data = .cell (some (Value.ref Dp))) (h7 : c7.data = .cell (some (Value.ref Da))) (h8 : c8.data = .cell (some (Value.int mk t8)))
   (hT : OwnOff inn [L + 1 + 1 + 1 + 1 + 1 + 1 + 1 + 1, L + 1 + 1 + 1 + 1 + 1 + 1 + 1, L + 1 + 1 + 1 + 1 + 1 + 1, L + 1 + 1 + 1 + 1 + 1, L + 1 + 1 + 1 + 1, L + 1 + 1 + 1, L + 1 + 1, L + 1])
   (aDq : ApAll Dq [L + 1 + 1 + 1 + 1 + 1 + 1 + 1 + 1, L + 1 + 1 + 1 + 1 + 1 + 1 + 1, L + 1 + 1 + 1 + 1 + 1 + 1, L + 1 + 1 + 1 + 1 + 1, L + 1 + 1 + 1 + 1, L + 1 + 1 + 1, L + 1 + 1, L + 1]) (aDa : ApAll Da [L + 1 + 1 + 1 + 1 + 1 + 1 + 1 + 1, L + 1 + 1 + 1 + 1 + 1 + 1 + 1, L + 1 + 1 + 1 + 1 + 1 + 1, L + 1 + 1 + 1 + 1 + 1, L + 1 + 1 + 1 + 1, L + 1 + 1 + 1, L + 1 + 1, L + 1]) (aDp : ApAll Dp [L + 1 + 1 + 1 + 1 + 1 + 1 + 1 + 1, L + 1 + 1 + 1 + 1 + 1 + 1 + 1, L + 1 + 1 + 1 + 1 + 1 + 1, L + 1 + 1 + 1 + 1 + 1, L + 1 + 1 + 1 + 1, L + 1 + 1 + 1, L + 1 + 1, L + 1]) (aDw : ApAll Dw [L + 1 + 1 + 1 + 1 + 1 + 1 + 1 + 1, L + 1 + 1 + 1 + 1 + 1 + 1 + 1, L + 1 + 1 + 1 + 1 + 1 + 1, L + 1 + 1 + 1 + 1 + 1, L + 1 + 1 + 1 + 1, L + 1 + 1 + 1, L + 1 + 1, L + 1]) (aDi : ApAll Di [L + 1 + 1 + 1 + 1 + 1 + 1 + 1 + 1, L + 1 + 1 + 1 + 1 + 1 + 1 + 1, L + 1 + 1 + 1 + 1 + 1 + 1, L + 1 + 1 + 1 + 1 + 1, L + 1 + 1 + 1 + 1, L + 1 + 1 + 1, L + 1 + 1, L + 1])
   (hok : ∀ i ∈ its, i.Ok) (hlen : its.length ≤ 7) (hfar : far.natAbs < 2 ^ 36) (hm1 : 1 ≤ mk) (hm4 : mk ≤ 4) (hiI : ItemsIn inn vsI its) (hiP : IntsAre vsP (pathOf its 8)) (hiW : IntsAre vsW (worthsOf its)) (hiA : ListsIn inn vsA (alikesOf its 4)) (hiQ : IntsAre vsQ (wordsOf its mk))
   (hfin : ∀ h' m' tk' c2' c8' y2 y8, Fr base L h' m' → (∀ p ∈ [(Str.ofString "far", Value.int far t1), (Str.ofString "distant", Value.int (reck its far) t2)], m' p.1 = some p.2) → c2'.data = .cell y2 → c8'.data = .cell y8 → News base L h' ((Da, W.listOf vsA.toArray nA) :: (Dp, W.listOf vsP.toArray nP) :: (Dw, W.listOf vsW.toArray nW) :: (Di, W.listOf vsI.toArray nI) :: (L + 1 + 1 + 1 + 1 + 1 + 1 + 1 + 1, c8') :: (L + 1 + 1 + 1 + 1 + 1 + 1 + 1, c7) :: (L + 1 + 1 + 1 + 1 + 1 + 1, c6) :: (L + 1 + 1 + 1 + 1 + 1, c5) :: (L + 1 + 1 + 1 + 1, c4) :: (L + 1 + 1 + 1, c3) :: (L + 1 + 1, c2') :: (L + 1, c1) :: inn) → Q .next { s with heap := h', toks := tk' }) :
   wpAny (model PySem.Challenge.rw_xg0046_01.row.prog w) (ktrTop dp un gd qual scope L ea ecd (cellsFrom (L + 1) scope.names []) outer) (execs stmts (envOfC qual scope L ea ecd)) Q E s := by
  subst hst
  revert X
  k_fill
  intro X
  w_on
  have key : ∀ (o : Obj), (kfr.heap_1 w.params).lookup 146 = some o → o = ⟨oc, od, .func (fnOf name qual params body scope dV kV doc pm an cdv ct), osl⟩ := fun o e => Option.some.inj (e.symm.trans ho)
  have hfo9 := key _ (by k_is)
  clear key ho
  injection hfo9 with e1 e2 e3 e4
  injection e3 with e3
  injection e3 with f1 f2 f3 f4 f5
  injection f4 with f4
  subst f4
  subst f5
  subst f2
  (try clear hfo9)
  subst_vars
  dsimp only [List.drop, loopBody]
  replace F := FrJ.fr (x := Str.ofString "steps") (ps := [(Str.ofString "far", Value.int far t1), (Str.ofString "distant", Value.int (reck its far) t2), (Str.ofString "words", Value.ref Dq), (Str.ofString "kept", Value.bool (keptB its mk))]) (stored := []) (m₀ := m) ⟨hm, fun _ _ _ _ => rfl⟩ F
  clear hm
  dsimp only [kstB] at F
  have kMark := kstMark
  have hpw : 2 ≤ (2 : Int) ^ mk.toNat ∧ (2 : Int) ^ mk.toNat ≤ 16 := by
    have : mk = 1 ∨ mk = 2 ∨ mk = 3 ∨ mk = 4 := by omega
    rcases this with e | e | e | e <;> rw [e] <;> decide
  have hpp : (0 : Int) ≤ 2 ^ mk.toNat := by omega
  repeat' ((fail_if_success (with_reducible show wpAny _ _ (exec (PySem.Stmt.Assign _ _ _) _) _ _ _)); first | (k_unfold; (try dsimp only)) | (k_end; kc_close) | walk1 | (dsimp only; walk1) | (leave1; walk_say "STEP leave1"; (try dsimp only)) | fail "no step")
  k_dflt (refine LCt.Assign_ListComp_T (F₀ := by k_asm) (by rfl) (by with_unfolding_all rfl) (by with_unfolding_all rfl) (by decide) (by rfl) (by decide) (by rfl) (by rfl) (by rfl) ?_)
  repeat' ((fail_if_success (with_reducible show LCt.CompSrcT _ _ _ _ _ _ _ _ _ _ _ _ _ _ _)); first | (k_unfold; (try dsimp only)) | (k_end; kc_close) | walk1 | (dsimp only; walk1) | (leave1; walk_say "STEP leave1"; (try dsimp only)) | fail "no step")
  (rename IsRange _ _ _ _ _ _ _ _ => rgX)
  k_dflt (refine LCt.CompSrcT.range (n := (mk - 0 : Int).toNat) (by rfl) (by k_asm) (by k_asm) rgX (small_one (by omega) (by omega) (by omega) (by omega)) (rangeSize_nat _ _) (by rw [PySem.sizeLine_eq]; omega) ?_)
  intro g'
  refine' ct_range (fun k => !decide ((orb its ((2 : Int) ^ k.toNat).toNat).fmod (2 ^ (k + 1).toNat) = 2 ^ k.toNat)) ?_ ?_
  · intro k' t' I' oI' C' oC' D' m' ys' h' tk' E' hlo' hhi' hC' hx' F' N' off' ne'
    have hkA : k' < 4 := by omega
    have hkP : 1 ≤ (2 : Int) ^ k'.toNat ∧ (2 : Int) ^ k'.toNat ≤ 8 := by
      have : k' = 0 ∨ k' = 1 ∨ k' = 2 ∨ k' = 3 := by omega
      rcases this with e | e | e | e <;> rw [e] <;> decide
    have hkB : (0 : Int) ≤ 2 ^ k'.toNat := by omega
    have hkC : (2 : Int) ^ k'.toNat ≤ 8 := hkP.2
    have hkD : (2 : Int) ^ k'.toNat < 2 ^ 63 := by omega
    repeat' ((fail_if_success (with_reducible show TEnd _ _ _ _ _ _ _ _ _)); (fail_if_success (with_reducible show RetP _ _ _)); (fail_if_success (with_reducible show WhileStep2 _ _ _ _ _ _ _ _)); first | (k_unfold; (try dsimp only)) | walk1 | (dsimp only; walk1) | (leave1; walk_say "STEP leave1"; (try dsimp only)) | fail "no step")
  intro ys hys
  repeat' ((fail_if_success (with_reducible show wpAny _ _ (execs [_, _, _, _] (envOfC _ _ _ _ _)) _ _ _)); first | (k_unfold; (try dsimp only)) | (k_end; kc_close) | walk1 | (dsimp only; walk1) | (leave1; walk_say "STEP leave1"; (try dsimp only)) | fail "no step")
  (rename (_ ∧ _) => o9)
  rename_i Dn hX tX FX NX
  have aDn : ApAll Dn [L + 1 + 1 + 1 + 1 + 1 + 1 + 1 + 1, L + 1 + 1 + 1 + 1 + 1 + 1 + 1, L + 1 + 1 + 1 + 1 + 1 + 1, L + 1 + 1 + 1 + 1 + 1, L + 1 + 1 + 1 + 1, L + 1 + 1 + 1, L + 1 + 1, L + 1] := by repeat' (first | exact ap_nil _ | refine ap_cons (by omega) ?_)
  k_dflt (refine' piece_t5 (Ds := Dn) (Dq := Dq) (Da := Da) (Dp := Dp) (Dw := Dw) (Di := Di) (inn := inn) ?ho ?hst ?B ?X ?T ?hdp ?hun ?hE ?F ?hm ?N ?h1 ?h2 ?h3 ?h4 ?h5 ?h6 ?h7 ?h8 ?hT ?aDs ?aDq ?aDa ?aDp ?aDw ?aDi ?f1 ?f2 ?f3 ?f4 ?f5 ?f6 ?f7 ?f8 ?f9 ?f10 ?f11 ?f12)
  (case ho => k_is)
  (case hst => rfl)
  (case B => k_asm)
  (case X => k_asm)
  (case T => k_asm)
  (case hdp => assumption)
  (case hun => assumption)
  (case hE => assumption)
  (case F => k_asm)
  (case hm => kst_all)
  (case N => (refine kst_newsOf (by k_asm) ?_; (repeat (refine List.forall_mem_cons.mpr (And.intro (by k_mem) ?_))); intro p9 hp9; (repeat (first | exact hp9 | apply List.mem_cons_of_mem))))
  (case h1 => assumption)
  (case h2 => assumption)
  (case h3 => assumption)
  (case h4 => assumption)
  (case h5 => assumption)
  (case h6 => assumption)
  (case h7 => assumption)
  (case h8 => assumption)
  (case hT => exact off_sub hT (fun b hb => hb))
  (case aDs => assumption)
  (case aDq => assumption)
  (case aDa => assumption)
  (case aDp => assumption)
  (case aDw => assumption)
  (case aDi => assumption)
  (case f1 => assumption)
  (case f2 => assumption)
  (case f3 => assumption)
  (case f4 => assumption)
  (case f5 => assumption)
  (case f6 => assumption)
  (case f7 => assumption)
  (case f8 => assumption)
  (case f9 => assumption)
  (case f10 => assumption)
  (case f11 => exact hys)
  (case f12 => exact fun a1 a2 a3 a4 a5 a6 a7 b1 b2 b3 b4 b5 => hfin a1 a2 a3 a4 a5 a6 a7 b1 b2 b3 b4 b5)
end
end Mine
end
section
open PySem PySem.W PyProof.Rows PySem.Calls Mine
namespace Mine
section
set_option maxRecDepth 100000 in
set_option maxHeartbeats 8000000 in
theorem piece_t3 {w : World} {mean : ExcName → Option Value} {mg mb : Str → Option Value} {dp un : Nat} {gd : Option (List Code)} {A₀ : Around} {base base0 : Heap} {outer : List Env} {name qual : Str} {params : Arguments} {body stmts : List Stmt} {scope : Scope} {dV kV doc pm cdv ct oc : Value} {an od : Option Addr} {osl : Array (Option Value)} {L ea : Addr} {ecd : Value} {m : Str → Option Value} {s : Shared} {Q : Flow → Shared → Prop} {E : Value → Shared → Prop}
   {its : List It} {mk far : Int} {t1 t2 t8 : Tok} {Di Dw Dp Da : Addr} {vsW vsP vsA vsI : List Value} {nI nW nP nA : Nat} {Dq : Addr} {vsQ : List Value} {nQ : Nat}
   (ho : (kfr.heap_1 w.params).lookup 146 = some ⟨oc, od, .func (fnOf name qual params body scope dV kV doc pm an cdv ct), osl⟩) (hst : stmts = (loopBody (body.drop 16)).drop 5) (B : Below A₀ base0 outer base) (X : (kfr.heap_1 w.params).In base) (T : Top hdv (looseW hdv hdl) mean mg mb base) (hdp : dp + 10 < recursionLimit) (hun : un + 100 < cLine) (hE : PassesOwn (model PySem.Challenge.rw_xg0046_01.row.prog w) (ktrTop dp un gd qual scope L ea ecd (cellsFrom (L + 1) scope.names []) outer) (envOfC qual scope L ea ecd) E)
   {c1 c2 c3 c4 c5 c6 c7 c8 : Obj} {inn : List (Addr × Obj)}
   {x1 x2 x4 : Option Value}
   (F : Fr base L s.heap m) (hm : ∀ p ∈ [(Str.ofString "far", Value.int far t1), (Str.ofString "distant", Value.int (reck its far) t2), (Str.ofString "words", Value.ref Dq), (Str.ofString "kept", Value.bool (keptB its mk))], m p.1 = some p.2)
   (N : News base L s.heap ((Dq, W.listOf vsQ.toArray nQ) :: (Da, W.listOf vsA.toArray nA) :: (Dp, W.listOf vsP.toArray nP) :: (Dw, W.listOf vsW.toArray nW) :: (Di, W.listOf vsI.toArray nI) :: (L + 1 + 1 + 1 + 1 + 1 + 1 + 1 + 1, c8) :: (L + 1 + 1 + 1 + 1 + 1 + 1 + 1, c7) :: (L + 1 + 1 + 1 + 1 + 1 + 1, c6) :: (L + 1 + 1 + 1 + 1 + 1, c5) :: (L + 1 + 1 + 1 + 1, c4) :: (L + 1 + 1 + 1, c3) :: (L + 1 + 1, c2) :: (L + 1, c1) :: inn))
   (h1 : c1.data = .cell x1) (h2 : c2.data = .cell x2) (h3 : c3.data = .cell (some (Value.ref Di))) (h4 : c4.data = .cell x4) (h5 : c5.data = .cell (some (Value.ref Dw))) (h6 : c6.data = .cell (some (Value.ref Dp))) (h7 : c7.data = .cell (some (Value.ref Da))) (h8 : c8.data = .cell (some (Value.int mk t8)))
   (hT : OwnOff inn [L + 1 + 1 + 1 + 1 + 1 + 1 + 1 + 1, L + 1 + 1 + 1 + 1 + 1 + 1 + 1, L + 1 + 1 + 1 + 1 + 1 + 1, L + 1 + 1 + 1 + 1 + 1, L + 1 + 1 + 1 + 1, L + 1 + 1 + 1, L + 1 + 1, L + 1])
   (aDq : ApAll Dq [L + 1 + 1 + 1 + 1 + 1 + 1 + 1 + 1, L + 1 + 1 + 1 + 1 + 1 + 1 + 1, L + 1 + 1 + 1 + 1 + 1 + 1, L + 1 + 1 + 1 + 1 + 1, L + 1 + 1 + 1 + 1, L + 1 + 1 + 1, L + 1 + 1, L + 1]) (aDa : ApAll Da [L + 1 + 1 + 1 + 1 + 1 + 1 + 1 + 1, L + 1 + 1 + 1 + 1 + 1 + 1 + 1, L + 1 + 1 + 1 + 1 + 1 + 1, L + 1 + 1 + 1 + 1 + 1, L + 1 + 1 + 1 + 1, L + 1 + 1 + 1, L + 1 + 1, L + 1]) (aDp : ApAll Dp [L + 1 + 1 + 1 + 1 + 1 + 1 + 1 + 1, L + 1 + 1 + 1 + 1 + 1 + 1 + 1, L + 1 + 1 + 1 + 1 + 1 + 1, L + 1 + 1 + 1 + 1 + 1, L + 1 + 1 + 1 + 1, L + 1 + 1 + 1, L + 1 + 1, L + 1]) (aDw : ApAll Dw [L + 1 + 1 + 1 + 1 + 1 + 1 + 1 + 1, L + 1 + 1 + 1 + 1 + 1 + 1 + 1, L + 1 + 1 + 1 + 1 + 1 + 1, L + 1 + 1 + 1 + 1 + 1, L + 1 + 1 + 1 + 1, L + 1 + 1 + 1, L + 1 + 1, L + 1]) (aDi : ApAll Di [L + 1 + 1 + 1 + 1 + 1 + 1 + 1 + 1, L + 1 + 1 + 1 + 1 + 1 + 1 + 1, L + 1 + 1 + 1 + 1 + 1 + 1, L + 1 + 1 + 1 + 1 + 1, L + 1 + 1 + 1 + 1, L + 1 + 1 + 1, L + 1 + 1, L + 1])
   (hok : ∀ i ∈ its, i.Ok) (hlen : its.length ≤ 7) (hfar : far.natAbs < 2 ^ 36) (hm1 : 1 ≤ mk) (hm4 : mk ≤ 4) (hiI : ItemsIn inn vsI its) (hiP : IntsAre vsP (pathOf its 8)) (hiW : IntsAre vsW (worthsOf its)) (hiA : ListsIn inn vsA (alikesOf its 4)) (hiQ : IntsAre vsQ (wordsOf its mk))
   (hfin : ∀ h' m' tk' c2' c8' y2 y8, Fr base L h' m' → (∀ p ∈ [(Str.ofString "far", Value.int far t1), (Str.ofString "distant", Value.int (reck its far) t2)], m' p.1 = some p.2) → c2'.data = .cell y2 → c8'.data = .cell y8 → News base L h' ((Da, W.listOf vsA.toArray nA) :: (Dp, W.listOf vsP.toArray nP) :: (Dw, W.listOf vsW.toArray nW) :: (Di, W.listOf vsI.toArray nI) :: (L + 1 + 1 + 1 + 1 + 1 + 1 + 1 + 1, c8') :: (L + 1 + 1 + 1 + 1 + 1 + 1 + 1, c7) :: (L + 1 + 1 + 1 + 1 + 1 + 1, c6) :: (L + 1 + 1 + 1 + 1 + 1, c5) :: (L + 1 + 1 + 1 + 1, c4) :: (L + 1 + 1 + 1, c3) :: (L + 1 + 1, c2') :: (L + 1, c1) :: inn) → Q .next { s with heap := h', toks := tk' }) :
   wpAny (model PySem.Challenge.rw_xg0046_01.row.prog w) (ktrTop dp un gd qual scope L ea ecd (cellsFrom (L + 1) scope.names []) outer) (execs stmts (envOfC qual scope L ea ecd)) Q E s := by
  subst hst
  revert X
  k_fill
  intro X
  w_on
  have key : ∀ (o : Obj), (kfr.heap_1 w.params).lookup 146 = some o → o = ⟨oc, od, .func (fnOf name qual params body scope dV kV doc pm an cdv ct), osl⟩ := fun o e => Option.some.inj (e.symm.trans ho)
  have hfo9 := key _ (by k_is)
  clear key ho
  injection hfo9 with e1 e2 e3 e4
  injection e3 with e3
  injection e3 with f1 f2 f3 f4 f5
  injection f4 with f4
  subst f4
  subst f5
  subst f2
  (try clear hfo9)
  subst_vars
  dsimp only [List.drop, loopBody]
  replace F := FrJ.fr (x := Str.ofString "steps") (ps := [(Str.ofString "far", Value.int far t1), (Str.ofString "distant", Value.int (reck its far) t2), (Str.ofString "words", Value.ref Dq), (Str.ofString "kept", Value.bool (keptB its mk))]) (stored := []) (m₀ := m) ⟨hm, fun _ _ _ _ => rfl⟩ F
  clear hm
  dsimp only [kstB] at F
  have kMark := kstMark
  have hpw : 2 ≤ (2 : Int) ^ mk.toNat ∧ (2 : Int) ^ mk.toNat ≤ 16 := by
    have : mk = 1 ∨ mk = 2 ∨ mk = 3 ∨ mk = 4 := by omega
    rcases this with e | e | e | e <;> rw [e] <;> decide
  have hpp : (0 : Int) ≤ 2 ^ mk.toNat := by omega
  repeat' ((fail_if_success (with_reducible show wpAny _ _ (exec (PySem.Stmt.For _ _ _ _ _) _) _ _ _)); (fail_if_success (with_reducible show wpAny _ _ (execs [_, _, _, _, _] (envOfC _ _ _ _ _)) _ _ _)); first | (k_unfold; (try dsimp only)) | (k_end; kc_close) | walk1 | (dsimp only; walk1) | (leave1; walk_say "STEP leave1"; (try dsimp only)) | fail "no step")
  · (rename (keptB its mk = true) => hk9)
    (rename Fr _ _ _ _ => lF')
    with_unfolding_all refine' For_turns (hE := hE) lF' ?_
    repeat' ((fail_if_success (with_reducible show wpAny _ _ (pyIter (Value.ref _)) _ _ _)); first | (k_unfold; (try dsimp only)) | (k_end; kc_close) | walk1 | (dsimp only; walk1) | (leave1; walk_say "STEP leave1"; (try dsimp only)) | fail "no step")
    (rename IsRange _ _ _ _ _ _ _ _ => rgX); (rename Fr _ _ _ _ => lF'); (rename News _ _ _ _ => lN')
    refine' turns_range (n := mk.toNat) (fun i m9 nw => ∃ tf c2' y2, FrJ (Str.ofString "steps") [(Str.ofString "found", Value.int (foundOf its far i) tf)] [] _ m9 ∧ nw = (Dq, W.listOf vsQ.toArray nQ) :: (Da, W.listOf vsA.toArray nA) :: (Dp, W.listOf vsP.toArray nP) :: (Dw, W.listOf vsW.toArray nW) :: (Di, W.listOf vsI.toArray nI) :: (L + 1 + 1 + 1 + 1 + 1 + 1 + 1 + 1, c8) :: (L + 1 + 1 + 1 + 1 + 1 + 1 + 1, c7) :: (L + 1 + 1 + 1 + 1 + 1 + 1, c6) :: (L + 1 + 1 + 1 + 1 + 1, c5) :: (L + 1 + 1 + 1 + 1, c4) :: (L + 1 + 1 + 1, c3) :: (L + 1 + 1, c2') :: (L + 1, c1) :: inn ∧ c2'.data = .cell y2) (by rfl) rgX (small_one (by omega) (by omega) (by omega) (by omega)) ((rangeSize_nat _ _).trans (by rw [Int.sub_zero])) lF' lN' ⟨_, c2, x2, ⟨by kst_all, by kst_same⟩, rfl, by assumption⟩ ?kt ?kd
    (case kd =>
      clear lF' lN'
      rintro m9 nw h tk ⟨tf, c2', y2, hJ, rfl, h2'⟩ F9 N9
      replace F9 := hJ.fr F9
      clear hJ
      dsimp only [kstB] at F9
      dsimp only
      have hfr0 := (found_rng its far mk.toNat).1
      have hfr1 := (found_rng its far mk.toNat).2
      have hff := found_fact hok hm1 hm4 far hk9
      repeat' ((fail_if_success (with_reducible show wpAny _ _ (execs [_, _, _, _, _] (envOfC _ _ _ _ _)) _ _ _)); first | (k_unfold; (try dsimp only)) | (k_end; kc_close) | walk1 | (dsimp only; walk1) | (leave1; walk_say "STEP leave1"; (try dsimp only)) | fail "no step")
      · exact absurd hff (by assumption)
      · dsimp only
        k_dflt (refine' piece_t4 (Dq := Dq) (Da := Da) (Dp := Dp) (Dw := Dw) (Di := Di) (inn := inn) ?ho ?hst ?B ?X ?T ?hdp ?hun ?hE ?F ?hm ?N ?h1 ?h2 ?h3 ?h4 ?h5 ?h6 ?h7 ?h8 ?hT ?aDq ?aDa ?aDp ?aDw ?aDi ?f1 ?f2 ?f3 ?f4 ?f5 ?f6 ?f7 ?f8 ?f9 ?f10 ?f11)
        (case ho => k_is)
        (case hst => rfl)
        (case B => k_asm)
        (case X => k_asm)
        (case T => k_asm)
        (case hdp => assumption)
        (case hun => assumption)
        (case hE => assumption)
        (case F => k_asm)
        (case hm => kst_all)
        (case N => (refine kst_newsOf (by k_asm) ?_; (repeat (refine List.forall_mem_cons.mpr (And.intro (by k_mem) ?_))); intro p9 hp9; (repeat (first | exact hp9 | apply List.mem_cons_of_mem))))
        (case h1 => assumption)
        (case h2 => assumption)
        (case h3 => assumption)
        (case h4 => assumption)
        (case h5 => assumption)
        (case h6 => assumption)
        (case h7 => assumption)
        (case h8 => assumption)
        (case hT => exact off_sub hT (fun b hb => hb))
        (case aDq => assumption)
        (case aDa => assumption)
        (case aDp => assumption)
        (case aDw => assumption)
        (case aDi => assumption)
        (case f1 => assumption)
        (case f2 => assumption)
        (case f3 => assumption)
        (case f4 => assumption)
        (case f5 => assumption)
        (case f6 => assumption)
        (case f7 => assumption)
        (case f8 => assumption)
        (case f9 => assumption)
        (case f10 => assumption)
        (case f11 => exact fun a1 a2 a3 a4 a5 a6 a7 b1 b2 b3 b4 b5 => hfin a1 a2 a3 a4 a5 a6 a7 b1 b2 b3 b4 b5))
    rintro i t m9 nw h tk own I hi4 ⟨tf, c2', y2, hJ, rfl, h2'⟩ hnI hnI1 hown hIo F9 N9
    replace F9 := hJ.fr F9
    clear hJ lF' lN' hnI
    dsimp only [kstB] at F9
    obtain ⟨T, hTT⟩ : ∃ T, T = inn ++ own := ⟨_, rfl⟩
    have hT8 : OwnOff T [L + 1 + 1 + 1 + 1 + 1 + 1 + 1 + 1, L + 1 + 1 + 1 + 1 + 1 + 1 + 1, L + 1 + 1 + 1 + 1 + 1 + 1, L + 1 + 1 + 1 + 1 + 1, L + 1 + 1 + 1 + 1, L + 1 + 1 + 1, L + 1 + 1, L + 1] := by
      rw [hTT]
      refine own_off hown hnI1 hT ?_
      repeat' (first | exact List.forall_mem_nil _ | refine List.forall_mem_cons.mpr ⟨⟨_, by k_mem⟩, ?_⟩)
    have N8 := news_start (A := [(Dq, W.listOf vsQ.toArray nQ), (Da, W.listOf vsA.toArray nA), (Dp, W.listOf vsP.toArray nP), (Dw, W.listOf vsW.toArray nW), (Di, W.listOf vsI.toArray nI), (L + 1 + 1 + 1 + 1 + 1 + 1 + 1 + 1, c8), (L + 1 + 1 + 1 + 1 + 1 + 1 + 1, c7), (L + 1 + 1 + 1 + 1 + 1 + 1, c6), (L + 1 + 1 + 1 + 1 + 1, c5), (L + 1 + 1 + 1 + 1, c4), (L + 1 + 1 + 1, c3), (L + 1 + 1, c2'), (L + 1, c1)]) N9 hTT
    simp only [List.cons_append, List.nil_append] at N8
    clear N9 hown rgX hIo
    obtain ⟨K, hK⟩ : ∃ K : Int, K = 0 + (i : Int) := ⟨_, rfl⟩
    have hK0 : 0 ≤ K := by omega
    have hK4 : K < 4 := by omega
    have hKn : K.toNat = i := by omega
    rw [← hK]
    have hfr0 := (found_rng its far i).1
    have hfr1 : foundOf its far i < 16 := by
      have h9 := (found_rng its far i).2
      have h8 : (2 : Int) ^ i ≤ 8 := by
        have : i = 0 ∨ i = 1 ∨ i = 2 ∨ i = 3 := by omega
        rcases this with e | e | e | e <;> rw [e] <;> decide
      omega
    repeat' ((fail_if_success (with_reducible show TEnd _ _ _ _ _ _ _ _ _)); (fail_if_success (with_reducible show RetP _ _ _)); (fail_if_success (with_reducible show WhileStep2 _ _ _ _ _ _ _ _)); first | (k_unfold; (try dsimp only)) | walk1 | (dsimp only; walk1) | (leave1; walk_say "STEP leave1"; (try dsimp only)) | fail "no step")
    · have hfs := found_yes hKn (by assumption)
      (rename Fr _ _ _ _ => nF'); (rename News _ _ _ _ => nN')
      dsimp only
      rw [hfs]
      refine' TEnd.mk nF' (news_end (A := [(Dq, _), (Da, _), (Dp, _), (Dw, _), (Di, _), (L + 1 + 1 + 1 + 1 + 1 + 1 + 1 + 1, _), (L + 1 + 1 + 1 + 1 + 1 + 1 + 1, _), (L + 1 + 1 + 1 + 1 + 1 + 1, _), (L + 1 + 1 + 1 + 1 + 1, _), (L + 1 + 1 + 1 + 1, _), (L + 1 + 1 + 1, _), (L + 1 + 1, _), (L + 1, _)]) nN' hTT ?hA ?h3) ?hI ⟨_, _, _, ⟨?ka, ?ks⟩, ?rf, ?dc⟩
      (case hA => repeat' (first | exact List.forall_mem_nil _ | refine List.forall_mem_cons.mpr (And.intro (by k_mem) ?_)))
      (case h3 => intro p9 hp9; (repeat (first | exact hp9 | apply List.mem_cons_of_mem)))
      (case ka => kst_all)
      (case ks => kst_same)
      (case rf => rfl)
      (case hI => exact ne_same (A := [(Dq, W.listOf vsQ.toArray nQ), (Da, W.listOf vsA.toArray nA), (Dp, W.listOf vsP.toArray nP), (Dw, W.listOf vsW.toArray nW), (Di, W.listOf vsI.toArray nI), (L + 1 + 1 + 1 + 1 + 1 + 1 + 1 + 1, c8), (L + 1 + 1 + 1 + 1 + 1 + 1 + 1, c7), (L + 1 + 1 + 1 + 1 + 1 + 1, c6), (L + 1 + 1 + 1 + 1 + 1, c5), (L + 1 + 1 + 1 + 1, c4), (L + 1 + 1 + 1, c3), (L + 1 + 1, c2'), (L + 1, c1)]) (rest := inn) rfl hnI1)
      (case dc => assumption)
    · have hfs := found_no hKn (by assumption)
      (rename Fr _ _ _ _ => nF'); (rename News _ _ _ _ => nN')
      dsimp only
      rw [hfs]
      refine' TEnd.mk nF' (news_end (A := [(Dq, _), (Da, _), (Dp, _), (Dw, _), (Di, _), (L + 1 + 1 + 1 + 1 + 1 + 1 + 1 + 1, _), (L + 1 + 1 + 1 + 1 + 1 + 1 + 1, _), (L + 1 + 1 + 1 + 1 + 1 + 1, _), (L + 1 + 1 + 1 + 1 + 1, _), (L + 1 + 1 + 1 + 1, _), (L + 1 + 1 + 1, _), (L + 1 + 1, _), (L + 1, _)]) nN' hTT ?hA ?h3) ?hI ⟨_, _, _, ⟨?ka, ?ks⟩, ?rf, ?dc⟩
      (case hA => repeat' (first | exact List.forall_mem_nil _ | refine List.forall_mem_cons.mpr (And.intro (by k_mem) ?_)))
      (case h3 => intro p9 hp9; (repeat (first | exact hp9 | apply List.mem_cons_of_mem)))
      (case ka => kst_all)
      (case ks => kst_same)
      (case rf => rfl)
      (case hI => exact ne_same (A := [(Dq, W.listOf vsQ.toArray nQ), (Da, W.listOf vsA.toArray nA), (Dp, W.listOf vsP.toArray nP), (Dw, W.listOf vsW.toArray nW), (Di, W.listOf vsI.toArray nI), (L + 1 + 1 + 1 + 1 + 1 + 1 + 1 + 1, c8), (L + 1 + 1 + 1 + 1 + 1 + 1 + 1, c7), (L + 1 + 1 + 1 + 1 + 1 + 1, c6), (L + 1 + 1 + 1 + 1 + 1, c5), (L + 1 + 1 + 1 + 1, c4), (L + 1 + 1 + 1, c3), (L + 1 + 1, c2'), (L + 1, c1)]) (rest := inn) rfl hnI1)
      (case dc => assumption)
  · dsimp only
    k_dflt (refine' piece_t4 (Dq := Dq) (Da := Da) (Dp := Dp) (Dw := Dw) (Di := Di) (inn := inn) ?ho ?hst ?B ?X ?T ?hdp ?hun ?hE ?F ?hm ?N ?h1 ?h2 ?h3 ?h4 ?h5 ?h6 ?h7 ?h8 ?hT ?aDq ?aDa ?aDp ?aDw ?aDi ?f1 ?f2 ?f3 ?f4 ?f5 ?f6 ?f7 ?f8 ?f9 ?f10 ?f11)
    (case ho => k_is)
    (case hst => rfl)
    (case B => k_asm)
    (case X => k_asm)
    (case T => k_asm)
    (case hdp => assumption)
    (case hun => assumption)
    (case hE => assumption)
    (case F => k_asm)
    (case hm => kst_all)
    (case N => (refine kst_newsOf (by k_asm) ?_; (repeat (refine List.forall_mem_cons.mpr (And.intro (by k_mem) ?_))); intro p9 hp9; (repeat (first | exact hp9 | apply List.mem_cons_of_mem))))
    (case h1 => assumption)
    (case h2 => assumption)
    (case h3 => assumption)
    (case h4 => assumption)
    (case h5 => assumption)
    (case h6 => assumption)
    (case h7 => assumption)
    (case h8 => assumption)
    (case hT => exact off_sub hT (fun b hb => hb))
    (case aDq => assumption)
    (case aDa => assumption)
    (case aDp => assumption)
    (case aDw => assumption)
    (case aDi => assumption)
    (case f1 => assumption)
    (case f2 => assumption)
    (case f3 => assumption)
    (case f4 => assumption)
    (case f5 => assumption)
    (case f6 => assumption)
    (case f7 => assumption)
    (case f8 => assumption)
    (case f9 => assumption)
    (case f10 => assumption)
    (case f11 => exact fun a1 a2 a3 a4 a5 a6 a7 b1 b2 b3 b4 b5 => hfin a1 a2 a3 a4 a5 a6 a7 b1 b2 b3 b4 b5)
end
end Mine
end
section
open PySem PySem.W PyProof.Rows PySem.Calls Mine
namespace Mine
section
local macro_rules | `(tactic| walk_at "call type:list") => `(tactic| (k_here; (with_reducible show wpAny _ _ (call (Value.type _) [Value.ref _]) _ _ _); (rename IsRange _ _ _ _ _ _ _ _ => rgX); (with_unfolding_all refine' kll_range (by rfl) (by k_asm) (by k_asm) rgX (small_one (by omega) (by omega) (by omega) (by omega)) (rangeSize_nat _ _) (by omega) ?_; k_whole); intro D' vs' c' h' tk' F' N' l1 hI'))
local macro_rules | `(tactic| walk_at "subscriptTail") => `(tactic| (k_here; (with_reducible show wpAny _ _ (subscriptTail _ _ (Value.ref _) (Value.int _ _)) _ _ _); k_dflt (refine' item_lists (by k_asm) (by k_mem) (by assumption) (by walk_at "sub") (by assumption) (by omega) (alikes_at _ (by assumption) (by assumption)) ?_); intro b9 us9 nb9 hI9 N9))
set_option maxRecDepth 100000 in
set_option maxHeartbeats 8000000 in
theorem piece_t2 {w : World} {mean : ExcName → Option Value} {mg mb : Str → Option Value} {dp un : Nat} {gd : Option (List Code)} {A₀ : Around} {base base0 : Heap} {outer : List Env} {name qual : Str} {params : Arguments} {body stmts : List Stmt} {scope : Scope} {dV kV doc pm cdv ct oc : Value} {an od : Option Addr} {osl : Array (Option Value)} {L ea : Addr} {ecd : Value} {m : Str → Option Value} {s : Shared} {Q : Flow → Shared → Prop} {E : Value → Shared → Prop}
   {its : List It} {mk far : Int} {t1 t2 t8 : Tok} {Di Dw Dp Da : Addr} {vsW vsP vsA vsI : List Value} {nI nW nP nA : Nat} {Dq : Addr} {vsQ : List Value} {nQ : Nat}
   (ho : (kfr.heap_1 w.params).lookup 146 = some ⟨oc, od, .func (fnOf name qual params body scope dV kV doc pm an cdv ct), osl⟩) (hst : stmts = (loopBody (body.drop 16)).drop 3) (B : Below A₀ base0 outer base) (X : (kfr.heap_1 w.params).In base) (T : Top hdv (looseW hdv hdl) mean mg mb base) (hdp : dp + 10 < recursionLimit) (hun : un + 100 < cLine) (hE : PassesOwn (model PySem.Challenge.rw_xg0046_01.row.prog w) (ktrTop dp un gd qual scope L ea ecd (cellsFrom (L + 1) scope.names []) outer) (envOfC qual scope L ea ecd) E)
   {c1 c2 c3 c4 c5 c6 c7 c8 : Obj} {inn : List (Addr × Obj)}
   {x1 x2 x4 : Option Value}
   (F : Fr base L s.heap m) (hm : ∀ p ∈ [(Str.ofString "far", Value.int far t1), (Str.ofString "distant", Value.int (reck its far) t2), (Str.ofString "words", Value.ref Dq)], m p.1 = some p.2)
   (N : News base L s.heap ((Dq, W.listOf vsQ.toArray nQ) :: (Da, W.listOf vsA.toArray nA) :: (Dp, W.listOf vsP.toArray nP) :: (Dw, W.listOf vsW.toArray nW) :: (Di, W.listOf vsI.toArray nI) :: (L + 1 + 1 + 1 + 1 + 1 + 1 + 1 + 1, c8) :: (L + 1 + 1 + 1 + 1 + 1 + 1 + 1, c7) :: (L + 1 + 1 + 1 + 1 + 1 + 1, c6) :: (L + 1 + 1 + 1 + 1 + 1, c5) :: (L + 1 + 1 + 1 + 1, c4) :: (L + 1 + 1 + 1, c3) :: (L + 1 + 1, c2) :: (L + 1, c1) :: inn))
   (h1 : c1.data = .cell x1) (h2 : c2.data = .cell x2) (h3 : c3.data = .cell (some (Value.ref Di))) (h4 : c4.data = .cell x4) (h5 : c5.data = .cell (some (Value.ref Dw))) (h6 : c6.data = .cell (some (Value.ref Dp))) (h7 : c7.data = .cell (some (Value.ref Da))) (h8 : c8.data = .cell (some (Value.int mk t8)))
   (hT : OwnOff inn [L + 1 + 1 + 1 + 1 + 1 + 1 + 1 + 1, L + 1 + 1 + 1 + 1 + 1 + 1 + 1, L + 1 + 1 + 1 + 1 + 1 + 1, L + 1 + 1 + 1 + 1 + 1, L + 1 + 1 + 1 + 1, L + 1 + 1 + 1, L + 1 + 1, L + 1])
   (aDq : ApAll Dq [L + 1 + 1 + 1 + 1 + 1 + 1 + 1 + 1, L + 1 + 1 + 1 + 1 + 1 + 1 + 1, L + 1 + 1 + 1 + 1 + 1 + 1, L + 1 + 1 + 1 + 1 + 1, L + 1 + 1 + 1 + 1, L + 1 + 1 + 1, L + 1 + 1, L + 1]) (aDa : ApAll Da [L + 1 + 1 + 1 + 1 + 1 + 1 + 1 + 1, L + 1 + 1 + 1 + 1 + 1 + 1 + 1, L + 1 + 1 + 1 + 1 + 1 + 1, L + 1 + 1 + 1 + 1 + 1, L + 1 + 1 + 1 + 1, L + 1 + 1 + 1, L + 1 + 1, L + 1]) (aDp : ApAll Dp [L + 1 + 1 + 1 + 1 + 1 + 1 + 1 + 1, L + 1 + 1 + 1 + 1 + 1 + 1 + 1, L + 1 + 1 + 1 + 1 + 1 + 1, L + 1 + 1 + 1 + 1 + 1, L + 1 + 1 + 1 + 1, L + 1 + 1 + 1, L + 1 + 1, L + 1]) (aDw : ApAll Dw [L + 1 + 1 + 1 + 1 + 1 + 1 + 1 + 1, L + 1 + 1 + 1 + 1 + 1 + 1 + 1, L + 1 + 1 + 1 + 1 + 1 + 1, L + 1 + 1 + 1 + 1 + 1, L + 1 + 1 + 1 + 1, L + 1 + 1 + 1, L + 1 + 1, L + 1]) (aDi : ApAll Di [L + 1 + 1 + 1 + 1 + 1 + 1 + 1 + 1, L + 1 + 1 + 1 + 1 + 1 + 1 + 1, L + 1 + 1 + 1 + 1 + 1 + 1, L + 1 + 1 + 1 + 1 + 1, L + 1 + 1 + 1 + 1, L + 1 + 1 + 1, L + 1 + 1, L + 1])
   (hok : ∀ i ∈ its, i.Ok) (hlen : its.length ≤ 7) (hfar : far.natAbs < 2 ^ 36) (hm1 : 1 ≤ mk) (hm4 : mk ≤ 4) (hiI : ItemsIn inn vsI its) (hiP : IntsAre vsP (pathOf its 8)) (hiW : IntsAre vsW (worthsOf its)) (hiA : ListsIn inn vsA (alikesOf its 4)) (hiQ : IntsAre vsQ (wordsOf its mk))
   (hfin : ∀ h' m' tk' c2' c8' y2 y8, Fr base L h' m' → (∀ p ∈ [(Str.ofString "far", Value.int far t1), (Str.ofString "distant", Value.int (reck its far) t2)], m' p.1 = some p.2) → c2'.data = .cell y2 → c8'.data = .cell y8 → News base L h' ((Da, W.listOf vsA.toArray nA) :: (Dp, W.listOf vsP.toArray nP) :: (Dw, W.listOf vsW.toArray nW) :: (Di, W.listOf vsI.toArray nI) :: (L + 1 + 1 + 1 + 1 + 1 + 1 + 1 + 1, c8') :: (L + 1 + 1 + 1 + 1 + 1 + 1 + 1, c7) :: (L + 1 + 1 + 1 + 1 + 1 + 1, c6) :: (L + 1 + 1 + 1 + 1 + 1, c5) :: (L + 1 + 1 + 1 + 1, c4) :: (L + 1 + 1 + 1, c3) :: (L + 1 + 1, c2') :: (L + 1, c1) :: inn) → Q .next { s with heap := h', toks := tk' }) :
   wpAny (model PySem.Challenge.rw_xg0046_01.row.prog w) (ktrTop dp un gd qual scope L ea ecd (cellsFrom (L + 1) scope.names []) outer) (execs stmts (envOfC qual scope L ea ecd)) Q E s := by
  subst hst
  revert X
  k_fill
  intro X
  w_on
  have key : ∀ (o : Obj), (kfr.heap_1 w.params).lookup 146 = some o → o = ⟨oc, od, .func (fnOf name qual params body scope dV kV doc pm an cdv ct), osl⟩ := fun o e => Option.some.inj (e.symm.trans ho)
  have hfo9 := key _ (by k_is)
  clear key ho
  injection hfo9 with e1 e2 e3 e4
  injection e3 with e3
  injection e3 with f1 f2 f3 f4 f5
  injection f4 with f4
  subst f4
  subst f5
  subst f2
  (try clear hfo9)
  subst_vars
  dsimp only [List.drop, loopBody]
  replace F := FrJ.fr (x := Str.ofString "steps") (ps := [(Str.ofString "far", Value.int far t1), (Str.ofString "distant", Value.int (reck its far) t2), (Str.ofString "words", Value.ref Dq)]) (stored := []) (m₀ := m) ⟨hm, fun _ _ _ _ => rfl⟩ F
  clear hm
  dsimp only [kstB] at F
  have kMark := kstMark
  have hpw : 2 ≤ (2 : Int) ^ mk.toNat ∧ (2 : Int) ^ mk.toNat ≤ 16 := by
    have : mk = 1 ∨ mk = 2 ∨ mk = 3 ∨ mk = 4 := by omega
    rcases this with e | e | e | e <;> rw [e] <;> decide
  have hpp : (0 : Int) ≤ 2 ^ mk.toNat := by omega
  have hQl : vsQ.length ≤ 16 := by
    have h9 := hiQ.length
    simp only [wordsOf, List.length_map, rangeKs_length] at h9
    omega
  repeat' ((fail_if_success (with_reducible show wpAny _ _ (execs [_, _, _, _, _, _, _] (envOfC _ _ _ _ _)) _ _ _)); first | (k_unfold; (try dsimp only)) | (k_end; kc_close) | walk1 | (dsimp only; walk1) | (leave1; walk_say "STEP leave1"; (try dsimp only)) | fail "no step")
  (rename List.Pairwise _ _ => hpw9); (rename List.Perm _ _ => hpm9); (rename Fr _ _ _ _ => F9)
  rw [kept_fact hok hm1 hm4 hpw9 hpm9] at F9
  repeat' ((fail_if_success (with_reducible show wpAny _ _ (eval (PySem.Expr.ListComp _ _ _ _) _) _ _ _)); first | (k_unfold; (try dsimp only)) | (k_end; kc_close) | walk1 | (dsimp only; walk1) | (leave1; walk_say "STEP leave1"; (try dsimp only)) | fail "no step")
  k_dflt (refine LCt.ListComp_T (F₀ := by k_asm) (by with_unfolding_all rfl) (by decide) (by rfl) (by decide) (by rfl) ?_)
  repeat' ((fail_if_success (with_reducible show LCt.CompSrcT _ _ _ _ _ _ _ _ _ _ _ _ _ _ _)); first | (k_unfold; (try dsimp only)) | (k_end; kc_close) | walk1 | (dsimp only; walk1) | (leave1; walk_say "STEP leave1"; (try dsimp only)) | fail "no step")
  (rename IsRange _ _ _ _ _ _ _ _ => rgX)
  k_dflt (refine LCt.CompSrcT.range (n := (mk - 0 : Int).toNat) (by rfl) (by k_asm) (by k_asm) rgX (small_one (by omega) (by omega) (by omega) (by omega)) (rangeSize_nat _ _) (by rw [PySem.sizeLine_eq]; omega) ?_)
  intro g'
  refine' ct_range (fun k => !decide (alikeOf its k.toNat = [])) ?_ ?_
  · intro k' t' I' oI' C' oC' D' m' ys' h' tk' E' hlo' hhi' hC' hx' F' N' off' ne'
    have hkA : k' < 4 := by omega
    repeat' ((fail_if_success (with_reducible show TEnd _ _ _ _ _ _ _ _ _)); (fail_if_success (with_reducible show RetP _ _ _)); (fail_if_success (with_reducible show WhileStep2 _ _ _ _ _ _ _ _)); first | (k_unfold; (try dsimp only)) | walk1 | (dsimp only; walk1) | (leave1; walk_say "STEP leave1"; (try dsimp only)) | fail "no step")
  intro ys hys
  repeat' ((fail_if_success (with_reducible show wpAny _ _ (execs [_, _, _, _, _, _] (envOfC _ _ _ _ _)) _ _ _)); first | (k_unfold; (try dsimp only)) | (k_end; kc_close) | walk1 | (dsimp only; walk1) | (leave1; walk_say "STEP leave1"; (try dsimp only)) | fail "no step")
  · (rename ((_ != _) = true) => hb9)
    exfalso
    have h9 : (keptB its mk != keptB its mk) = true := hb9
    simp at h9
  · dsimp only
    k_dflt (refine' piece_t3 (Dq := Dq) (Da := Da) (Dp := Dp) (Dw := Dw) (Di := Di) (inn := inn) ?ho ?hst ?B ?X ?T ?hdp ?hun ?hE ?F ?hm ?N ?h1 ?h2 ?h3 ?h4 ?h5 ?h6 ?h7 ?h8 ?hT ?aDq ?aDa ?aDp ?aDw ?aDi ?f1 ?f2 ?f3 ?f4 ?f5 ?f6 ?f7 ?f8 ?f9 ?f10 ?f11)
    (case ho => k_is)
    (case hst => rfl)
    (case B => k_asm)
    (case X => k_asm)
    (case T => k_asm)
    (case hdp => assumption)
    (case hun => assumption)
    (case hE => assumption)
    (case F => k_asm)
    (case hm => kst_all)
    (case N => (refine kst_newsOf (by k_asm) ?_; (repeat (refine List.forall_mem_cons.mpr (And.intro (by k_mem) ?_))); intro p9 hp9; (repeat (first | exact hp9 | apply List.mem_cons_of_mem))))
    (case h1 => assumption)
    (case h2 => assumption)
    (case h3 => assumption)
    (case h4 => assumption)
    (case h5 => assumption)
    (case h6 => assumption)
    (case h7 => assumption)
    (case h8 => assumption)
    (case hT => exact off_sub hT (fun b hb => hb))
    (case aDq => assumption)
    (case aDa => assumption)
    (case aDp => assumption)
    (case aDw => assumption)
    (case aDi => assumption)
    (case f1 => assumption)
    (case f2 => assumption)
    (case f3 => assumption)
    (case f4 => assumption)
    (case f5 => assumption)
    (case f6 => assumption)
    (case f7 => assumption)
    (case f8 => assumption)
    (case f9 => assumption)
    (case f10 => assumption)
    (case f11 => exact fun a1 a2 a3 a4 a5 a6 a7 b1 b2 b3 b4 b5 => hfin a1 a2 a3 a4 a5 a6 a7 b1 b2 b3 b4 b5)
end
end Mine
end
section
open PySem PySem.W PyProof.Rows PySem.Calls Mine
namespace Mine
section
local macro_rules | `(tactic| walk_at "subscriptTail") => `(tactic| (k_here; (with_reducible show wpAny _ _ (subscriptTail _ (PySem.Expr.Slice _ _ none _) (Value.ref _) (Value.ref _)) _ _ _); k_dflt (refine' kmk_slice_ints (by k_asm) (by k_asm) (News.isList (by k_asm) (by k_mem)) IsPart.none (IsPart.int _ _) (by assumption) (kmk_upto (by assumption) (by walk_at "lo")) (by exact rfl) ?_ (by with_unfolding_all rfl) (by intro _; with_unfolding_all rfl) (by rw [sizeLine_eq, List.size_toArray]; walk_at "lo")); intro D' ws' h' F' N' l1 hI' hC' hL'))
set_option maxRecDepth 100000 in
set_option maxHeartbeats 8000000 in
theorem piece_t1 {w : World} {mean : ExcName → Option Value} {mg mb : Str → Option Value} {dp un : Nat} {gd : Option (List Code)} {A₀ : Around} {base base0 : Heap} {outer : List Env} {name qual : Str} {params : Arguments} {body stmts : List Stmt} {scope : Scope} {dV kV doc pm cdv ct oc : Value} {an od : Option Addr} {osl : Array (Option Value)} {L ea : Addr} {ecd : Value} {m : Str → Option Value} {s : Shared} {Q : Flow → Shared → Prop} {E : Value → Shared → Prop}
   {its : List It} {mk far : Int} {t1 t2 t8 : Tok} {Di Dw Dp Da : Addr} {vsW vsP vsA vsI : List Value} {nI nW nP nA : Nat}
   (ho : (kfr.heap_1 w.params).lookup 146 = some ⟨oc, od, .func (fnOf name qual params body scope dV kV doc pm an cdv ct), osl⟩) (hst : stmts = (loopBody (body.drop 16)).drop 0) (B : Below A₀ base0 outer base) (X : (kfr.heap_1 w.params).In base) (T : Top hdv (looseW hdv hdl) mean mg mb base) (hdp : dp + 10 < recursionLimit) (hun : un + 100 < cLine) (hE : PassesOwn (model PySem.Challenge.rw_xg0046_01.row.prog w) (ktrTop dp un gd qual scope L ea ecd (cellsFrom (L + 1) scope.names []) outer) (envOfC qual scope L ea ecd) E)
   {c1 c2 c3 c4 c5 c6 c7 c8 : Obj} {inn : List (Addr × Obj)}
   {x1 x2 x4 : Option Value}
   (F : Fr base L s.heap m) (hm : ∀ p ∈ [(Str.ofString "far", Value.int far t1), (Str.ofString "distant", Value.int (reck its far) t2)], m p.1 = some p.2)
   (N : News base L s.heap ((Da, W.listOf vsA.toArray nA) :: (Dp, W.listOf vsP.toArray nP) :: (Dw, W.listOf vsW.toArray nW) :: (Di, W.listOf vsI.toArray nI) :: (L + 1 + 1 + 1 + 1 + 1 + 1 + 1 + 1, c8) :: (L + 1 + 1 + 1 + 1 + 1 + 1 + 1, c7) :: (L + 1 + 1 + 1 + 1 + 1 + 1, c6) :: (L + 1 + 1 + 1 + 1 + 1, c5) :: (L + 1 + 1 + 1 + 1, c4) :: (L + 1 + 1 + 1, c3) :: (L + 1 + 1, c2) :: (L + 1, c1) :: inn))
   (h1 : c1.data = .cell x1) (h2 : c2.data = .cell x2) (h3 : c3.data = .cell (some (Value.ref Di))) (h4 : c4.data = .cell x4) (h5 : c5.data = .cell (some (Value.ref Dw))) (h6 : c6.data = .cell (some (Value.ref Dp))) (h7 : c7.data = .cell (some (Value.ref Da))) (h8 : c8.data = .cell (some (Value.int mk t8)))
   (hT : OwnOff inn [L + 1 + 1 + 1 + 1 + 1 + 1 + 1 + 1, L + 1 + 1 + 1 + 1 + 1 + 1 + 1, L + 1 + 1 + 1 + 1 + 1 + 1, L + 1 + 1 + 1 + 1 + 1, L + 1 + 1 + 1 + 1, L + 1 + 1 + 1, L + 1 + 1, L + 1])
   (aDa : ApAll Da [L + 1 + 1 + 1 + 1 + 1 + 1 + 1 + 1, L + 1 + 1 + 1 + 1 + 1 + 1 + 1, L + 1 + 1 + 1 + 1 + 1 + 1, L + 1 + 1 + 1 + 1 + 1, L + 1 + 1 + 1 + 1, L + 1 + 1 + 1, L + 1 + 1, L + 1]) (aDp : ApAll Dp [L + 1 + 1 + 1 + 1 + 1 + 1 + 1 + 1, L + 1 + 1 + 1 + 1 + 1 + 1 + 1, L + 1 + 1 + 1 + 1 + 1 + 1, L + 1 + 1 + 1 + 1 + 1, L + 1 + 1 + 1 + 1, L + 1 + 1 + 1, L + 1 + 1, L + 1]) (aDw : ApAll Dw [L + 1 + 1 + 1 + 1 + 1 + 1 + 1 + 1, L + 1 + 1 + 1 + 1 + 1 + 1 + 1, L + 1 + 1 + 1 + 1 + 1 + 1, L + 1 + 1 + 1 + 1 + 1, L + 1 + 1 + 1 + 1, L + 1 + 1 + 1, L + 1 + 1, L + 1]) (aDi : ApAll Di [L + 1 + 1 + 1 + 1 + 1 + 1 + 1 + 1, L + 1 + 1 + 1 + 1 + 1 + 1 + 1, L + 1 + 1 + 1 + 1 + 1 + 1, L + 1 + 1 + 1 + 1 + 1, L + 1 + 1 + 1 + 1, L + 1 + 1 + 1, L + 1 + 1, L + 1])
   (hok : ∀ i ∈ its, i.Ok) (hlen : its.length ≤ 7) (hfar : far.natAbs < 2 ^ 36) (hm1 : 1 ≤ mk) (hm4 : mk ≤ 4) (hiI : ItemsIn inn vsI its) (hiP : IntsAre vsP (pathOf its 8)) (hiW : IntsAre vsW (worthsOf its)) (hiA : ListsIn inn vsA (alikesOf its 4))
   (hfin : ∀ h' m' tk' c2' c8' y2 y8, Fr base L h' m' → (∀ p ∈ [(Str.ofString "far", Value.int far t1), (Str.ofString "distant", Value.int (reck its far) t2)], m' p.1 = some p.2) → c2'.data = .cell y2 → c8'.data = .cell y8 → News base L h' ((Da, W.listOf vsA.toArray nA) :: (Dp, W.listOf vsP.toArray nP) :: (Dw, W.listOf vsW.toArray nW) :: (Di, W.listOf vsI.toArray nI) :: (L + 1 + 1 + 1 + 1 + 1 + 1 + 1 + 1, c8') :: (L + 1 + 1 + 1 + 1 + 1 + 1 + 1, c7) :: (L + 1 + 1 + 1 + 1 + 1 + 1, c6) :: (L + 1 + 1 + 1 + 1 + 1, c5) :: (L + 1 + 1 + 1 + 1, c4) :: (L + 1 + 1 + 1, c3) :: (L + 1 + 1, c2') :: (L + 1, c1) :: inn) → Q .next { s with heap := h', toks := tk' }) :
   wpAny (model PySem.Challenge.rw_xg0046_01.row.prog w) (ktrTop dp un gd qual scope L ea ecd (cellsFrom (L + 1) scope.names []) outer) (execs stmts (envOfC qual scope L ea ecd)) Q E s := by
  subst hst
  revert X
  k_fill
  intro X
  w_on
  have key : ∀ (o : Obj), (kfr.heap_1 w.params).lookup 146 = some o → o = ⟨oc, od, .func (fnOf name qual params body scope dV kV doc pm an cdv ct), osl⟩ := fun o e => Option.some.inj (e.symm.trans ho)
  have hfo9 := key _ (by k_is)
  clear key ho
  injection hfo9 with e1 e2 e3 e4
  injection e3 with e3
  injection e3 with f1 f2 f3 f4 f5
  injection f4 with f4
  subst f4
  subst f5
  subst f2
  (try clear hfo9)
  subst_vars
  dsimp only [List.drop, loopBody]
  replace F := FrJ.fr (x := Str.ofString "steps") (ps := [(Str.ofString "far", Value.int far t1), (Str.ofString "distant", Value.int (reck its far) t2)]) (stored := []) (m₀ := m) ⟨hm, fun _ _ _ _ => rfl⟩ F
  clear hm
  dsimp only [kstB] at F
  have kMark := kstMark
  have hpw : 2 ≤ (2 : Int) ^ mk.toNat ∧ (2 : Int) ^ mk.toNat ≤ 16 := by
    have : mk = 1 ∨ mk = 2 ∨ mk = 3 ∨ mk = 4 := by omega
    rcases this with e | e | e | e <;> rw [e] <;> decide
  have hpp : (0 : Int) ≤ 2 ^ mk.toNat := by omega
  have hWl : vsW.length ≤ 16 := by
    have h9 := hiW.length
    simp only [worthsOf, List.length_map, rangeKs_length] at h9
    omega
  have hwf := words_fact hok hm1 hm4
  have hdf := dist_fact hok far mk
  repeat' ((fail_if_success (with_reducible show wpAny _ _ (execs [_, _, _, _, _, _, _, _, _, _] (envOfC _ _ _ _ _)) _ _ _)); first | (k_unfold; (try dsimp only)) | (k_end; kc_close) | walk1 | (dsimp only; walk1) | (leave1; walk_say "STEP leave1"; (try dsimp only)) | fail "no step")
  (rename IntsAre _ _ => hys); (rename (_ ∧ _) => o9)
  rename_i Dn hX tX FX NX
  have aDn : ApAll Dn [L + 1 + 1 + 1 + 1 + 1 + 1 + 1 + 1, L + 1 + 1 + 1 + 1 + 1 + 1 + 1, L + 1 + 1 + 1 + 1 + 1 + 1, L + 1 + 1 + 1 + 1 + 1, L + 1 + 1 + 1 + 1, L + 1 + 1 + 1, L + 1 + 1, L + 1] := by repeat' (first | exact ap_nil _ | refine ap_cons (by omega) ?_)
  clear o9
  repeat' ((fail_if_success (with_reducible show wpAny _ _ (execs [_, _, _, _, _, _, _, _, _] (envOfC _ _ _ _ _)) _ _ _)); first | (k_unfold; (try dsimp only)) | (k_end; kc_close) | walk1 | (dsimp only; walk1) | (leave1; walk_say "STEP leave1"; (try dsimp only)) | fail "no step")
  dsimp only
  repeat' ((fail_if_success (with_reducible show wpAny _ _ (execs [_, _, _, _, _, _, _, _] (envOfC _ _ _ _ _)) _ _ _)); first | (k_unfold; (try dsimp only)) | (k_end; kc_close) | walk1 | (dsimp only; walk1) | (leave1; walk_say "STEP leave1"; (try dsimp only)) | fail "no step")
  · exact absurd hdf (by assumption)
  · dsimp only
    k_dflt (refine' piece_t2 (Dq := Dn) (Da := Da) (Dp := Dp) (Dw := Dw) (Di := Di) (inn := inn) ?ho ?hst ?B ?X ?T ?hdp ?hun ?hE ?F ?hm ?N ?h1 ?h2 ?h3 ?h4 ?h5 ?h6 ?h7 ?h8 ?hT ?aDq ?aDa ?aDp ?aDw ?aDi ?f1 ?f2 ?f3 ?f4 ?f5 ?f6 ?f7 ?f8 ?f9 ?f10 ?f11)
    (case ho => k_is)
    (case hst => rfl)
    (case B => k_asm)
    (case X => k_asm)
    (case T => k_asm)
    (case hdp => assumption)
    (case hun => assumption)
    (case hE => assumption)
    (case F => k_asm)
    (case hm => kst_all)
    (case N => (refine kst_newsOf (by k_asm) ?_; (repeat (refine List.forall_mem_cons.mpr (And.intro (by k_mem) ?_))); intro p9 hp9; (repeat (first | exact hp9 | apply List.mem_cons_of_mem))))
    (case h1 => assumption)
    (case h2 => assumption)
    (case h3 => assumption)
    (case h4 => assumption)
    (case h5 => assumption)
    (case h6 => assumption)
    (case h7 => assumption)
    (case h8 => assumption)
    (case hT => exact off_sub hT (fun b hb => hb))
    (case aDq => assumption)
    (case aDa => assumption)
    (case aDp => assumption)
    (case aDw => assumption)
    (case aDi => assumption)
    (case f1 => assumption)
    (case f2 => assumption)
    (case f3 => assumption)
    (case f4 => assumption)
    (case f5 => assumption)
    (case f6 => assumption)
    (case f7 => assumption)
    (case f8 => assumption)
    (case f9 => assumption)
    (case f10 => exact hys)
    (case f11 => exact fun a1 a2 a3 a4 a5 a6 a7 b1 b2 b3 b4 b5 => hfin a1 a2 a3 a4 a5 a6 a7 b1 b2 b3 b4 b5)
end
end Mine
end
section
open PySem PySem.W PyProof.Rows PySem.Calls Mine
namespace Mine
section
set_option maxRecDepth 100000 in
set_option maxHeartbeats 8000000 in
theorem piece_g {w : World} {mean : ExcName → Option Value} {mg mb : Str → Option Value} {dp un : Nat} {gd : Option (List Code)} {A₀ : Around} {base base0 : Heap} {outer : List Env} {name qual : Str} {params : Arguments} {body stmts : List Stmt} {scope : Scope} {dV kV doc pm cdv ct oc : Value} {an od : Option Addr} {osl : Array (Option Value)} {L ea : Addr} {ecd : Value} {m : Str → Option Value} {s : Shared} {Q : Flow → Shared → Prop} {E : Value → Shared → Prop}
   {its : List It} {mks : List Int} {far : Int} {t1 t2 : Tok} {Dm Di Dw Dp Da : Addr} {vsM vsW vsP vsA vsI : List Value} {nM nI nW nP nA : Nat}
   (ho : (kfr.heap_1 w.params).lookup 146 = some ⟨oc, od, .func (fnOf name qual params body scope dV kV doc pm an cdv ct), osl⟩) (hst : stmts = body.drop 16) (B : Below A₀ base0 outer base) (X : (kfr.heap_1 w.params).In base) (T : Top hdv (looseW hdv hdl) mean mg mb base) (hdp : dp + 10 < recursionLimit) (hun : un + 100 < cLine) (hE : PassesOwn (model PySem.Challenge.rw_xg0046_01.row.prog w) (ktrTop dp un gd qual scope L ea ecd (cellsFrom (L + 1) scope.names []) outer) (envOfC qual scope L ea ecd) E)
   {c1 c2 c3 c4 c5 c6 c7 c8 : Obj} {inn : List (Addr × Obj)}
   {x1 x2 x4 x8 : Option Value}
   (F : Fr base L s.heap m) (hm : ∀ p ∈ [(Str.ofString "far", Value.int far t1), (Str.ofString "marks", Value.ref Dm), (Str.ofString "distant", Value.int (reck its far) t2)], m p.1 = some p.2)
   (N : News base L s.heap ((Da, W.listOf vsA.toArray nA) :: (Dp, W.listOf vsP.toArray nP) :: (Dw, W.listOf vsW.toArray nW) :: (Di, W.listOf vsI.toArray nI) :: (Dm, W.listOf vsM.toArray nM) :: (L + 1 + 1 + 1 + 1 + 1 + 1 + 1 + 1, c8) :: (L + 1 + 1 + 1 + 1 + 1 + 1 + 1, c7) :: (L + 1 + 1 + 1 + 1 + 1 + 1, c6) :: (L + 1 + 1 + 1 + 1 + 1, c5) :: (L + 1 + 1 + 1 + 1, c4) :: (L + 1 + 1 + 1, c3) :: (L + 1 + 1, c2) :: (L + 1, c1) :: inn))
   (h1 : c1.data = .cell x1) (h2 : c2.data = .cell x2) (h3 : c3.data = .cell (some (Value.ref Di))) (h4 : c4.data = .cell x4) (h5 : c5.data = .cell (some (Value.ref Dw))) (h6 : c6.data = .cell (some (Value.ref Dp))) (h7 : c7.data = .cell (some (Value.ref Da))) (h8 : c8.data = .cell x8)
   (hT : OwnOff inn [L + 1 + 1 + 1 + 1 + 1 + 1 + 1 + 1, L + 1 + 1 + 1 + 1 + 1 + 1 + 1, L + 1 + 1 + 1 + 1 + 1 + 1, L + 1 + 1 + 1 + 1 + 1, L + 1 + 1 + 1 + 1, L + 1 + 1 + 1, L + 1 + 1, L + 1])
   (aDa : ApAll Da [L + 1 + 1 + 1 + 1 + 1 + 1 + 1 + 1, L + 1 + 1 + 1 + 1 + 1 + 1 + 1, L + 1 + 1 + 1 + 1 + 1 + 1, L + 1 + 1 + 1 + 1 + 1, L + 1 + 1 + 1 + 1, L + 1 + 1 + 1, L + 1 + 1, L + 1]) (aDp : ApAll Dp [L + 1 + 1 + 1 + 1 + 1 + 1 + 1 + 1, L + 1 + 1 + 1 + 1 + 1 + 1 + 1, L + 1 + 1 + 1 + 1 + 1 + 1, L + 1 + 1 + 1 + 1 + 1, L + 1 + 1 + 1 + 1, L + 1 + 1 + 1, L + 1 + 1, L + 1]) (aDw : ApAll Dw [L + 1 + 1 + 1 + 1 + 1 + 1 + 1 + 1, L + 1 + 1 + 1 + 1 + 1 + 1 + 1, L + 1 + 1 + 1 + 1 + 1 + 1, L + 1 + 1 + 1 + 1 + 1, L + 1 + 1 + 1 + 1, L + 1 + 1 + 1, L + 1 + 1, L + 1]) (aDi : ApAll Di [L + 1 + 1 + 1 + 1 + 1 + 1 + 1 + 1, L + 1 + 1 + 1 + 1 + 1 + 1 + 1, L + 1 + 1 + 1 + 1 + 1 + 1, L + 1 + 1 + 1 + 1 + 1, L + 1 + 1 + 1 + 1, L + 1 + 1 + 1, L + 1 + 1, L + 1]) (aDm : ApAll Dm [L + 1 + 1 + 1 + 1 + 1 + 1 + 1 + 1, L + 1 + 1 + 1 + 1 + 1 + 1 + 1, L + 1 + 1 + 1 + 1 + 1 + 1, L + 1 + 1 + 1 + 1 + 1, L + 1 + 1 + 1 + 1, L + 1 + 1 + 1, L + 1 + 1, L + 1])
   (hok : ∀ i ∈ its, i.Ok) (hlen : its.length ≤ 7) (hfar : far.natAbs < 2 ^ 36) (hiI : ItemsIn inn vsI its) (hiM : IntsAre vsM mks) (hmk : ∀ x ∈ mks, 1 ≤ x) (hmz : mks.length ≤ 4) (hiP : IntsAre vsP (pathOf its 8)) (hiW : IntsAre vsW (worthsOf its)) (hiA : ListsIn inn vsA (alikesOf its 4))
   (hQ : ∀ h' tk' m', Fr base L h' m' → Q (.ret (.bool true)) { s with heap := h', toks := tk' }) :
   wpAny (model PySem.Challenge.rw_xg0046_01.row.prog w) (ktrTop dp un gd qual scope L ea ecd (cellsFrom (L + 1) scope.names []) outer) (execs stmts (envOfC qual scope L ea ecd)) Q E s := by
  subst hst
  revert X
  k_fill
  intro X
  w_on
  have key : ∀ (o : Obj), (kfr.heap_1 w.params).lookup 146 = some o → o = ⟨oc, od, .func (fnOf name qual params body scope dV kV doc pm an cdv ct), osl⟩ := fun o e => Option.some.inj (e.symm.trans ho)
  have hfo9 := key _ (by k_is)
  clear key ho
  injection hfo9 with e1 e2 e3 e4
  injection e3 with e3
  injection e3 with f1 f2 f3 f4 f5
  injection f4 with f4
  subst f4
  subst f5
  subst f2
  (try clear hfo9)
  subst_vars
  dsimp only [List.drop, loopBody]
  replace F := FrJ.fr (x := Str.ofString "steps") (ps := [(Str.ofString "far", Value.int far t1), (Str.ofString "marks", Value.ref Dm), (Str.ofString "distant", Value.int (reck its far) t2)]) (stored := []) (m₀ := m) ⟨hm, fun _ _ _ _ => rfl⟩ F
  clear hm
  dsimp only [kstB] at F
  have kMark := kstMark
  repeat' ((fail_if_success (with_reducible show wpAny _ _ (exec (Stmt.For _ _ _ _ _) _) _ _ _)); first | (k_unfold; (try dsimp only)) | (k_end; kc_close) | walk1 | (dsimp only; walk1) | (leave1; walk_say "STEP leave1"; (try dsimp only)) | fail "no step")
  (rename Fr _ _ _ _ => lF'); (rename News _ _ _ _ => lN')
  with_unfolding_all refine' For_turns (hE := hE) lF' ?_
  repeat' ((fail_if_success (with_reducible show wpAny _ _ (eval (PySem.Expr.ListComp _ _ _ _) _) _ _ _)); first | (k_unfold; (try dsimp only)) | (k_end; kc_close) | walk1 | (dsimp only; walk1) | (leave1; walk_say "STEP leave1"; (try dsimp only)) | fail "no step")
  k_dflt (refine LCt.ListComp_T (F₀ := by k_asm) (by with_unfolding_all rfl) (by decide) (by rfl) (by decide) (by rfl) ?_)
  repeat' ((fail_if_success (with_reducible show LCt.CompSrcT _ _ _ _ _ _ _ _ _ _ _ _ _ _ _)); first | (k_unfold; (try dsimp only)) | (k_end; kc_close) | walk1 | (dsimp only; walk1) | (leave1; walk_say "STEP leave1"; (try dsimp only)) | fail "no step")
  have hMl : vsM.toArray.size = mks.length := by rw [List.size_toArray, hiM.length]
  k_dflt (refine LCt.CompSrcT.ledger (ax := Dm) (its := vsM.toArray) (by rfl) (by k_asm) (by k_asm) (by k_mem) (by rw [PySem.sizeLine_eq, hMl]; omega) ?_)
  intro g'
  refine' ct_rest (ks := mks) (fun k => decide (k ≤ 4)) hMl.symm (fun i v _ hv => by obtain ⟨k, t, e, hk⟩ := IntsAre.at hiM i v (by simpa using hv); exact ⟨k, t, hk, e⟩) ?_ ?_
  · intro k' t' I' oI' C' oC' D' m' ys' h' tk' E' hk' hC' hx' F' N' off' ne'
    repeat' ((fail_if_success (with_reducible show TEnd _ _ _ _ _ _ _ _ _)); (fail_if_success (with_reducible show RetP _ _ _)); (fail_if_success (with_reducible show WhileStep2 _ _ _ _ _ _ _ _)); first | (k_unfold; (try dsimp only)) | walk1 | (dsimp only; walk1) | (leave1; walk_say "STEP leave1"; (try dsimp only)) | fail "no step")
  intro ys hys
  repeat' ((fail_if_success (with_reducible show wpAny _ _ (pyIter (Value.ref _)) _ _ _)); first | (k_unfold; (try dsimp only)) | (k_end; kc_close) | walk1 | (dsimp only; walk1) | (leave1; walk_say "STEP leave1"; (try dsimp only)) | fail "no step")
  (rename (_ ∧ _) => o9); (rename Fr _ _ _ _ => lF'); (rename News _ _ _ _ => lN')
  rename_i Df hX tX
  have aDf : ApAll Df [L + 1 + 1 + 1 + 1 + 1 + 1 + 1 + 1, L + 1 + 1 + 1 + 1 + 1 + 1 + 1, L + 1 + 1 + 1 + 1 + 1 + 1, L + 1 + 1 + 1 + 1 + 1, L + 1 + 1 + 1 + 1, L + 1 + 1 + 1, L + 1 + 1, L + 1] := by repeat' (first | exact ap_nil _ | refine ap_cons (by omega) ?_)
  clear o9
  have hfl : L ≠ Df := fun e => (lN' _ (List.mem_cons_self ..)).2.1 e.symm
  have lN0 : News base L hX ((Da, W.listOf vsA.toArray nA) :: (Dp, W.listOf vsP.toArray nP) :: (Dw, W.listOf vsW.toArray nW) :: (Di, W.listOf vsI.toArray nI) :: (L + 1 + 1 + 1 + 1 + 1 + 1 + 1 + 1, c8) :: (L + 1 + 1 + 1 + 1 + 1 + 1 + 1, c7) :: (L + 1 + 1 + 1 + 1 + 1 + 1, c6) :: (L + 1 + 1 + 1 + 1 + 1, c5) :: (L + 1 + 1 + 1 + 1, c4) :: (L + 1 + 1 + 1, c3) :: (L + 1 + 1, c2) :: (L + 1, c1) :: inn) := (by (refine kst_newsOf lN' ?_; (repeat (refine List.forall_mem_cons.mpr (And.intro (by k_mem) ?_))); intro p9 hp9; (repeat (first | exact hp9 | apply List.mem_cons_of_mem))))
  with_unfolding_all refine' turns_list (l := Df) (vs := ys) (fun i m9 nw => (∀ p ∈ [(Str.ofString "far", Value.int far t1), (Str.ofString "distant", Value.int (reck its far) t2)], m9 p.1 = some p.2) ∧ ∃ c2' c8' y2 y8, nw = (Da, W.listOf vsA.toArray nA) :: (Dp, W.listOf vsP.toArray nP) :: (Dw, W.listOf vsW.toArray nW) :: (Di, W.listOf vsI.toArray nI) :: (L + 1 + 1 + 1 + 1 + 1 + 1 + 1 + 1, c8') :: (L + 1 + 1 + 1 + 1 + 1 + 1 + 1, c7) :: (L + 1 + 1 + 1 + 1 + 1 + 1, c6) :: (L + 1 + 1 + 1 + 1 + 1, c5) :: (L + 1 + 1 + 1 + 1, c4) :: (L + 1 + 1 + 1, c3) :: (L + 1 + 1, c2') :: (L + 1, c1) :: inn ∧ c2'.data = .cell y2 ∧ c8'.data = .cell y8) (by rfl) ⟨_, (lN' _ (List.mem_cons_self ..)).1, rfl, _, rfl⟩ hfl lF' lN0 ⟨by kst_all, c2, c8, x2, x8, rfl, by assumption, by assumption⟩ ?kt ?kd
  (case kd =>
    clear lF' lN' lN0
    rintro m9 nw h tk ⟨hm9, c2', c8', y2, y8, rfl, h2', h8'⟩ F9 N9
    dsimp only
    repeat' ((fail_if_success (with_reducible show TEnd _ _ _ _ _ _ _ _ _)); (fail_if_success (with_reducible show RetP _ _ _)); (fail_if_success (with_reducible show WhileStep2 _ _ _ _ _ _ _ _)); first | (k_unfold; (try dsimp only)) | walk1 | (dsimp only; walk1) | (leave1; walk_say "STEP leave1"; (try dsimp only)) | fail "no step")
    dsimp only
    exact hQ _ _ _ (by assumption))
  rintro i v m9 nw h tk own I hv ⟨hm9, c2', c8', y2, y8, rfl, h2', h8'⟩ hnI hnI1 hown hIo hlh hIl F9 N9
  clear lF' lN' lN0 hnI hIo hlh hIl
  obtain ⟨mk, t8, rfl, hmk9⟩ := IntsAre.at hys i v hv
  have hmkm := List.mem_filter.mp (List.mem_of_getElem? hmk9)
  have hm1 := hmk mk hmkm.1
  have hm4 : mk ≤ 4 := of_decide_eq_true hmkm.2
  obtain ⟨T, hTT⟩ : ∃ T, T = inn ++ own := ⟨_, rfl⟩
  have hT8 : OwnOff T [L + 1 + 1 + 1 + 1 + 1 + 1 + 1 + 1, L + 1 + 1 + 1 + 1 + 1 + 1 + 1, L + 1 + 1 + 1 + 1 + 1 + 1, L + 1 + 1 + 1 + 1 + 1, L + 1 + 1 + 1 + 1, L + 1 + 1 + 1, L + 1 + 1, L + 1] := by
    rw [hTT]
    refine own_off2 hown hnI1 aDf hT ?_
    repeat' (first | exact List.forall_mem_nil _ | refine List.forall_mem_cons.mpr ⟨⟨_, by k_mem⟩, ?_⟩)
  have N8 := news_start (A := [(Da, W.listOf vsA.toArray nA), (Dp, W.listOf vsP.toArray nP), (Dw, W.listOf vsW.toArray nW), (Di, W.listOf vsI.toArray nI), (L + 1 + 1 + 1 + 1 + 1 + 1 + 1 + 1, c8'), (L + 1 + 1 + 1 + 1 + 1 + 1 + 1, c7), (L + 1 + 1 + 1 + 1 + 1 + 1, c6), (L + 1 + 1 + 1 + 1 + 1, c5), (L + 1 + 1 + 1 + 1, c4), (L + 1 + 1 + 1, c3), (L + 1 + 1, c2'), (L + 1, c1)]) N9 hTT
  simp only [List.cons_append, List.nil_append] at N8
  clear N9
  replace F9 := FrJ.fr (x := Str.ofString "steps") (ps := [(Str.ofString "far", Value.int far t1), (Str.ofString "distant", Value.int (reck its far) t2)]) (stored := []) (m₀ := m9) ⟨hm9, fun _ _ _ _ => rfl⟩ F9
  dsimp only [kstB] at F9
  repeat' ((fail_if_success (with_reducible show wpAny _ _ (execs [_, _, _, _, _, _, _, _, _, _, _] (envOfC _ _ _ _ _)) _ _ _)); first | (k_unfold; (try dsimp only)) | (k_end; kc_close) | walk1 | (dsimp only; walk1) | (leave1; walk_say "STEP leave1"; (try dsimp only)) | fail "no step")
  k_dflt (refine' piece_t1 (Da := Da) (Dp := Dp) (Dw := Dw) (Di := Di) (inn := T) ?ho ?hst ?B ?X ?T ?hdp ?hun ?hE ?F ?hm ?N ?h1 ?h2 ?h3 ?h4 ?h5 ?h6 ?h7 ?h8 ?hT ?aDa ?aDp ?aDw ?aDi ?f1 ?f2 ?f3 ?f4 ?f5 ?f6 ?f7 ?f8 ?f9 ?f10)
  (case ho => k_is)
  (case hst => rfl)
  (case B => k_asm)
  (case X => k_asm)
  (case T => k_asm)
  (case hdp => assumption)
  (case hun => assumption)
  (case hE => assumption)
  (case F => k_asm)
  (case hm => kst_all)
  (case N => (refine kst_newsOf (by k_asm) ?_; (repeat (refine List.forall_mem_cons.mpr (And.intro (by k_mem) ?_))); intro p9 hp9; (repeat (first | exact hp9 | apply List.mem_cons_of_mem))))
  (case h1 => assumption)
  (case h2 => assumption)
  (case h3 => assumption)
  (case h4 => assumption)
  (case h5 => assumption)
  (case h6 => assumption)
  (case h7 => assumption)
  (case h8 => assumption)
  (case hT => exact off_sub hT8 (fun b hb => hb))
  (case aDa => assumption)
  (case aDp => assumption)
  (case aDw => assumption)
  (case aDi => assumption)
  (case f1 => assumption)
  (case f2 => assumption)
  (case f3 => assumption)
  (case f4 => assumption)
  (case f5 => assumption)
  (case f6 => exact ItemsIn.mono hiI (fun p hp => by rw [hTT]; exact List.mem_append_left _ hp))
  (case f7 => assumption)
  (case f8 => assumption)
  (case f9 => exact ListsIn.mono hiA (fun p hp => by rw [hTT]; exact List.mem_append_left _ hp))
  (case f10 => (intro hh mm tt k2' k8' z2 z8 Fk hk d2 d8 Nk; refine' TEnd.mk Fk (news_end (A := [(Da, W.listOf vsA.toArray nA), (Dp, W.listOf vsP.toArray nP), (Dw, W.listOf vsW.toArray nW), (Di, W.listOf vsI.toArray nI), (L + 1 + 1 + 1 + 1 + 1 + 1 + 1 + 1, k8'), (L + 1 + 1 + 1 + 1 + 1 + 1 + 1, c7), (L + 1 + 1 + 1 + 1 + 1 + 1, c6), (L + 1 + 1 + 1 + 1 + 1, c5), (L + 1 + 1 + 1 + 1, c4), (L + 1 + 1 + 1, c3), (L + 1 + 1, k2'), (L + 1, c1)]) Nk hTT ?hA9 ?h39) ?hI9 ⟨hk, k2', k8', z2, z8, rfl, d2, d8⟩; (case hA9 => repeat' (first | exact List.forall_mem_nil _ | refine List.forall_mem_cons.mpr (And.intro (by k_mem) ?_))); (case h39 => intro p9 hp9; (repeat (first | exact hp9 | apply List.mem_cons_of_mem))); (case hI9 => exact ne_same (A := [(Da, W.listOf vsA.toArray nA), (Dp, W.listOf vsP.toArray nP), (Dw, W.listOf vsW.toArray nW), (Di, W.listOf vsI.toArray nI), (L + 1 + 1 + 1 + 1 + 1 + 1 + 1 + 1, c8'), (L + 1 + 1 + 1 + 1 + 1 + 1 + 1, c7), (L + 1 + 1 + 1 + 1 + 1 + 1, c6), (L + 1 + 1 + 1 + 1 + 1, c5), (L + 1 + 1 + 1 + 1, c4), (L + 1 + 1 + 1, c3), (L + 1 + 1, c2'), (L + 1, c1)]) (rest := inn) rfl hnI1)))
end
end Mine
end
section
open PySem PySem.W PyProof.Rows PySem.Calls Mine
namespace Mine
section
set_option maxRecDepth 100000 in
set_option maxHeartbeats 8000000 in
theorem piece_f {w : World} {mean : ExcName → Option Value} {mg mb : Str → Option Value} {dp un : Nat} {gd : Option (List Code)} {A₀ : Around} {base base0 : Heap} {outer : List Env} {name qual : Str} {params : Arguments} {body stmts : List Stmt} {scope : Scope} {dV kV doc pm cdv ct oc : Value} {an od : Option Addr} {osl : Array (Option Value)} {L ea : Addr} {ecd : Value} {m : Str → Option Value} {s : Shared} {Q : Flow → Shared → Prop} {E : Value → Shared → Prop}
   {its : List It} {mks : List Int} {far : Int} {t1 t2 : Tok} {Dm Di Dw Dp : Addr} {vsM vsW vsP vsI : List Value} {nM nI nW nP : Nat}
   (ho : (kfr.heap_1 w.params).lookup 146 = some ⟨oc, od, .func (fnOf name qual params body scope dV kV doc pm an cdv ct), osl⟩) (hst : stmts = body.drop 14) (B : Below A₀ base0 outer base) (X : (kfr.heap_1 w.params).In base) (T : Top hdv (looseW hdv hdl) mean mg mb base) (hdp : dp + 10 < recursionLimit) (hun : un + 100 < cLine) (hE : PassesOwn (model PySem.Challenge.rw_xg0046_01.row.prog w) (ktrTop dp un gd qual scope L ea ecd (cellsFrom (L + 1) scope.names []) outer) (envOfC qual scope L ea ecd) E)
   {c1 c2 c3 c4 c5 c6 c7 c8 : Obj} {inn : List (Addr × Obj)}
   {x1 x2 x4 x7 x8 : Option Value}
   (F : Fr base L s.heap m) (hm : ∀ p ∈ [(Str.ofString "far", Value.int far t1), (Str.ofString "marks", Value.ref Dm), (Str.ofString "distant", Value.int (reck its far) t2)], m p.1 = some p.2)
   (N : News base L s.heap ((Dp, W.listOf vsP.toArray nP) :: (Dw, W.listOf vsW.toArray nW) :: (Di, W.listOf vsI.toArray nI) :: (Dm, W.listOf vsM.toArray nM) :: (L + 1 + 1 + 1 + 1 + 1 + 1 + 1 + 1, c8) :: (L + 1 + 1 + 1 + 1 + 1 + 1 + 1, c7) :: (L + 1 + 1 + 1 + 1 + 1 + 1, c6) :: (L + 1 + 1 + 1 + 1 + 1, c5) :: (L + 1 + 1 + 1 + 1, c4) :: (L + 1 + 1 + 1, c3) :: (L + 1 + 1, c2) :: (L + 1, c1) :: inn))
   (h1 : c1.data = .cell x1) (h2 : c2.data = .cell x2) (h3 : c3.data = .cell (some (Value.ref Di))) (h4 : c4.data = .cell x4) (h5 : c5.data = .cell (some (Value.ref Dw))) (h6 : c6.data = .cell (some (Value.ref Dp))) (h7 : c7.data = .cell x7) (h8 : c8.data = .cell x8)
   (hT : OwnOff inn [L + 1 + 1 + 1 + 1 + 1 + 1 + 1 + 1, L + 1 + 1 + 1 + 1 + 1 + 1 + 1, L + 1 + 1 + 1 + 1 + 1 + 1, L + 1 + 1 + 1 + 1 + 1, L + 1 + 1 + 1 + 1, L + 1 + 1 + 1, L + 1 + 1, L + 1])
   (aDp : ApAll Dp [L + 1 + 1 + 1 + 1 + 1 + 1 + 1 + 1, L + 1 + 1 + 1 + 1 + 1 + 1 + 1, L + 1 + 1 + 1 + 1 + 1 + 1, L + 1 + 1 + 1 + 1 + 1, L + 1 + 1 + 1 + 1, L + 1 + 1 + 1, L + 1 + 1, L + 1]) (aDw : ApAll Dw [L + 1 + 1 + 1 + 1 + 1 + 1 + 1 + 1, L + 1 + 1 + 1 + 1 + 1 + 1 + 1, L + 1 + 1 + 1 + 1 + 1 + 1, L + 1 + 1 + 1 + 1 + 1, L + 1 + 1 + 1 + 1, L + 1 + 1 + 1, L + 1 + 1, L + 1]) (aDi : ApAll Di [L + 1 + 1 + 1 + 1 + 1 + 1 + 1 + 1, L + 1 + 1 + 1 + 1 + 1 + 1 + 1, L + 1 + 1 + 1 + 1 + 1 + 1, L + 1 + 1 + 1 + 1 + 1, L + 1 + 1 + 1 + 1, L + 1 + 1 + 1, L + 1 + 1, L + 1]) (aDm : ApAll Dm [L + 1 + 1 + 1 + 1 + 1 + 1 + 1 + 1, L + 1 + 1 + 1 + 1 + 1 + 1 + 1, L + 1 + 1 + 1 + 1 + 1 + 1, L + 1 + 1 + 1 + 1 + 1, L + 1 + 1 + 1 + 1, L + 1 + 1 + 1, L + 1 + 1, L + 1])
   (hok : ∀ i ∈ its, i.Ok) (hlen : its.length ≤ 7) (hfar : far.natAbs < 2 ^ 36) (hiI : ItemsIn inn vsI its) (hiM : IntsAre vsM mks) (hmk : ∀ x ∈ mks, 1 ≤ x) (hmz : mks.length ≤ 4) (hiP : IntsAre vsP (pathOf its 8)) (hiW : IntsAre vsW (worthsOf its))
   (hQ : ∀ h' tk' m', Fr base L h' m' → Q (.ret (.bool true)) { s with heap := h', toks := tk' }) :
   wpAny (model PySem.Challenge.rw_xg0046_01.row.prog w) (ktrTop dp un gd qual scope L ea ecd (cellsFrom (L + 1) scope.names []) outer) (execs stmts (envOfC qual scope L ea ecd)) Q E s := by
  subst hst
  revert X
  k_fill
  intro X
  w_on
  have key : ∀ (o : Obj), (kfr.heap_1 w.params).lookup 146 = some o → o = ⟨oc, od, .func (fnOf name qual params body scope dV kV doc pm an cdv ct), osl⟩ := fun o e => Option.some.inj (e.symm.trans ho)
  have hfo9 := key _ (by k_is)
  clear key ho
  injection hfo9 with e1 e2 e3 e4
  injection e3 with e3
  injection e3 with f1 f2 f3 f4 f5
  injection f4 with f4
  subst f4
  subst f5
  subst f2
  (try clear hfo9)
  subst_vars
  dsimp only [List.drop, loopBody]
  replace F := FrJ.fr (x := Str.ofString "steps") (ps := [(Str.ofString "far", Value.int far t1), (Str.ofString "marks", Value.ref Dm), (Str.ofString "distant", Value.int (reck its far) t2)]) (stored := []) (m₀ := m) ⟨hm, fun _ _ _ _ => rfl⟩ F
  clear hm
  dsimp only [kstB] at F
  have kMark := kstMark
  repeat' ((fail_if_success (with_reducible show wpAny _ _ (exec (Stmt.For _ _ _ _ _) _) _ _ _)); first | (k_unfold; (try dsimp only)) | (k_end; kc_close) | walk1 | (dsimp only; walk1) | (leave1; walk_say "STEP leave1"; (try dsimp only)) | fail "no step")
  (rename Fr _ _ _ _ => lF'); (rename News _ _ _ _ => lN')
  rename_i Da hA lt9 hB o7 d7
  have aDa : ApAll Da [L + 1 + 1 + 1 + 1 + 1 + 1 + 1 + 1, L + 1 + 1 + 1 + 1 + 1 + 1 + 1, L + 1 + 1 + 1 + 1 + 1 + 1, L + 1 + 1 + 1 + 1 + 1, L + 1 + 1 + 1 + 1, L + 1 + 1 + 1, L + 1 + 1, L + 1] := by repeat' (first | exact ap_nil _ | refine ap_cons (by omega) ?_)
  have hTa : OwnOff inn [Da, L + 1 + 1 + 1 + 1 + 1 + 1 + 1 + 1, L + 1 + 1 + 1 + 1 + 1 + 1 + 1, L + 1 + 1 + 1 + 1 + 1 + 1, L + 1 + 1 + 1 + 1 + 1, L + 1 + 1 + 1 + 1, L + 1 + 1 + 1, L + 1 + 1, L + 1] := off_of_lt lt9.2.2.2.2.2.2.2.2.2.2.2.2 hT
  with_unfolding_all refine' For_turns (hE := hE) lF' ?_
  repeat' ((fail_if_success (with_reducible show wpAny _ _ (pyIter (Value.ref _)) _ _ _)); first | (k_unfold; (try dsimp only)) | (k_end; kc_close) | walk1 | (dsimp only; walk1) | (leave1; walk_say "STEP leave1"; (try dsimp only)) | fail "no step")
  (rename IsRange _ _ _ _ _ _ _ _ => rgX); (rename Fr _ _ _ _ => lF'); (rename News _ _ _ _ => lN')
  refine' turns_range (n := 4) (fun i m9 nw => m9 = _ ∧ ∃ vsA nA c2' y2 al, nw = (Da, W.listOf vsA.toArray nA) :: (Dp, W.listOf vsP.toArray nP) :: (Dw, W.listOf vsW.toArray nW) :: (Di, W.listOf vsI.toArray nI) :: (Dm, W.listOf vsM.toArray nM) :: (L + 1 + 1 + 1 + 1 + 1 + 1 + 1 + 1, c8) :: (L + 1 + 1 + 1 + 1 + 1 + 1 + 1, o7) :: (L + 1 + 1 + 1 + 1 + 1 + 1, c6) :: (L + 1 + 1 + 1 + 1 + 1, c5) :: (L + 1 + 1 + 1 + 1, c4) :: (L + 1 + 1 + 1, c3) :: (L + 1 + 1, c2') :: (L + 1, c1) :: (al ++ inn) ∧ c2'.data = .cell y2 ∧ OwnOff al [Da, L + 1 + 1 + 1 + 1 + 1 + 1 + 1 + 1, L + 1 + 1 + 1 + 1 + 1 + 1 + 1, L + 1 + 1 + 1 + 1 + 1 + 1, L + 1 + 1 + 1 + 1 + 1, L + 1 + 1 + 1 + 1, L + 1 + 1 + 1, L + 1 + 1, L + 1] ∧ ListsIn al vsA (alikesOf its i) ∧ (∀ p ∈ al, ∃ us n, p.2 = W.listOf us n)) (by rfl) rgX (by decide) (by decide) lF' lN' ⟨rfl, [], 0, c2, x2, [], rfl, by assumption, (fun p hp => by cases hp), ListsIn.nil, (fun p hp => by cases hp)⟩ ?kt ?kd
  (case kd =>
    clear lF' lN'
    rintro m9 nw h tk ⟨rfl, vsA, nA, c2', y2, al, rfl, h2', hal, hiA, hal2⟩ F9 N9
    dsimp only
    k_dflt (refine' piece_g (Da := Da) (Dp := Dp) (Dw := Dw) (Di := Di) (Dm := Dm) (inn := (al ++ inn)) ?ho ?hst ?B ?X ?T ?hdp ?hun ?hE ?F ?hm ?N ?h1 ?h2 ?h3 ?h4 ?h5 ?h6 ?h7 ?h8 ?hT ?aDa ?aDp ?aDw ?aDi ?aDm ?f1 ?f2 ?f3 ?f4 ?f5 ?f6 ?f7 ?f8 ?f9 ?f10 ?f11)
    (case ho => k_is)
    (case hst => rfl)
    (case B => k_asm)
    (case X => k_asm)
    (case T => k_asm)
    (case hdp => assumption)
    (case hun => assumption)
    (case hE => assumption)
    (case F => k_asm)
    (case hm => kst_all)
    (case N => (refine kst_newsOf (by k_asm) ?_; (repeat (refine List.forall_mem_cons.mpr (And.intro (by k_mem) ?_))); intro p9 hp9; (repeat (first | exact hp9 | apply List.mem_cons_of_mem))))
    (case h1 => assumption)
    (case h2 => assumption)
    (case h3 => assumption)
    (case h4 => assumption)
    (case h5 => assumption)
    (case h6 => assumption)
    (case h7 => assumption)
    (case h8 => assumption)
    (case hT => exact off_app (off_sub hal (fun b hb => List.mem_cons_of_mem _ hb)) (off_sub hTa (fun b hb => List.mem_cons_of_mem _ hb)))
    (case aDa => assumption)
    (case aDp => assumption)
    (case aDw => assumption)
    (case aDi => assumption)
    (case aDm => assumption)
    (case f1 => assumption)
    (case f2 => assumption)
    (case f3 => assumption)
    (case f4 => exact ItemsIn.mono hiI (fun p hp => List.mem_append_right _ hp))
    (case f5 => assumption)
    (case f6 => assumption)
    (case f7 => assumption)
    (case f8 => assumption)
    (case f9 => assumption)
    (case f10 => exact ListsIn.mono hiA (fun p hp => List.mem_append_left _ hp))
    (case f11 => exact fun h9 tk9 => hQ h9 tk9))
  rintro i t m9 nw h tk own I hi4 ⟨rfl, vsA, nA, c2', y2, al, rfl, h2', hal, hiA, hal2⟩ hnI hnI1 hown hIo F9 N9
  clear lF' lN' hnI
  obtain ⟨T, hTT⟩ : ∃ T, T = (al ++ inn) ++ own := ⟨_, rfl⟩
  have hT8 : OwnOff T [Da, L + 1 + 1 + 1 + 1 + 1 + 1 + 1 + 1, L + 1 + 1 + 1 + 1 + 1 + 1 + 1, L + 1 + 1 + 1 + 1 + 1 + 1, L + 1 + 1 + 1 + 1 + 1, L + 1 + 1 + 1 + 1, L + 1 + 1 + 1, L + 1 + 1, L + 1] := by
    rw [hTT]
    refine own_off hown hnI1 (fun p hp => (List.mem_append.mp hp).elim (hal p) (hTa p)) ?_
    repeat' (first | exact List.forall_mem_nil _ | refine List.forall_mem_cons.mpr ⟨⟨_, by k_mem⟩, ?_⟩)
  have N8 := news_start (A := [(Da, W.listOf vsA.toArray nA), (Dp, W.listOf vsP.toArray nP), (Dw, W.listOf vsW.toArray nW), (Di, W.listOf vsI.toArray nI), (Dm, W.listOf vsM.toArray nM), (L + 1 + 1 + 1 + 1 + 1 + 1 + 1 + 1, c8), (L + 1 + 1 + 1 + 1 + 1 + 1 + 1, o7), (L + 1 + 1 + 1 + 1 + 1 + 1, c6), (L + 1 + 1 + 1 + 1 + 1, c5), (L + 1 + 1 + 1 + 1, c4), (L + 1 + 1 + 1, c3), (L + 1 + 1, c2'), (L + 1, c1)]) N9 hTT
  simp only [List.cons_append, List.nil_append] at N8
  clear N9 hown hT hTa rgX
  have hle : vsA.length ≤ 4 := by
    have h9 := hiA.1
    simp only [alikesOf, List.length_map, List.length_range] at h9
    omega
  obtain ⟨K, hK⟩ : ∃ K : Int, K = 0 + (i : Int) := ⟨_, rfl⟩
  have hK0 : 0 ≤ K := by omega
  have hK4 : K < 4 := by omega
  rw [← hK]
  have hpw : 1 ≤ (2 : Int) ^ K.toNat ∧ (2 : Int) ^ K.toNat ≤ 8 := by
    have : K = 0 ∨ K = 1 ∨ K = 2 ∨ K = 3 := by omega
    rcases this with e | e | e | e <;> rw [e] <;> decide
  repeat' ((fail_if_success (with_reducible show wpAny _ _ (eval (PySem.Expr.ListComp _ _ _ _) _) _ _ _)); first | (k_unfold; (try dsimp only)) | (k_end; kc_close) | walk1 | (dsimp only; walk1) | (leave1; walk_say "STEP leave1"; (try dsimp only)) | fail "no step")
  k_dflt (refine LCt.ListComp_T (F₀ := by k_asm) (by with_unfolding_all rfl) (by decide) (by rfl) (by decide) (by rfl) ?_)
  repeat' ((fail_if_success (with_reducible show LCt.CompSrcT _ _ _ _ _ _ _ _ _ _ _ _ _ _ _)); first | (k_unfold; (try dsimp only)) | (k_end; kc_close) | walk1 | (dsimp only; walk1) | (leave1; walk_say "STEP leave1"; (try dsimp only)) | fail "no step")
  (rename IsRange _ _ _ _ _ _ _ _ => rgX)
  k_dflt (refine LCt.CompSrcT.range (n := (2 ^ K.toNat - 0 : Int).toNat) (by rfl) (by k_asm) (by k_asm) rgX (small_one (by omega) (by omega) (by omega) (by omega)) (rangeSize_nat _ _) (by rw [PySem.sizeLine_eq]; omega) ?_)
  intro g'
  refine' ct_range (fun k => decide (Builtin.bitAnd ((Builtin.bitXor (reck its k) (reck its (k + 2 ^ K.toNat))).fdiv (2 ^ K.toNat)) 1 = 0)) ?_ ?_
  · intro k' t' I' oI' C' oC' D' m' ys' h' tk' E' hlo' hhi' hC' hx' F' N' off' ne'
    have hkA : k' < 16 := by omega
    have hkB : 0 ≤ k' + 2 ^ K.toNat := by omega
    have hkC : k' + 2 ^ K.toNat < 16 := by omega
    repeat' ((fail_if_success (with_reducible show TEnd _ _ _ _ _ _ _ _ _)); (fail_if_success (with_reducible show RetP _ _ _)); (fail_if_success (with_reducible show WhileStep2 _ _ _ _ _ _ _ _)); first | (k_unfold; (try dsimp only)) | walk1 | (dsimp only; walk1) | (leave1; walk_say "STEP leave1"; (try dsimp only)) | fail "no step")
  intro ys hys
  have hKn : K.toNat = i := by omega
  repeat' ((fail_if_success (with_reducible show TEnd _ _ _ _ _ _ _ _ _)); (fail_if_success (with_reducible show RetP _ _ _)); (fail_if_success (with_reducible show WhileStep2 _ _ _ _ _ _ _ _)); first | (k_unfold; (try dsimp only)) | walk1 | (dsimp only; walk1) | (leave1; walk_say "STEP leave1"; (try dsimp only)) | fail "no step")
  (rename Fr _ _ _ _ => nF'); (rename News _ _ _ _ => nN'); (rename (_ ∧ _) => o9)
  simp only [List.push_toArray] at nN'
  dsimp only
  rename_i Dn hX tkX FX NX hY
  have hDT : LCg.Off1 Dn T := o9.2.2.2.2.2.2.2.2.2.2.2.2.2
  have hDI : Dn ≠ I := by
    obtain ⟨oI, hoI⟩ := hIo
    exact (off1_mem hDT (I, oI) (by rw [hTT]; exact List.mem_append_right _ hoI)).symm
  refine' TEnd.mk nF' (news_end2 (A := [(Da, _), (Dp, _), (Dw, _), (Di, _), (Dm, _), (L + 1 + 1 + 1 + 1 + 1 + 1 + 1 + 1, _), (L + 1 + 1 + 1 + 1 + 1 + 1 + 1, _), (L + 1 + 1 + 1 + 1 + 1 + 1, _), (L + 1 + 1 + 1 + 1 + 1, _), (L + 1 + 1 + 1 + 1, _), (L + 1 + 1 + 1, _), (L + 1 + 1, _), (L + 1, _)]) (d := (Dn, LCg.lst ys)) nN' hTT ?hA ?hd ?h3) ?hI ⟨rfl, _, _, _, _, (Dn, LCg.lst ys) :: al, ?rf, ?dc, ?of, ?li, ?sh⟩
  (case hA => repeat' (first | exact List.forall_mem_nil _ | refine List.forall_mem_cons.mpr (And.intro (by k_mem) ?_)))
  (case hd => exact List.mem_cons_self ..)
  (case h3 => intro p9 hp9; (repeat (first | exact hp9 | apply List.mem_cons_of_mem)))
  (case rf => rfl)
  (case hI =>
    exact ne_ins (A := [(Da, W.listOf vsA.toArray nA), (Dp, W.listOf vsP.toArray nP), (Dw, W.listOf vsW.toArray nW), (Di, W.listOf vsI.toArray nI), (Dm, W.listOf vsM.toArray nM), (L + 1 + 1 + 1 + 1 + 1 + 1 + 1 + 1, c8), (L + 1 + 1 + 1 + 1 + 1 + 1 + 1, o7), (L + 1 + 1 + 1 + 1 + 1 + 1, c6), (L + 1 + 1 + 1 + 1 + 1, c5), (L + 1 + 1 + 1 + 1, c4), (L + 1 + 1 + 1, c3), (L + 1 + 1, c2'), (L + 1, c1)]) (rest := al ++ inn) rfl hnI1 hDI)
  (case dc => assumption)
  (case of =>
    refine off_cons ?_ hal
    repeat' (first | exact List.forall_mem_nil _ | refine List.forall_mem_cons.mpr (And.intro (by refine neN ?_; dsimp only; omega) ?_)))
  (case li =>
    rw [alikesOf_succ]
    refine ListsIn.snoc (ListsIn.mono hiA (fun p hp => List.mem_cons_of_mem _ hp)) (List.mem_cons_self ..) ?_
    rw [hKn] at hys
    exact hys)
  (case sh =>
    intro p hp
    rcases List.mem_cons.mp hp with rfl | hp
    · exact ⟨_, _, rfl⟩
    · exact hal2 p hp)
end
end Mine
end
section
open PySem PySem.W PyProof.Rows PySem.Calls Mine
namespace Mine
section
local macro_rules | `(tactic| walk_at "subscriptTail") => `(tactic| (k_here; (with_reducible show wpAny _ _ (subscriptTail _ _ (Value.ref _) (Value.int (-1) _)) _ _ _); k_dflt (refine' item_last (by k_asm) (by k_mem) (by assumption) rfl ?_); intro t9))
set_option maxRecDepth 100000 in
set_option maxHeartbeats 8000000 in
theorem piece_e {w : World} {mean : ExcName → Option Value} {mg mb : Str → Option Value} {dp un : Nat} {gd : Option (List Code)} {A₀ : Around} {base base0 : Heap} {outer : List Env} {name qual : Str} {params : Arguments} {body stmts : List Stmt} {scope : Scope} {dV kV doc pm cdv ct oc : Value} {an od : Option Addr} {osl : Array (Option Value)} {L ea : Addr} {ecd : Value} {m : Str → Option Value} {s : Shared} {Q : Flow → Shared → Prop} {E : Value → Shared → Prop}
   {its : List It} {mks : List Int} {far : Int} {t1 t2 : Tok} {Dr Dm Di Dw : Addr} {vsR vsM vsW vsI : List Value} {nR nM nI nW : Nat}
   (ho : (kfr.heap_1 w.params).lookup 146 = some ⟨oc, od, .func (fnOf name qual params body scope dV kV doc pm an cdv ct), osl⟩) (hst : stmts = body.drop 12) (B : Below A₀ base0 outer base) (X : (kfr.heap_1 w.params).In base) (T : Top hdv (looseW hdv hdl) mean mg mb base) (hdp : dp + 10 < recursionLimit) (hun : un + 100 < cLine) (hE : PassesOwn (model PySem.Challenge.rw_xg0046_01.row.prog w) (ktrTop dp un gd qual scope L ea ecd (cellsFrom (L + 1) scope.names []) outer) (envOfC qual scope L ea ecd) E)
   {c1 c2 c3 c4 c5 c6 c7 c8 : Obj} {inn : List (Addr × Obj)}
   {x1 x2 x6 x7 x8 : Option Value}
   (F : Fr base L s.heap m) (hm : ∀ p ∈ [(Str.ofString "far", Value.int far t1), (Str.ofString "marks", Value.ref Dm), (Str.ofString "distant", Value.int (reck its far) t2)], m p.1 = some p.2)
   (N : News base L s.heap ((Dw, W.listOf vsW.toArray nW) :: (Dr, W.listOf vsR.toArray nR) :: (Di, W.listOf vsI.toArray nI) :: (Dm, W.listOf vsM.toArray nM) :: (L + 1 + 1 + 1 + 1 + 1 + 1 + 1 + 1, c8) :: (L + 1 + 1 + 1 + 1 + 1 + 1 + 1, c7) :: (L + 1 + 1 + 1 + 1 + 1 + 1, c6) :: (L + 1 + 1 + 1 + 1 + 1, c5) :: (L + 1 + 1 + 1 + 1, c4) :: (L + 1 + 1 + 1, c3) :: (L + 1 + 1, c2) :: (L + 1, c1) :: inn))
   (h1 : c1.data = .cell x1) (h2 : c2.data = .cell x2) (h3 : c3.data = .cell (some (Value.ref Di))) (h4 : c4.data = .cell (some (Value.ref Dr))) (h5 : c5.data = .cell (some (Value.ref Dw))) (h6 : c6.data = .cell x6) (h7 : c7.data = .cell x7) (h8 : c8.data = .cell x8)
   (hT : OwnOff inn [L + 1 + 1 + 1 + 1 + 1 + 1 + 1 + 1, L + 1 + 1 + 1 + 1 + 1 + 1 + 1, L + 1 + 1 + 1 + 1 + 1 + 1, L + 1 + 1 + 1 + 1 + 1, L + 1 + 1 + 1 + 1, L + 1 + 1 + 1, L + 1 + 1, L + 1])
   (aDw : ApAll Dw [L + 1 + 1 + 1 + 1 + 1 + 1 + 1 + 1, L + 1 + 1 + 1 + 1 + 1 + 1 + 1, L + 1 + 1 + 1 + 1 + 1 + 1, L + 1 + 1 + 1 + 1 + 1, L + 1 + 1 + 1 + 1, L + 1 + 1 + 1, L + 1 + 1, L + 1]) (aDr : ApAll Dr [L + 1 + 1 + 1 + 1 + 1 + 1 + 1 + 1, L + 1 + 1 + 1 + 1 + 1 + 1 + 1, L + 1 + 1 + 1 + 1 + 1 + 1, L + 1 + 1 + 1 + 1 + 1, L + 1 + 1 + 1 + 1, L + 1 + 1 + 1, L + 1 + 1, L + 1]) (aDi : ApAll Di [L + 1 + 1 + 1 + 1 + 1 + 1 + 1 + 1, L + 1 + 1 + 1 + 1 + 1 + 1 + 1, L + 1 + 1 + 1 + 1 + 1 + 1, L + 1 + 1 + 1 + 1 + 1, L + 1 + 1 + 1 + 1, L + 1 + 1 + 1, L + 1 + 1, L + 1]) (aDm : ApAll Dm [L + 1 + 1 + 1 + 1 + 1 + 1 + 1 + 1, L + 1 + 1 + 1 + 1 + 1 + 1 + 1, L + 1 + 1 + 1 + 1 + 1 + 1, L + 1 + 1 + 1 + 1 + 1, L + 1 + 1 + 1 + 1, L + 1 + 1 + 1, L + 1 + 1, L + 1])
   (hok : ∀ i ∈ its, i.Ok) (hlen : its.length ≤ 7) (hfar : far.natAbs < 2 ^ 36) (hiR : IntsAre vsR (rowOf its)) (hiI : ItemsIn inn vsI its) (hiM : IntsAre vsM mks) (hmk : ∀ x ∈ mks, 1 ≤ x) (hmz : mks.length ≤ 4) (hiW : IntsAre vsW (worthsOf its))
   (hQ : ∀ h' tk' m', Fr base L h' m' → Q (.ret (.bool true)) { s with heap := h', toks := tk' }) :
   wpAny (model PySem.Challenge.rw_xg0046_01.row.prog w) (ktrTop dp un gd qual scope L ea ecd (cellsFrom (L + 1) scope.names []) outer) (execs stmts (envOfC qual scope L ea ecd)) Q E s := by
  subst hst
  revert X
  k_fill
  intro X
  w_on
  have key : ∀ (o : Obj), (kfr.heap_1 w.params).lookup 146 = some o → o = ⟨oc, od, .func (fnOf name qual params body scope dV kV doc pm an cdv ct), osl⟩ := fun o e => Option.some.inj (e.symm.trans ho)
  have hfo9 := key _ (by k_is)
  clear key ho
  injection hfo9 with e1 e2 e3 e4
  injection e3 with e3
  injection e3 with f1 f2 f3 f4 f5
  injection f4 with f4
  subst f4
  subst f5
  subst f2
  (try clear hfo9)
  subst_vars
  dsimp only [List.drop, loopBody]
  replace F := FrJ.fr (x := Str.ofString "steps") (ps := [(Str.ofString "far", Value.int far t1), (Str.ofString "marks", Value.ref Dm), (Str.ofString "distant", Value.int (reck its far) t2)]) (stored := []) (m₀ := m) ⟨hm, fun _ _ _ _ => rfl⟩ F
  clear hm
  dsimp only [kstB] at F
  have kMark := kstMark
  repeat' ((fail_if_success (with_reducible show wpAny _ _ (exec (Stmt.For _ _ _ _ _) _) _ _ _)); first | (k_unfold; (try dsimp only)) | (k_end; kc_close) | walk1 | (dsimp only; walk1) | (leave1; walk_say "STEP leave1"; (try dsimp only)) | fail "no step")
  (rename Fr _ _ _ _ => lF'); (rename News _ _ _ _ => lN')
  rename_i Dp hA lt9 hB o6 d6
  have aDp : ApAll Dp [L + 1 + 1 + 1 + 1 + 1 + 1 + 1 + 1, L + 1 + 1 + 1 + 1 + 1 + 1 + 1, L + 1 + 1 + 1 + 1 + 1 + 1, L + 1 + 1 + 1 + 1 + 1, L + 1 + 1 + 1 + 1, L + 1 + 1 + 1, L + 1 + 1, L + 1] := by repeat' (first | exact ap_nil _ | refine ap_cons (by omega) ?_)
  have hTp : OwnOff inn [Dp, L + 1 + 1 + 1 + 1 + 1 + 1 + 1 + 1, L + 1 + 1 + 1 + 1 + 1 + 1 + 1, L + 1 + 1 + 1 + 1 + 1 + 1, L + 1 + 1 + 1 + 1 + 1, L + 1 + 1 + 1 + 1, L + 1 + 1 + 1, L + 1 + 1, L + 1] := off_of_lt lt9.2.2.2.2.2.2.2.2.2.2.2.2 hT
  with_unfolding_all refine' For_turns (hE := hE) lF' ?_
  repeat' ((fail_if_success (with_reducible show wpAny _ _ (pyIter (Value.ref _)) _ _ _)); first | (k_unfold; (try dsimp only)) | (k_end; kc_close) | walk1 | (dsimp only; walk1) | (leave1; walk_say "STEP leave1"; (try dsimp only)) | fail "no step")
  (rename IsRange _ _ _ _ _ _ _ _ => rgX); (rename Fr _ _ _ _ => lF'); (rename News _ _ _ _ => lN')
  refine' turns_range (n := 8) (fun i m9 nw => m9 = _ ∧ ∃ vsP nP c2' y2, nw = (Dp, W.listOf vsP.toArray nP) :: (Dw, W.listOf vsW.toArray nW) :: (Dr, W.listOf vsR.toArray nR) :: (Di, W.listOf vsI.toArray nI) :: (Dm, W.listOf vsM.toArray nM) :: (L + 1 + 1 + 1 + 1 + 1 + 1 + 1 + 1, c8) :: (L + 1 + 1 + 1 + 1 + 1 + 1 + 1, c7) :: (L + 1 + 1 + 1 + 1 + 1 + 1, o6) :: (L + 1 + 1 + 1 + 1 + 1, c5) :: (L + 1 + 1 + 1 + 1, c4) :: (L + 1 + 1 + 1, c3) :: (L + 1 + 1, c2') :: (L + 1, c1) :: inn ∧ c2'.data = .cell y2 ∧ IntsAre vsP (pathOf its i)) (by rfl) rgX (by decide) (by decide) lF' lN' ⟨rfl, [Value.int 0 s.toks], 0, c2, x2, rfl, by assumption, .cons _ _ .nil⟩ ?kt ?kd
  (case kd =>
    clear lF' lN'
    rintro m9 nw h tk ⟨rfl, vsP, nP, c2', y2, rfl, h2', hiP⟩ F9 N9
    dsimp only
    k_dflt (refine' piece_f (Dp := Dp) (Dw := Dw) (Di := Di) (Dm := Dm) (inn := inn) ?ho ?hst ?B ?X ?T ?hdp ?hun ?hE ?F ?hm ?N ?h1 ?h2 ?h3 ?h4 ?h5 ?h6 ?h7 ?h8 ?hT ?aDp ?aDw ?aDi ?aDm ?f1 ?f2 ?f3 ?f4 ?f5 ?f6 ?f7 ?f8 ?f9 ?f10)
    (case ho => k_is)
    (case hst => rfl)
    (case B => k_asm)
    (case X => k_asm)
    (case T => k_asm)
    (case hdp => assumption)
    (case hun => assumption)
    (case hE => assumption)
    (case F => k_asm)
    (case hm => kst_all)
    (case N => (refine kst_newsOf (by k_asm) ?_; (repeat (refine List.forall_mem_cons.mpr (And.intro (by k_mem) ?_))); intro p9 hp9; (repeat (first | exact hp9 | apply List.mem_cons_of_mem))))
    (case h1 => assumption)
    (case h2 => assumption)
    (case h3 => assumption)
    (case h4 => assumption)
    (case h5 => assumption)
    (case h6 => assumption)
    (case h7 => assumption)
    (case h8 => assumption)
    (case hT => exact off_sub hT (fun b hb => hb))
    (case aDp => assumption)
    (case aDw => assumption)
    (case aDi => assumption)
    (case aDm => assumption)
    (case f1 => assumption)
    (case f2 => assumption)
    (case f3 => assumption)
    (case f4 => assumption)
    (case f5 => assumption)
    (case f6 => assumption)
    (case f7 => assumption)
    (case f8 => assumption)
    (case f9 => assumption)
    (case f10 => exact fun h9 tk9 => hQ h9 tk9))
  rintro i t m9 nw h tk own I hi8 ⟨rfl, vsP, nP, c2', y2, rfl, h2', hiP⟩ hnI hnI1 hown hIo F9 N9
  clear lF' lN' hnI hIo
  obtain ⟨T, hTT⟩ : ∃ T, T = inn ++ own := ⟨_, rfl⟩
  have hT8 : OwnOff T [Dp, L + 1 + 1 + 1 + 1 + 1 + 1 + 1 + 1, L + 1 + 1 + 1 + 1 + 1 + 1 + 1, L + 1 + 1 + 1 + 1 + 1 + 1, L + 1 + 1 + 1 + 1 + 1, L + 1 + 1 + 1 + 1, L + 1 + 1 + 1, L + 1 + 1, L + 1] := by
    rw [hTT]
    refine own_off hown hnI1 hTp ?_
    repeat' (first | exact List.forall_mem_nil _ | refine List.forall_mem_cons.mpr ⟨⟨_, by k_mem⟩, ?_⟩)
  have N8 := news_start (A := [(Dp, W.listOf vsP.toArray nP), (Dw, W.listOf vsW.toArray nW), (Dr, W.listOf vsR.toArray nR), (Di, W.listOf vsI.toArray nI), (Dm, W.listOf vsM.toArray nM), (L + 1 + 1 + 1 + 1 + 1 + 1 + 1 + 1, c8), (L + 1 + 1 + 1 + 1 + 1 + 1 + 1, c7), (L + 1 + 1 + 1 + 1 + 1 + 1, o6), (L + 1 + 1 + 1 + 1 + 1, c5), (L + 1 + 1 + 1 + 1, c4), (L + 1 + 1 + 1, c3), (L + 1 + 1, c2'), (L + 1, c1)]) N9 hTT
  simp only [List.cons_append, List.nil_append] at N8
  clear N9 hown hTp rgX
  have hle : vsP.length ≤ 8 := by
    have h9 := hiP.length
    simp only [pathOf, List.length_map, List.length_range] at h9
    omega
  have hiP2 : IntsAre vsP ((List.range i).map (orb its) ++ [orb its i]) := by
    simpa [pathOf, List.range_succ] using hiP
  repeat' ((fail_if_success (with_reducible show TEnd _ _ _ _ _ _ _ _ _)); (fail_if_success (with_reducible show RetP _ _ _)); (fail_if_success (with_reducible show WhileStep2 _ _ _ _ _ _ _ _)); first | (k_unfold; (try dsimp only)) | walk1 | (dsimp only; walk1) | (leave1; walk_say "STEP leave1"; (try dsimp only)) | fail "no step")
  (rename Fr _ _ _ _ => nF'); (rename News _ _ _ _ => nN')
  simp only [List.push_toArray] at nN'
  dsimp only
  refine' TEnd.mk nF' (news_end (A := [(Dp, _), (Dw, _), (Dr, _), (Di, _), (Dm, _), (L + 1 + 1 + 1 + 1 + 1 + 1 + 1 + 1, _), (L + 1 + 1 + 1 + 1 + 1 + 1 + 1, _), (L + 1 + 1 + 1 + 1 + 1 + 1, _), (L + 1 + 1 + 1 + 1 + 1, _), (L + 1 + 1 + 1 + 1, _), (L + 1 + 1 + 1, _), (L + 1 + 1, _), (L + 1, _)]) nN' hTT ?hA ?h3) ?hI ⟨rfl, vsP ++ [Value.int _ _], _, _, _, ?rf, ?dc, ?li⟩
  (case hA => repeat' (first | exact List.forall_mem_nil _ | refine List.forall_mem_cons.mpr (And.intro (by k_mem) ?_)))
  (case h3 => intro p9 hp9; (repeat (first | exact hp9 | apply List.mem_cons_of_mem)))
  (case rf => rfl)
  (case hI => exact ne_same (A := [(Dp, W.listOf vsP.toArray nP), (Dw, W.listOf vsW.toArray nW), (Dr, W.listOf vsR.toArray nR), (Di, W.listOf vsI.toArray nI), (Dm, W.listOf vsM.toArray nM), (L + 1 + 1 + 1 + 1 + 1 + 1 + 1 + 1, c8), (L + 1 + 1 + 1 + 1 + 1 + 1 + 1, c7), (L + 1 + 1 + 1 + 1 + 1 + 1, o6), (L + 1 + 1 + 1 + 1 + 1, c5), (L + 1 + 1 + 1 + 1, c4), (L + 1 + 1 + 1, c3), (L + 1 + 1, c2'), (L + 1, c1)]) (rest := inn) rfl hnI1)
  (case dc => assumption)
  (case li =>
    rw [pathOf_succ]
    exact IntsAre.append hiP (.cons _ _ .nil))
end
end Mine
end
section
open PySem PySem.W PyProof.Rows PySem.Calls Mine
namespace Mine
section
set_option maxRecDepth 100000 in
set_option maxHeartbeats 8000000 in
theorem piece_d {w : World} {mean : ExcName → Option Value} {mg mb : Str → Option Value} {dp un : Nat} {gd : Option (List Code)} {A₀ : Around} {base base0 : Heap} {outer : List Env} {name qual : Str} {params : Arguments} {body stmts : List Stmt} {scope : Scope} {dV kV doc pm cdv ct oc : Value} {an od : Option Addr} {osl : Array (Option Value)} {L ea : Addr} {ecd : Value} {m : Str → Option Value} {s : Shared} {Q : Flow → Shared → Prop} {E : Value → Shared → Prop}
   {its : List It} {mks : List Int} {far : Int} {t1 t2 : Tok} {Dr Dm Di : Addr} {vsR vsM vsI : List Value} {nR nM nI : Nat}
   (ho : (kfr.heap_1 w.params).lookup 146 = some ⟨oc, od, .func (fnOf name qual params body scope dV kV doc pm an cdv ct), osl⟩) (hst : stmts = body.drop 11) (B : Below A₀ base0 outer base) (X : (kfr.heap_1 w.params).In base) (T : Top hdv (looseW hdv hdl) mean mg mb base) (hdp : dp + 10 < recursionLimit) (hun : un + 100 < cLine) (hE : PassesOwn (model PySem.Challenge.rw_xg0046_01.row.prog w) (ktrTop dp un gd qual scope L ea ecd (cellsFrom (L + 1) scope.names []) outer) (envOfC qual scope L ea ecd) E)
   {c1 c2 c3 c4 c5 c6 c7 c8 : Obj} {inn : List (Addr × Obj)}
   {x1 x2 x5 x6 x7 x8 : Option Value}
   (F : Fr base L s.heap m) (hm : ∀ p ∈ [(Str.ofString "far", Value.int far t1), (Str.ofString "marks", Value.ref Dm), (Str.ofString "distant", Value.int (reck its far) t2)], m p.1 = some p.2)
   (N : News base L s.heap ((Dr, W.listOf vsR.toArray nR) :: (Di, W.listOf vsI.toArray nI) :: (Dm, W.listOf vsM.toArray nM) :: (L + 1 + 1 + 1 + 1 + 1 + 1 + 1 + 1, c8) :: (L + 1 + 1 + 1 + 1 + 1 + 1 + 1, c7) :: (L + 1 + 1 + 1 + 1 + 1 + 1, c6) :: (L + 1 + 1 + 1 + 1 + 1, c5) :: (L + 1 + 1 + 1 + 1, c4) :: (L + 1 + 1 + 1, c3) :: (L + 1 + 1, c2) :: (L + 1, c1) :: inn))
   (h1 : c1.data = .cell x1) (h2 : c2.data = .cell x2) (h3 : c3.data = .cell (some (Value.ref Di))) (h4 : c4.data = .cell (some (Value.ref Dr))) (h5 : c5.data = .cell x5) (h6 : c6.data = .cell x6) (h7 : c7.data = .cell x7) (h8 : c8.data = .cell x8)
   (hT : OwnOff inn [L + 1 + 1 + 1 + 1 + 1 + 1 + 1 + 1, L + 1 + 1 + 1 + 1 + 1 + 1 + 1, L + 1 + 1 + 1 + 1 + 1 + 1, L + 1 + 1 + 1 + 1 + 1, L + 1 + 1 + 1 + 1, L + 1 + 1 + 1, L + 1 + 1, L + 1])
   (aDr : ApAll Dr [L + 1 + 1 + 1 + 1 + 1 + 1 + 1 + 1, L + 1 + 1 + 1 + 1 + 1 + 1 + 1, L + 1 + 1 + 1 + 1 + 1 + 1, L + 1 + 1 + 1 + 1 + 1, L + 1 + 1 + 1 + 1, L + 1 + 1 + 1, L + 1 + 1, L + 1]) (aDi : ApAll Di [L + 1 + 1 + 1 + 1 + 1 + 1 + 1 + 1, L + 1 + 1 + 1 + 1 + 1 + 1 + 1, L + 1 + 1 + 1 + 1 + 1 + 1, L + 1 + 1 + 1 + 1 + 1, L + 1 + 1 + 1 + 1, L + 1 + 1 + 1, L + 1 + 1, L + 1]) (aDm : ApAll Dm [L + 1 + 1 + 1 + 1 + 1 + 1 + 1 + 1, L + 1 + 1 + 1 + 1 + 1 + 1 + 1, L + 1 + 1 + 1 + 1 + 1 + 1, L + 1 + 1 + 1 + 1 + 1, L + 1 + 1 + 1 + 1, L + 1 + 1 + 1, L + 1 + 1, L + 1])
   (hok : ∀ i ∈ its, i.Ok) (hlen : its.length ≤ 7) (hfar : far.natAbs < 2 ^ 36) (hiR : IntsAre vsR (rowOf its)) (hiI : ItemsIn inn vsI its) (hiM : IntsAre vsM mks) (hmk : ∀ x ∈ mks, 1 ≤ x) (hmz : mks.length ≤ 4)
   (hQ : ∀ h' tk' m', Fr base L h' m' → Q (.ret (.bool true)) { s with heap := h', toks := tk' }) :
   wpAny (model PySem.Challenge.rw_xg0046_01.row.prog w) (ktrTop dp un gd qual scope L ea ecd (cellsFrom (L + 1) scope.names []) outer) (execs stmts (envOfC qual scope L ea ecd)) Q E s := by
  subst hst
  revert X
  k_fill
  intro X
  w_on
  have key : ∀ (o : Obj), (kfr.heap_1 w.params).lookup 146 = some o → o = ⟨oc, od, .func (fnOf name qual params body scope dV kV doc pm an cdv ct), osl⟩ := fun o e => Option.some.inj (e.symm.trans ho)
  have hfo9 := key _ (by k_is)
  clear key ho
  injection hfo9 with e1 e2 e3 e4
  injection e3 with e3
  injection e3 with f1 f2 f3 f4 f5
  injection f4 with f4
  subst f4
  subst f5
  subst f2
  (try clear hfo9)
  subst_vars
  dsimp only [List.drop, loopBody]
  replace F := FrJ.fr (x := Str.ofString "steps") (ps := [(Str.ofString "far", Value.int far t1), (Str.ofString "marks", Value.ref Dm), (Str.ofString "distant", Value.int (reck its far) t2)]) (stored := []) (m₀ := m) ⟨hm, fun _ _ _ _ => rfl⟩ F
  clear hm
  dsimp only [kstB] at F
  have kMark := kstMark
  repeat' ((fail_if_success (with_reducible show wpAny _ _ (execs [_, _, _, _, _, _] (envOfC _ _ _ _ _)) _ _ _)); first | (k_unfold; (try dsimp only)) | (k_end; kc_close) | walk1 | (dsimp only; walk1) | (leave1; walk_say "STEP leave1"; (try dsimp only)) | fail "no step")
  (rename (_ ∧ _) => o9)
  rename_i Dn h7a t7a h7b o7b F7b N7b d7b
  have aDn : ApAll Dn [L + 1 + 1 + 1 + 1 + 1 + 1 + 1 + 1, L + 1 + 1 + 1 + 1 + 1 + 1 + 1, L + 1 + 1 + 1 + 1 + 1 + 1, L + 1 + 1 + 1 + 1 + 1, L + 1 + 1 + 1 + 1, L + 1 + 1 + 1, L + 1 + 1, L + 1] := by repeat' (first | exact ap_nil _ | refine ap_cons (by omega) ?_)
  k_dflt (refine' piece_e (Dw := Dn) (Dr := Dr) (Di := Di) (Dm := Dm) (inn := inn) ?ho ?hst ?B ?X ?T ?hdp ?hun ?hE ?F ?hm ?N ?h1 ?h2 ?h3 ?h4 ?h5 ?h6 ?h7 ?h8 ?hT ?aDw ?aDr ?aDi ?aDm ?f1 ?f2 ?f3 ?f4 ?f5 ?f6 ?f7 ?f8 ?f9 ?f10)
  (case ho => k_is)
  (case hst => rfl)
  (case B => k_asm)
  (case X => k_asm)
  (case T => k_asm)
  (case hdp => assumption)
  (case hun => assumption)
  (case hE => assumption)
  (case F => k_asm)
  (case hm => kst_all)
  (case N => (refine kst_newsOf (by k_asm) ?_; (repeat (refine List.forall_mem_cons.mpr (And.intro (by k_mem) ?_))); intro p9 hp9; (repeat (first | exact hp9 | apply List.mem_cons_of_mem))))
  (case h1 => assumption)
  (case h2 => assumption)
  (case h3 => assumption)
  (case h4 => assumption)
  (case h5 => assumption)
  (case h6 => assumption)
  (case h7 => assumption)
  (case h8 => assumption)
  (case hT => exact off_sub hT (fun b hb => hb))
  (case aDw => assumption)
  (case aDr => assumption)
  (case aDi => assumption)
  (case aDm => assumption)
  (case f1 => assumption)
  (case f2 => assumption)
  (case f3 => assumption)
  (case f4 => assumption)
  (case f5 => assumption)
  (case f6 => assumption)
  (case f7 => assumption)
  (case f8 => assumption)
  (case f9 => assumption)
  (case f10 => exact fun h9 tk9 => hQ h9 tk9)
end
end Mine
end
section
open PySem PySem.W PyProof.Rows PySem.Calls Mine
namespace Mine
section
set_option maxRecDepth 100000 in
set_option maxHeartbeats 8000000 in
theorem piece_c {w : World} {mean : ExcName → Option Value} {mg mb : Str → Option Value} {dp un : Nat} {gd : Option (List Code)} {A₀ : Around} {base base0 : Heap} {outer : List Env} {name qual : Str} {params : Arguments} {body stmts : List Stmt} {scope : Scope} {dV kV doc pm cdv ct oc : Value} {an od : Option Addr} {osl : Array (Option Value)} {L ea : Addr} {ecd : Value} {m : Str → Option Value} {s : Shared} {Q : Flow → Shared → Prop} {E : Value → Shared → Prop}
   {its : List It} {mks : List Int} {tot : Int} {t1 : Tok} {Dr Dm Di : Addr} {vsR vsM vsI : List Value} {nR nM nI : Nat}
   (ho : (kfr.heap_1 w.params).lookup 146 = some ⟨oc, od, .func (fnOf name qual params body scope dV kV doc pm an cdv ct), osl⟩) (hst : stmts = body.drop 7) (B : Below A₀ base0 outer base) (X : (kfr.heap_1 w.params).In base) (T : Top hdv (looseW hdv hdl) mean mg mb base) (hdp : dp + 10 < recursionLimit) (hun : un + 100 < cLine) (hE : PassesOwn (model PySem.Challenge.rw_xg0046_01.row.prog w) (ktrTop dp un gd qual scope L ea ecd (cellsFrom (L + 1) scope.names []) outer) (envOfC qual scope L ea ecd) E)
   {c1 c2 c3 c4 c5 c6 c7 c8 : Obj} {inn : List (Addr × Obj)}
   {x1 x2 x5 x6 x7 x8 : Option Value}
   (F : Fr base L s.heap m) (hm : ∀ p ∈ [(Str.ofString "total", Value.int tot t1), (Str.ofString "marks", Value.ref Dm)], m p.1 = some p.2)
   (N : News base L s.heap ((Dr, W.listOf vsR.toArray nR) :: (Di, W.listOf vsI.toArray nI) :: (Dm, W.listOf vsM.toArray nM) :: (L + 1 + 1 + 1 + 1 + 1 + 1 + 1 + 1, c8) :: (L + 1 + 1 + 1 + 1 + 1 + 1 + 1, c7) :: (L + 1 + 1 + 1 + 1 + 1 + 1, c6) :: (L + 1 + 1 + 1 + 1 + 1, c5) :: (L + 1 + 1 + 1 + 1, c4) :: (L + 1 + 1 + 1, c3) :: (L + 1 + 1, c2) :: (L + 1, c1) :: inn))
   (h1 : c1.data = .cell x1) (h2 : c2.data = .cell x2) (h3 : c3.data = .cell (some (Value.ref Di))) (h4 : c4.data = .cell (some (Value.ref Dr))) (h5 : c5.data = .cell x5) (h6 : c6.data = .cell x6) (h7 : c7.data = .cell x7) (h8 : c8.data = .cell x8)
   (hT : OwnOff inn [L + 1 + 1 + 1 + 1 + 1 + 1 + 1 + 1, L + 1 + 1 + 1 + 1 + 1 + 1 + 1, L + 1 + 1 + 1 + 1 + 1 + 1, L + 1 + 1 + 1 + 1 + 1, L + 1 + 1 + 1 + 1, L + 1 + 1 + 1, L + 1 + 1, L + 1])
   (aDr : ApAll Dr [L + 1 + 1 + 1 + 1 + 1 + 1 + 1 + 1, L + 1 + 1 + 1 + 1 + 1 + 1 + 1, L + 1 + 1 + 1 + 1 + 1 + 1, L + 1 + 1 + 1 + 1 + 1, L + 1 + 1 + 1 + 1, L + 1 + 1 + 1, L + 1 + 1, L + 1]) (aDi : ApAll Di [L + 1 + 1 + 1 + 1 + 1 + 1 + 1 + 1, L + 1 + 1 + 1 + 1 + 1 + 1 + 1, L + 1 + 1 + 1 + 1 + 1 + 1, L + 1 + 1 + 1 + 1 + 1, L + 1 + 1 + 1 + 1, L + 1 + 1 + 1, L + 1 + 1, L + 1]) (aDm : ApAll Dm [L + 1 + 1 + 1 + 1 + 1 + 1 + 1 + 1, L + 1 + 1 + 1 + 1 + 1 + 1 + 1, L + 1 + 1 + 1 + 1 + 1 + 1, L + 1 + 1 + 1 + 1 + 1, L + 1 + 1 + 1 + 1, L + 1 + 1 + 1, L + 1 + 1, L + 1])
   (hok : ∀ i ∈ its, i.Ok) (hlen : its.length ≤ 7) (htot : tot.natAbs ≤ 60000000000) (hfi : ∀ x : Int, x.natAbs < 2 ^ 36 → reck its x = if wordI its x 220 < 2 ^ (219 : Int).toNat then wordI its x 220 else wordI its x 220 - 2 ^ (220 : Int).toNat) (hiR : IntsAre vsR (rowOf its)) (hiI : ItemsIn inn vsI its) (hiM : IntsAre vsM mks) (hmk : ∀ x ∈ mks, 1 ≤ x) (hmz : mks.length ≤ 4)
   (hQ : ∀ h' tk' m', Fr base L h' m' → Q (.ret (.bool true)) { s with heap := h', toks := tk' }) :
   wpAny (model PySem.Challenge.rw_xg0046_01.row.prog w) (ktrTop dp un gd qual scope L ea ecd (cellsFrom (L + 1) scope.names []) outer) (execs stmts (envOfC qual scope L ea ecd)) Q E s := by
  subst hst
  revert X
  k_fill
  intro X
  w_on
  have key : ∀ (o : Obj), (kfr.heap_1 w.params).lookup 146 = some o → o = ⟨oc, od, .func (fnOf name qual params body scope dV kV doc pm an cdv ct), osl⟩ := fun o e => Option.some.inj (e.symm.trans ho)
  have hfo9 := key _ (by k_is)
  clear key ho
  injection hfo9 with e1 e2 e3 e4
  injection e3 with e3
  injection e3 with f1 f2 f3 f4 f5
  injection f4 with f4
  subst f4
  subst f5
  subst f2
  (try clear hfo9)
  subst_vars
  dsimp only [List.drop, loopBody]
  replace F := FrJ.fr (x := Str.ofString "steps") (ps := [(Str.ofString "total", Value.int tot t1), (Str.ofString "marks", Value.ref Dm)]) (stored := []) (m₀ := m) ⟨hm, fun _ _ _ _ => rfl⟩ F
  clear hm
  dsimp only [kstB] at F
  have kMark := kstMark
  have hfr : (77 + tot).natAbs < 2 ^ 36 := by omega
  have hfr2 : (77 + tot).natAbs < 2 ^ 41 := by omega
  have hfi9 := hfi _ hfr
  clear hfi
  repeat' ((fail_if_success (with_reducible show wpAny _ _ (execs [_, _, _, _, _, _, _] (envOfC _ _ _ _ _)) _ _ _)); first | (k_unfold; (try dsimp only)) | (k_end; kc_close) | walk1 | (dsimp only; walk1) | (leave1; walk_say "STEP leave1"; (try dsimp only)) | fail "no step")
  · exact absurd (hfi9.trans (if_pos (by assumption))) (by assumption)
  · dsimp only
    k_dflt (refine' piece_d (Dr := Dr) (Di := Di) (Dm := Dm) (inn := inn) ?ho ?hst ?B ?X ?T ?hdp ?hun ?hE ?F ?hm ?N ?h1 ?h2 ?h3 ?h4 ?h5 ?h6 ?h7 ?h8 ?hT ?aDr ?aDi ?aDm ?f1 ?f2 ?f3 ?f4 ?f5 ?f6 ?f7 ?f8 ?f9)
    (case ho => k_is)
    (case hst => rfl)
    (case B => k_asm)
    (case X => k_asm)
    (case T => k_asm)
    (case hdp => assumption)
    (case hun => assumption)
    (case hE => assumption)
    (case F => k_asm)
    (case hm => kst_all)
    (case N => (refine kst_newsOf (by k_asm) ?_; (repeat (refine List.forall_mem_cons.mpr (And.intro (by k_mem) ?_))); intro p9 hp9; (repeat (first | exact hp9 | apply List.mem_cons_of_mem))))
    (case h1 => assumption)
    (case h2 => assumption)
    (case h3 => assumption)
    (case h4 => assumption)
    (case h5 => assumption)
    (case h6 => assumption)
    (case h7 => assumption)
    (case h8 => assumption)
    (case hT => exact off_sub hT (fun b hb => hb))
    (case aDr => assumption)
    (case aDi => assumption)
    (case aDm => assumption)
    (case f1 => assumption)
    (case f2 => assumption)
    (case f3 => assumption)
    (case f4 => assumption)
    (case f5 => assumption)
    (case f6 => assumption)
    (case f7 => assumption)
    (case f8 => assumption)
    (case f9 => exact fun h9 tk9 => hQ h9 tk9)
  · exact absurd (hfi9.trans (if_neg (by assumption))) (by assumption)
  · dsimp only
    k_dflt (refine' piece_d (Dr := Dr) (Di := Di) (Dm := Dm) (inn := inn) ?ho ?hst ?B ?X ?T ?hdp ?hun ?hE ?F ?hm ?N ?h1 ?h2 ?h3 ?h4 ?h5 ?h6 ?h7 ?h8 ?hT ?aDr ?aDi ?aDm ?f1 ?f2 ?f3 ?f4 ?f5 ?f6 ?f7 ?f8 ?f9)
    (case ho => k_is)
    (case hst => rfl)
    (case B => k_asm)
    (case X => k_asm)
    (case T => k_asm)
    (case hdp => assumption)
    (case hun => assumption)
    (case hE => assumption)
    (case F => k_asm)
    (case hm => kst_all)
    (case N => (refine kst_newsOf (by k_asm) ?_; (repeat (refine List.forall_mem_cons.mpr (And.intro (by k_mem) ?_))); intro p9 hp9; (repeat (first | exact hp9 | apply List.mem_cons_of_mem))))
    (case h1 => assumption)
    (case h2 => assumption)
    (case h3 => assumption)
    (case h4 => assumption)
    (case h5 => assumption)
    (case h6 => assumption)
    (case h7 => assumption)
    (case h8 => assumption)
    (case hT => exact off_sub hT (fun b hb => hb))
    (case aDr => assumption)
    (case aDi => assumption)
    (case aDm => assumption)
    (case f1 => assumption)
    (case f2 => assumption)
    (case f3 => assumption)
    (case f4 => assumption)
    (case f5 => assumption)
    (case f6 => assumption)
    (case f7 => assumption)
    (case f8 => assumption)
    (case f9 => exact fun h9 tk9 => hQ h9 tk9)
end
end Mine
end
section
open PySem PySem.W PyProof.Rows PySem.Calls Mine
namespace Mine
section
local macro_rules | `(tactic| walk_at "call builtin:str.join") => `(tactic| (k_here; k_dflt (refine' join_list (News.isList (by k_asm) (by k_mem)) (by assumption) (by assumption) ?_); intro t9 k9))
local macro_rules | `(tactic| walk_at "binaryOp Add str str") => `(tactic| (k_here; k_dflt (refine' PyProof.Rows.add_str ?_ (by rw [sizeLine_eq]; exact Nat.le_trans (by assumption) (by decide))); intro t9 k9))
set_option maxRecDepth 100000 in
set_option maxHeartbeats 8000000 in
theorem piece_b2 {w : World} {mean : ExcName → Option Value} {mg mb : Str → Option Value} {dp un : Nat} {gd : Option (List Code)} {A₀ : Around} {base base0 : Heap} {outer : List Env} {name qual : Str} {params : Arguments} {body stmts : List Stmt} {scope : Scope} {dV kV doc pm cdv ct oc : Value} {an od : Option Addr} {osl : Array (Option Value)} {L ea : Addr} {ecd : Value} {m : Str → Option Value} {s : Shared} {Q : Flow → Shared → Prop} {E : Value → Shared → Prop}
   {its : List It} {mks : List Int} {tot : Int} {t1 : Tok} {Dm Di : Addr} {vsM vsI : List Value} {nM nI : Nat}
   (ho : (kfr.heap_1 w.params).lookup 146 = some ⟨oc, od, .func (fnOf name qual params body scope dV kV doc pm an cdv ct), osl⟩) (hst : stmts = body.drop 6) (B : Below A₀ base0 outer base) (X : (kfr.heap_1 w.params).In base) (T : Top hdv (looseW hdv hdl) mean mg mb base) (hdp : dp + 10 < recursionLimit) (hun : un + 100 < cLine) (hE : PassesOwn (model PySem.Challenge.rw_xg0046_01.row.prog w) (ktrTop dp un gd qual scope L ea ecd (cellsFrom (L + 1) scope.names []) outer) (envOfC qual scope L ea ecd) E)
   {c1 c2 c3 c4 c5 c6 c7 c8 : Obj} {inn : List (Addr × Obj)}
   {x1 x2 x4 x5 x6 x7 x8 : Option Value}
   (F : Fr base L s.heap m) (hm : ∀ p ∈ [(Str.ofString "total", Value.int tot t1), (Str.ofString "marks", Value.ref Dm)], m p.1 = some p.2)
   (N : News base L s.heap ((Di, W.listOf vsI.toArray nI) :: (Dm, W.listOf vsM.toArray nM) :: (L + 1 + 1 + 1 + 1 + 1 + 1 + 1 + 1, c8) :: (L + 1 + 1 + 1 + 1 + 1 + 1 + 1, c7) :: (L + 1 + 1 + 1 + 1 + 1 + 1, c6) :: (L + 1 + 1 + 1 + 1 + 1, c5) :: (L + 1 + 1 + 1 + 1, c4) :: (L + 1 + 1 + 1, c3) :: (L + 1 + 1, c2) :: (L + 1, c1) :: inn))
   (h1 : c1.data = .cell x1) (h2 : c2.data = .cell x2) (h3 : c3.data = .cell (some (Value.ref Di))) (h4 : c4.data = .cell x4) (h5 : c5.data = .cell x5) (h6 : c6.data = .cell x6) (h7 : c7.data = .cell x7) (h8 : c8.data = .cell x8)
   (hT : OwnOff inn [L + 1 + 1 + 1 + 1 + 1 + 1 + 1 + 1, L + 1 + 1 + 1 + 1 + 1 + 1 + 1, L + 1 + 1 + 1 + 1 + 1 + 1, L + 1 + 1 + 1 + 1 + 1, L + 1 + 1 + 1 + 1, L + 1 + 1 + 1, L + 1 + 1, L + 1])
   (aDi : ApAll Di [L + 1 + 1 + 1 + 1 + 1 + 1 + 1 + 1, L + 1 + 1 + 1 + 1 + 1 + 1 + 1, L + 1 + 1 + 1 + 1 + 1 + 1, L + 1 + 1 + 1 + 1 + 1, L + 1 + 1 + 1 + 1, L + 1 + 1 + 1, L + 1 + 1, L + 1]) (aDm : ApAll Dm [L + 1 + 1 + 1 + 1 + 1 + 1 + 1 + 1, L + 1 + 1 + 1 + 1 + 1 + 1 + 1, L + 1 + 1 + 1 + 1 + 1 + 1, L + 1 + 1 + 1 + 1 + 1, L + 1 + 1 + 1 + 1, L + 1 + 1 + 1, L + 1 + 1, L + 1])
   (hok : ∀ i ∈ its, i.Ok) (hlen : its.length ≤ 7) (htot : tot.natAbs ≤ 60000000000) (hfi : ∀ x : Int, x.natAbs < 2 ^ 36 → reck its x = if wordI its x 220 < 2 ^ (219 : Int).toNat then wordI its x 220 else wordI its x 220 - 2 ^ (220 : Int).toNat) (hiI : ItemsIn inn vsI its) (hiM : IntsAre vsM mks) (hmk : ∀ x ∈ mks, 1 ≤ x) (hmz : mks.length ≤ 4)
   (hQ : ∀ h' tk' m', Fr base L h' m' → Q (.ret (.bool true)) { s with heap := h', toks := tk' }) :
   wpAny (model PySem.Challenge.rw_xg0046_01.row.prog w) (ktrTop dp un gd qual scope L ea ecd (cellsFrom (L + 1) scope.names []) outer) (execs stmts (envOfC qual scope L ea ecd)) Q E s := by
  subst hst
  revert X
  k_fill
  intro X
  w_on
  have key : ∀ (o : Obj), (kfr.heap_1 w.params).lookup 146 = some o → o = ⟨oc, od, .func (fnOf name qual params body scope dV kV doc pm an cdv ct), osl⟩ := fun o e => Option.some.inj (e.symm.trans ho)
  have hfo9 := key _ (by k_is)
  clear key ho
  injection hfo9 with e1 e2 e3 e4
  injection e3 with e3
  injection e3 with f1 f2 f3 f4 f5
  injection f4 with f4
  subst f4
  subst f5
  subst f2
  (try clear hfo9)
  subst_vars
  dsimp only [List.drop, loopBody]
  replace F := FrJ.fr (x := Str.ofString "steps") (ps := [(Str.ofString "total", Value.int tot t1), (Str.ofString "marks", Value.ref Dm)]) (stored := []) (m₀ := m) ⟨hm, fun _ _ _ _ => rfl⟩ F
  clear hm
  dsimp only [kstB] at F
  have kMark := kstMark
  have htl := text_len hok hlen
  have hps : ((its.map pieceS).map (·.length)).sum + (its.map pieceS).length * (Str.ofString "").length ≤ 16777216 := by
    have h1 := pieces_sum hok
    have h2 : (Str.ofString "").length = 0 := by decide +kernel
    rw [h2]
    omega
  repeat' ((fail_if_success (with_reducible show wpAny _ _ (eval (PySem.Expr.ListComp _ _ _ _) _) _ _ _)); first | (k_unfold; (try dsimp only)) | (k_end; kc_close) | walk1 | (dsimp only; walk1) | (leave1; walk_say "STEP leave1"; (try dsimp only)) | fail "no step")
  k_dflt (refine comp_lists (fun i y => ∃ it t, its[i]? = some it ∧ y = Value.str (pieceS it) t) (by with_unfolding_all rfl) (by decide) (by rfl) (by decide) (by rfl) (by rfl) (by decide) (by rfl) ?_)
  iterate 1 (first | (k_unfold; (try dsimp only)) | (k_end; kc_close) | walk1 | (dsimp only; walk1) | (leave1; walk_say "STEP leave1"; (try dsimp only)) | fail "no step")
  refine ⟨Di, vsI.toArray, rfl, ⟨_, (N _ (List.mem_cons_self ..)).1, rfl, _, rfl⟩, ?_, ?_, ?_⟩
  · have h9 := hiI.1
    rw [sizeLine_eq, List.size_toArray]
    omega
  · intro i v hv
    have hv' : vsI[i]? = some v := by simpa using hv
    have hlt : i < its.length := by rw [← hiI.1]; exact (List.getElem?_eq_some_iff.mp hv').1
    obtain ⟨it, hit⟩ : ∃ it, its[i]? = some it := ⟨_, List.getElem?_eq_getElem hlt⟩
    obtain ⟨b, u1, u2, nn, hvb, hb⟩ := hiI.2 i it hit
    rw [hvb] at hv'
    obtain rfl := Option.some.inj hv'
    refine ⟨b, _, _, rfl, ⟨_, (N _ (by (repeat (first | exact hb | apply List.mem_cons_of_mem)))).1, rfl, _, rfl⟩, ?_⟩
    intro C m₂ s' E' hn hp hq
    have hpl := piece_len (hok it (List.mem_of_getElem? hit))
    have hpz : (signOf it.op).length + (partOf it).length ≤ 3 := by
      have e : (pieceS it).length = (signOf it.op).length + (partOf it).length := Array.size_append
      omega
    exact add_names (by rfl) (by rfl) (by rfl) (by decide) (by decide) hn hp hq (by rw [sizeLine_eq]; omega) (fun t tk => ⟨⟨it, t, hit, rfl⟩, _, rfl⟩)
  · intro D ys h' t hly hR hk9 hD hnD
    have hsa := strs_are (its := its) (by rw [hly, List.size_toArray]; exact hiI.1) hR
    have NF := Fresh.news (led := [(D, LCg.lst ys)]) (fun p hp => by rw [List.mem_singleton.mp hp]; exact ⟨hD, hnD⟩) hk9 F N
    have aD9 : ApAll D [L + 1 + 1 + 1 + 1 + 1 + 1 + 1 + 1, L + 1 + 1 + 1 + 1 + 1 + 1 + 1, L + 1 + 1 + 1 + 1 + 1 + 1, L + 1 + 1 + 1 + 1 + 1, L + 1 + 1 + 1 + 1, L + 1 + 1 + 1, L + 1 + 1, L + 1] := ap_fresh (led := [(D, LCg.lst ys)]) (fun p hp => by rw [List.mem_singleton.mp hp]; exact ⟨hD, hnD⟩) N (List.mem_cons_self ..) (by repeat' (first | exact List.forall_mem_nil _ | refine List.forall_mem_cons.mpr ⟨⟨_, by k_mem⟩, ?_⟩))
    have FF := keeps_fr F hk9
    clear F N hR hD hnD hk9
    simp only [List.cons_append, List.nil_append] at NF
    (try dsimp only)
    repeat' ((fail_if_success (with_reducible show wpAny _ _ (call (Value.ref 115) _) _ _ _)); first | (k_unfold; (try dsimp only)) | (k_end; kc_close) | walk1 | (dsimp only; walk1) | (leave1; walk_say "STEP leave1"; (try dsimp only)) | fail "no step")
    (rename News _ _ _ _ => lN')
    k_dflt (refine' symbols_tells (its := its) ?kB ?kF ?kX ?kT ?kk ?kd ?ku ?k1 ?k2 ?k3 ?_; (case kB => k_asm); (case kF => k_asm); (case kX => k_asm); (case kT => k_asm); (case kk => exact rfl); (case kd => ktr_room); (case ku => omega); (case k1 => exact hok); (case k2 => exact hlen); (case k3 => exact text_is hok); k_whole)
    intro Dr vsR nR h9 tk9 k9 f9 iR
    (rename Fr _ _ _ _ => F9')
    have N9' := Fresh.news f9 k9 F9' lN'
    have aDr : ApAll Dr [L + 1 + 1 + 1 + 1 + 1 + 1 + 1 + 1, L + 1 + 1 + 1 + 1 + 1 + 1 + 1, L + 1 + 1 + 1 + 1 + 1 + 1, L + 1 + 1 + 1 + 1 + 1, L + 1 + 1 + 1 + 1, L + 1 + 1 + 1, L + 1 + 1, L + 1] := ap_fresh f9 lN' (List.mem_cons_self ..) (by repeat' (first | exact List.forall_mem_nil _ | refine List.forall_mem_cons.mpr ⟨⟨_, by k_mem⟩, ?_⟩))
    replace F9' := keeps_fr F9' k9
    clear lN' f9 k9
    (try simp only [List.cons_append, List.nil_append] at N9')
    (try k_fold)
    repeat' ((fail_if_success (with_reducible show wpAny _ _ (execs [_, _, _, _, _, _, _, _, _, _, _] (envOfC _ _ _ _ _)) _ _ _)); first | (k_unfold; (try dsimp only)) | (k_end; kc_close) | walk1 | (dsimp only; walk1) | (leave1; walk_say "STEP leave1"; (try dsimp only)) | fail "no step")
    k_dflt (refine' piece_c (Dr := Dr) (Di := Di) (Dm := Dm) (inn := inn) ?ho ?hst ?B ?X ?T ?hdp ?hun ?hE ?F ?hm ?N ?h1 ?h2 ?h3 ?h4 ?h5 ?h6 ?h7 ?h8 ?hT ?aDr ?aDi ?aDm ?f1 ?f2 ?f3 ?f4 ?f5 ?f6 ?f7 ?f8 ?f9 ?f10)
    (case ho => k_is)
    (case hst => rfl)
    (case B => k_asm)
    (case X => k_asm)
    (case T => k_asm)
    (case hdp => assumption)
    (case hun => assumption)
    (case hE => assumption)
    (case F => k_asm)
    (case hm => kst_all)
    (case N => (refine kst_newsOf (by k_asm) ?_; (repeat (refine List.forall_mem_cons.mpr (And.intro (by k_mem) ?_))); intro p9 hp9; (repeat (first | exact hp9 | apply List.mem_cons_of_mem))))
    (case h1 => assumption)
    (case h2 => assumption)
    (case h3 => assumption)
    (case h4 => assumption)
    (case h5 => assumption)
    (case h6 => assumption)
    (case h7 => assumption)
    (case h8 => assumption)
    (case hT => exact off_sub hT (fun b hb => hb))
    (case aDr => assumption)
    (case aDi => assumption)
    (case aDm => assumption)
    (case f1 => assumption)
    (case f2 => assumption)
    (case f3 => assumption)
    (case f4 => assumption)
    (case f5 => assumption)
    (case f6 => assumption)
    (case f7 => assumption)
    (case f8 => assumption)
    (case f9 => assumption)
    (case f10 => exact fun h9 tk9 => hQ h9 tk9)
end
end Mine
end
section
open PySem PySem.W PyProof.Rows PySem.Calls Mine
namespace Mine
section
set_option maxRecDepth 100000 in
set_option maxHeartbeats 8000000 in
theorem piece_b1 {w : World} {mean : ExcName → Option Value} {mg mb : Str → Option Value} {dp un : Nat} {gd : Option (List Code)} {A₀ : Around} {base base0 : Heap} {outer : List Env} {name qual : Str} {params : Arguments} {body stmts : List Stmt} {scope : Scope} {dV kV doc pm cdv ct oc : Value} {an od : Option Addr} {osl : Array (Option Value)} {L ea : Addr} {ecd : Value} {m : Str → Option Value} {s : Shared} {Q : Flow → Shared → Prop} {E : Value → Shared → Prop}
   {ns mks : List Int} {tot : Int} {t1 : Tok} {Dm lS : Addr} {vsM vsS : List Value} {nM : Nat}
   (ho : (kfr.heap_1 w.params).lookup 146 = some ⟨oc, od, .func (fnOf name qual params body scope dV kV doc pm an cdv ct), osl⟩) (hst : stmts = body.drop 5) (B : Below A₀ base0 outer base) (X : (kfr.heap_1 w.params).In base) (T : Top hdv (looseW hdv hdl) mean mg mb base) (hdp : dp + 10 < recursionLimit) (hun : un + 100 < cLine) (hE : PassesOwn (model PySem.Challenge.rw_xg0046_01.row.prog w) (ktrTop dp un gd qual scope L ea ecd (cellsFrom (L + 1) scope.names []) outer) (envOfC qual scope L ea ecd) E)
   {c1 c2 c3 c4 c5 c6 c7 c8 : Obj} {inn : List (Addr × Obj)}
   {x1 x2 x3 x4 x5 x6 x7 x8 : Option Value}
   (F : Fr base L s.heap m) (hm : ∀ p ∈ [(Str.ofString "total", Value.int tot t1), (Str.ofString "marks", Value.ref Dm), (Str.ofString "script", Value.ref lS)], m p.1 = some p.2)
   (N : News base L s.heap ((Dm, W.listOf vsM.toArray nM) :: (L + 1 + 1 + 1 + 1 + 1 + 1 + 1 + 1, c8) :: (L + 1 + 1 + 1 + 1 + 1 + 1 + 1, c7) :: (L + 1 + 1 + 1 + 1 + 1 + 1, c6) :: (L + 1 + 1 + 1 + 1 + 1, c5) :: (L + 1 + 1 + 1 + 1, c4) :: (L + 1 + 1 + 1, c3) :: (L + 1 + 1, c2) :: (L + 1, c1) :: inn))
   (h1 : c1.data = .cell x1) (h2 : c2.data = .cell x2) (h3 : c3.data = .cell x3) (h4 : c4.data = .cell x4) (h5 : c5.data = .cell x5) (h6 : c6.data = .cell x6) (h7 : c7.data = .cell x7) (h8 : c8.data = .cell x8)
   (hT : OwnOff inn [L + 1 + 1 + 1 + 1 + 1 + 1 + 1 + 1, L + 1 + 1 + 1 + 1 + 1 + 1 + 1, L + 1 + 1 + 1 + 1 + 1 + 1, L + 1 + 1 + 1 + 1 + 1, L + 1 + 1 + 1 + 1, L + 1 + 1 + 1, L + 1 + 1, L + 1])
   (aDm : ApAll Dm [L + 1 + 1 + 1 + 1 + 1 + 1 + 1 + 1, L + 1 + 1 + 1 + 1 + 1 + 1 + 1, L + 1 + 1 + 1 + 1 + 1 + 1, L + 1 + 1 + 1 + 1 + 1, L + 1 + 1 + 1 + 1, L + 1 + 1 + 1, L + 1 + 1, L + 1])
   (htot : tot.natAbs ≤ 60000000000) (hS : base.IsList lS vsS.toArray) (hiS : IntsAre vsS ns) (hnl : ns.length ≤ 63) (hiM : IntsAre vsM mks) (hmk : ∀ x ∈ mks, 1 ≤ x) (hmz : mks.length ≤ 4)
   (hQ : ∀ h' tk' m', Fr base L h' m' → Q (.ret (.bool true)) { s with heap := h', toks := tk' }) :
   wpAny (model PySem.Challenge.rw_xg0046_01.row.prog w) (ktrTop dp un gd qual scope L ea ecd (cellsFrom (L + 1) scope.names []) outer) (execs stmts (envOfC qual scope L ea ecd)) Q E s := by
  subst hst
  revert X
  k_fill
  intro X
  w_on
  have key : ∀ (o : Obj), (kfr.heap_1 w.params).lookup 146 = some o → o = ⟨oc, od, .func (fnOf name qual params body scope dV kV doc pm an cdv ct), osl⟩ := fun o e => Option.some.inj (e.symm.trans ho)
  have hfo9 := key _ (by k_is)
  clear key ho
  injection hfo9 with e1 e2 e3 e4
  injection e3 with e3
  injection e3 with f1 f2 f3 f4 f5
  injection f4 with f4
  subst f4
  subst f5
  subst f2
  (try clear hfo9)
  subst_vars
  dsimp only [List.drop, loopBody]
  replace F := FrJ.fr (x := Str.ofString "steps") (ps := [(Str.ofString "total", Value.int tot t1), (Str.ofString "marks", Value.ref Dm), (Str.ofString "script", Value.ref lS)]) (stored := []) (m₀ := m) ⟨hm, fun _ _ _ _ => rfl⟩ F
  clear hm
  dsimp only [kstB] at F
  have kMark := kstMark
  repeat' ((fail_if_success (with_reducible show wpAny _ _ (call (Value.ref 108) _) _ _ _)); first | (k_unfold; (try dsimp only)) | (k_end; kc_close) | walk1 | (dsimp only; walk1) | (leave1; walk_say "STEP leave1"; (try dsimp only)) | fail "no step")
  (rename News _ _ _ _ => lN')
  k_dflt (refine' items_tells ?kB ?kF ?kX ?kT ?kk ?kd ?ku ?k1 ?k2 ?k3 ?_; (case kB => k_asm); (case kF => k_asm); (case kX => k_asm); (case kT => k_asm); (case kk => exact rfl); (case kd => ktr_room); (case ku => omega); (case k1 => exact Fr.lst (by k_asm) hS); (case k2 => exact hiS); (case k3 => omega); k_whole)
  intro Di vsI0 nI h9 tk9 inn9 k9 f9 hin iI0
  obtain ⟨vsI, rfl⟩ : ∃ l : List Value, vsI0 = l.toArray := ⟨vsI0.toList, Array.toArray_toList.symm⟩
  have iI : ItemsIn inn9 vsI (itemsOf ns) := by simpa using iI0
  clear iI0
  (rename Fr _ _ _ _ => F9')
  have N9' := news_rot (Fresh.news f9 k9 F9' lN')
  have aDi : ApAll Di [L + 1 + 1 + 1 + 1 + 1 + 1 + 1 + 1, L + 1 + 1 + 1 + 1 + 1 + 1 + 1, L + 1 + 1 + 1 + 1 + 1 + 1, L + 1 + 1 + 1 + 1 + 1, L + 1 + 1 + 1 + 1, L + 1 + 1 + 1, L + 1 + 1, L + 1] := ap_fresh f9 lN' (List.mem_cons_self ..) (by repeat' (first | exact List.forall_mem_nil _ | refine List.forall_mem_cons.mpr ⟨⟨_, by k_mem⟩, ?_⟩))
  have hT9 : OwnOff (inn ++ inn9) [L + 1 + 1 + 1 + 1 + 1 + 1 + 1 + 1, L + 1 + 1 + 1 + 1 + 1 + 1 + 1, L + 1 + 1 + 1 + 1 + 1 + 1, L + 1 + 1 + 1 + 1 + 1, L + 1 + 1 + 1 + 1, L + 1 + 1 + 1, L + 1 + 1, L + 1] := off_app hT (off_fresh f9 lN' (fun p hp => List.mem_cons_of_mem _ hp) (by repeat' (first | exact List.forall_mem_nil _ | refine List.forall_mem_cons.mpr ⟨⟨_, by k_mem⟩, ?_⟩)))
  replace F9' := keeps_fr F9' k9
  clear lN' f9 k9 hin
  simp only [List.cons_append, List.nil_append] at N9'
  (try k_fold)
  repeat' ((fail_if_success (with_reducible show wpAny _ _ (execs [_, _, _, _, _, _, _, _, _, _, _, _] (envOfC _ _ _ _ _)) _ _ _)); first | (k_unfold; (try dsimp only)) | (k_end; kc_close) | walk1 | (dsimp only; walk1) | (leave1; walk_say "STEP leave1"; (try dsimp only)) | fail "no step")
  k_dflt (refine' piece_b2 (Di := Di) (Dm := Dm) (inn := (inn ++ inn9)) ?ho ?hst ?B ?X ?T ?hdp ?hun ?hE ?F ?hm ?N ?h1 ?h2 ?h3 ?h4 ?h5 ?h6 ?h7 ?h8 ?hT ?aDi ?aDm ?f1 ?f2 ?f3 ?f4 ?f5 ?f6 ?f7 ?f8 ?f9)
  (case ho => k_is)
  (case hst => rfl)
  (case B => k_asm)
  (case X => k_asm)
  (case T => k_asm)
  (case hdp => assumption)
  (case hun => assumption)
  (case hE => assumption)
  (case F => k_asm)
  (case hm => kst_all)
  (case N => (refine kst_newsOf (by k_asm) ?_; (repeat (refine List.forall_mem_cons.mpr (And.intro (by k_mem) ?_))); intro p9 hp9; (repeat (first | exact hp9 | apply List.mem_cons_of_mem))))
  (case h1 => assumption)
  (case h2 => assumption)
  (case h3 => assumption)
  (case h4 => assumption)
  (case h5 => assumption)
  (case h6 => assumption)
  (case h7 => assumption)
  (case h8 => assumption)
  (case hT => exact off_sub hT9 (fun b hb => hb))
  (case aDi => assumption)
  (case aDm => assumption)
  (case f1 => exact itemsOf_ok ns)
  (case f2 => exact itemsOf_len ns)
  (case f3 => assumption)
  (case f4 => exact fun x hx => far_is hx)
  (case f5 => exact ItemsIn.mono iI (fun p hp => List.mem_append_right _ hp))
  (case f6 => assumption)
  (case f7 => assumption)
  (case f8 => assumption)
  (case f9 => exact fun h9 tk9 => hQ h9 tk9)
end
end Mine
end
section
open PySem PySem.W PyProof.Rows PySem.Calls Mine
namespace Mine
section
set_option maxRecDepth 100000 in
set_option maxHeartbeats 8000000 in
theorem piece_a4 {w : World} {mean : ExcName → Option Value} {mg mb : Str → Option Value} {dp un : Nat} {gd : Option (List Code)} {A₀ : Around} {base base0 : Heap} {outer : List Env} {name qual : Str} {params : Arguments} {body stmts : List Stmt} {scope : Scope} {dV kV doc pm cdv ct oc : Value} {an od : Option Addr} {osl : Array (Option Value)} {L ea : Addr} {ecd : Value} {m : Str → Option Value} {s : Shared} {Q : Flow → Shared → Prop} {E : Value → Shared → Prop}
   {ns : List Int} {tot s0 s1 wy : Int} {t1 t2 t3 t4 : Tok} {Dm Dz lS : Addr} {vsM vsS : List Value} {nM nZ : Nat}
   (ho : (kfr.heap_1 w.params).lookup 146 = some ⟨oc, od, .func (fnOf name qual params body scope dV kV doc pm an cdv ct), osl⟩) (hst : stmts = body.drop 4) (B : Below A₀ base0 outer base) (X : (kfr.heap_1 w.params).In base) (T : Top hdv (looseW hdv hdl) mean mg mb base) (hdp : dp + 10 < recursionLimit) (hun : un + 100 < cLine) (hE : PassesOwn (model PySem.Challenge.rw_xg0046_01.row.prog w) (ktrTop dp un gd qual scope L ea ecd (cellsFrom (L + 1) scope.names []) outer) (envOfC qual scope L ea ecd) E)
   {c1 c2 c3 c4 c5 c6 c7 c8 : Obj} {inn : List (Addr × Obj)}
   {x2 x3 x4 x5 x6 x7 x8 : Option Value}
   (F : Fr base L s.heap m) (hm : ∀ p ∈ [(Str.ofString "total", Value.int tot t1), (Str.ofString "way", Value.int wy t2), (Str.ofString "marks", Value.ref Dm), (Str.ofString "script", Value.ref lS)], m p.1 = some p.2)
   (N : News base L s.heap ((Dm, W.listOf vsM.toArray nM) :: (Dz, W.listOf #[Value.int s0 t3, Value.int s1 t4] nZ) :: (L + 1 + 1 + 1 + 1 + 1 + 1 + 1 + 1, c8) :: (L + 1 + 1 + 1 + 1 + 1 + 1 + 1, c7) :: (L + 1 + 1 + 1 + 1 + 1 + 1, c6) :: (L + 1 + 1 + 1 + 1 + 1, c5) :: (L + 1 + 1 + 1 + 1, c4) :: (L + 1 + 1 + 1, c3) :: (L + 1 + 1, c2) :: (L + 1, c1) :: inn))
   (h1 : c1.data = .cell (some (Value.ref Dz))) (h2 : c2.data = .cell x2) (h3 : c3.data = .cell x3) (h4 : c4.data = .cell x4) (h5 : c5.data = .cell x5) (h6 : c6.data = .cell x6) (h7 : c7.data = .cell x7) (h8 : c8.data = .cell x8)
   (hT : OwnOff inn [L + 1 + 1 + 1 + 1 + 1 + 1 + 1 + 1, L + 1 + 1 + 1 + 1 + 1 + 1 + 1, L + 1 + 1 + 1 + 1 + 1 + 1, L + 1 + 1 + 1 + 1 + 1, L + 1 + 1 + 1 + 1, L + 1 + 1 + 1, L + 1 + 1, L + 1])
   (aDm : ApAll Dm [L + 1 + 1 + 1 + 1 + 1 + 1 + 1 + 1, L + 1 + 1 + 1 + 1 + 1 + 1 + 1, L + 1 + 1 + 1 + 1 + 1 + 1, L + 1 + 1 + 1 + 1 + 1, L + 1 + 1 + 1 + 1, L + 1 + 1 + 1, L + 1 + 1, L + 1]) (aDz : ApAll Dz [L + 1 + 1 + 1 + 1 + 1 + 1 + 1 + 1, L + 1 + 1 + 1 + 1 + 1 + 1 + 1, L + 1 + 1 + 1 + 1 + 1 + 1, L + 1 + 1 + 1 + 1 + 1, L + 1 + 1 + 1 + 1, L + 1 + 1 + 1, L + 1 + 1, L + 1])
   (htot : tot.natAbs ≤ 60000000000) (hs0 : s0 = 1 ∨ s0 = 2) (hs1 : s1 = 1 ∨ s1 = 2) (hwy : wy = 0 ∨ wy = 1 ∨ wy = 2) (hS : base.IsList lS vsS.toArray) (hiS : IntsAre vsS ns) (hnl : ns.length ≤ 63) (hiM : IntsAre vsM (marksOf s0 s1 wy))
   (hQ : ∀ h' tk' m', Fr base L h' m' → Q (.ret (.bool true)) { s with heap := h', toks := tk' }) :
   wpAny (model PySem.Challenge.rw_xg0046_01.row.prog w) (ktrTop dp un gd qual scope L ea ecd (cellsFrom (L + 1) scope.names []) outer) (execs stmts (envOfC qual scope L ea ecd)) Q E s := by
  subst hst
  revert X
  k_fill
  intro X
  w_on
  have key : ∀ (o : Obj), (kfr.heap_1 w.params).lookup 146 = some o → o = ⟨oc, od, .func (fnOf name qual params body scope dV kV doc pm an cdv ct), osl⟩ := fun o e => Option.some.inj (e.symm.trans ho)
  have hfo9 := key _ (by k_is)
  clear key ho
  injection hfo9 with e1 e2 e3 e4
  injection e3 with e3
  injection e3 with f1 f2 f3 f4 f5
  injection f4 with f4
  subst f4
  subst f5
  subst f2
  (try clear hfo9)
  subst_vars
  dsimp only [List.drop, loopBody]
  replace F := FrJ.fr (x := Str.ofString "steps") (ps := [(Str.ofString "total", Value.int tot t1), (Str.ofString "way", Value.int wy t2), (Str.ofString "marks", Value.ref Dm), (Str.ofString "script", Value.ref lS)]) (stored := []) (m₀ := m) ⟨hm, fun _ _ _ _ => rfl⟩ F
  clear hm
  dsimp only [kstB] at F
  have kMark := kstMark
  repeat' ((fail_if_success (with_reducible show wpAny _ _ (execs [_, _, _, _, _, _, _, _, _, _, _, _, _] (envOfC _ _ _ _ _)) _ _ _)); first | (k_unfold; (try dsimp only)) | (k_end; kc_close) | walk1 | (dsimp only; walk1) | (leave1; walk_say "STEP leave1"; (try dsimp only)) | fail "no step")
  · dsimp only
    k_dflt (refine' piece_b1 (Dm := Dm) (inn := inn) ?ho ?hst ?B ?X ?T ?hdp ?hun ?hE ?F ?hm ?N ?h1 ?h2 ?h3 ?h4 ?h5 ?h6 ?h7 ?h8 ?hT ?aDm ?f1 ?f2 ?f3 ?f4 ?f5 ?f6 ?f7 ?f8)
    (case ho => k_is)
    (case hst => rfl)
    (case B => k_asm)
    (case X => k_asm)
    (case T => k_asm)
    (case hdp => assumption)
    (case hun => assumption)
    (case hE => assumption)
    (case F => k_asm)
    (case hm => kst_all)
    (case N => (refine kst_newsOf (by k_asm) ?_; (repeat (refine List.forall_mem_cons.mpr (And.intro (by k_mem) ?_))); intro p9 hp9; (repeat (first | exact hp9 | apply List.mem_cons_of_mem))))
    (case h1 => assumption)
    (case h2 => assumption)
    (case h3 => assumption)
    (case h4 => assumption)
    (case h5 => assumption)
    (case h6 => assumption)
    (case h7 => assumption)
    (case h8 => assumption)
    (case hT => exact off_sub hT (fun b hb => hb))
    (case aDm => assumption)
    (case f1 => assumption)
    (case f2 => exact hS)
    (case f3 => exact hiS)
    (case f4 => assumption)
    (case f5 => assumption)
    (case f6 => exact marks_pos hs0 hs1)
    (case f7 => exact marks_len _ _ _)
    (case f8 => exact fun h9 tk9 => hQ h9 tk9)
  · exact absurd (marks_four (by assumption)) (by assumption)
  · dsimp only
    k_dflt (refine' piece_b1 (Dm := Dm) (inn := inn) ?ho ?hst ?B ?X ?T ?hdp ?hun ?hE ?F ?hm ?N ?h1 ?h2 ?h3 ?h4 ?h5 ?h6 ?h7 ?h8 ?hT ?aDm ?f1 ?f2 ?f3 ?f4 ?f5 ?f6 ?f7 ?f8)
    (case ho => k_is)
    (case hst => rfl)
    (case B => k_asm)
    (case X => k_asm)
    (case T => k_asm)
    (case hdp => assumption)
    (case hun => assumption)
    (case hE => assumption)
    (case F => k_asm)
    (case hm => kst_all)
    (case N => (refine kst_newsOf (by k_asm) ?_; (repeat (refine List.forall_mem_cons.mpr (And.intro (by k_mem) ?_))); intro p9 hp9; (repeat (first | exact hp9 | apply List.mem_cons_of_mem))))
    (case h1 => assumption)
    (case h2 => assumption)
    (case h3 => assumption)
    (case h4 => assumption)
    (case h5 => assumption)
    (case h6 => assumption)
    (case h7 => assumption)
    (case h8 => assumption)
    (case hT => exact off_sub hT (fun b hb => hb))
    (case aDm => assumption)
    (case f1 => assumption)
    (case f2 => exact hS)
    (case f3 => exact hiS)
    (case f4 => assumption)
    (case f5 => assumption)
    (case f6 => exact marks_pos hs0 hs1)
    (case f7 => exact marks_len _ _ _)
    (case f8 => exact fun h9 tk9 => hQ h9 tk9)
  · exact absurd (marks_two (by assumption)) (by assumption)
end
end Mine
end
section
open PySem PySem.W PyProof.Rows PySem.Calls Mine
namespace Mine
section
set_option maxRecDepth 100000 in
set_option maxHeartbeats 8000000 in
theorem piece_a0 {w : World} {mean : ExcName → Option Value} {mg mb : Str → Option Value} {dp un : Nat} {gd : Option (List Code)} {A₀ : Around} {base base0 : Heap} {outer : List Env} {name qual : Str} {params : Arguments} {body stmts : List Stmt} {scope : Scope} {dV kV doc pm cdv ct oc : Value} {an od : Option Addr} {osl : Array (Option Value)} {L ea : Addr} {ecd : Value} {m : Str → Option Value} {s : Shared} {Q : Flow → Shared → Prop} {E : Value → Shared → Prop}
   {ns : List Int} {lS : Addr} {vsS : List Value}
   (ho : (kfr.heap_1 w.params).lookup 146 = some ⟨oc, od, .func (fnOf name qual params body scope dV kV doc pm an cdv ct), osl⟩) (hst : body = stmts) (B : Below A₀ base0 outer base) (X : (kfr.heap_1 w.params).In base) (T : Top hdv (looseW hdv hdl) mean mg mb base) (hdp : dp + 10 < recursionLimit) (hun : un + 100 < cLine) (hE : PassesOwn (model PySem.Challenge.rw_xg0046_01.row.prog w) (ktrTop dp un gd qual scope L ea ecd (cellsFrom (L + 1) scope.names []) outer) (envOfC qual scope L ea ecd) E)
   {c1 c2 c3 c4 c5 c6 c7 c8 : Obj} {inn : List (Addr × Obj)}
   {x1 x2 x3 x4 x5 x6 x7 x8 : Option Value}
   (F : Fr base L s.heap m) (hm : ∀ p ∈ [(Str.ofString "script", Value.ref lS)], m p.1 = some p.2)
   (N : News base L s.heap ((L + 1 + 1 + 1 + 1 + 1 + 1 + 1 + 1, c8) :: (L + 1 + 1 + 1 + 1 + 1 + 1 + 1, c7) :: (L + 1 + 1 + 1 + 1 + 1 + 1, c6) :: (L + 1 + 1 + 1 + 1 + 1, c5) :: (L + 1 + 1 + 1 + 1, c4) :: (L + 1 + 1 + 1, c3) :: (L + 1 + 1, c2) :: (L + 1, c1) :: inn))
   (h1 : c1.data = .cell x1) (h2 : c2.data = .cell x2) (h3 : c3.data = .cell x3) (h4 : c4.data = .cell x4) (h5 : c5.data = .cell x5) (h6 : c6.data = .cell x6) (h7 : c7.data = .cell x7) (h8 : c8.data = .cell x8)
   (hT : OwnOff inn [L + 1 + 1 + 1 + 1 + 1 + 1 + 1 + 1, L + 1 + 1 + 1 + 1 + 1 + 1 + 1, L + 1 + 1 + 1 + 1 + 1 + 1, L + 1 + 1 + 1 + 1 + 1, L + 1 + 1 + 1 + 1, L + 1 + 1 + 1, L + 1 + 1, L + 1])
   
   (hS : base.IsList lS vsS.toArray) (hiS : IntsAre vsS ns) (hnl : ns.length ≤ 63)
   (hQ : ∀ h' tk' g', GenState.bare g' = true → ∀ m', Fr base L h' m' → Q (.ret (.bool true)) { s with heap := h', toks := tk', gens := s.gens.push g' }) :
   wpAny (model PySem.Challenge.rw_xg0046_01.row.prog w) (ktrTop dp un gd qual scope L ea ecd (cellsFrom (L + 1) scope.names []) outer) (execs stmts (envOfC qual scope L ea ecd)) Q E s := by
  subst hst
  revert X
  k_fill
  intro X
  w_on
  have key : ∀ (o : Obj), (kfr.heap_1 w.params).lookup 146 = some o → o = ⟨oc, od, .func (fnOf name qual params body scope dV kV doc pm an cdv ct), osl⟩ := fun o e => Option.some.inj (e.symm.trans ho)
  have hfo9 := key _ (by k_is)
  clear key ho
  injection hfo9 with e1 e2 e3 e4
  injection e3 with e3
  injection e3 with f1 f2 f3 f4 f5
  injection f4 with f4
  subst f4
  subst f5
  subst f2
  (try clear hfo9)
  subst_vars
  dsimp only [List.drop, loopBody]
  replace F := FrJ.fr (x := Str.ofString "steps") (ps := [(Str.ofString "script", Value.ref lS)]) (stored := []) (m₀ := m) ⟨hm, fun _ _ _ _ => rfl⟩ F
  clear hm
  dsimp only [kstB] at F
  have kMark := kstMark
  clear kMark
  repeat' ((fail_if_success (with_reducible show wpAny _ _ (execs [_, _, _, _, _, _, _, _, _, _, _, _, _, _, _, _, _] (envOfC _ _ _ _ _)) _ _ _)); first | (k_unfold; (try dsimp only)) | (k_end; kc_close) | walk1 | (dsimp only; walk1) | (leave1; walk_say "STEP leave1"; (try dsimp only)) | fail "no step")
  have htot := tot_abs ns
  (rename Fr _ _ _ _ => F9); (rename News _ _ _ _ => N9)
  generalize (List.map (fun (k' : Int) => if 0 ≤ k' then k'.fmod (10 ^ Int.toNat 9) else -(-k').fmod (10 ^ Int.toNat 9)) (List.take 60 ns)).sum = tot at htot F9
  have N8 := kst_newsOf (l' := (L + 1 + 1 + 1 + 1 + 1 + 1 + 1 + 1, c8) :: (L + 1 + 1 + 1 + 1 + 1 + 1 + 1, c7) :: (L + 1 + 1 + 1 + 1 + 1 + 1, c6) :: (L + 1 + 1 + 1 + 1 + 1, c5) :: (L + 1 + 1 + 1 + 1, c4) :: (L + 1 + 1 + 1, c3) :: (L + 1 + 1, c2) :: (L + 1, c1) :: inn) N9 (by (repeat (refine List.forall_mem_cons.mpr (And.intro (by k_mem) ?_))); intro p9 hp9; (repeat (first | exact hp9 | apply List.mem_cons_of_mem)))
  clear N9
  repeat' ((fail_if_success (with_reducible show wpAny _ _ (call (Value.ref 141) _) _ _ _)); first | (k_unfold; (try dsimp only)) | (k_end; kc_close) | walk1 | (dsimp only; walk1) | (leave1; walk_say "STEP leave1"; (try dsimp only)) | fail "no step")
  (rename News _ _ _ _ => lN'); (rename Fr _ _ _ _ => F9')
  rename_i Dz hA l9 hB oZ dZ hC
  have aDz : ApAll Dz [L + 1 + 1 + 1 + 1 + 1 + 1 + 1 + 1, L + 1 + 1 + 1 + 1 + 1 + 1 + 1, L + 1 + 1 + 1 + 1 + 1 + 1, L + 1 + 1 + 1 + 1 + 1, L + 1 + 1 + 1 + 1, L + 1 + 1 + 1, L + 1 + 1, L + 1] := by repeat' (first | exact ap_nil _ | refine ap_cons (by omega) ?_)
  clear l9
  k_dflt (refine' marks_tells ?kB ?kF ?kX ?kT ?kk ?kd ?ku ?k1 ?k2 ?k3 ?k4 ?_; (case kB => k_asm); (case kF => k_asm); (case kX => k_asm); (case kT => k_asm); (case kk => exact rfl); (case kd => ktr_room); (case ku => omega); (case k1 => exact ⟨_, (lN' _ (List.mem_cons_self ..)).1, rfl, _, rfl⟩); (case k2 => exact one_two _); (case k3 => exact one_two _); (case k4 => exact of_three _); k_whole)
  intro Dm vsM nM h9 tk9 gs9 k9 f9 i9 b9
  have N9' := Fresh.news f9 k9 F9' lN'
  have aDm : ApAll Dm [L + 1 + 1 + 1 + 1 + 1 + 1 + 1 + 1, L + 1 + 1 + 1 + 1 + 1 + 1 + 1, L + 1 + 1 + 1 + 1 + 1 + 1, L + 1 + 1 + 1 + 1 + 1, L + 1 + 1 + 1 + 1, L + 1 + 1 + 1, L + 1 + 1, L + 1] := ap_fresh f9 lN' (List.mem_cons_self ..) (by repeat' (first | exact List.forall_mem_nil _ | refine List.forall_mem_cons.mpr ⟨⟨_, by k_mem⟩, ?_⟩))
  replace F9' := keeps_fr F9' k9
  clear lN' f9 k9
  (try simp only [List.cons_append, List.nil_append] at N9')
  (try k_fold)
  repeat' ((fail_if_success (with_reducible show wpAny _ _ (execs [_, _, _, _, _, _, _, _, _, _, _, _, _, _] (envOfC _ _ _ _ _)) _ _ _)); first | (k_unfold; (try dsimp only)) | (k_end; kc_close) | walk1 | (dsimp only; walk1) | (leave1; walk_say "STEP leave1"; (try dsimp only)) | fail "no step")
  k_dflt (refine' piece_a4 (Dm := Dm) (Dz := Dz) (inn := inn) ?ho ?hst ?B ?X ?T ?hdp ?hun ?hE ?F ?hm ?N ?h1 ?h2 ?h3 ?h4 ?h5 ?h6 ?h7 ?h8 ?hT ?aDm ?aDz ?f1 ?f2 ?f3 ?f4 ?f5 ?f6 ?f7 ?f8 ?f9)
  (case ho => k_is)
  (case hst => rfl)
  (case B => k_asm)
  (case X => k_asm)
  (case T => k_asm)
  (case hdp => assumption)
  (case hun => assumption)
  (case hE => assumption)
  (case F => k_asm)
  (case hm => kst_all)
  (case N => (refine kst_newsOf (by k_asm) ?_; (repeat (refine List.forall_mem_cons.mpr (And.intro (by k_mem) ?_))); intro p9 hp9; (repeat (first | exact hp9 | apply List.mem_cons_of_mem))))
  (case h1 => assumption)
  (case h2 => assumption)
  (case h3 => assumption)
  (case h4 => assumption)
  (case h5 => assumption)
  (case h6 => assumption)
  (case h7 => assumption)
  (case h8 => assumption)
  (case hT => exact off_sub hT (fun b hb => hb))
  (case aDm => assumption)
  (case aDz => assumption)
  (case f1 => assumption)
  (case f2 => exact one_two _)
  (case f3 => exact one_two _)
  (case f4 => exact of_three _)
  (case f5 => exact hS)
  (case f6 => exact hiS)
  (case f7 => assumption)
  (case f8 => exact i9)
  (case f9 => exact fun h9 tk9 => hQ h9 tk9 gs9 b9)
end
end Mine
end
section
open PySem PySem.W PyProof.Rows PySem.Calls Mine
namespace Mine
theorem goodWG_true {c : ClaimW} {cl : Str → Option Addr} {mean : ExcName → Option Value} {args : List WData} {s₁ s' : Shared} {L : Addr} {m : Str → Option Value} (F : Fr s₁.heap L s'.heap m) (hg : AllBare s'.gens) (hn : ∀ cls, c.raises args cls = false) (hp : c.post args (.bool true) args = true) (hos : s'.os = s₁.os) :
    GoodWG c cl mean args s₁ (.ok (.ret (.bool true))) s' := by
  have g := goodW_bool (s' := { s' with gens := #[] }) (cl := cl) (mean := mean) F rfl hn hp hos
  exact ⟨g.1, .of_keep g.2.1, g.2.2.1, hg⟩
set_option maxRecDepth 100000 in
set_option maxHeartbeats 8000000 in
theorem law_holds : PySem.Challenge.rw_xg0046_01.Holds := by
  w_on
  refine holds_law said_ok fun said => ?_
  refine holds_open (q := hdv) (loose := hdl) (Xt := hdX) (XP := XL hdv []) (Yf := hdk.obs) (Ya := hdk.val) (YP := hdk.says) (N := 4230) left (Hook.of hdk) (Hook.keeps hdk) (fun s e => xl_of s (Bool.and_eq_true_iff.mp e).1) XL.keeps (by rfl) (by rfl) (by rfl) (fun s e => recFacts_of (Bool.and_eq_true_iff.mp e).2) (by rfl) (by first | assumption | decide +kernel) (by decide +kernel) ⟨rfl, rfl, rfl, rfl, rfl, by decide +kernel⟩ ?hw ?hc
  (case hw => w_witness2)
  clear said
  k_fill
  intro w s₀ s₁ mg mb G Y fa o pm cd doc dV kV ho hd' hcd hD hmg hg args vals as hpre hlay hrd hwl hlo
  have KX := kIn_of Y
  have X := (Ground.X G).1
  have V := (Ground.X G).2
  try w_nolog (first | (have GL := glob_more (Ground.glob G (by decide +kernel) (by decide +kernel)) V) | (have GL := glob_more (Ground.glob G (by decide +kernel)) V))
  refine Ground.open G ?_
  intro T B D TE TW
  try (refine guard_noD D (by decide +kernel) ?_; clear D)
  obtain ⟨_, _, M⟩ := bmod_of_top T
  have TA := at_of_top T
  try (obtain ⟨_, _, he, B0⟩ := based_of_top T rfl hmg ho hd'; have he' : cd = _ := he; subst he'; clear he)
  clear hmg
  wrow_args hpre hlay hrd hwl hlo
  all_goals (
    first | refine callC_kw (enter_call ?_) | refine enter_call ?_ | refine callC_kw (enter_callW ?_) | refine enter_callW ?_ | w_how
    w_top on
    have K0 := below_caller (Top.heap T)
    w_call any ho hd' hcd hD T F
    clear hd' TA
    k_drop
    skip)
  clear G Y B TE TW GL V M hcd hD
  dsimp only
  revert KX
  k_fill
  intro KX
  k_dflt (refine' piece_a0 (inn := []) ?ho ?hst ?B ?X ?T ?hdp ?hun ?hE ?F ?hm ?N ?h1 ?h2 ?h3 ?h4 ?h5 ?h6 ?h7 ?h8 ?hT ?f1 ?f2 ?f3 ?f4)
  (case ho => k_is)
  (case hst => rfl)
  (case B => exact K0)
  (case X => exact KX)
  (case T => exact T)
  (case hdp => decide +kernel)
  (case hun => decide +kernel)
  (case hE => passes_own)
  (case F => assumption)
  (case f1 => assumption)
  (case f2 => assumption)
  (case f3 => omega)
  (case N => assumption)
  (case h1 => assumption)
  (case h2 => assumption)
  (case h3 => assumption)
  (case h4 => assumption)
  (case h5 => assumption)
  (case h6 => assumption)
  (case h7 => assumption)
  (case h8 => assumption)
  (case hT => exact fun p hp => by cases hp)
  (case hm => intro p hp; rw [List.mem_singleton.mp hp]; rfl)
  (case f4 =>
    intro h' tk' g' hb m' F'
    exact goodWG_true F' (AllBare.push (AllBare.of_eq hg) hb) (fun _ => rfl) (by with_unfolding_all rfl) rfl)
end Mine
end

theorem PySem.Challenge.cw_xg0046_01_holds : PySem.Challenge.rw_xg0046_01.Holds :=
  Mine.law_holds
