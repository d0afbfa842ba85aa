import PyProof.Rows.All
import Wide.All
import OpenK.AllK
import Wide.FinOn
import PySem.Challenge.RW_iv0078_01
set_option Elab.async false
set_option maxRecDepth 100000
set_option maxHeartbeats 0
set_option linter.all false
section
open PySem PySem.W PySem.Calls PySem.Spec PyProof.Rows
namespace Mine

section
variable {prog : Program} {w : World} {A A₀ : Around} {s : Shared} {K : Frag} {L : Addr} {h₀ base : Heap} {m mg mb : Str → Option Value} {p : Program} {loose : List Str} {mean : ExcName → Option Value}
  {env : Env} {outer : List Env} {R : Result → Shared → Prop} {name qual : Str} {params : Arguments} {body : List Stmt} {scope : Scope} {dV kV doc pm cdv ct oc : Value} {an od : Option Addr} {osl : Array (Option Value)} {f : Addr} {args : Args} {binds : List (Str × Value)}

theorem leave_stays {g : Heap} {v : Value} {s' : Shared} (F : Fr h₀ L g m) (hl : LeaveK h₀ L m g (fun r s' => g.StaysIn s'.heap → R r s') v s') : R (.ok (.ret v)) s' := by
  obtain ⟨L', m', news', F', N', k⟩ := hl
  obtain ⟨oL, es, ep, hL, _⟩ := F.ns
  refine k (F.keeps F'.keep) (fun p hp => ⟨(N' p hp).1, fun q => ?_, ?_⟩) F'.keep
  · have := (N' p hp).2.2
    rw [q, hL] at this; cases this
  · cases q : h₀.get? p.1 with
    | none => rfl
    | some o =>
      have := (N' p hp).2.2
      rw [F.keep _ _ q] at this; cases this

/-- a def without cells is entered; all that stood stays -/
theorem enterP (B : Below A₀ base outer h₀) (F : Fr h₀ L s.heap m) (X₀ : K.In h₀) (T : Top p loose mean mg mb h₀) (hA : A.frames = some (env :: outer)) (hf : env.frame = some L) (hke : env.scope.kind = .function)
    (ho : K.lookup f = some ⟨oc, od, .func (fnOf name qual params body scope dV kV doc pm an cdv ct), osl⟩) (hcd : codeIn K cdv qual = true) (hroom : A.depth < recursionLimit)
    (hbind : BindsTo s (fnOf name qual params body scope dV kV doc pm an cdv ct) args binds) (hloc : ∀ y ∈ binds, scope.names.lookup y.1 = some .local)
    (h : ∀ g L' h₁, s.heap = g → Fr h₀ L g m → Fr g L' h₁ (fun y => binds.reverse.lookup y) → News g L' h₁ [] → Below A base (env :: outer) g → K.In g → Top p loose mean mg mb g →
      wpAny (model prog w) (A.deeper (envOf qual scope L' f cdv)) (execs body (envOf qual scope L' f cdv))
        (fun fl s' => LeaveK h₀ L m g (fun r s' => g.StaysIn s'.heap → R r s') (match fl with | .ret v => v | _ => .none) s')
        (fun e s' => wpAny (model prog w) (A.deeper (envOf qual scope L' f cdv)) (leaving (envOf qual scope L' f cdv) e) (fun _ s'' => R (.error e) s'') (fun e' s'' => R (.error e') s'') s')
        { s with heap := h₁, toks := s.toks + binds.length })
    (hco : scope.isCoroutine = false) (hgen : scope.isGenerator = false) (hk : scope.kind = .function)
    (hcell : ∀ x ∈ scope.names, x.2 ≠ .cell) : codeAny (model prog w) A (.call (.ref f) args) R s := by
  have B₁ := pushX B F hf hke
  refine codeAny_call_def (fd := fnX name qual params body scope [] dV kV doc pm an cdv ct) (body := body) (binds := binds) hroom ((X₀.keeps F.keep) _ _ ho) rfl (T.nolimit.keeps F.keep) (codeRec_of (X₀.keeps F.keep) hcd) rfl hbind hcell hloc (fun h₁ hns hk₁ => ?_) hco hgen hk
  exact wpAny_mono (h _ s.heap.objs.size h₁ rfl F ⟨hns, hk₁, Nat.le_refl _⟩ News.nil ⟨hA, B₁.stays, B₁.frames⟩ (X₀.keeps F.keep) (T.keeps F.keep)) (fun fl s' hl => leave_stays F hl) fun _ _ y => y

/-- a def with cells is entered; all that stood stays -/
theorem enterC (B : Below A₀ base outer h₀) (F : Fr h₀ L s.heap m) (X₀ : K.In h₀) (T : Top p loose mean mg mb h₀) (hA : A.frames = some (env :: outer)) (hf : env.frame = some L) (hke : env.scope.kind = .function)
    (ho : K.lookup f = some ⟨oc, od, .func (fnOf name qual params body scope dV kV doc pm an cdv ct), osl⟩) (hcd : codeIn K cdv qual = true) (hroom : A.depth < recursionLimit)
    (hbind : BindsTo s (fnOf name qual params body scope dV kV doc pm an cdv ct) args binds) (hkind : (binds.all fun y => scope.names.lookup y.1 == some .local || scope.names.lookup y.1 == some .cell) = true)
    (hnd : ((cellsFrom 0 scope.names []).map (·.1)).Nodup)
    (h : ∀ g L' h₁ tk cells, s.heap = g → Fr h₀ L g m → Fr g L' h₁ (bindL (envOfC qual scope L' f cdv).kindOf binds fun _ => none) → News g L' h₁ cells →
      CellsAre (bindC (envOfC qual scope L' f cdv).kindOf binds fun _ => none) (cellsFrom (L' + 1) scope.names []) cells → Below A base (env :: outer) g → K.In g → Top p loose mean mg mb g →
      wpAny (model prog w) (A.deeper (envOfC qual scope L' f cdv)) (execs body (envOfC qual scope L' f cdv))
        (fun fl s' => LeaveK h₀ L m g (fun r s' => g.StaysIn s'.heap → R r s') (match fl with | .ret v => v | _ => .none) s')
        (fun e s' => wpAny (model prog w) (A.deeper (envOfC qual scope L' f cdv)) (leaving (envOfC qual scope L' f cdv) e) (fun _ s'' => R (.error e) s'') (fun e' s'' => R (.error e') s'') s')
        { s with heap := h₁, toks := tk })
    (hco : scope.isCoroutine = false) (hgen : scope.isGenerator = false) (hk : scope.kind = .function) : codeAny (model prog w) A (.call (.ref f) args) R s := by
  have B₁ := pushX B F hf hke
  refine codeAny_call_function hroom ((X₀.keeps F.keep) _ _ ho) rfl hco hgen rfl (codeRec_of (X₀.keeps F.keep) hcd) (hbind _ _ _ _ ?_)
  refine wpAny_newFunctionEnv_cells hk (kindsX hkind _) fun env' he s' x => ?_
  subst he
  refine ⟨((T.nolimit.keeps F.keep).keeps x.toInCall.keep), codeAny_func ?_⟩
  obtain ⟨h₁, tk, rfl, _⟩ := x.done
  obtain ⟨cells, NC, Y⟩ := Cl.news (h₀ := s.heap) (Nat.le_refl _) fun n c hm => ⟨x.cell n c (lookup_of_mem_nodup (cellsFrom_names scope.names 0 (s.heap.objs.size + 1) [] [] rfl ▸ hnd) hm), x.above n c hm⟩
  exact wpAny_mono (h _ s.heap.objs.size h₁ tk cells rfl F ⟨x.toInCall.ns, x.toInCall.keep, Nat.le_refl _⟩ NC Y ⟨hA, B₁.stays, B₁.frames⟩ (X₀.keeps F.keep) (T.keeps F.keep)) (fun fl s' hl => leave_stays F hl) fun _ _ y => y
end

/-- what a call of the def at f tells: all that stood stays, and the answer is one of R -/
noncomputable def Tells (prog : Program) (w : World) (K : Frag) (p : Program) (loose : List Str) (mean : ExcName → Option Value) (mg mb : Str → Option Value) (D : Nat) (f : Addr) (vs : List Value) (P : Heap → Prop) (R : Heap → Value → Heap → Prop) : Prop :=
  ∀ (dp un : Nat) (gd : Option (List Code)) (cn : Str) (cs : Scope) (a : Addr) (ccd : Value) (cl : List (Str × Addr)) (outer : List Env) (A₀ : Around) (base h₀ : Heap) (L : Addr) (m : Str → Option Value) (s : Shared) (Q E : Value → Shared → Prop),
    Below A₀ base outer h₀ → Fr h₀ L s.heap m → K.In h₀ → Top p loose mean mg mb h₀ → cs.kind = .function → dp + D < recursionLimit → un + 100 * D < cLine → P s.heap →
    (∀ v h' tk', s.heap.StaysIn h' → R s.heap v h' → Q v { s with heap := h', toks := tk' }) →
      wpAny (model prog w) (ktrTop dp un gd cn cs L a ccd cl outer) (call (.ref f) vs) Q E s

theorem Tells.use {prog : Program} {w : World} {K : Frag} {p : Program} {loose : List Str} {mean : ExcName → Option Value} {mg mb : Str → Option Value} {D : Nat} {f : Addr} {vs : List Value} {P : Heap → Prop} {R : Heap → Value → Heap → Prop}
    (C : Tells prog w K p loose mean mg mb D f vs P R)
    {dp un : Nat} {gd : Option (List Code)} {cn : Str} {cs : Scope} {a : Addr} {ccd : Value} {cl : List (Str × Addr)} {outer : List Env} {A₀ : Around} {base h₀ : Heap} {L : Addr} {m : Str → Option Value} {s : Shared} {Q E : Value → Shared → Prop} {news : List (Addr × Obj)}
    (B : Below A₀ base outer h₀) (F : Fr h₀ L s.heap m) (X : K.In h₀) (N : News h₀ L s.heap news) (T : Top p loose mean mg mb h₀) (hk : cs.kind = .function) (hd : dp + D < recursionLimit) (hu : un + 100 * D < cLine) (hP : P s.heap)
    (ret : ∀ v h' tk', s.heap.StaysIn h' → Fr h₀ L h' m → News h₀ L h' news → R s.heap v h' → Q v { s with heap := h', toks := tk' }) :
    wpAny (model prog w) (ktrTop dp un gd cn cs L a ccd cl outer) (call (.ref f) vs) Q E s :=
  C _ _ _ _ _ _ _ _ _ _ _ _ _ _ _ _ _ B F X T hk hd hu hP fun v h' tk' st hR => ret v h' tk' st (F.keeps st) (N.keeps st) hR

/-- a goal that the walk lets lie -/
@[irreducible] noncomputable def Hold (P : Prop) : Prop := P
theorem Hold.on {P : Prop} (h : Hold P) : P := by unfold Hold at h; exact h
theorem Hold.off {P : Prop} (h : P) : Hold P := by unfold Hold; exact h

end Mine
end
section
open PySem PySem.W PySem.Calls PySem.Spec PyProof.Rows PyProof.Rows.LCg PyProof.Rows.LCt
namespace Mine

section
variable {prog : Program} {w : World} {A : Around} {E : Value → Shared → Prop} {s : Shared} {h₀ : Heap} {L : Addr} {m : Str → Option Value} {env : Env}

theorem strsAt : ∀ {vs : List Value} {es : List Str}, StrsAre vs es → ∀ {i : Nat} {v : Value}, vs[i]? = some v → ∃ e t, es[i]? = some e ∧ v = .str e t
  | _, _, .nil, i, v, h => by simp at h
  | _, _, .cons y t r, 0, v, h => ⟨y, t, rfl, by simpa using h.symm⟩
  | _, _, .cons y t r, i + 1, v, h => by
    obtain ⟨e, u, h1, h2⟩ := strsAt r (i := i) (v := v) (by simpa using h)
    exact ⟨e, u, by simpa using h1, h2⟩
theorem strsLen : ∀ {vs : List Value} {es : List Str}, StrsAre vs es → vs.length = es.length
  | _, _, .nil => rfl
  | _, _, .cons _ _ r => by simp [strsLen r]
theorem strsSnoc {y : Str} {t : Tok} : ∀ {vs : List Value} {ys : List Str}, StrsAre vs ys → StrsAre (vs ++ [.str y t]) (ys ++ [y])
  | _, _, .nil => .cons y t .nil
  | _, _, .cons z u r => .cons z u (strsSnoc r)

noncomputable def TurnOk (h₀ : Heap) (L : Addr) (m : Str → Option Value) (s : Shared) (all : List (Addr × Obj)) (b : Bool) (ok : Bool) (s' : Shared) : Prop :=
  ok = b ∧ ∃ h' tk', s' = { s with heap := h', toks := tk' } ∧ Fr h₀ L h' m ∧ News h₀ L h' all

theorem TurnOk.intro {h₀ h' : Heap} {L : Addr} {m : Str → Option Value} {s : Shared} {all all' : List (Addr × Obj)} {b b' : Bool} {tk' : Nat} (F : Fr h₀ L h' m) (N : News h₀ L h' all') (hs : ∀ p ∈ all, p ∈ all') (e : b' = b) :
    TurnOk h₀ L m s all b b' { s with heap := h', toks := tk' } := ⟨e, h', tk', rfl, F, fun p hp => N p (hs p hp)⟩

theorem rest_filter {ct : Expr} {x : Str} {px : Pos} {scope : Scope} {cl : List (Str × Addr)} {es : List Str} {p : Str → Bool} {news : List (Addr × Obj)} {Fin : List Value → List (Addr × Obj) → Prop} {vs : List Value}
    (hkind : scope.kind = .function) (hx : scope.names.lookup x = some .local) (hdb : (x == ("__debug__" : Str)) = false) (hv : StrsAre vs es)
    (turn : ∀ e t I oI C oC D m₂ ys h tk (E' : Value → Shared → Prop), e ∈ es → NsObj oC m₂ → m₂ x = some (.str e t) → Fr h₀ L h m → News h₀ L h ((I, oI) :: (C, oC) :: (D, lst ys) :: news) → Off3 I C D news → ((@Ne Nat I C) ∧ (@Ne Nat I D) ∧ (@Ne Nat C D)) →
      wpAny (model prog w) A (isTrue ct (compEnvC scope cl C env) (eval ct (compEnvC scope cl C env))) (TurnOk h₀ L m { s with heap := h, toks := tk } ((I, oI) :: (C, oC) :: (D, lst ys) :: news) (p e)) E' { s with heap := h, toks := tk })
    (fin : ∀ ys, StrsAre ys (es.filter p) → Fin ys news) :
    CompRestT prog w A h₀ L m env ct (.Name x px) x scope cl s (fun _ => True) (fun i v => vs[i]? = some v) Fin vs.length 0 [] news := by
  have key : ∀ (k i : Nat) (ys : List Value), i + k = vs.length → StrsAre ys ((es.take i).filter p) →
      CompRestT prog w A h₀ L m env ct (.Name x px) x scope cl s (fun _ => True) (fun i v => vs[i]? = some v) Fin k i ys news := by
    intro k
    induction k with
    | zero =>
      intro i ys hi hy
      refine CompRestT.zero (fin ys ?_)
      have e : es.take i = es := List.take_of_length_le (by rw [← strsLen hv]; omega)
      rwa [e] at hy
    | succ k ih =>
      intro i ys hi hy
      refine CompRestT.succ fun v I oI C oC D m₂ h tk E' hP hC hm F N off ne => ?_
      obtain ⟨e, t, he, rfl⟩ := strsAt hv hP
      have htake : (es.take (i + 1)).filter p = (es.take i).filter p ++ (if p e then [e] else []) := by
        rw [List.take_add_one, he, List.filter_append]
        simp only [Option.toList]
        cases hp : p e <;> simp [hp]
      refine wpAny_mono (turn e t I oI C oC D m₂ ys h tk E' (List.mem_of_getElem? he) hC hm F N off ne) (fun ok s' ⟨e1, h', tk', e2, F', N'⟩ => ?_) fun _ _ z => z
      subst e1 e2
      cases hp : p e with
      | true =>
        simp only [if_true]
        refine wpAny_Name (wpAny_loadName_local (by simp [compEnvC, relabel, hkind]) (lookup_relabel_local hx) (hC.ns (N' (C, oC) (by simp)).1) hm ?_) hdb
        refine ⟨h', tk', news, rfl, F', N', off, trivial, ih (i + 1) _ (by omega) ?_⟩
        rw [htake, hp]
        simpa using strsSnoc hy
      | false =>
        simp only [Bool.false_eq_true, if_false]
        refine ⟨h', tk', news, rfl, F', N', off, trivial, ih (i + 1) _ (by omega) ?_⟩
        rw [htake, hp]
        simpa using hy
  exact key vs.length 0 [] (by omega) (by simpa using StrsAre.nil)

theorem listBase_st {ax I : Addr} {its : Array Value} (hl : h₀.IsList ax its) : ∀ i (h h' : Heap) (o : Obj) (nw : List (Addr × Obj)), (h.IsListIter I ax i ∧ h.IsList ax its) → h.get? I = some o → h'.get? I = some o → (∀ b o, h₀.get? b = some o → h'.get? b = some o) → News h₀ L h' nw → True → (h'.IsListIter I ax i ∧ h'.IsList ax its) :=
  fun i h h' o nw st e e' k _ _ => ⟨by obtain ⟨o', q, r⟩ := st.1; rw [e] at q; cases q; exact ⟨o, e', r⟩, by obtain ⟨o', q, r⟩ := hl; exact ⟨o', k _ _ q, r⟩⟩
theorem tupBase_st {ax I : Addr} {its : Array Value} (hl : h₀.IsTuple ax its) : ∀ i (h h' : Heap) (o : Obj) (nw : List (Addr × Obj)), (h.IsTupleIter I ax i ∧ h.IsTuple ax its) → h.get? I = some o → h'.get? I = some o → (∀ b o, h₀.get? b = some o → h'.get? b = some o) → News h₀ L h' nw → True → (h'.IsTupleIter I ax i ∧ h'.IsTuple ax its) :=
  fun i h h' o nw st e e' k _ _ => ⟨by obtain ⟨o', q, r⟩ := st.1; rw [e] at q; cases q; exact ⟨o, e', r⟩, by obtain ⟨o', q, r⟩ := hl; exact ⟨o', k _ _ q, r⟩⟩

/-- a list or a tuple -/
noncomputable def SeqAt (h : Heap) (ax : Addr) (its : Array Value) : Prop := h.IsList ax its ∨ h.IsTuple ax its

/-- a comprehension with one test over a list or a tuple that stood before the def was entered -/
theorem ListComp_S {ct iter : Expr} {x : Str} {px px' : Pos} {scope : Scope} {cl : List (Str × Addr)} {pos : Pos} {Q : Value → Shared → Prop} {ax : Addr} {vs : List Value} {es : List Str} {p : Str → Bool} {news : List (Addr × Obj)}
    (hh : A.handled = none) (F : Fr h₀ L s.heap m) (N : News h₀ L s.heap news) (hsrc : SeqAt h₀ ax vs.toArray) (hv : StrsAre vs es) (hsz : vs.length ≤ sizeLine)
    (hclos : closureFor scope env = pure cl) (hcell : ∀ y ∈ scope.names, y.2 ≠ .cell) (hkind : scope.kind = .function)
    (hnames : ∀ y ∈ scope.names, y.2 = .local → scope.names.lookup y.1 = some .local) (hx : scope.names.lookup x = some .local) (hdb : (x == ("__debug__" : Str)) = false)
    (hit : ∀ {Q' : Value → Shared → Prop}, Q' (.ref ax) s → wpAny (model prog w) A (eval iter env) Q' E s)
    (turn : ∀ e t I oI C oC D m₂ ys h tk (E' : Value → Shared → Prop), e ∈ es → NsObj oC m₂ → m₂ x = some (.str e t) → Fr h₀ L h m → News h₀ L h ((I, oI) :: (C, oC) :: (D, lst ys) :: news) → Off3 I C D news → ((@Ne Nat I C) ∧ (@Ne Nat I D) ∧ (@Ne Nat C D)) →
      wpAny (model prog w) A (isTrue ct (compEnvC scope cl C env) (eval ct (compEnvC scope cl C env))) (TurnOk h₀ L m { s with heap := h, toks := tk } ((I, oI) :: (C, oC) :: (D, lst ys) :: news) (p e)) E' { s with heap := h, toks := tk })
    (fin : ∀ D h' tk' ys, Fr h₀ L h' m → News h₀ L h' ((D, lst ys) :: news) → StrsAre ys (es.filter p) → Q (.ref D) { s with heap := h', toks := tk' })
    (hs : ∀ x, foldedSetIterable iter env x = pure x := by intro _; rfl) :
    wpAny (model prog w) A (eval (.ListComp (.Name x px) [⟨.Name x px', iter, [ct], 0⟩] scope pos) env) Q E s := by
  rw [eval_ListComp]
  refine wpAny_comprehension_free (use := none) rfl hs hclos hkind hnames (hit ?_)
  have R : ∀ s₂ : Shared, (∃ h, s₂ = { s with heap := h }) → CompRestT prog w A h₀ L m env ct (.Name x px) x scope cl s₂ (fun _ => True) (fun i v => vs[i]? = some v) (fun ys nw => nw = news ∧ StrsAre ys (es.filter p)) vs.length 0 [] news := by
    rintro s₂ ⟨h, rfl⟩
    exact rest_filter hkind hx hdb hv turn fun ys hy => ⟨rfl, hy⟩
  have hRR : ∀ (s₂ : Shared), (∃ h, s₂ = { s with heap := h }) → ∀ D C h tk m' ys news', Fr h₀ L h m → News h₀ L h ((D, lst ys) :: news') → Off1 D news' → h.Ns C m' → h₀.get? C = none → h₀.get? D = none → C ≠ L → D ≠ L → C ≠ D → (∀ p ∈ news', p.1 ≠ C) → (news' = news ∧ StrsAre ys (es.filter p)) →
      compPost (model prog w) A E none Q (.ref D) C (.ok .next) { s₂ with heap := h, toks := tk } := by
    rintro s₂ ⟨h0, rfl⟩ D C h tk m' ys news' F' N' o1 hn hC₀ hD₀ hCL hDL hCD offC ⟨rfl, hy⟩
    refine ⟨m', hn, fun h'' hs'' => fin D h'' tk ys (F'.change hs'' hCL hC₀) (fun p hp => ?_) hy⟩
    refine ⟨hs''.extBut _ _ ?_ (N' p hp).1, (N' p hp).2⟩
    rcases List.mem_cons.mp hp with rfl | hp
    · exact Ne.symm hCD
    · exact offC p hp
  rcases hsrc with hl₀ | hl₀
  · have hl : s.heap.IsList ax vs.toArray := by obtain ⟨o', q, r⟩ := hl₀; exact ⟨o', F.keep _ _ q, r⟩
    have hlt : ax < s.heap.objs.size := by obtain ⟨_, e, _⟩ := hl; exact Heap.lt_size e
    refine wpAny_pyIter_list hl ?_
    have up : ∀ b o, s.heap.get? b = some o → (s.heap.push { cls := .type "list_iterator", data := .fields #[.ref ax, .int 0 0] }).get? b = some o := fun b o e => Heap.get?_push_of_some _ e
    exact block_T (Fin := fun ys nw => nw = news ∧ StrsAre ys (es.filter p)) (P := fun i v => vs[i]? = some v) (S := fun _ => True) (n := vs.length) (by simpa using Walks.list hh s.heap.objs.size ax (Nat.ne_of_lt hlt) vs.toArray) hsz (fun i h st => by obtain ⟨o, e, _⟩ := st.1; exact ⟨o, e⟩) (listBase_st hl₀) hcell hkind hx ⟨⟨_, Heap.get?_push_size _ rfl, rfl, rfl⟩, hl.push _⟩
      (fun b hb => by
        show b < (s.heap.push _).objs.size
        rw [Heap.size_push]
        rcases List.mem_cons.mp hb with rfl | hb
        · exact Nat.lt_succ_self _
        · rw [List.mem_singleton.mp hb]; exact Nat.lt_succ_of_lt hlt)
      (F.keeps up) (N.grown up) (Nat.ne_of_lt F.ns.lt) (next_is_new F) (fun p hp => Nat.ne_of_lt (Heap.lt_size (N p hp).1)) trivial (R _ ⟨_, rfl⟩) (hRR _ ⟨_, rfl⟩)
  · have hl : s.heap.IsTuple ax vs.toArray := by obtain ⟨o', q, r⟩ := hl₀; exact ⟨o', F.keep _ _ q, r⟩
    have hlt : ax < s.heap.objs.size := by obtain ⟨_, e, _⟩ := hl; exact Heap.lt_size e
    refine wpAny_pyIter_tuple hl ?_
    have up : ∀ b o, s.heap.get? b = some o → (s.heap.push { cls := .type "tuple_iterator", data := .fields #[.ref ax, .int 0 0] }).get? b = some o := fun b o e => Heap.get?_push_of_some _ e
    exact block_T (Fin := fun ys nw => nw = news ∧ StrsAre ys (es.filter p)) (P := fun i v => vs[i]? = some v) (S := fun _ => True) (n := vs.length) (by simpa using Walks.tuple hh s.heap.objs.size ax (Nat.ne_of_lt hlt) vs.toArray) hsz (fun i h st => by obtain ⟨o, e, _⟩ := st.1; exact ⟨o, e⟩) (tupBase_st hl₀) hcell hkind hx ⟨⟨_, Heap.get?_push_size _ rfl, rfl, rfl⟩, by obtain ⟨o', q, r⟩ := hl; exact ⟨o', up _ _ q, r⟩⟩
      (fun b hb => by
        show b < (s.heap.push _).objs.size
        rw [Heap.size_push]
        rcases List.mem_cons.mp hb with rfl | hb
        · exact Nat.lt_succ_self _
        · rw [List.mem_singleton.mp hb]; exact Nat.lt_succ_of_lt hlt)
      (F.keeps up) (N.grown up) (Nat.ne_of_lt F.ns.lt) (next_is_new F) (fun p hp => Nat.ne_of_lt (Heap.lt_size (N p hp).1)) trivial (R _ ⟨_, rfl⟩) (hRR _ ⟨_, rfl⟩)

theorem canLayAll_strs : ∀ {es : List Str}, (∀ e ∈ es, PyData.strOk e = true) → PyData.canLayAll0 (es.map PyData.str) = true
  | [], _ => by simp [PyData.canLayAll0]
  | e :: r, h => by
    simp only [List.map_cons, PyData.canLayAll0, PyData.canLay0, Bool.and_eq_true]
    exact ⟨h e (by simp), canLayAll_strs fun x hx => h x (by simp [hx])⟩
theorem depthAll_strs : ∀ es : List Str, PyData.depthAll (es.map PyData.str) ≤ 1
  | [] => by simp [PyData.depthAll]
  | e :: r => by
    have := depthAll_strs r
    simp only [List.map_cons, PyData.depthAll, PyData.depth]
    omega
theorem shaped_strs {es : List Str} (h : ∀ e ∈ es, PyData.strOk e = true) : SeqAt.shaped (.list (es.map PyData.str)) = true := by
  have h1 := depthAll_strs es
  have h2 : PyData.depth (.list (es.map PyData.str)) ≤ 64 := by simp only [PyData.depth]; omega
  show (PyData.canLay0 (.list (es.map PyData.str)) && decide (PyData.depth (.list (es.map PyData.str)) ≤ 64)) = true
  rw [Bool.and_eq_true]
  exact ⟨by simp only [PyData.canLay0]; exact canLayAll_strs h, decide_eq_true h2⟩
theorem ne_strs_nil {a b : Addr} {vs : List Value} {es : List Str} {Q : Value → Shared → Prop} (ha : s.heap.IsList a vs.toArray) (hb : s.heap.IsList b (#[] : Array Value)) (hv : StrsAre vs es) (hok : ∀ e ∈ es, PyData.strOk e = true) (hu : A.units + 64 < cLine)
    (h : Q (.bool (!es.isEmpty)) s) : wpAny (model prog w) A (compareOp .NotEq (.ref a) (.ref b)) Q E s := by
  have hb' : s.heap.IsList b ([] : List Value).toArray := hb
  refine ne_dataH_same (reads_newData ha hv.carried) (reads_newData hb' .nil) (shaped_strs hok) (by rfl) hu ?_ ?_
  · cases es <;> simp [SeqAt.noMix, SeqAt.noMixAll]
  · have e : PySem.Spec.same (PyData.list (es.map PyData.str)) (PyData.list []) = es.isEmpty := by
      cases es <;> simp [PySem.Spec.same, PySem.Spec.sameAll]
    rw [e]; exact h

theorem intsSnoc {y : Int} {t : Tok} : ∀ {vs : List Value} {ys : List Int}, IntsAre vs ys → IntsAre (vs ++ [.int y t]) (ys ++ [y])
  | _, _, .nil => .cons y t .nil
  | _, _, .cons z u r => .cons z u (intsSnoc r)
theorem rest_filterR {ct : Expr} {x : Str} {px : Pos} {scope : Scope} {cl : List (Str × Addr)} {n : Nat} {p : Nat → Bool} {news : List (Addr × Obj)} {Fin : List Value → List (Addr × Obj) → Prop}
    (hkind : scope.kind = .function) (hx : scope.names.lookup x = some .local) (hdb : (x == ("__debug__" : Str)) = false)
    (turn : ∀ (i : Nat) t I oI C oC D m₂ ys h tk (E' : Value → Shared → Prop), i < n → NsObj oC m₂ → m₂ x = some (.int (i : Int) t) → Fr h₀ L h m → News h₀ L h ((I, oI) :: (C, oC) :: (D, lst ys) :: news) → Off3 I C D news → ((@Ne Nat I C) ∧ (@Ne Nat I D) ∧ (@Ne Nat C D)) →
      wpAny (model prog w) A (isTrue ct (compEnvC scope cl C env) (eval ct (compEnvC scope cl C env))) (TurnOk h₀ L m { s with heap := h, toks := tk } ((I, oI) :: (C, oC) :: (D, lst ys) :: news) (p i)) E' { s with heap := h, toks := tk })
    (fin : ∀ ys, IntsAre ys (((List.range n).filter p).map fun (i : Nat) => (i : Int)) → Fin ys news) :
    CompRestT prog w A h₀ L m env ct (.Name x px) x scope cl s (fun _ => True) (fun i v => i < n ∧ ∃ t, v = .int ((0 : Int) + (i : Int)) t) Fin n 0 [] news := by
  have key : ∀ (k i : Nat) (ys : List Value), i + k = n → IntsAre ys (((List.range i).filter p).map fun (i : Nat) => (i : Int)) →
      CompRestT prog w A h₀ L m env ct (.Name x px) x scope cl s (fun _ => True) (fun i v => i < n ∧ ∃ t, v = .int ((0 : Int) + (i : Int)) t) Fin k i ys news := by
    intro k
    induction k with
    | zero =>
      intro i ys hi hy
      have e : i = n := by omega
      subst e
      exact CompRestT.zero (fin ys hy)
    | succ k ih =>
      intro i ys hi hy
      refine CompRestT.succ fun v I oI C oC D m₂ h tk E' hP hC hm F N off ne => ?_
      obtain ⟨hlt, t, rfl⟩ := hP
      rw [Int.zero_add] at hm
      have htake : ((List.range (i + 1)).filter p).map (fun (i : Nat) => (i : Int)) = ((List.range i).filter p).map (fun (i : Nat) => (i : Int)) ++ (if p i then [(i : Int)] else []) := by
        rw [List.range_succ, List.filter_append, List.map_append]
        cases hp : p i <;> simp [hp]
      refine wpAny_mono (turn i t I oI C oC D m₂ ys h tk E' hlt hC hm F N off ne) (fun ok s' ⟨e1, h', tk', e2, F', N'⟩ => ?_) fun _ _ z => z
      subst e1 e2
      cases hp : p i with
      | true =>
        simp only [if_true]
        refine wpAny_Name (wpAny_loadName_local (by simp [compEnvC, relabel, hkind]) (lookup_relabel_local hx) (hC.ns (N' (C, oC) (by simp)).1) hm ?_) hdb
        refine ⟨h', tk', news, rfl, F', N', off, trivial, ih (i + 1) _ (by omega) ?_⟩
        rw [htake, hp]
        simpa using intsSnoc hy
      | false =>
        simp only [Bool.false_eq_true, if_false]
        refine ⟨h', tk', news, rfl, F', N', off, trivial, ih (i + 1) _ (by omega) ?_⟩
        rw [htake, hp]
        simpa using hy
  exact key n 0 [] (by omega) (by simpa using IntsAre.nil)

/-- a comprehension with one test over a range from nought -/
theorem ListComp_R {ct iter : Expr} {x : Str} {px px' : Pos} {scope : Scope} {cl : List (Str × Addr)} {pos : Pos} {Q : Value → Shared → Prop} {n : Nat} {p : Nat → Bool}
    (_F₀ : Fr h₀ L s.heap m) (hh : A.handled = none) (hsz : n ≤ sizeLine)
    (hclos : closureFor scope env = pure cl) (hcell : ∀ y ∈ scope.names, y.2 ≠ .cell) (hkind : scope.kind = .function)
    (hnames : ∀ y ∈ scope.names, y.2 = .local → scope.names.lookup y.1 = some .local) (hx : scope.names.lookup x = some .local) (hdb : (x == ("__debug__" : Str)) = false)
    (h : wpAny (model prog w) A (eval iter env) (fun xv s₁ => Hold (∃ r b t u v news, xv = .ref r ∧ Fr h₀ L s₁.heap m ∧ News h₀ L s₁.heap news ∧ IsRange s₁.heap r 0 b 1 t u v ∧ b = (n : Int) ∧
      (∀ (i : Nat) t I oI C oC D m₂ ys h tk (E' : Value → Shared → Prop), i < n → NsObj oC m₂ → m₂ x = some (.int (i : Int) t) → Fr h₀ L h m → News h₀ L h ((I, oI) :: (C, oC) :: (D, lst ys) :: news) → Off3 I C D news → ((@Ne Nat I C) ∧ (@Ne Nat I D) ∧ (@Ne Nat C D)) →
        wpAny (model prog w) A (isTrue ct (compEnvC scope cl C env) (eval ct (compEnvC scope cl C env))) (TurnOk h₀ L m { s₁ with heap := h, toks := tk } ((I, oI) :: (C, oC) :: (D, lst ys) :: news) (p i)) E' { s₁ with heap := h, toks := tk }) ∧
      (∀ D h' tk' ys, Fr h₀ L h' m → News h₀ L h' ((D, lst ys) :: news) → IntsAre ys (((List.range n).filter p).map fun (i : Nat) => (i : Int)) → Q (.ref D) { s₁ with heap := h', toks := tk' }))) E s)
    (hs : ∀ x, foldedSetIterable iter env x = pure x := by intro _; rfl) :
    wpAny (model prog w) A (eval (.ListComp (.Name x px) [⟨.Name x px', iter, [ct], 0⟩] scope pos) env) Q E s := by
  rw [eval_ListComp]
  refine wpAny_comprehension_free (use := none) rfl hs hclos hkind hnames (wpAny_mono h (fun xv s₁ h₁ => ?_) fun _ _ e => e)
  obtain ⟨r, b, t, u, v, news, rfl, F, N, hr, rfl, turn, fin⟩ := Hold.on h₁
  have hlt : (n : Int) < 2 ^ 62 := by
    have : n ≤ 16777216 := by rw [← sizeLine_eq]; exact hsz
    omega
  have hsm : Builtin.Range.small 0 (n : Int) 1 = true := small_one (by omega) (by omega) (by omega) (by omega)
  have hn : Builtin.Range.rangeSize 0 (n : Int) 1 = ((n : Nat) : Int) := by
    simp only [Builtin.Range.rangeSize]
    split <;> omega
  refine wpAny_pyIter_range hr hsm ?_
  refine block_T (Fin := fun ys nw => nw = news ∧ IntsAre ys (((List.range n).filter p).map fun (i : Nat) => (i : Int))) (P := fun i v => i < n ∧ ∃ t, v = .int ((0 : Int) + (i : Int)) t) (S := fun _ => True) ((range_walks hh 0 n).bound) hsz (fun i h st => ⟨_, st⟩) range_st hcell hkind hx (by show IsRangeIter _ _ _ _ _; rw [hn]; simpa using Heap.get?_push_size _ rfl) (fun b hb => ?_)
      (F.keeps fun _ _ e => Heap.get?_push_of_some _ e) (N.grown fun _ _ e => Heap.get?_push_of_some _ e) (Nat.ne_of_lt F.ns.lt) (next_is_new F) (fun p hp => Nat.ne_of_lt (Heap.lt_size (N p hp).1)) trivial (rest_filterR hkind hx hdb turn fun ys hy => ⟨rfl, hy⟩) ?_
  · rw [List.mem_singleton.mp hb]
    show s₁.heap.objs.size < (s₁.heap.push _).objs.size
    rw [Heap.size_push]; exact Nat.lt_succ_self _
  · rintro D C h tk m' ys news' F' N' o1 hn hC₀ hD₀ hCL hDL hCD offC ⟨rfl, hy⟩
    refine ⟨m', hn, fun h'' hs'' => fin D h'' tk ys (F'.change hs'' hCL hC₀) (fun p hp => ?_) hy⟩
    refine ⟨hs''.extBut _ _ ?_ (N' p hp).1, (N' p hp).2⟩
    rcases List.mem_cons.mp hp with rfl | hp
    · exact Ne.symm hCD
    · exact offC p hp
end
end Mine
end
section
open PySem PySem.W PySem.Calls PySem.Spec PyProof.Rows
namespace Mine

/-- the state has grown, and P holds of the heap -/
noncomputable def Grown (s s' : Shared) (P : Heap → Prop) : Prop := ∃ h' tk', s' = { s with heap := h', toks := tk' } ∧ s.heap.StaysIn h' ∧ P h'

noncomputable def StrTup (B h : Heap) (v : Value) (es : List Str) : Prop := ∃ a vs, v = .ref a ∧ B.get? a = none ∧ h.IsTuple a vs.toArray ∧ StrsAre vs es
/-- one of the law's conditions: a least length, endings wanted, refused, spared -/
structure Term where
  least : Int
  wanted : List Str
  refused : List Str
  spared : List Str
deriving Inhabited, DecidableEq
noncomputable def TermAt (B h : Heap) (v : Value) (T : Term) : Prop := ∃ a t b c d, v = .ref a ∧ B.get? a = none ∧ h.IsTuple a #[.int T.least t, b, c, d] ∧ StrTup B h b T.wanted ∧ StrTup B h c T.refused ∧ StrTup B h d T.spared

theorem isTuple_mono {h h' : Heap} (k : ∀ b o, h.get? b = some o → o.cls = .type "tuple" → h'.get? b = some o) {a : Addr} {its : Array Value} (x : h.IsTuple a its) : h'.IsTuple a its := by
  obtain ⟨o, e, c, n, d⟩ := x
  exact ⟨o, k _ _ e c, c, n, d⟩
theorem freshOf {B h : Heap} (hB : B.StaysIn h) : B.get? h.objs.size = none := by
  cases e : B.get? h.objs.size with
  | none => rfl
  | some o => exact absurd (Heap.lt_size (hB _ _ e)) (Nat.lt_irrefl _)
theorem StrTup.mono {B h h' : Heap} (k : ∀ b o, h.get? b = some o → o.cls = .type "tuple" → h'.get? b = some o) {v : Value} {es : List Str} (x : StrTup B h v es) : StrTup B h' v es := by
  obtain ⟨a, vs, e, f, t, r⟩ := x
  exact ⟨a, vs, e, f, isTuple_mono k t, r⟩
theorem TermAt.mono {B h h' : Heap} (k : ∀ b o, h.get? b = some o → o.cls = .type "tuple" → h'.get? b = some o) {v : Value} {T : Term} (x : TermAt B h v T) : TermAt B h' v T := by
  obtain ⟨a, t, b, c, d, e, f, t0, t1, t2, t3⟩ := x
  exact ⟨a, t, b, c, d, e, f, isTuple_mono k t0, t1.mono k, t2.mono k, t3.mono k⟩

noncomputable def strLit? : Expr → Option Str
  | .Constant (.str x) _ _ => some x
  | _ => none
theorem strLit_spec {e : Expr} {x : Str} (h : strLit? e = some x) : ∃ k pos, e = .Constant (.str x) k pos := by
  unfold strLit? at h
  split at h
  · cases h; exact ⟨_, _, rfl⟩
  · cases h
noncomputable def strLits : List Expr → Option (List Str)
  | [] => some []
  | e :: r => (strLit? e).bind fun x => (strLits r).map (x :: ·)
theorem strLits_cons {e : Expr} {r : List Expr} {ss : List Str} (h : strLits (e :: r) = some ss) : ∃ k pos x rs, e = .Constant (.str x) k pos ∧ strLits r = some rs ∧ ss = x :: rs := by
  simp only [strLits, Option.bind_eq_some_iff, Option.map_eq_some_iff] at h
  obtain ⟨x, hx, rs, hr, rfl⟩ := h
  obtain ⟨k, pos, rfl⟩ := strLit_spec hx
  exact ⟨k, pos, x, rs, rfl, hr, rfl⟩

noncomputable def termOf : Expr → Option Term
  | .Tuple [.Constant (.int i) _ _, .Tuple a _ _, .Tuple b _ _, .Tuple c _ _] _ _ => do
    let a ← strLits a
    let b ← strLits b
    let c ← strLits c
    return ⟨i, a, b, c⟩
  | _ => none

section
variable {M : Model} {A : Around} {E : Value → Shared → Prop} {env : Env}

theorem spl_strs {pos : Pos} (elts : List Expr) : ∀ {ss : List Str} {s : Shared} {Q : List Value → Shared → Prop}, strLits elts = some ss →
    (∀ vs tk', StrsAre vs ss → Q vs { s with toks := tk' }) → wpAny M A (spliced (backTo pos (starEach elts env))) Q E s := by
  induction elts with
  | nil =>
    intro ss s Q h k
    cases h
    exact spliced_none (k [] s.toks .nil)
  | cons e r ih =>
    intro ss s Q h k
    obtain ⟨k1, p1, x, rs, rfl, hr, rfl⟩ := strLits_cons h
    exact spliced_more (Calls.Constant_str (ih (s := { s with toks := s.toks + 1 }) hr fun vs tk' hv => k _ tk' (.cons x _ hv)))

theorem strLits_len : ∀ {elts : List Expr} {ss : List Str}, strLits elts = some ss → ss.length = elts.length
  | [], ss, h => by cases h; rfl
  | e :: r, ss, h => by
    obtain ⟨k1, p1, x, rs, rfl, hr, rfl⟩ := strLits_cons h
    simp [strLits_len hr]

theorem strs_tuple {B : Heap} {elts : List Expr} {k : Nat} {pos : Pos} {ss : List Str} {s : Shared} {Q : Value → Shared → Prop} (h : strLits elts = some ss) (hn : elts.length ≤ 64) (hB : B.StaysIn s.heap)
    (hQ : ∀ v h' tk', s.heap.StaysIn h' → StrTup B h' v ss → Q v { s with heap := h', toks := tk' }) : wpAny M A (eval (.Tuple elts k pos) env) Q E s := by
  refine Tuple_ (spl_strs elts h fun vs tk' hv => ?_)
  have hl := strsLen hv
  have hl2 := strLits_len h
  refine wpAny_newObj_type (hQ _ _ _ (fun b o e => Heap.get?_push_of_some _ e) ⟨_, vs, rfl, freshOf hB, ⟨_, Heap.get?_push_size _ rfl, rfl, _, rfl⟩, hv⟩) ?_
  show vs.toArray.size ≤ sizeLine
  rw [List.size_toArray, sizeLine_eq]; omega

theorem term_eval {B : Heap} {e : Expr} {T : Term} {s : Shared} {Q : Value → Shared → Prop} (h : termOf e = some T) (hn : T.wanted.length ≤ 64 ∧ T.refused.length ≤ 64 ∧ T.spared.length ≤ 64) (hB : B.StaysIn s.heap)
    (hQ : ∀ v h' tk', s.heap.StaysIn h' → TermAt B h' v T → Q v { s with heap := h', toks := tk' }) : wpAny M A (eval e env) Q E s := by
  unfold termOf at h
  split at h
  · rename_i i _ _ a _ _ b _ _ c _ _ _ pos
    simp only [Option.bind_eq_bind, Option.bind_eq_some_iff, Option.pure_def, Option.some.injEq] at h
    obtain ⟨sa, ha, sb, hb, sc, hc, rfl⟩ := h
    dsimp only at hn
    have la := strLits_len ha
    have lb := strLits_len hb
    have lc := strLits_len hc
    refine Tuple_ (spliced_more (wpAny_Constant_int ?_))
    refine spliced_more (strs_tuple ha (by omega) hB fun va h1 t1 st1 x1 => ?_)
    refine spliced_more (strs_tuple hb (by omega) (fun b o e => st1 _ _ (hB _ _ e)) fun vb h2 t2 st2 x2 => ?_)
    refine spliced_more (strs_tuple hc (by omega) (fun b o e => st2 _ _ (st1 _ _ (hB _ _ e))) fun vc h3 t3 st3 x3 => ?_)
    refine spliced_none ?_
    refine wpAny_newObj_type ?_ (by show (4 : Nat) ≤ sizeLine; rw [sizeLine_eq]; decide)
    have p : ∀ b o, h3.get? b = some o → (h3.push { cls := .type "tuple", data := .seq [Value.int i s.toks, va, vb, vc].toArray }).get? b = some o := fun b o e => Heap.get?_push_of_some _ e
    exact hQ _ _ _ (fun b o e => p _ _ (st3 _ _ (st2 _ _ (st1 _ _ e)))) ⟨_, _, va, vb, vc, rfl, freshOf (fun b o e => st3 _ _ (st2 _ _ (st1 _ _ (hB _ _ e)))), ⟨_, Heap.get?_push_size _ rfl, rfl, _, rfl⟩,
      (x1.mono fun b o e _ => p _ _ (st3 _ _ (st2 _ _ e))), (x2.mono fun b o e _ => p _ _ (st3 _ _ e)), (x3.mono fun b o e _ => p _ _ e)⟩
  · cases h
end
end Mine
end
section
open PySem PySem.W PySem.Calls PySem.Spec PyProof.Rows
namespace Mine
section
variable {prog : Program} {w : World} {K : Type} [DecidableEq K] {knd : KeyKind prog w K} {A : Around} {E : Value → Shared → Prop} {s : Shared}

theorem dictPut_wp {d : Addr} {kvs : List (K × Value)} {k : K} {key v : Value} {Q : Unit → Shared → Prop} (hkey : knd.is k key = true) (hm : s.heap.DictOf knd d kvs) (hfresh : k ∉ kvs.map (·.1))
    (hQ : ∀ h', h'.DictOf knd d (kvs ++ [(k, v)]) → Heap.SameBut d s.heap h' → Q () { s with heap := h' }) (hsz : kvs.length ≤ sizeLine) :
    wpAny (model prog w) A (dictPut d (knd.hash k) key v) Q E s := by
  obtain ⟨o, es, ep, ho, hc, hd, hk, hp, hn⟩ := hm
  have hes : es.size ≤ sizeLine := by
    have e1 := hp.length
    have e2 : es.toList.length = es.size := by simp
    omega
  unfold dictPut
  refine wpAny_bind (wpAny_dictFind_of hkey ho hd hk ?_)
  have hidx : (es.findIdx? fun e => knd.is k e.key) = kvs.findIdx? fun kv => decide (kv.1 = k) := by
    rw [← hp.findIdx k]; obtain ⟨l⟩ := es; simp
  have hnone : (es.findIdx? fun e => knd.is k e.key) = none := by
    rw [hidx, List.findIdx?_eq_none_iff]
    intro x hx
    simp only [decide_eq_false_iff_not]
    rintro rfl
    exact hfresh (List.mem_map_of_mem hx)
  rw [hnone]
  refine wpAny_updateDictKeys (hz := hes) ho hd (hQ _ ⟨_, _, ep + 1, Heap.get?_update_self _ ho (Obj.isFreed_of_dict (Obj.data_mapDictKeys hd _)), hc.mapDictKeys _, Obj.data_mapDictKeys hd _, hk.push hkey _, ?_, ?_⟩ (Heap.SameBut.update ..))
  · have := hp.append hkey (knd.hash k) v
    obtain ⟨l⟩ := es
    simpa using this
  · rw [List.map_append, List.nodup_append]
    refine ⟨hn, by simp, ?_⟩
    intro a ha b hb
    simp only [List.map_cons, List.map_nil, List.mem_singleton] at hb
    subst hb
    exact fun e => hfresh (e ▸ ha)

theorem merge_wp {d o : Addr} {kvs more : List (K × Value)} {Q : Unit → Shared → Prop} (hdo : d ≠ o) (hoS : (o == sysModules) = false) (hd : s.heap.DictOf knd d kvs) (ho : s.heap.DictOf knd o more) (hne : kvs ≠ [])
    (hsz : kvs.length + more.length ≤ sizeLine) (hn : ((kvs ++ more).map (·.1)).Nodup)
    (hQ : ∀ h', h'.DictOf knd d (kvs ++ more) → Heap.SameBut d s.heap h' → Q () { s with heap := h' }) :
    wpAny (model prog w) A (mergeMapping d (.ref o) false) Q E s := by
  obtain ⟨od, esd, epd, hod, hcd, hdd, hkd, hpd, hnd⟩ := id hd
  obtain ⟨oo, eso, epo, hoo, hco, hdo', hko, hpo, hno⟩ := id ho
  have hlen : more.length = eso.size := by rw [← hpo.length]; simp
  have hdn : esd.isEmpty = false := by
    rw [Bool.eq_false_iff]
    intro hc
    have h0 : esd = #[] := Array.isEmpty_iff.mp hc
    have := hpd.length
    rw [h0] at this
    exact hne (List.length_eq_zero_iff.mp (by simpa using this.symm))
  unfold mergeMapping
  refine wpAny_bind (wpAny_isInstance ho.typeIs isSubtype_dict_dict ?_)
  dsimp only
  rw [if_pos rfl]
  refine wpAny_bind (wpAny_specialOf ho.typeIs F.slot_dict_iter.lookup ?_)
  rw [beq_self_eq_true]
  refine wpAny_bind (wpAny_pure ?_)
  dsimp only
  rw [if_neg (by rw [hoS]; exact Bool.false_ne_true)]
  refine wpAny_bind (wpAny_dictEntries hod hdd ?_)
  rw [hdn]
  simp only [Bool.false_eq_true, if_false]
  refine wpAny_bind (wpAny_dictEntries hoo hdo' ?_)
  refine wpAny_bind (wpAny_dictEpoch hoo hdo' ?_)
  refine wpAny_bind ?_
  refine wpAny_forIn_list _
      (fun rest _ s' => ∃ h' i, s' = { s with heap := h' } ∧ rest = List.range' i (eso.size - i) ∧ i ≤ eso.size ∧ h'.DictOf knd d (kvs ++ more.take i) ∧ h'.get? o = some oo ∧ Heap.SameBut d s.heap h')
      _ ?_ ?_ _ _ ⟨s.heap, 0, rfl, by simp [List.range_eq_range'], Nat.zero_le _, by simpa using hd, hoo, Heap.SameBut.refl _ _⟩
  · rintro x rest b s' ⟨h', i, rfl, hr, hi, hd', hoo', hs'⟩
    have hlt : i < eso.size := by
      rcases Nat.lt_or_ge i eso.size with h | h
      · exact h
      · rw [Nat.sub_eq_zero_of_le h] at hr; simp at hr
    obtain ⟨rfl, hrest⟩ : x = i ∧ rest = List.range' (i + 1) (eso.size - (i + 1)) := by
      have e : eso.size - i = (eso.size - (i + 1)) + 1 := by omega
      rw [e, List.range'_succ] at hr
      injection hr with h1 h2
      exact ⟨h1, h2⟩
    refine wpAny_bind (wpAny_dictEntries hoo' hdo' ?_)
    rw [Array.getElem?_eq_getElem hlt]
    have hltm : x < more.length := by rw [hlen]; exact hlt
    obtain ⟨kv, hkv⟩ : ∃ kv, more[x]? = some kv := ⟨more[x]'hltm, List.getElem?_eq_getElem _⟩
    obtain ⟨k, v⟩ := kv
    obtain ⟨hkey, hval⟩ := hpo.get? (e := eso[x]) (by simp [hlt]) hkv
    obtain ⟨k', hkey', hhash⟩ := hko eso[x] (Array.getElem_mem hlt)
    obtain rfl : k' = k := knd.inj _ _ _ hkey' hkey
    have htk : more.take (x + 1) = more.take x ++ [(k', v)] := by rw [List.take_add_one, hkv]; rfl
    have hfresh : k' ∉ (kvs ++ more.take x).map (·.1) := by
      intro hm
      have e : kvs ++ more = (kvs ++ more.take x) ++ ((k', v) :: more.drop (x + 1)) := by
        have h1 : more = more.take (x + 1) ++ more.drop (x + 1) := (List.take_append_drop _ _).symm
        rw [htk] at h1
        rw [List.append_assoc]
        congr 1
        rw [List.append_assoc] at h1
        exact h1
      rw [e, List.map_append, List.nodup_append] at hn
      exact hn.2.2 k' hm k' (by simp) rfl
    have hmx : (kvs ++ more.take x).length ≤ sizeLine := by
      have e2 : (more.take x).length ≤ more.length := by rw [List.length_take]; omega
      rw [List.length_append]; omega
    show wpAny _ _ (holding [eso[x].key, eso[x].val] _ >>= _) _ _ _
    refine wpAny_bind (wpAny_holding ?_)
    show wpAny _ _ (dictPut d eso[x].hash eso[x].key eso[x].val) _ _ _
    rw [hhash, hval]
    refine dictPut_wp hkey hd' hfresh (fun h'' hd'' hs'' => ?_) hmx
    have hoo'' : h''.get? o = some oo := (hs''.2 o (Ne.symm hdo)).trans hoo'
    refine wpAny_bind (wpAny_dictEpoch hoo'' hdo' ?_)
    rw [if_neg (by simp)]
    exact wpAny_pure ⟨h'', x + 1, rfl, hrest, hlt, by rw [htk, ← List.append_assoc]; exact hd'', hoo'', hs'.trans hs''⟩
  · rintro b s' ⟨h', i, rfl, hr, hi, hd', hoo', hs'⟩
    have hin : i = eso.size := by
      rcases Nat.lt_or_ge i eso.size with h | h
      · have e : eso.size - i = (eso.size - (i + 1)) + 1 := by omega
        rw [e, List.range'_succ] at hr; exact nomatch hr
      · exact Nat.le_antisymm hi h
    refine wpAny_pure (hQ h' ?_ hs')
    rw [hin, ← hlen, List.take_length] at hd'; exact hd'
end
end Mine
end
section
open PySem PySem.W PySem.Calls PySem.Spec PyProof.Rows
namespace Mine

inductive Tab (B h : Heap) : List (Str × Value) → List (Str × Term) → Prop
  | nil : Tab B h [] []
  | cons {k : Str} {v : Value} {T : Term} {r : List (Str × Value)} {rs : List (Str × Term)} : TermAt B h v T → Tab B h r rs → Tab B h ((k, v) :: r) ((k, T) :: rs)
theorem Tab.mono {B h h' : Heap} (k : ∀ b o, h.get? b = some o → o.cls = .type "tuple" → h'.get? b = some o) : ∀ {kvs kts}, Tab B h kvs kts → Tab B h' kvs kts
  | _, _, .nil => .nil
  | _, _, .cons x r => .cons (x.mono k) (r.mono k)
theorem Tab.keys {B h : Heap} : ∀ {kvs kts}, Tab B h kvs kts → kvs.map (·.1) = kts.map (·.1)
  | _, _, .nil => rfl
  | _, _, .cons _ r => by simp [r.keys]
theorem Tab.length {B h : Heap} : ∀ {kvs kts}, Tab B h kvs kts → kvs.length = kts.length
  | _, _, .nil => rfl
  | _, _, .cons _ r => by simp [r.length]
theorem Tab.append {B h : Heap} : ∀ {kvs kts kvs' kts'}, Tab B h kvs kts → Tab B h kvs' kts' → Tab B h (kvs ++ kvs') (kts ++ kts')
  | _, _, _, _, .nil, y => y
  | _, _, _, _, .cons x r, y => .cons x (r.append y)
theorem Tab.value {B h : Heap} {k : Str} {T : Term} : ∀ {kvs kts}, Tab B h kvs kts → kts.lookup k = some T → ∃ v, valueAt kvs k = some v ∧ TermAt B h v T
  | _, _, .nil, e => by simp at e
  | _, _, .cons (k := k') (v := v) (T := T') x r, e => by
    rw [List.lookup_cons] at e
    by_cases hk : (k == k') = true
    · rw [hk] at e
      have hk' : k' = k := (eq_of_beq hk).symm
      refine ⟨v, by simp [valueAt, hk'], ?_⟩
      cases e
      exact x
    · have hk1 : (k == k') = false := by simpa using hk
      rw [hk1] at e
      obtain ⟨v', h1, h2⟩ := r.value e
      have hk' : ¬ k' = k := fun q => by subst q; simp at hk1
      refine ⟨v', ?_, h2⟩
      simp only [valueAt, List.find?_cons, hk', decide_false]
      exact h1

noncomputable def dictLits : List (Option Expr) → List Expr → Option (List (Str × Term))
  | [], [] => some []
  | some k :: ks, v :: vs => (strLit? k).bind fun x => (termOf v).bind fun T => (dictLits ks vs).map ((x, T) :: ·)
  | _, _ => none
theorem dictLits_cons {k : Expr} {v : Expr} {ks : List (Option Expr)} {vs : List Expr} {kts : List (Str × Term)} (h : dictLits (some k :: ks) (v :: vs) = some kts) :
    ∃ c p x T r, k = .Constant (.str x) c p ∧ termOf v = some T ∧ dictLits ks vs = some r ∧ kts = (x, T) :: r := by
  simp only [dictLits, Option.bind_eq_some_iff, Option.map_eq_some_iff] at h
  obtain ⟨x, hx, T, hT, r, hr, rfl⟩ := h
  obtain ⟨c, p, rfl⟩ := strLit_spec hx
  exact ⟨c, p, x, T, r, rfl, hT, hr, rfl⟩
noncomputable abbrev termFits (T : Term) : Prop := T.wanted.length ≤ 64 ∧ T.refused.length ≤ 64 ∧ T.spared.length ≤ 64

theorem dictTuple {prog : Program} {w : World} {h h' : Heap} {d : Addr} {kvs : List (Str × Value)} (hd : h.DictOf (strKind prog w) d kvs) (hs : Heap.ExtBut d h h') : ∀ b o, h.get? b = some o → o.cls = .type "tuple" → h'.get? b = some o := by
  obtain ⟨od, _, _, hod, hc, _⟩ := hd
  intro b o e c
  refine hs b o ?_ e
  rintro rfl
  rw [hod] at e
  cases e
  rw [hc.1] at c
  injection c with c
  exact absurd c (by decide)

section
variable {prog : Program} {w : World} {A : Around} {E : Value → Shared → Prop} {env : Env} {pos : Pos}

theorem store_loop {B : Heap} {d : Addr} : ∀ (ks : List (Option Expr)) (vs : List Expr) (kts : List (Str × Term)) (acc : List (Str × Value)) (don : List (Str × Term)) (s : Shared) (Q : PUnit → Shared → Prop),
    dictLits ks vs = some kts → (∀ p ∈ kts, termFits p.2) → s.heap.DictOf (strKind prog w) d acc → B.StaysIn s.heap → B.get? d = none → Tab B s.heap acc don → (don.map (·.1) ++ kts.map (·.1)).Nodup → acc.length + kts.length ≤ sizeLine →
    (∀ h' tk' kvs', Heap.ExtBut d s.heap h' → h'.DictOf (strKind prog w) d kvs' → Tab B h' kvs' (don ++ kts) → Q PUnit.unit { s with heap := h', toks := tk' }) →
    wpAny (model prog w) A (forIn (pairTrees ks vs env pos) PUnit.unit fun (x : Sem Value × Sem Value) (_ : PUnit) => (do
      let kv ← x.1
      let vv ← holding [kv] x.2
      holding [kv, vv] (dictSet d kv vv)
      pure (ForInStep.yield PUnit.unit) : Sem (ForInStep PUnit))) Q E s
  | [], [], kts, acc, don, s, Q, h, _, hd, hB, hBd, ht, _, _, hQ => by
    cases h
    show wpAny _ _ (forIn [] _ _) _ _ _
    rw [List.forIn_nil]
    exact wpAny_pure (hQ s.heap s.toks acc (Heap.ExtBut.refl _ _) hd (by simpa using ht))
  | some k :: ks, v :: vs, kts, acc, don, s, Q, h, hf, hd, hB, hBd, ht, hn, hsz, hQ => by
    obtain ⟨c, p, x, T, r, rfl, hT, hr, rfl⟩ := dictLits_cons h
    show wpAny _ _ (forIn ((eval _ env, do let x ← eval v env; standAt pos; pure x) :: pairTrees ks vs env pos) _ _) _ _ _
    rw [List.forIn_cons]
    have hfT : termFits T := hf (x, T) (by simp)
    dsimp only
    refine wpAny_bind (wpAny_bind (Calls.Constant_str ?_))
    refine wpAny_bind (wpAny_holding (wpAny_bind ?_))
    refine term_eval hT hfT hB fun v1 h1 t1 st1 x1 => ?_
    refine wpAny_bind (wpAny_standAt (wpAny_pure ?_))
    have hd1 : h1.DictOf (strKind prog w) d acc := by
      obtain ⟨o, es, ep, ho, rest⟩ := hd
      exact ⟨o, es, ep, st1 _ _ ho, rest⟩
    have ht1 : Tab B h1 acc don := ht.mono fun b o e _ => st1 b o e
    refine wpAny_bind (wpAny_holding (wpAny_dictSet_pairs (hsz := by omega) (strKind_is prog w x _) hd1 fun h2 hd2 hs2 => wpAny_pure ?_))
    have hfresh : ¬ (acc.any fun kv => kv.1 = x) = true := by
      rw [List.any_eq_true]
      rintro ⟨kv, hkv, he⟩
      have h1 : x ∈ don.map (·.1) := by
        rw [← ht.keys]
        exact List.mem_map.mpr ⟨kv, hkv, of_decide_eq_true he⟩
      rw [List.nodup_append] at hn
      exact hn.2.2 x h1 x (by simp) rfl
    rw [stored, if_neg hfresh] at hd2
    have hk2 := dictTuple hd1 hs2.extBut
    have ht2 : Tab B h2 (acc ++ [(x, v1)]) (don ++ [(x, T)]) := (ht1.mono hk2).append (.cons (x1.mono hk2) .nil)
    refine store_loop ks vs r _ _ _ Q hr (fun p hp => hf p (by simp [hp])) hd2 (fun b o e => (hs2.2 b (by rintro rfl; rw [hBd] at e; cases e)).trans (st1 _ _ (hB _ _ e))) hBd ht2 (by simpa using hn) (by simp at hsz ⊢; omega) fun h' tk' kvs' e' hd' ht' => ?_
    refine hQ h' tk' kvs' (fun b o hb e => e' b o hb ((hs2.2 b hb).trans (st1 _ _ e))) hd' (by simpa using ht')
  | [], _ :: _, _, _, _, _, _, h, _, _, _, _, _, _, _, _ => by simp [dictLits] at h
  | none :: _, [], _, _, _, _, _, h, _, _, _, _, _, _, _, _ => by simp [dictLits] at h
  | none :: _, _ :: _, _, _, _, _, _, h, _, _, _, _, _, _, _, _ => by simp [dictLits] at h
  | some _ :: _, [], _, _, _, _, _, h, _, _, _, _, _, _, _, _ => by simp [dictLits] at h

theorem evalPairs_wp {B : Heap} : ∀ (ks : List (Option Expr)) (vs : List Expr) (kts : List (Str × Term)) (s : Shared) (Q : List (Value × Value) → Shared → Prop),
    dictLits ks vs = some kts → (∀ p ∈ kts, termFits p.2) → B.StaysIn s.heap →
    (∀ h' tk' vs' kvs', s.heap.StaysIn h' → Carries (strKind prog w) vs' kvs' → Tab B h' kvs' kts → Q vs' { s with heap := h', toks := tk' }) →
    wpAny (model prog w) A (evalPairs (pairTrees ks vs env pos)) Q E s
  | [], [], kts, s, Q, h, _, _, hQ => by
    cases h
    exact pairTrees_nil_walk (hQ s.heap s.toks [] [] (fun _ _ e => e) trivial .nil)
  | some k :: ks, v :: vs, kts, s, Q, h, hf, hB, hQ => by
    obtain ⟨c, p, x, T, r, rfl, hT, hr, rfl⟩ := dictLits_cons h
    have hfT : termFits T := hf (x, T) (by simp)
    refine pairTrees_cons_walk (Calls.Constant_str (term_eval hT hfT hB fun v1 h1 t1 st1 x1 => ?_))
    refine evalPairs_wp ks vs r _ _ hr (fun p hp => hf p (by simp [hp])) (fun b o e => st1 _ _ (hB _ _ e)) fun h' tk' vs' kvs' st' hc ht => ?_
    exact hQ h' tk' _ ((x, v1) :: kvs') (fun b o e => st' b o (st1 b o e)) ⟨strKind_is prog w x _, rfl, hc⟩ (.cons (x1.mono fun b o e _ => st' b o e) ht)
  | [], _ :: _, _, _, _, h, _, _, _ => by simp [dictLits] at h
  | none :: _, [], _, _, _, h, _, _, _ => by simp [dictLits] at h
  | none :: _, _ :: _, _, _, _, h, _, _, _ => by simp [dictLits] at h
  | some _ :: _, [], _, _, _, h, _, _, _ => by simp [dictLits] at h

theorem dictLits_len : ∀ {ks : List (Option Expr)} {vs : List Expr} {kts : List (Str × Term)}, dictLits ks vs = some kts → (pairTrees ks vs env pos).length = kts.length
  | [], [], kts, h => by cases h; rfl
  | some k :: ks, v :: vs, kts, h => by
    obtain ⟨c, p, x, T, r, rfl, hT, hr, rfl⟩ := dictLits_cons h
    simp [pairTrees, dictLits_len hr]
  | [], _ :: _, _, h => by simp [dictLits] at h
  | none :: _, [], _, h => by simp [dictLits] at h
  | none :: _, _ :: _, _, h => by simp [dictLits] at h
  | some _ :: _, [], _, h => by simp [dictLits] at h

theorem sub_wp {B : Heap} {ks : List (Option Expr)} {vs : List Expr} {kts : List (Str × Term)} {s : Shared} {Q : Addr → Shared → Prop} (h : dictLits ks vs = some kts) (hf : ∀ p ∈ kts, termFits p.2) (hn : (kts.map (·.1)).Nodup) (hsz : kts.length ≤ 17) (hB : B.StaysIn s.heap)
    (hQ : ∀ h' tk' kvs', s.heap.StaysIn h' → h'.DictOf (strKind prog w) s.heap.objs.size kvs' → Tab B h' kvs' kts → Q s.heap.objs.size { s with heap := h', toks := tk' }) :
    wpAny (model prog w) A (subDict (pairTrees ks vs env pos)) Q E s := by
  have hfresh : s.heap.get? s.heap.objs.size = none := by
    cases e : s.heap.get? s.heap.objs.size with
    | none => rfl
    | some o => exact absurd (Heap.lt_size e) (Nat.lt_irrefl _)
  have up : ∀ b o, s.heap.get? b = some o → (s.heap.push { cls := .type "dict", data := .dict #[] }).get? b = some o := fun b o e => Heap.get?_push_of_some _ e
  have keep : ∀ {h' : Heap}, Heap.ExtBut s.heap.objs.size (s.heap.push { cls := .type "dict", data := .dict #[] }) h' → s.heap.StaysIn h' := fun x b o e => x b o (by rintro rfl; rw [hfresh] at e; cases e) (up b o e)
  unfold subDict
  refine wpAny_bind (wpAny_alloc ?_)
  refine wpAny_bind (wpAny_holding ?_)
  rw [dictLits_len h]
  by_cases hl : kts.length ≤ 15
  · rw [if_pos hl]
    refine wpAny_bind (evalPairs_wp ks vs kts _ _ h hf (fun b o e => up _ _ (hB _ _ e)) fun h' tk' vs' kvs' st hc ht => ?_)
    have hd : h'.DictOf (strKind prog w) s.heap.objs.size [] := by
      obtain ⟨o, es, ep, ho, rest⟩ := (Heap.DictOf.new (knd := strKind prog w) s.heap)
      exact ⟨o, es, ep, st _ _ ho, rest⟩
    have hl2 := ht.length
    refine wpAny_holding (wpAny_bind (wpAny_storeAll (knd := strKind prog w) vs' kvs' [] _ _ hc hd (by rw [sizeLine_eq]; simp; omega) fun h2 hd2 hs2 => wpAny_pure (wpAny_pure ?_)))
    rw [merged_nil_of_nodup kvs' (by rw [ht.keys]; exact hn)] at hd2
    refine hQ h2 _ kvs' (keep fun b o hb e => (hs2.2 b hb).trans (st _ _ e)) hd2 (ht.mono (dictTuple hd hs2.extBut))
  · rw [if_neg hl]
    refine wpAny_bind (wpAny_rule ?_)
    refine wpAny_bind (store_loop ks vs kts [] [] _ _ h hf (Heap.DictOf.new s.heap) (fun b o e => up _ _ (hB _ _ e)) (freshOf hB) .nil (by simpa using hn) (by rw [sizeLine_eq]; simp; omega) fun h' tk' kvs' st hd ht => wpAny_pure (wpAny_pure ?_))
    exact hQ h' tk' kvs' (keep st) hd (by simpa using ht)
end
end Mine
end
section
open PySem PySem.W PySem.Calls PySem.Spec PyProof.Rows
namespace Mine

theorem dictLits_split {env : Env} {pos : Pos} : ∀ (n : Nat) {ks : List (Option Expr)} {vs : List Expr} {kts : List (Str × Term)}, dictLits ks vs = some kts →
    dictLits (ks.take n) (vs.take n) = some (kts.take n) ∧ dictLits (ks.drop n) (vs.drop n) = some (kts.drop n) ∧
      pairTrees ks vs env pos = pairTrees (ks.take n) (vs.take n) env pos ++ pairTrees (ks.drop n) (vs.drop n) env pos
  | 0, ks, vs, kts, h => ⟨rfl, h, rfl⟩
  | n + 1, [], [], kts, h => by cases h; exact ⟨rfl, rfl, rfl⟩
  | n + 1, some k :: ks, v :: vs, kts, h => by
    obtain ⟨c, p, x, T, r, rfl, hT, hr, rfl⟩ := dictLits_cons h
    obtain ⟨h1, h2, h3⟩ := dictLits_split (env := env) (pos := pos) n hr
    refine ⟨?_, h2, ?_⟩
    · simp only [List.take_succ_cons, dictLits, strLit?, hT, h1, Option.bind_some, Option.map_some]
    · simp only [pairTrees, List.take_succ_cons, List.drop_succ_cons, List.cons_append, h3]
  | n + 1, [], _ :: _, _, h => by simp [dictLits] at h
  | n + 1, none :: _, [], _, h => by simp [dictLits] at h
  | n + 1, none :: _, _ :: _, _, h => by simp [dictLits] at h
  | n + 1, some _ :: _, [], _, h => by simp [dictLits] at h

theorem gather (f : (Option (Sem Value) × Sem Value) → (Option Addr × List (Sem Value × Sem Value)) → Sem (ForInStep (Option Addr × List (Sem Value × Sem Value)))) (main : Option Addr)
    (hf : ∀ (p : Sem Value × Sem Value) (run : List (Sem Value × Sem Value)), run.length + 1 < 17 → f (some p.1, p.2) (main, run) = pure (.yield (main, run ++ [p]))) :
    ∀ (items run : List (Sem Value × Sem Value)) (rest : List (Option (Sem Value) × Sem Value)), run.length + items.length < 17 → forIn (items.map (fun p => (some p.1, p.2)) ++ rest) (main, run) f = forIn rest (main, run ++ items) f
  | [], run, rest, _ => by simp
  | p :: items, run, rest, h => by
    rw [List.map_cons, List.cons_append, List.forIn_cons, hf p run (by simp at h; omega), pure_bind]
    have := gather f main hf items (run ++ [p]) rest (by simp at h ⊢; omega)
    simpa using this

section
variable {prog : Program} {w : World} {A : Around} {E : Value → Shared → Prop} {env : Env} {pos : Pos}

theorem dict_display {B : Heap} {ks : List (Option Expr)} {vs : List Expr} {kts : List (Str × Term)} {s : Shared} {Q : Value → Shared → Prop} (h : dictLits ks vs = some kts) (hall : ks.all (·.isSome) = true) (hl : ks.length = vs.length)
    (hf : ∀ p ∈ kts, termFits p.2) (hn : (kts.map (·.1)).Nodup) (h17 : 17 < kts.length) (h32 : kts.length ≤ 32) (hsys : sysModules < s.heap.objs.size) (hB : B.StaysIn s.heap)
    (hQ : ∀ d h' tk' kvs', s.heap.StaysIn h' → h'.DictOf (strKind prog w) d kvs' → (B.get? d = none ∧ sysModules < d) → Tab B h' kvs' kts → Q (.ref d) { s with heap := h', toks := tk' }) :
    wpAny (model prog w) A (eval (.Dict ks vs pos) env) Q E s := by
  rw [arm_eval_Dict, zip_pairTrees ks vs env pos hall hl]
  refine wpAny_bind (wpAny_standAt ?_)
  obtain ⟨h1, h2, h3⟩ := dictLits_split (env := env) (pos := pos) 17 h
  have l1 := dictLits_len (env := env) (pos := pos) h1
  have l2 := dictLits_len (env := env) (pos := pos) h2
  have hkt : kts = kts.take 17 ++ kts.drop 17 := (List.take_append_drop 17 kts).symm
  have hn' := hn
  rw [hkt, List.map_append, List.nodup_append] at hn'
  generalize hp1 : pairTrees (ks.take 17) (vs.take 17) env pos = p1 at h3 l1
  generalize hp2 : pairTrees (ks.drop 17) (vs.drop 17) env pos = p2 at h3 l2
  rw [h3]
  have e1 : p1.length = 17 := by rw [l1, List.length_take]; omega
  have e2 : p2.length = kts.length - 17 := by rw [l2, List.length_drop]
  obtain ⟨q, r, rfl, hq⟩ : ∃ q r, p1 = q ++ [r] ∧ q.length = 16 := by
    refine ⟨p1.dropLast, p1.getLast (by intro e; rw [e] at e1; simp at e1), (List.dropLast_concat_getLast _).symm, by simp [e1]⟩
  unfold dictDisplay
  dsimp only
  rw [List.map_append, List.map_append, List.append_assoc]
  rw [gather _ none (fun p run h => by
    have hne : ((run ++ [(p.1, p.2)]).length == 17) = false := by simp; omega
    simp only [hne, Bool.false_eq_true, if_false]) q [] _ (by simp [hq])]
  rw [List.map_cons, List.map_nil, List.cons_append, List.nil_append, List.forIn_cons]
  have hlen : (([] ++ q ++ [(r.1, r.2)]).length == 17) = true := by simp [hq]
  have hemp : ([] ++ q ++ [(r.1, r.2)]).isEmpty = false := by simp
  simp only [hlen, hemp, if_true, Bool.false_eq_true, if_false]
  refine wpAny_bind (wpAny_bind (wpAny_bind (wpAny_bind ?_)))
  have hrun : ([] ++ q ++ [(r.1, r.2)] : List (Sem Value × Sem Value)) = pairTrees (ks.take 17) (vs.take 17) env pos := by rw [hp1]; simp
  rw [hrun]
  refine sub_wp h1 (fun p hp => hf p (List.mem_of_mem_take hp)) hn'.1 (by rw [List.length_take]; omega) hB fun ha ta kva sta hda hta => wpAny_pure (wpAny_pure ?_)
  rw [← List.append_nil (List.map _ p2)]
  dsimp only
  rw [gather _ (some s.heap.objs.size) (fun p run h => by
    have hne : ((run ++ [(p.1, p.2)]).length == 17) = false := by simp; omega
    simp only [hne, Bool.false_eq_true, if_false]) p2 [] [] (by simp; omega)]
  rw [List.forIn_nil, List.nil_append]
  refine wpAny_pure ?_
  have hne2 : p2.isEmpty = false := by
    cases p2 with
    | nil => simp at e2; omega
    | cons => rfl
  simp only [hne2, Bool.false_eq_true, if_false]
  refine wpAny_bind (wpAny_bind (wpAny_holding ?_))
  rw [← hp2]
  refine sub_wp h2 (fun p hp => hf p (List.mem_of_mem_drop hp)) hn'.2.1 (by rw [List.length_drop]; omega) (fun b o e => sta _ _ (hB _ _ e)) fun hb tb kvb stb hdb htb => ?_
  have hda' : hb.DictOf (strKind prog w) s.heap.objs.size kva := by
    obtain ⟨o, es, ep, ho, rest⟩ := hda
    exact ⟨o, es, ep, stb _ _ ho, rest⟩
  have hta' : Tab B hb kva (kts.take 17) := hta.mono fun b o e _ => stb b o e
  have hlt : s.heap.objs.size < ha.objs.size := by
    obtain ⟨o, es, ep, ho, rest⟩ := hda
    exact Heap.lt_size ho
  have hkeys : ((kva ++ kvb).map (·.1)).Nodup := by
    rw [List.map_append, hta.keys, htb.keys, List.nodup_append]
    exact hn'
  have hla := hta.length
  have hlb := htb.length
  rw [List.length_take] at hla
  rw [List.length_drop] at hlb
  refine wpAny_bind (wpAny_onRaise (wpAny_holding (merge_wp (Nat.ne_of_lt hlt) ?_ hda' hdb ?_ ?_ hkeys fun hc hdc hsc => ?_)))
  · have : sysModules < ha.objs.size := Nat.lt_trans hsys hlt
    simpa using Nat.ne_of_gt this
  · intro e
    rw [e] at hla
    simp at hla
    omega
  · rw [sizeLine_eq, hla, hlb]; omega
  · refine wpAny_pure (wpAny_pure ?_)
    have hk := dictTuple hda' hsc.extBut
    refine hQ _ hc _ _ (fun b o e => (hsc.2 b ?_).trans (stb _ _ (sta _ _ e))) hdc ⟨freshOf hB, hsys⟩ ?_
    · have := Heap.lt_size e
      exact Nat.ne_of_lt this
    · rw [hkt]
      exact (hta'.mono hk).append (htb.mono hk)
end
end Mine
end
section
open PySem PySem.W PySem.Calls PySem.Spec PyProof.Rows
namespace Mine

/-- a list of tuples of texts -/
inductive TupRows (B h : Heap) : List Value → List (List Str) → Prop
  | nil : TupRows B h [] []
  | cons {v : Value} {es : List Str} {vs : List Value} {rs : List (List Str)} : StrTup B h v es → TupRows B h vs rs → TupRows B h (v :: vs) (es :: rs)
theorem TupRows.mono {B h h' : Heap} (k : ∀ b o, h.get? b = some o → o.cls = .type "tuple" → h'.get? b = some o) : ∀ {vs rs}, TupRows B h vs rs → TupRows B h' vs rs
  | _, _, .nil => .nil
  | _, _, .cons x r => .cons (x.mono k) (r.mono k)
theorem TupRows.length {B h : Heap} : ∀ {vs rs}, TupRows B h vs rs → vs.length = rs.length
  | _, _, .nil => rfl
  | _, _, .cons _ r => by simp [r.length]
theorem TupRows.at {B h : Heap} : ∀ {vs rs}, TupRows B h vs rs → ∀ {i : Nat} {v : Value}, vs[i]? = some v → ∃ es, rs[i]? = some es ∧ StrTup B h v es
  | _, _, .nil, i, v, e => by simp at e
  | _, _, .cons x _, 0, v, e => ⟨_, rfl, by simp at e; subst e; exact x⟩
  | _, _, .cons _ r, i + 1, v, e => by
    obtain ⟨es, h1, h2⟩ := r.at (i := i) (v := v) (by simpa using e)
    exact ⟨es, by simpa using h1, h2⟩

noncomputable def rowLit? : Expr → Option (List Str)
  | .Tuple es _ _ => strLits es
  | _ => none
theorem rowLit_spec {e : Expr} {r : List Str} (h : rowLit? e = some r) : ∃ es k pos, e = .Tuple es k pos ∧ strLits es = some r := by
  unfold rowLit? at h
  split at h
  · exact ⟨_, _, _, rfl, h⟩
  · cases h
noncomputable def rowLits : List Expr → Option (List (List Str))
  | [] => some []
  | e :: r => (rowLit? e).bind fun x => (rowLits r).map (x :: ·)
theorem rowLits_cons {e : Expr} {r : List Expr} {ss : List (List Str)} (h : rowLits (e :: r) = some ss) : ∃ es k pos x rs, e = .Tuple es k pos ∧ strLits es = some x ∧ rowLits r = some rs ∧ ss = x :: rs := by
  simp only [rowLits, Option.bind_eq_some_iff, Option.map_eq_some_iff] at h
  obtain ⟨x, hx, rs, hr, rfl⟩ := h
  obtain ⟨es, k, pos, rfl, he⟩ := rowLit_spec hx
  exact ⟨es, k, pos, x, rs, rfl, he, hr, rfl⟩
theorem rowLits_len : ∀ {elts : List Expr} {rs : List (List Str)}, rowLits elts = some rs → rs.length = elts.length
  | [], _, h => by cases h; rfl
  | e :: r, _, h => by
    obtain ⟨es, k, pos, x, rs, rfl, _, hr, rfl⟩ := rowLits_cons h
    simp [rowLits_len hr]

section
variable {M : Model} {A : Around} {E : Value → Shared → Prop} {env : Env}
theorem spl_rows {B : Heap} {pos : Pos} (elts : List Expr) : ∀ {rs : List (List Str)} {s : Shared} {Q : List Value → Shared → Prop}, rowLits elts = some rs → (∀ r ∈ rs, r.length ≤ 64) → B.StaysIn s.heap →
    (∀ vs h' tk', s.heap.StaysIn h' → TupRows B h' vs rs → Q vs { s with heap := h', toks := tk' }) → wpAny M A (spliced (backTo pos (starEach elts env))) Q E s := by
  induction elts with
  | nil =>
    intro rs s Q h _ _ k
    cases h
    exact spliced_none (k [] s.heap s.toks (fun _ _ e => e) .nil)
  | cons e r ih =>
    intro rs s Q h hf hB k
    obtain ⟨es, k1, p1, x, rs', rfl, he, hr, rfl⟩ := rowLits_cons h
    have hl := strLits_len he
    have hx : x.length ≤ 64 := hf x (by simp)
    refine spliced_more (strs_tuple he (by omega) hB fun v h1 t1 st1 x1 => ?_)
    refine ih (s := { s with heap := h1, toks := t1 }) hr (fun q hq => hf q (by simp [hq])) (fun b o e => st1 _ _ (hB _ _ e)) fun vs h2 t2 st2 x2 => ?_
    exact k _ h2 t2 (fun b o e => st2 _ _ (st1 _ _ e)) (.cons (x1.mono fun b o e _ => st2 _ _ e) x2)

theorem rows_list {B : Heap} {elts : List Expr} {pos : Pos} {rs : List (List Str)} {s : Shared} {Q : Value → Shared → Prop} (h : rowLits elts = some rs) (hf : ∀ r ∈ rs, r.length ≤ 64) (hn : rs.length ≤ 1000) (hB : B.StaysIn s.heap)
    (hQ : ∀ l vs h' tk', s.heap.StaysIn h' → B.get? l = none → h'.IsList l vs.toArray → TupRows B h' vs rs → Q (.ref l) { s with heap := h', toks := tk' }) : wpAny M A (eval (.List elts pos) env) Q E s := by
  refine List_ (spl_rows elts h hf hB fun vs h1 t1 st1 x1 => ?_)
  have hl := x1.length
  refine wpAny_newObj_type (hQ _ vs _ _ (fun b o e => Heap.get?_push_of_some _ (st1 _ _ e)) (freshOf fun b o e => st1 _ _ (hB _ _ e)) ⟨_, Heap.get?_push_size _ rfl, rfl, _, rfl⟩ (x1.mono fun b o e _ => Heap.get?_push_of_some _ e)) ?_
  show vs.toArray.size ≤ sizeLine
  rw [List.size_toArray, sizeLine_eq]; omega
end
end Mine
end
section
open PySem PySem.W PySem.Calls PySem.Spec PyProof.Rows
namespace Mine

/-- a value that no one turns -/
inductive PV where
  | none
  | bool (b : Bool)
  | int (i : Int)
  | str (x : Str)
  | seq (l : Bool) (vs : List PV)
  | dict (ks : List Str) (vs : List PV)

mutual
noncomputable def PV.nodict : PV → Bool
  | .seq _ vs => nodicts vs
  | .dict _ _ => false
  | _ => true
noncomputable def nodicts : List PV → Bool
  | [] => true
  | v :: r => v.nodict && nodicts r
end

noncomputable def lenLid : Nat := 100000

section
variable (prog : Program) (w : World)
mutual
noncomputable def Is (h : Heap) : PV → Value → Prop
  | .none, v => v = .none
  | .bool b, v => v = .bool b
  | .int i, v => ∃ t, v = .int i t
  | .str x, v => x.length ≤ lenLid ∧ ∃ t, v = .str x t
  | .seq l ps, v => ∃ a vs, v = .ref a ∧ ps.length ≤ lenLid ∧ (if l then h.IsList a vs.toArray else h.IsTuple a vs.toArray) ∧ IsAll h ps vs
  | .dict ks ps, v => ∃ d vs, v = .ref d ∧ h.MapOf (strKind prog w) d (fun k => (ks.zip vs).lookup k) ∧ (∃ o, h.get? d = some o ∧ o.dict = Option.none ∧ (d == sysModules) = false) ∧ ks.length = ps.length ∧ IsAll h ps vs
noncomputable def IsAll (h : Heap) : List PV → List Value → Prop
  | [], vs => vs = []
  | p :: ps, vs => ∃ v r, vs = v :: r ∧ Is h p v ∧ IsAll h ps r
end
end

section
variable {prog : Program} {w : World}
theorem MapOf.keeps {h h' : Heap} {d : Addr} {f : Str → Option Value} (x : h.MapOf (strKind prog w) d f) (k : h.StaysIn h') : h'.MapOf (strKind prog w) d f :=
  let ⟨o, es, ep, e, r⟩ := x; ⟨o, es, ep, k _ _ e, r⟩
mutual
theorem Is.mono {h h' : Heap} (k : h.StaysIn h') : ∀ {p : PV} {v : Value}, Is prog w h p v → Is prog w h' p v
  | .none, _, x => by simpa [Is] using x
  | .bool _, _, x => by simpa [Is] using x
  | .int _, _, x => by simpa [Is] using x
  | .str _, _, x => by simpa [Is] using x
  | .seq l ps, v, x => by
    simp only [Is] at x ⊢
    obtain ⟨a, vs, rfl, hl, hs, ha⟩ := x
    refine ⟨a, vs, rfl, hl, ?_, IsAll.mono k ha⟩
    cases l
    · obtain ⟨o, e, r⟩ := hs; exact ⟨o, k _ _ e, r⟩
    · obtain ⟨o, e, r⟩ := hs; exact ⟨o, k _ _ e, r⟩
  | .dict ks ps, v, x => by
    simp only [Is] at x ⊢
    obtain ⟨d, vs, rfl, hm, ⟨o, e, r⟩, hl, ha⟩ := x
    exact ⟨d, vs, rfl, MapOf.keeps hm k, ⟨o, k _ _ e, r⟩, hl, IsAll.mono k ha⟩
theorem IsAll.mono {h h' : Heap} (k : h.StaysIn h') : ∀ {ps : List PV} {vs : List Value}, IsAll prog w h ps vs → IsAll prog w h' ps vs
  | [], _, x => by simpa [IsAll] using x
  | p :: ps, vs, x => by
    simp only [IsAll] at x ⊢
    obtain ⟨v, r, rfl, a, b⟩ := x
    exact ⟨v, r, rfl, Is.mono k a, IsAll.mono k b⟩
end

/-- tuples and lists stay -/
noncomputable def SeqKeep (h h' : Heap) : Prop := ∀ a o xs n, h.get? a = some o → o.data = .seq xs n → h'.get? a = some o
theorem SeqKeep.of_stays {h h' : Heap} (k : h.StaysIn h') : SeqKeep h h' := fun _ _ _ _ e _ => k _ _ e
theorem SeqKeep.refl (h : Heap) : SeqKeep h h := fun _ _ _ _ e _ => e
theorem SeqKeep.trans {h h' h'' : Heap} (x : SeqKeep h h') (y : SeqKeep h' h'') : SeqKeep h h'' := fun a o xs n e d => y a o xs n (x a o xs n e d) d
mutual
theorem Is.seqKeep {h h' : Heap} (k : SeqKeep h h') : ∀ {p : PV} {v : Value}, p.nodict = true → Is prog w h p v → Is prog w h' p v
  | .none, _, _, x => by simpa [Is] using x
  | .bool _, _, _, x => by simpa [Is] using x
  | .int _, _, _, x => by simpa [Is] using x
  | .str _, _, _, x => by simpa [Is] using x
  | .seq l ps, v, hd, x => by
    simp only [Is] at x ⊢
    obtain ⟨a, vs, rfl, hl, hs, ha⟩ := x
    refine ⟨a, vs, rfl, hl, ?_, IsAll.seqKeep k (by simpa [PV.nodict] using hd) ha⟩
    cases l
    · obtain ⟨o, e, c, n, r⟩ := hs; exact ⟨o, k _ _ _ _ e r, c, n, r⟩
    · obtain ⟨o, e, c, n, r⟩ := hs; exact ⟨o, k _ _ _ _ e r, c, n, r⟩
  | .dict ks ps, v, hd, x => by simp [PV.nodict] at hd
theorem IsAll.seqKeep {h h' : Heap} (k : SeqKeep h h') : ∀ {ps : List PV} {vs : List Value}, nodicts ps = true → IsAll prog w h ps vs → IsAll prog w h' ps vs
  | [], _, _, x => by simpa [IsAll] using x
  | p :: ps, vs, hd, x => by
    simp only [IsAll] at x ⊢
    simp only [nodicts, Bool.and_eq_true] at hd
    obtain ⟨v, r, rfl, a, b⟩ := x
    exact ⟨v, r, rfl, Is.seqKeep k hd.1 a, IsAll.seqKeep k hd.2 b⟩
end
theorem SeqKeep.set {h h' : Heap} {L : Addr} {m : Str → Option Value} (F : h.Ns L m) (hs : Heap.SameBut L h h') : SeqKeep h h' := by
  intro a o xs n e d
  obtain ⟨oL, es, ep, eL, dL, _⟩ := F
  have : a ≠ L := by
    intro q; subst q
    rw [e] at eL; cases eL
    rw [d] at dL; cases dL
  rw [hs.2 a this]; exact e

theorem IsAll.length {h : Heap} : ∀ {ps : List PV} {vs : List Value}, IsAll prog w h ps vs → vs.length = ps.length
  | [], _, x => by simp only [IsAll] at x; rw [x]; rfl
  | p :: ps, vs, x => by
    simp only [IsAll] at x
    obtain ⟨v, r, rfl, _, b⟩ := x
    simp [IsAll.length b]
theorem IsAll.at {h : Heap} : ∀ {ps : List PV} {vs : List Value} {i : Nat} {p : PV}, IsAll prog w h ps vs → ps[i]? = some p → ∃ v, vs[i]? = some v ∧ Is prog w h p v
  | [], _, i, p, _, e => by simp at e
  | q :: ps, vs, i, p, x, e => by
    simp only [IsAll] at x
    obtain ⟨v, r, rfl, a, b⟩ := x
    cases i with
    | zero => simp at e; subst e; exact ⟨v, rfl, a⟩
    | succ i => obtain ⟨v', h1, h2⟩ := IsAll.at (i := i) b (by simpa using e); exact ⟨v', by simpa using h1, h2⟩
theorem IsAll.take {h : Heap} : ∀ (n : Nat) {ps : List PV} {vs : List Value}, IsAll prog w h ps vs → IsAll prog w h (ps.take n) (vs.take n)
  | 0, ps, vs, x => by simp [IsAll]
  | n + 1, [], vs, x => by simp only [IsAll] at x; subst x; simp [IsAll]
  | n + 1, p :: ps, vs, x => by
    simp only [IsAll] at x
    obtain ⟨v, r, rfl, a, b⟩ := x
    simp only [List.take_succ_cons, IsAll]
    exact ⟨v, _, rfl, a, IsAll.take n b⟩
theorem IsAll.zip {h : Heap} {k : Str} : ∀ {ks : List Str} {ps : List PV} {vs : List Value}, IsAll prog w h ps vs →
    (∀ p, (ks.zip ps).lookup k = some p → ∃ v, (ks.zip vs).lookup k = some v ∧ Is prog w h p v) ∧ ((ks.zip ps).lookup k = none → (ks.zip vs).lookup k = none)
  | [], ps, vs, x => by simp
  | _ :: _, [], vs, x => by simp only [IsAll] at x; subst x; simp
  | c :: ks, p :: ps, vs, x => by
    simp only [IsAll] at x
    obtain ⟨v, r, rfl, a, b⟩ := x
    have ih := IsAll.zip (k := k) (ks := ks) b
    simp only [List.zip_cons_cons, List.lookup_cons]
    cases hk : k == c with
    | true => exact ⟨fun q e => by cases e; exact ⟨v, rfl, a⟩, fun e => by cases e⟩
    | false => exact ih

/-- texts alone -/
noncomputable def strsOf : List PV → Option (List Str)
  | [] => some []
  | .str x :: r => (strsOf r).map (x :: ·)
  | _ :: _ => none
theorem strsOf_spec {h : Heap} : ∀ {ps : List PV} {vs : List Value} {ss : List Str}, strsOf ps = some ss → IsAll prog w h ps vs → StrsAre vs ss
  | [], vs, ss, e, x => by simp only [IsAll] at x; simp only [strsOf] at e; cases e; subst x; exact .nil
  | p :: ps, vs, ss, e, x => by
    simp only [IsAll] at x
    obtain ⟨v, r, rfl, a, b⟩ := x
    cases p with
    | str y =>
      simp only [strsOf, Option.map_eq_some_iff] at e
      obtain ⟨rs, hr, rfl⟩ := e
      simp only [Is] at a
      obtain ⟨_, t, rfl⟩ := a
      exact .cons y t (strsOf_spec hr b)
    | _ => simp [strsOf] at e
end
end Mine
end
section
open PySem PySem.W PySem.Calls PySem.Spec PyProof.Rows
namespace Mine

inductive PE where
  | const (v : PV)
  | loc (i : Nat)
  | glob (i : Nat)
  | and (a b : PE)
  | or (a b : PE)
  | not (a : PE)
  | ifexp (c a b : PE)
  | cmp (op : CmpOp) (a b : PE)
  | bin (op : Operator) (a b : PE)
  | neg (a : PE)
  | idx (a b : PE)
  | sliceTo (a b : PE)
  | sliceFrom (a b : PE)
  | lit (l : Bool) (vs : List PV)
  | len (a : PE)
  | call0 (f : Nat)
  | call1 (f : Nat) (a : PE)
  | call2 (f : Nat) (a b : PE)
  | find (a b : PE)
  | endswith (a b : PE)
  | get1 (a b : PE)
  | get2 (a b c : PE)

noncomputable def constPV : Const → Option PV
  | .none => some .none
  | .bool b => some (.bool b)
  | .int i => some (.int i)
  | .str x => if x.length ≤ 1000 then some (.str x) else none
  | _ => none
noncomputable def constE : Expr → Option PV
  | .Constant c _ _ => constPV c
  | _ => none

noncomputable def foldB (mk : PE → PE → PE) : List PE → Option PE
  | [] => none
  | [e] => some e
  | e :: r => (foldB mk r).map (mk e)
noncomputable def isNameE : Expr → Bool
  | .Name .. => true
  | _ => false
noncomputable def isNameOrSub : Expr → Bool
  | .Name .. => true
  | .Subscript .. => true
  | _ => false
noncomputable def isSlice : Expr → Bool
  | .Slice .. => true
  | _ => false
noncomputable def locIx (cs : Scope) (x : Str) : Option Nat := if cs.names.lookup x = some .local then some (cs.names.findIdx (·.1 == x)) else none
noncomputable def nameIx (cs : Scope) (l : List Str) (x : Str) : Option Nat := if cs.names.lookup x = some .globalImplicit ∧ (x == ("__debug__" : Str)) = false ∧ l.contains x then some (l.findIdx (· == x)) else none
noncomputable def binOk : Operator → Bool
  | .Add | .Sub | .Mod => true
  | _ => false

noncomputable def comp (cs : Scope) (gn fn : List Str) : Nat → Expr → Option PE
  | 0, _ => none
  | n + 1, e => match e with
    | .Constant c _ _ => (constPV c).map .const
    | .Name x _ => if (x == ("__debug__" : Str)) = false then (match locIx cs x with | some i => some (.loc i) | none => (nameIx cs gn x).map .glob) else none
    | .BoolOp .And vs _ => (vs.mapM (comp cs gn fn n)).bind (foldB .and)
    | .BoolOp .Or vs _ => (vs.mapM (comp cs gn fn n)).bind (foldB .or)
    | .UnaryOp .Not x _ => (comp cs gn fn n x).map .not
    | .UnaryOp .USub x _ => (comp cs gn fn n x).map .neg
    | .IfExp t a b _ => (comp cs gn fn n t).bind fun t' => (comp cs gn fn n a).bind fun a' => (comp cs gn fn n b).map fun b' => .ifexp t' a' b'
    | .BinOp l op r _ => if binOk op then (comp cs gn fn n l).bind fun a => (comp cs gn fn n r).map fun b => .bin op a b else none
    | .Compare l [op] [r] _ => if behindInMarks op r = false then (comp cs gn fn n l).bind fun a => (comp cs gn fn n r).map fun b => .cmp op a b else none
    | .Subscript v (.Slice none (some hi) none _) _ => if isNameE v then (comp cs gn fn n v).bind fun a => (comp cs gn fn n hi).map fun b => .sliceTo a b else none
    | .Subscript v (.Slice (some lo) none none _) _ => if isNameE v then (comp cs gn fn n v).bind fun a => (comp cs gn fn n lo).map fun b => .sliceFrom a b else none
    | .Subscript v i _ => if isSlice i then none else (comp cs gn fn n v).bind fun a => (comp cs gn fn n i).map fun b => .idx a b
    | .List es _ => if es.length ≤ 1000 then (es.mapM constE).map (.lit true) else none
    | .Tuple es _ _ => if es.length ≤ 1000 then (es.mapM constE).map (.lit false) else none
    | .Call (.Name f _) [] [] _ => (nameIx cs fn f).map .call0
    | .Call (.Name f _) [a] [] _ => (match nameIx cs fn f with
      | some i => (comp cs gn fn n a).map fun a' => .call1 i a'
      | none => if cs.names.lookup f = some .globalImplicit ∧ f = ("len" : Str) then (comp cs gn fn n a).map .len else none)
    | .Call (.Name f _) [a, b] [] _ => (nameIx cs fn f).bind fun i => (comp cs gn fn n a).bind fun a' => (comp cs gn fn n b).map fun b' => .call2 i a' b'
    | .Call (.Attribute o name apos) [a] [] pos => if isNameOrSub o ∧ (apos.endLine == pos.line) = true then (comp cs gn fn n o).bind fun o' => (comp cs gn fn n a).bind fun a' =>
        (if name = ("find" : Str) then some (.find o' a') else if name = ("endswith" : Str) then some (.endswith o' a') else if name = ("get" : Str) then some (.get1 o' a') else none) else none
    | .Call (.Attribute o name apos) [a, b] [] pos => if isNameOrSub o ∧ (apos.endLine == pos.line) = true ∧ name = ("get" : Str) then (comp cs gn fn n o).bind fun o' => (comp cs gn fn n a).bind fun a' => (comp cs gn fn n b).map fun b' => .get2 o' a' b' else none
    | _ => none

noncomputable def truth : PV → Option Bool
  | .none => some false
  | .bool b => some b
  | .int i => some (i != 0)
  | .str x => some ((x.length : Int) != 0)
  | _ => none
noncomputable def pnone : PV → Option Bool
  | .none => some true
  | .dict _ _ => none
  | _ => some false
noncomputable def pcmp : CmpOp → PV → PV → Option PV
  | .Eq, .str x, .str y => some (.bool (x == y))
  | .Eq, .int x, .int y => some (.bool (x == y))
  | .Eq, .seq false vs, .seq false [] => (strsOf vs).bind fun ss => if ss.all PyData.strOk then some (.bool ss.isEmpty) else none
  | .NotEq, .str x, .str y => some (.bool (x != y))
  | .NotEq, .bool x, .bool y => some (.bool (x != y))
  | .Gt, .int x, .int y => some (.bool (decide (x > y)))
  | .GtE, .int x, .int y => some (.bool (decide (x ≥ y)))
  | .In, .str x, .seq _ vs => (strsOf vs).map fun ss => .bool (ss.any (· == x))
  | .In, .str y, .str x => some (.bool (Txt.contains x y))
  | .Is, v, .none => (pnone v).map .bool
  | _, _, _ => none
noncomputable def pbin : Operator → PV → PV → Option PV
  | .Add, .int x, .int y => some (.int (x + y))
  | .Add, .str x, .str y => if x.length + y.length ≤ lenLid then some (.str (x ++ y)) else none
  | .Sub, .int x, .int y => some (.int (x - y))
  | .Mod, .int x, .int y => if y = 0 then none else some (.int (x.fmod y))
  | _, _, _ => none
noncomputable def pidx : PV → PV → Option PV
  | .str x, .int i => if -(x.length : Int) ≤ i ∧ i < x.length then some (.str (Txt.item x i)) else none
  | .seq _ vs, .int i => if 0 ≤ i then vs[i.toNat]? else none
  | .dict ks vs, .str k => (ks.zip vs).lookup k
  | _, _ => none
noncomputable def psliceTo : PV → PV → Option PV
  | .str x, .int i => some (.str (Txt.slice x none (some i)))
  | .seq l vs, .int i => if 0 ≤ i then some (.seq l (vs.take i.toNat)) else none
  | _, _ => none
noncomputable def psliceFrom : PV → PV → Option PV
  | .str x, .int i => some (.str (Txt.slice x (some i) none))
  | _, _ => none
noncomputable def pneg : PV → Option PV
  | .int i => some (.int (-i))
  | _ => none
noncomputable def plen : PV → Option PV
  | .str x => some (.int x.length)
  | .seq _ vs => some (.int vs.length)
  | _ => none
noncomputable def pfind : PV → PV → Option PV
  | .str x, .str y => some (.int (Txt.find x y))
  | _, _ => none
noncomputable def pends : PV → PV → Option PV
  | .str x, .str y => some (.bool (Txt.endswith x y))
  | _, _ => none
noncomputable def pget : PV → PV → PV → Option PV
  | .dict ks vs, .str k, d => some (((ks.zip vs).lookup k).getD d)
  | _, _, _ => none

section
variable (gv : List PV) (ff : List (List PV → Option PV)) (ρ : Nat → Option PV)
noncomputable def pev : PE → Option PV
  | .const v => some v
  | .loc i => ρ i
  | .glob i => gv[i]?
  | .and a b => (pev a).bind fun v => (truth v).bind fun t => if t then pev b else some v
  | .or a b => (pev a).bind fun v => (truth v).bind fun t => if t then some v else pev b
  | .not a => (pev a).bind fun v => (truth v).map fun t => .bool !t
  | .ifexp c a b => (pev c).bind fun v => (truth v).bind fun t => if t then pev a else pev b
  | .cmp op a b => (pev a).bind fun x => (pev b).bind fun y => pcmp op x y
  | .bin op a b => (pev a).bind fun x => (pev b).bind fun y => pbin op x y
  | .neg a => (pev a).bind pneg
  | .idx a b => (pev a).bind fun x => (pev b).bind fun y => pidx x y
  | .sliceTo a b => (pev a).bind fun x => (pev b).bind fun y => psliceTo x y
  | .sliceFrom a b => (pev a).bind fun x => (pev b).bind fun y => psliceFrom x y
  | .lit l vs => some (.seq l vs)
  | .len a => (pev a).bind plen
  | .call0 f => ff[f]?.bind fun g => g []
  | .call1 f a => (pev a).bind fun x => ff[f]?.bind fun g => g [x]
  | .call2 f a b => (pev a).bind fun x => (pev b).bind fun y => ff[f]?.bind fun g => g [x, y]
  | .find a b => (pev a).bind fun x => (pev b).bind fun y => pfind x y
  | .endswith a b => (pev a).bind fun x => (pev b).bind fun y => pends x y
  | .get1 a b => (pev a).bind fun x => (pev b).bind fun y => pget x y .none
  | .get2 a b c => (pev a).bind fun x => (pev b).bind fun y => (pev c).bind fun z => pget x y z
end

/-- what the names of the top stand for -/
structure Std (prog : Program) (w : World) (K : Frag) (p : Program) (loose : List Str) (mean : ExcName → Option Value) (mg mb : Str → Option Value) (D : Nat)
    (gn : List Str) (gv : List PV) (fn : List Str) (ff : List (List PV → Option PV)) : Prop where
  hG : ∀ (i : Nat) x pv, gn[i]? = some x → gv[i]? = some pv → ∃ v, nsIn K mainGlobals x = some (some v) ∧ ∀ h, K.In h → Is prog w h pv v
  hF : ∀ (i : Nat) x f, fn[i]? = some x → ff[i]? = some f → ∃ a, nsIn K mainGlobals x = some (some (.ref a)) ∧ keepIn K (.ref a) = true ∧
    ∀ ps r, f ps = some r → ∀ vs, Tells prog w K p loose mean mg mb D a vs (fun h => IsAll prog w h ps vs) (fun _ v h' => Is prog w h' r v)
  hlen : nsIn K mainGlobals "len" = some none ∧ bootBuiltins "len" = some (.builtin "len")

/-- within a def -/
structure Def (K : Frag) (p : Program) (loose : List Str) (mean : ExcName → Option Value) (mg mb : Str → Option Value) (D : Nat) (A : Around) (cn : Str) (cs : Scope) (L a : Addr) (ccd : Value) (g : Heap) : Prop where
  hh : A.handled = none
  fr : ∃ (A₀ : Around) (base : Heap) (outer : List Env), A.frames = some (envX cn cs L a ccd [] :: outer) ∧ Below A₀ base outer g
  X : K.In g
  T : Top p loose mean mg mb g
  hk : cs.kind = .function
  hd : A.depth + D < recursionLimit
  hu : A.units + 100 * D + 64 < cLine

structure Inv (prog : Program) (w : World) (cs : Scope) (ρ : Nat → Option PV) (g : Heap) (L : Addr) (h : Heap) (m : Str → Option Value) : Prop where
  F : Fr g L h m
  val : ∀ x i pv, locIx cs x = some i → ρ i = some pv → ∃ v, m x = some v ∧ Is prog w h pv v ∧ pv.nodict = true

theorem Inv.grow {prog : Program} {w : World} {cs : Scope} {ρ : Nat → Option PV} {g h h' : Heap} {L : Addr} {m : Str → Option Value} (I : Inv prog w cs ρ g L h m) (k : h.StaysIn h') : Inv prog w cs ρ g L h' m :=
  ⟨I.F.keeps k, fun x i pv e1 e2 => let ⟨v, a, b, c⟩ := I.val x i pv e1 e2; ⟨v, a, b.mono k, c⟩⟩

theorem locIx_kind {cs : Scope} {x : Str} {i : Nat} (e : locIx cs x = some i) : cs.names.lookup x = some .local ∧ i = cs.names.findIdx (·.1 == x) := by
  unfold locIx at e; split at e
  · rename_i h; cases e; exact ⟨h, rfl⟩
  · cases e
theorem nameIx_kind {cs : Scope} {l : List Str} {x : Str} {i : Nat} (e : nameIx cs l x = some i) : cs.names.lookup x = some .globalImplicit ∧ (x == ("__debug__" : Str)) = false ∧ l[i]? = some x := by
  unfold nameIx at e; split at e
  · rename_i h
    cases e
    refine ⟨h.1, h.2.1, ?_⟩
    have hm : x ∈ l := by simpa using h.2.2
    have hlt : l.findIdx (· == x) < l.length := List.findIdx_lt_length_of_exists ⟨x, hm, by simp⟩
    have := List.findIdx_getElem (p := (· == x)) (w := hlt)
    rw [List.getElem?_eq_getElem hlt]
    simpa using this
  · cases e
end Mine
end
section
open PySem PySem.W PySem.Calls PySem.Spec PyProof.Rows
namespace Mine

section
variable {prog : Program} {w : World} {A : Around} {E : Value → Shared → Prop} {s : Shared}

theorem adjust_to (b n : Nat) : Builtin.Slice.sliceAdjust none (some (b : Int)) 1 (n : Int) = (0, ((min b n : Nat) : Int)) := by
  unfold Builtin.Slice.sliceAdjust
  have h1 : ¬ ((1 : Int) < 0) := by omega
  have h2 : ¬ ((b : Int) < 0) := by omega
  simp only [h1, h2, if_false]
  congr 1
  omega
theorem places_to (k : Nat) : Builtin.Slice.slicePlaces 0 (k : Int) 1 = k := by
  unfold Builtin.Slice.slicePlaces
  have h1 : (1 : Int) > 0 := by omega
  simp only [h1, if_true, Int.ediv_one]
  split <;> omega
theorem sliceApplied_to {sl : Addr} {b n : Nat} {u : Tok} {Q : Int × Int × Nat → Shared → Prop} (hs : s.heap.IsSliceOf sl .none (.int b u) .none) (h : Q (0, 1, min b n) s) :
    wpAny (model prog w) A (Builtin.Slice.sliceApplied (.ref sl) (pure (n : Int))) Q E s := by
  obtain ⟨os, hos, hcs, hds⟩ := id hs
  unfold Builtin.Slice.sliceApplied Builtin.Slice.sliceFields
  refine wpAny_bind (wpAny_bind (wpAny_field hos hds (x := .none) rfl (wpAny_bind (wpAny_field hos hds (x := .int b u) rfl (wpAny_bind (wpAny_field hos hds (x := .none) rfl (wpAny_pure ?_)))))))
  refine wpAny_bind (slicePart_none ?_)
  show wpAny _ _ (if ((1 : Int) == 0) = true then _ else _) _ _ s
  rw [if_neg (by decide)]
  refine wpAny_bind (slicePart_none (wpAny_bind (slicePart_int (wpAny_bind (wpAny_pure ?_)))))
  show wpAny _ _ (match Builtin.Slice.sliceAdjust none (some (b : Int)) 1 (n : Int) with | (lo, hi) => pure (lo, (1 : Int), Builtin.Slice.slicePlaces lo hi 1)) _ _ s
  rw [adjust_to b n]
  show wpAny _ _ (pure (0, (1 : Int), Builtin.Slice.slicePlaces 0 ((min b n : Nat) : Int) 1)) _ _ s
  rw [places_to]
  exact wpAny_pure h
theorem pick_to (xs : Array Value) (k : Nat) : ((List.range k).filterMap fun (i : Nat) => xs[((0 : Int) + (i : Int) * 1).toNat]?).toArray = (xs.toList.take k).toArray := by
  have e : (fun (i : Nat) => xs[((0 : Int) + (i : Int) * 1).toNat]?) = fun i => xs.toList[i]? := by
    funext i
    have : ((0 : Int) + (i : Int) * 1).toNat = i := by omega
    rw [this]; simp
  rw [e]
  congr 1
  induction k with
  | zero => simp
  | succ k ih =>
    rw [List.range_succ, List.filterMap_append, ih, List.take_add_one]
    simp only [List.filterMap_cons, List.filterMap_nil]
    cases h : xs.toList[k]? <;> rfl
theorem take_min (xs : Array Value) (b : Nat) : xs.toList.take (min b xs.size) = xs.toList.take b := by
  rcases Nat.le_total b xs.size with h | h
  · rw [Nat.min_eq_left h]
  · rw [Nat.min_eq_right h, List.take_of_length_le (by simp), List.take_of_length_le (by simpa using h)]

theorem getItem_tuple_to {t sl : Addr} {items : Array Value} {b : Nat} {u : Tok} {Q : Value → Shared → Prop} (ht : IsTup s.heap t items) (hs : s.heap.IsSliceOf sl .none (.int b u) .none)
    (h : ∀ a h', s.heap.StaysIn h' → IsTup h' a (items.toList.take b).toArray → Q (.ref a) { s with heap := h' })
    (hsz : items.size ≤ sizeLine := by size_fits) : wpAny (model prog w) A (getItem (.ref t) (.ref sl)) Q E s := by
  have htake : sizeOk (.seq (items.toList.take b).toArray) := by
    show (items.toList.take b).toArray.size ≤ sizeLine
    rw [List.size_toArray, List.length_take, Array.length_toList]
    omega
  obtain ⟨os, hos, hcs, hds⟩ := id hs
  have hTs : s.TypeIs (.ref sl) "slice" := ⟨os, hos, hcs⟩
  unfold getItem
  try with_reducible refine wpAny_holding ?_
  first | refine wpAny_bind (wpAny_pure ?_) | skip
  refine wpAny_bind (wpAny_sequenceKey ht.typeIs (by decide) ?_)
  refine wpAny_bind (wpAny_callSpecial?_slot (name := Str.ofString "__getitem__") ht.typeIs slot_tuple_getitem
    (wpAny_call_entry slot_tuple_getitem ht.typeIs entry_tuple_getitem ?_ (args_tuple_getitem _ _)))
  show wpAny _ _ (Builtin.Tuple.tupleItemsOf (.ref t) >>= _) _ _ s
  refine wpAny_bind (tupleItemsOf_ ht ?_)
  refine wpAny_bind (wpAny_typeOf hTs ?_)
  rw [if_pos (by decide)]
  refine wpAny_bind (sliceApplied_to hs ?_)
  by_cases hz : (((0 : Int) == 0 && (1 : Int) == 1 && (min b items.size) == items.size) = true)
  · show wpAny _ _ (if ((0 : Int) == 0 && (1 : Int) == 1 && (min b items.size) == items.size) = true then _ else _) _ _ s
    rw [if_pos hz]
    have hb : items.size ≤ b := by simp at hz; omega
    have e : (items.toList.take b).toArray = items := by rw [List.take_of_length_le (by simpa using hb)]
    have h0 := h t s.heap (fun _ _ e => e) (by rw [e]; exact ht)
    refine wpAny_bind (m := Builtin.Tuple.tupleIsExact _) ?_
    unfold Builtin.Tuple.tupleIsExact
    refine wpAny_bind (wpAny_typeOf ht.typeIs (wpAny_pure ?_))
    rw [if_pos (by decide)]
    exact wpAny_bind (wpAny_rule (wpAny_pure ⟨_, rfl, wpAny_pure h0⟩))
  · show wpAny _ _ (if ((0 : Int) == 0 && (1 : Int) == 1 && (min b items.size) == items.size) = true then _ else _) _ _ s
    rw [if_neg hz, pick_to items, take_min]
    have h0 := h s.heap.objs.size (s.heap.push { cls := .type "tuple", data := .seq (items.toList.take b).toArray }) (fun _ _ e => Heap.get?_push_of_some _ e) ⟨_, Heap.get?_push_size _ rfl, rfl, _, rfl⟩
    first
      | exact wpAny_bind (m := Builtin.Tuple.tupleExact _) (wpAny_newObj_type (wpAny_pure ⟨_, rfl, wpAny_pure h0⟩) htake)
      | exact wpAny_bind (m := Builtin.Tuple.tupleExact _) (wpAny_newObj_type (wpAny_bind (wpAny_pure (wpAny_pure ⟨_, rfl, wpAny_pure h0⟩))) htake)
      | exact wpAny_bind (wpAny_bind (m := Builtin.Tuple.tupleExact _) (wpAny_newObj_type (wpAny_pure (wpAny_pure ⟨_, rfl, wpAny_pure h0⟩)) htake))
      | exact wpAny_bind (wpAny_bind (m := Builtin.Tuple.tupleExact _) (wpAny_newObj_type (wpAny_pure ⟨_, rfl, wpAny_pure h0⟩) htake))

theorem slicePick_to (items : Array Value) (b : Nat) : slicePick items none (some (b : Int)) none = (items.toList.take b).toArray := by
  have e1 : sliceRange (sliceBounds none (some (b : Int)) none items.size).1 (sliceBounds none (some (b : Int)) none items.size).2.1 (sliceBounds none (some (b : Int)) none items.size).2.2 = List.range (min b items.size) := by
    unfold sliceBounds sliceRange
    have h2 : ¬ ((b : Int) < 0) := by omega
    simp only [Option.getD_none, show (1 : Int) > 0 by decide, if_true, h2, if_false]
    have e3 : ((if (0 : Int) < max 0 (min (b : Int) (items.size : Int)) then (max 0 (min (b : Int) (items.size : Int)) - 0 + 1 - 1) / 1 else 0)).toNat = min b items.size := by
      rw [Int.ediv_one]; split <;> omega
    rw [e3]
    have e4 : (fun (k : Nat) => ((0 : Int) + 1 * (k : Int)).toNat) = id := by funext k; simp
    rw [e4, List.map_id]
  unfold slicePick
  rw [e1]
  have := pick_to items (min b items.size)
  rw [take_min] at this
  rw [← this]
  congr 2
  funext i
  have e5 : ((0 : Int) + (i : Int) * 1).toNat = i := by omega
  rw [e5]

theorem subscripted_plain {i : Expr} (h : isSlice i = false) (o k : Value) : subscripted i false o k = operate [o, k] (getItem o k) := by
  cases i <;> first | rfl | simp [isSlice] at h
theorem letGo_atom {e : Expr} {o : Value} (h : ∀ a, o ≠ .ref a) (r : Value) : letTemporaryGo e o r = pure () := by
  cases o <;> first | exact absurd rfl (h _) | (cases e <;> rfl)
theorem letGo_name {e : Expr} {o : Value} (h : isNameE e = true) (r : Value) : letTemporaryGo e o r = pure () := by
  cases e <;> first | rfl | simp [isNameE] at h
theorem attributeBase_name {o : Expr} {env : Env} (name : Str) (h : isNameOrSub o = true) : attributeBase o name env (eval o env) = eval o env := by
  cases o <;> first | rfl | simp [isNameOrSub] at h
end
end Mine
end
section
open PySem PySem.W PySem.Calls PySem.Spec PyProof.Rows
namespace Mine

theorem eq_tup_nil {prog : Program} {w : World} {A : Around} {E : Value → Shared → Prop} {s : Shared} {a b : Addr} {vs : List Value} {es : List Str} {Q : Value → Shared → Prop} (ha : IsTup s.heap a vs.toArray) (hb : IsTup s.heap b (#[] : Array Value)) (hv : StrsAre vs es) (hok : ∀ e ∈ es, PyData.strOk e = true) (hu : A.units + 64 < cLine)
    (h : Q (.bool es.isEmpty) s) : wpAny (model prog w) A (compareOp .Eq (.ref a) (.ref b)) Q E s := by
  obtain ⟨oa, ea, ca, na, da⟩ := ha
  obtain ⟨ob, eb, cb, nb, db⟩ := hb
  have ra : Reads s.heap (.ref a) (.tuple (es.map PyData.str)) [] := by simpa using Reads.tuple ea ca da (StrsAre.reads s.heap hv)
  have rb : Reads s.heap (.ref b) (.tuple []) [] := by simpa using Reads.tuple eb cb db .nil
  have sa : SeqAt.shaped (.tuple (es.map PyData.str)) = true := by
    have := shaped_strs hok
    simp only [SeqAt.shaped, PyData.canLay0, PyData.depth] at this ⊢
    exact this
  refine eq_dataH_same ra rb sa (by rfl) hu ?_ ?_
  · cases es <;> simp [SeqAt.noMix, SeqAt.noMixAll]
  · have e : PySem.Spec.same (PyData.tuple (es.map PyData.str)) (PyData.tuple []) = es.isEmpty := by
      cases es <;> simp [PySem.Spec.same, PySem.Spec.sameAll]
    rw [e]; exact h

noncomputable abbrev After (prog : Program) (w : World) (r : PV) (Q : Value → Shared → Prop) (s : Shared) : Prop :=
  ∀ v h' tk', s.heap.StaysIn h' → Is prog w h' r v → Q v { s with heap := h', toks := tk' }
theorem stays_refl (h : Heap) : h.StaysIn h := fun _ _ e => e
theorem StaysIn.trans {a b c : Heap} (x : a.StaysIn b) (y : b.StaysIn c) : a.StaysIn c := fun _ _ e => y _ _ (x _ _ e)
theorem lenLid_le : lenLid ≤ sizeLine := by rw [sizeLine_eq]; decide

section
variable {prog : Program} {w : World} {A : Around} {E : Value → Shared → Prop} {s : Shared} {Q : Value → Shared → Prop}

theorem After.here {r : PV} {v : Value} (h : After prog w r Q s) (x : Is prog w s.heap r v) : Q v s := h v s.heap s.toks (stays_refl _) x
theorem After.tok {r : PV} {v : Value} {k : Nat} (h : After prog w r Q s) (x : Is prog w s.heap r v) : Q v { s with toks := k } := h v s.heap k (stays_refl _) x
theorem After.bool {b : Bool} (h : After prog w (.bool b) Q s) : Q (.bool b) s := h.here (by simp [Is])

theorem is_str {h : Heap} {x : Str} {v : Value} (a : Is prog w h (.str x) v) : x.length ≤ lenLid ∧ ∃ t, v = .str x t := by simpa [Is] using a
theorem is_int {h : Heap} {i : Int} {v : Value} (a : Is prog w h (.int i) v) : ∃ t, v = .int i t := by simpa [Is] using a
theorem is_bool {h : Heap} {b : Bool} {v : Value} (a : Is prog w h (.bool b) v) : v = .bool b := by simpa [Is] using a
theorem is_none {h : Heap} {v : Value} (a : Is prog w h .none v) : v = .none := by simpa [Is] using a
theorem is_list {h : Heap} {ps : List PV} {v : Value} (a : Is prog w h (.seq true ps) v) : ∃ l vs, v = .ref l ∧ ps.length ≤ lenLid ∧ h.IsList l vs.toArray ∧ IsAll prog w h ps vs := by simpa [Is] using a
theorem is_tup {h : Heap} {ps : List PV} {v : Value} (a : Is prog w h (.seq false ps) v) : ∃ l vs, v = .ref l ∧ ps.length ≤ lenLid ∧ h.IsTuple l vs.toArray ∧ IsAll prog w h ps vs := by simpa [Is] using a
theorem mk_str {h : Heap} {x : Str} {t : Tok} (a : x.length ≤ lenLid) : Is prog w h (.str x) (.str x t) := by simp only [Is]; exact ⟨a, t, rfl⟩
theorem mk_int {h : Heap} {i : Int} {t : Tok} : Is prog w h (.int i) (.int i t) := by simp only [Is]; exact ⟨t, rfl⟩
theorem mk_list {h : Heap} {l : Addr} {ps : List PV} {vs : List Value} (a : ps.length ≤ lenLid) (b : h.IsList l vs.toArray) (c : IsAll prog w h ps vs) : Is prog w h (.seq true ps) (.ref l) := by
  simp only [Is]; exact ⟨l, vs, rfl, a, by simpa using b, c⟩
theorem mk_tup {h : Heap} {l : Addr} {ps : List PV} {vs : List Value} (a : ps.length ≤ lenLid) (b : h.IsTuple l vs.toArray) (c : IsAll prog w h ps vs) : Is prog w h (.seq false ps) (.ref l) := by
  simp only [Is]; exact ⟨l, vs, rfl, a, by simpa using b, c⟩

theorem cmp_leaf {op : CmpOp} {x y r : PV} {u v : Value} (hu : A.units + 64 < cLine) (e : pcmp op x y = some r) (hx : Is prog w s.heap x u) (hy : Is prog w s.heap y v) (h : After prog w r Q s) :
    wpAny (model prog w) A (compareOp op u v) Q E s := by
  unfold pcmp at e
  split at e
  · obtain ⟨_, t, rfl⟩ := is_str hx; obtain ⟨_, t', rfl⟩ := is_str hy; cases e
    exact eq_str h.bool
  · obtain ⟨t, rfl⟩ := is_int hx; obtain ⟨t', rfl⟩ := is_int hy; cases e
    exact eq_int h.bool
  · simp only [Option.bind_eq_some_iff] at e
    obtain ⟨ss, hs, e⟩ := e
    split at e
    · rename_i hok
      cases e
      obtain ⟨a, vs, rfl, _, ha, hav⟩ := is_tup hx
      obtain ⟨b, vs', rfl, _, hb, hbv⟩ := is_tup hy
      simp only [IsAll] at hbv; subst hbv
      exact eq_tup_nil ha hb (strsOf_spec hs hav) (fun z hz => List.all_eq_true.mp hok z hz) hu h.bool
    · cases e
  · obtain ⟨_, t, rfl⟩ := is_str hx; obtain ⟨_, t', rfl⟩ := is_str hy; cases e
    exact ne_str h.bool
  · cases is_bool hx; cases is_bool hy; cases e
    exact ne_bool h.bool
  · obtain ⟨t, rfl⟩ := is_int hx; obtain ⟨t', rfl⟩ := is_int hy; cases e
    exact P.gt_int h.bool
  · obtain ⟨t, rfl⟩ := is_int hx; obtain ⟨t', rfl⟩ := is_int hy; cases e
    exact P.ge_int h.bool
  · rename_i l vs
    simp only [Option.map_eq_some_iff] at e
    obtain ⟨ss, hs, rfl⟩ := e
    obtain ⟨_, t, rfl⟩ := is_str hx
    cases l with
    | true =>
      obtain ⟨b, vs', rfl, _, hb, hbv⟩ := is_list hy
      exact in_list_strs hb (strsOf_spec hs hbv) h.bool
    | false =>
      obtain ⟨b, vs', rfl, _, hb, hbv⟩ := is_tup hy
      exact in_tuple_strs hb (by simpa using strsOf_spec hs hbv) h.bool
  · obtain ⟨_, t, rfl⟩ := is_str hx; obtain ⟨_, t', rfl⟩ := is_str hy; cases e
    exact SB.contains h.bool
  · cases is_none hy
    simp only [Option.map_eq_some_iff] at e
    obtain ⟨b, hb, rfl⟩ := e
    cases x with
    | none => cases is_none hx; cases hb; exact wpAny_is_self rfl h.bool
    | bool c => cases is_bool hx; cases hb; exact is_none_ne (by intro x; cases x) h.bool
    | int i => obtain ⟨t, rfl⟩ := is_int hx; cases hb; exact is_none_ne (by intro x; cases x) h.bool
    | str i => obtain ⟨_, t, rfl⟩ := is_str hx; cases hb; exact is_none_ne (by intro x; cases x) h.bool
    | seq l ps =>
      cases hb
      simp only [Is] at hx
      obtain ⟨a, vs, rfl, _⟩ := hx
      exact is_none_ne (by intro x; cases x) h.bool
    | dict ks ps => cases hb
  · cases e

theorem bin_leaf {op : Operator} {x y r : PV} {u v : Value} (e : pbin op x y = some r) (hx : Is prog w s.heap x u) (hy : Is prog w s.heap y v) (h : After prog w r Q s) :
    wpAny (model prog w) A (binaryOp op u v) Q E s := by
  unfold pbin at e
  split at e
  · obtain ⟨t, rfl⟩ := is_int hx; obtain ⟨t', rfl⟩ := is_int hy; cases e
    exact add_int (h.tok mk_int)
  · obtain ⟨_, t, rfl⟩ := is_str hx; obtain ⟨_, t', rfl⟩ := is_str hy
    split at e
    · rename_i hl
      cases e
      refine add_str (fun t' tk => h.tok (mk_str ?_)) (Nat.le_trans hl lenLid_le)
      rw [size_cat]; exact hl
    · cases e
  · obtain ⟨t, rfl⟩ := is_int hx; obtain ⟨t', rfl⟩ := is_int hy; cases e
    exact sub_int (h.tok mk_int)
  · obtain ⟨t, rfl⟩ := is_int hx; obtain ⟨t', rfl⟩ := is_int hy
    split at e
    · cases e
    · rename_i hne
      cases e
      exact mod_int hne (h.tok mk_int)
  · cases e

theorem idx_leaf {sl value : Expr} {x y r : PV} {u v : Value} (hsl : isSlice sl = false) (e : pidx x y = some r) (hx : Is prog w s.heap x u) (hy : Is prog w s.heap y v) (h : After prog w r Q s) :
    wpAny (model prog w) A (subscriptTail value sl u v) Q E s := by
  unfold pidx at e
  split at e
  · rename_i x i
    obtain ⟨hl, t, rfl⟩ := is_str hx; obtain ⟨t', rfl⟩ := is_int hy
    split at e
    · rename_i hi
      cases e
      have hL : (x.length : Int) ≤ 100000 := by have := hl; unfold lenLid at this; omega
      exact item_str (fitsSsize_of (N := 9223372036854775807) (by omega) (by omega) (by omega)) hi.1 hi.2 (fun hh => h.tok (mk_str (Nat.le_trans hh.2 (by decide)))) (subscripted_plain hsl _ _) (letGo_atom (by intro a q; cases q))
    · cases e
  · rename_i l ps i
    obtain ⟨t', rfl⟩ := is_int hy
    split at e
    · rename_i h0
      have hlt : i.toNat < ps.length := by
        rcases Nat.lt_or_ge i.toNat ps.length with q | q
        · exact q
        · rw [List.getElem?_eq_none q] at e; cases e
      cases l with
      | true =>
        obtain ⟨b, vs', rfl, hn, hb, hbv⟩ := is_list hx
        obtain ⟨v, hv, hr⟩ := IsAll.at hbv e
        have hL : (ps.length : Int) ≤ 100000 := by have := hn; unfold lenLid at this; omega
        exact tail_any hb.typeIs slot_list_getitem.lookup (wpAny_getItem_list hb h0 (by omega) (by simpa using hv) (h.here hr)) (subscripted_plain hsl _ _)
      | false =>
        obtain ⟨b, vs', rfl, hn, hb, hbv⟩ := is_tup hx
        obtain ⟨v, hv, hr⟩ := IsAll.at hbv e
        have hL : (ps.length : Int) ≤ 100000 := by have := hn; unfold lenLid at this; omega
        have hlen := hbv.length
        exact item_tupleT hb (by omega) (by omega) (j := i.toNat) (by unfold seqIndex?; rw [hlen]; simp; omega) hv (h.here hr) (subscripted_plain hsl _ _)
    · cases e
  · rename_i ks ps k
    obtain ⟨_, t, rfl⟩ := is_str hy
    simp only [Is] at hx
    obtain ⟨d, vs, rfl, hm, _, _, ha⟩ := hx
    obtain ⟨v, hv, hr⟩ := (IsAll.zip (k := k) ha).1 _ e
    exact tail_any hm.typeIs slot_dict_getitem.lookup (wpAny_getItem_of (strKind_is _ w k t) hm hv (h.tok hr)) (subscripted_plain hsl _ _)
  · cases e

theorem keptStays (g : Heap) : KeptH (fun h => g.StaysIn h) := fun _ _ k b o e => Heap.get?_push_of_some _ (k b o e)
theorem push_stays (h : Heap) (o : Obj) : h.StaysIn (h.push o) := fun _ _ e => Heap.get?_push_of_some _ e

theorem sliceTo_leaf {hi : Expr} {p : Pos} {value : Expr} {x y r : PV} {u v : Value} (hv : isNameE value = true) (e : psliceTo x y = some r) (hx : Is prog w s.heap x u) (hy : Is prog w s.heap y v) (h : After prog w r Q s) :
    wpAny (model prog w) A (subscriptTail value (.Slice none (some hi) none p) u (.ref s.heap.objs.size)) Q E { s with heap := s.heap.push { cls := .type "slice", data := .fields #[.none, v, .none] } } := by
  unfold psliceTo at e
  split at e
  · rename_i x i
    obtain ⟨hl, t, rfl⟩ := is_str hx; obtain ⟨t', rfl⟩ := is_int hy
    cases e
    exact tail_of_ItemOn (SBH.sliceItem_ns (keptStays s.heap) (stays_refl _) (fun h' t' k st => h _ _ _ st (mk_str (Nat.le_trans (Txt.slice_le _ _ _) hl))) (Nat.le_trans hl lenLid_le)) rfl (letGo_name hv)
  · rename_i l ps i
    obtain ⟨t', rfl⟩ := is_int hy
    split at e
    · rename_i h0
      cases e
      obtain ⟨n, rfl⟩ : ∃ n : Nat, i = n := ⟨i.toNat, by omega⟩
      have st := push_stays s.heap { cls := .type "slice", data := .fields #[.none, .int n t', .none] }
      cases l with
      | true =>
        obtain ⟨b, vs', rfl, hn, hb, hbv⟩ := is_list hx
        have hlen := hbv.length
        refine subscriptTail_ops (Heap.IsList.typeIs (s := { s with heap := s.heap.push { cls := .type "slice", data := .fields #[.none, .int n t', .none] } }) (hb.push _)) list_getitem_lookup
          (wpAny_getItem_list_slice (hb.push _) (Heap.IsSliceOf.new ..) .none (.int _ _) .none (by simp) ?_ (by rw [List.size_toArray, hlen]; exact Nat.le_trans hn lenLid_le)) rfl (letGo_name hv)
        refine h _ _ _ (StaysIn.trans st (push_stays _ _)) (mk_list (vs := vs'.take n) ?_ ?_ ?_)
        · rw [List.length_take]; exact Nat.le_trans (Nat.min_le_right _ _) hn
        · rw [slicePick_to]; exact ⟨_, Heap.get?_push_size _ rfl, rfl, 0, by simp⟩
        · exact (hbv.take _).mono (StaysIn.trans st (push_stays _ _))
      | false =>
        obtain ⟨b, vs', rfl, hn, hb, hbv⟩ := is_tup hx
        have hlen := hbv.length
        have hb' : IsTup (s.heap.push { cls := .type "slice", data := .fields #[.none, .int n t', .none] }) b vs'.toArray := IsTup.push hb _
        refine subscriptTail_ops (s := { s with heap := s.heap.push { cls := .type "slice", data := .fields #[.none, .int n t', .none] } }) hb'.typeIs slot_tuple_getitem.lookup
          (getItem_tuple_to hb' (Heap.IsSliceOf.new ..) (fun a h' st' ht => ?_) (by rw [List.size_toArray, hlen]; exact Nat.le_trans hn lenLid_le)) rfl (letGo_name hv)
        refine h _ _ _ (StaysIn.trans st st') (mk_tup (vs := vs'.take n) ?_ (by have h9 := ht; simp only [List.toList_toArray] at h9; exact h9) ((hbv.take _).mono (StaysIn.trans st st')))
        rw [List.length_take]; exact Nat.le_trans (Nat.min_le_right _ _) hn
    · cases e
  · cases e

theorem sliceFrom_leaf {lo : Expr} {p : Pos} {value : Expr} {x y r : PV} {u v : Value} (hv : isNameE value = true) (e : psliceFrom x y = some r) (hx : Is prog w s.heap x u) (hy : Is prog w s.heap y v) (h : After prog w r Q s) :
    wpAny (model prog w) A (subscriptTail value (.Slice (some lo) none none p) u (.ref s.heap.objs.size)) Q E { s with heap := s.heap.push { cls := .type "slice", data := .fields #[v, .none, .none] } } := by
  unfold psliceFrom at e
  split at e
  · obtain ⟨hl, t, rfl⟩ := is_str hx; obtain ⟨t', rfl⟩ := is_int hy
    cases e
    exact tail_of_ItemOn (SBH.sliceItem_sn (keptStays s.heap) (stays_refl _) (fun h' t' k st => h _ _ _ st (mk_str (Nat.le_trans (Txt.slice_le _ _ _) hl))) (Nat.le_trans hl lenLid_le)) rfl (letGo_name hv)
  · cases e

theorem truth_leaf {x : PV} {u : Value} {b : Bool} {Q : Bool → Shared → Prop} (e : truth x = some b) (hx : Is prog w s.heap x u) (h : ∀ tk', Q b { s with toks := tk' }) : wpAny (model prog w) A (truthy u) Q E s := by
  unfold truth at e
  split at e
  · cases is_none hx; cases e; exact truthy_none (h s.toks)
  · cases is_bool hx; cases e; exact wpAny_truthy_bool (h s.toks)
  · obtain ⟨t, rfl⟩ := is_int hx; cases e; exact P.truthy_int (h s.toks)
  · obtain ⟨hl, t, rfl⟩ := is_str hx; cases e
    exact P.truthy_str (by have := hl; unfold lenLid at this; omega) (h _)
  · cases e
end
end Mine
end
section
open PySem PySem.W PySem.Calls PySem.Spec PyProof.Rows
namespace Mine

inductive All2 {α β : Type} (R : α → β → Prop) : List α → List β → Prop
  | nil : All2 R [] []
  | cons {a : α} {b : β} {as : List α} {bs : List β} : R a b → All2 R as bs → All2 R (a :: as) (b :: bs)
theorem mapM_some {α β : Type} {f : α → Option β} : ∀ {l : List α} {r : List β}, l.mapM f = some r → All2 (fun a b => f a = some b) l r
  | [], r, h => by simp at h; subst h; exact .nil
  | a :: l, r, h => by
    rw [List.mapM_cons] at h
    simp only [Option.bind_eq_bind, Option.bind_eq_some_iff] at h
    obtain ⟨b, hb, bs, hbs, e⟩ := h
    cases e
    exact .cons hb (mapM_some hbs)

section
variable {prog : Program} {w : World} {K : Frag} {p : Program} {loose : List Str} {mean : ExcName → Option Value} {mg mb : Str → Option Value} {D : Nat}
  {gn : List Str} {gv : List PV} {fn : List Str} {ff : List (List PV → Option PV)} {A : Around} {cn : Str} {cs : Scope} {L a : Addr} {ccd : Value} {g : Heap} {ρ : Nat → Option PV}

noncomputable def EvOk (prog : Program) (w : World) (gv : List PV) (ff : List (List PV → Option PV)) (A : Around) (cn : Str) (cs : Scope) (L a : Addr) (ccd : Value) (g : Heap) (e : Expr) (pe : PE) : Prop :=
  ∀ (ρ : Nat → Option PV) (s : Shared) (m : Str → Option Value) (Q E : Value → Shared → Prop) (pv : PV), Inv prog w cs ρ g L s.heap m → pev gv ff ρ pe = some pv → After prog w pv Q s →
    wpAny (model prog w) A (eval e (envX cn cs L a ccd [])) Q E s
noncomputable abbrev AfterB (b : Bool) (Q : Bool → Shared → Prop) (s : Shared) : Prop := ∀ h' tk', s.heap.StaysIn h' → Q b { s with heap := h', toks := tk' }
noncomputable def TsOk (prog : Program) (w : World) (gv : List PV) (ff : List (List PV → Option PV)) (A : Around) (cn : Str) (cs : Scope) (L a : Addr) (ccd : Value) (g : Heap) (e : Expr) (pe : PE) : Prop :=
  ∀ (ρ : Nat → Option PV) (s : Shared) (m : Str → Option Value) (Q : Bool → Shared → Prop) (E : Value → Shared → Prop) (pv : PV) (b : Bool) (whole : Sem Value), whole = eval e (envX cn cs L a ccd []) → Inv prog w cs ρ g L s.heap m → pev gv ff ρ pe = some pv → truth pv = some b → AfterB b Q s →
    wpAny (model prog w) A (PySem.isTrue e (envX cn cs L a ccd []) whole) Q E s

noncomputable def TsAny (prog : Program) (w : World) (gv : List PV) (ff : List (List PV → Option PV)) (A : Around) (cn : Str) (cs : Scope) (L a : Addr) (ccd : Value) (g : Heap) (e : Expr) (pe : PE) : Prop :=
  ∀ (ρ : Nat → Option PV) (s : Shared) (m : Str → Option Value) (Q : Bool → Shared → Prop) (E : Value → Shared → Prop) (pv : PV) (b : Bool) (whole : Sem Value), Inv prog w cs ρ g L s.heap m → pev gv ff ρ pe = some pv → truth pv = some b → AfterB b Q s →
    wpAny (model prog w) A (PySem.isTrue e (envX cn cs L a ccd []) whole) Q E s
theorem TsAny.ts {e : Expr} {pe : PE} (h : TsAny prog w gv ff A cn cs L a ccd g e pe) : TsOk prog w gv ff A cn cs L a ccd g e pe := fun ρ s m Q E pv b whole _ I hv ht k => h ρ s m Q E pv b whole I hv ht k
theorem EvOk.ap {e : Expr} {pe : PE} (h : EvOk prog w gv ff A cn cs L a ccd g e pe) {s : Shared} {m : Str → Option Value} {Q E : Value → Shared → Prop} {pv : PV} (I : Inv prog w cs ρ g L s.heap m) (hv : pev gv ff ρ pe = some pv) (k : After prog w pv Q s) :
    wpAny (model prog w) A (eval e (envX cn cs L a ccd [])) Q E s := h ρ s m Q E pv I hv k
theorem TsOk.ap {e : Expr} {pe : PE} (h : TsOk prog w gv ff A cn cs L a ccd g e pe) {s : Shared} {m : Str → Option Value} {Q : Bool → Shared → Prop} {E : Value → Shared → Prop} {pv : PV} {b : Bool} {whole : Sem Value} (hw : whole = eval e (envX cn cs L a ccd [])) (I : Inv prog w cs ρ g L s.heap m) (hv : pev gv ff ρ pe = some pv) (ht : truth pv = some b) (k : AfterB b Q s) :
    wpAny (model prog w) A (PySem.isTrue e (envX cn cs L a ccd []) whole) Q E s := h ρ s m Q E pv b whole hw I hv ht k

theorem ts_plain {e : Expr} {pe : PE} (h : EvOk prog w gv ff A cn cs L a ccd g e pe) (hp : ∀ env whole, PySem.isTrue e env whole = (do let v ← whole; standAt e.pos; holding [v] (truthy v))) : TsOk prog w gv ff A cn cs L a ccd g e pe := by
  intro ρ s m Q E pv b whole hw I hv ht k
  subst hw
  refine isTrue_plain (h.ap I hv fun v h' tk' st x => ?_) (hp _ _)
  exact truth_leaf ht x fun tk'' => k _ _ st

theorem ev_const {c : Const} {k : Nat} {pos : Pos} {v : PV} (h : constPV c = some v) : EvOk prog w gv ff A cn cs L a ccd g (.Constant c k pos) (.const v) := by
  intro ρ s m Q E pv I hv k
  cases hv
  unfold constPV at h
  split at h
  · cases h; exact wpAny_Constant_none (k.here (by simp [Is]))
  · cases h; exact wpAny_Constant_bool (k.here (by simp [Is]))
  · cases h; exact wpAny_Constant_int (k.tok mk_int)
  · split at h
    · rename_i hl
      cases h; exact Constant_str (k.tok (mk_str (Nat.le_trans hl (by decide))))
    · cases h
  · cases h

theorem ev_loc {x : Str} {pos : Pos} {i : Nat} (Df : Def K p loose mean mg mb D A cn cs L a ccd g) (hd : (x == ("__debug__" : Str)) = false) (h : locIx cs x = some i) : EvOk prog w gv ff A cn cs L a ccd g (.Name x pos) (.loc i) := by
  intro ρ s m Q E pv I hv k
  obtain ⟨v, hm, hi, _⟩ := I.val x i pv h hv
  exact nameX_L I.F hm (k.here hi) Df.hk (locIx_kind h).1 hd

theorem ev_glob {x : Str} {pos : Pos} {i : Nat} (W : Std prog w K p loose mean mg mb D gn gv fn ff) (Df : Def K p loose mean mg mb D A cn cs L a ccd g) (h : nameIx cs gn x = some i) : EvOk prog w gv ff A cn cs L a ccd g (.Name x pos) (.glob i) := by
  intro ρ s m Q E pv I hv k
  obtain ⟨h1, h2, h3⟩ := nameIx_kind h
  obtain ⟨v, hn, hi⟩ := W.hG i x pv h3 hv
  exact nameX_K I.F Df.X (topRead_of Df.T) hn (k.here (hi _ (Df.X.keeps I.F.keep))) Df.hk h1 h2

theorem ev_andL {pos : Pos} : ∀ {es : List Expr} {pes : List PE}, All2 (EvOk prog w gv ff A cn cs L a ccd g) es pes → ∀ {pe : PE}, foldB .and pes = some pe → EvOk prog w gv ff A cn cs L a ccd g (.BoolOp .And es pos) pe
  | _, _, .nil, pe, h => by cases h
  | [e], [pe1], .cons h1 .nil, pe, h => by
    cases h
    intro ρ s m Q E pv I hv k
    exact BoolOp_one (h1.ap I hv k)
  | e1 :: e2 :: es, p1 :: p2 :: pes, .cons h1 (.cons h2 hr), pe, h => by
    simp only [foldB, Option.map_eq_some_iff] at h
    obtain ⟨q, hq, rfl⟩ := h
    have ih := ev_andL (pos := pos) (.cons h2 hr) hq
    intro ρ s m Q E pv I hv k
    simp only [pev, Option.bind_eq_some_iff] at hv
    obtain ⟨v, hv1, t, ht, hv⟩ := hv
    refine BoolOp_and (h1.ap I hv1 fun v1 h' tk' st x => truth_leaf ht x fun tk'' => ?_)
    cases t with
    | true =>
      simp only [if_true] at hv ⊢
      exact ih.ap (I.grow st) hv fun v2 h2 tk2 st2 x2 => k _ _ _ (StaysIn.trans st st2) x2
    | false =>
      simp only [Bool.false_eq_true, if_false] at hv ⊢
      cases hv
      exact k _ _ _ st x
theorem ev_orL {pos : Pos} : ∀ {es : List Expr} {pes : List PE}, All2 (EvOk prog w gv ff A cn cs L a ccd g) es pes → ∀ {pe : PE}, foldB .or pes = some pe → EvOk prog w gv ff A cn cs L a ccd g (.BoolOp .Or es pos) pe
  | _, _, .nil, pe, h => by cases h
  | [e], [pe1], .cons h1 .nil, pe, h => by
    cases h
    intro ρ s m Q E pv I hv k
    exact BoolOp_one (h1.ap I hv k)
  | e1 :: e2 :: es, p1 :: p2 :: pes, .cons h1 (.cons h2 hr), pe, h => by
    simp only [foldB, Option.map_eq_some_iff] at h
    obtain ⟨q, hq, rfl⟩ := h
    have ih := ev_orL (pos := pos) (.cons h2 hr) hq
    intro ρ s m Q E pv I hv k
    simp only [pev, Option.bind_eq_some_iff] at hv
    obtain ⟨v, hv1, t, ht, hv⟩ := hv
    refine BoolOp_or (h1.ap I hv1 fun v1 h' tk' st x => truth_leaf ht x fun tk'' => ?_)
    cases t with
    | false =>
      simp only [Bool.false_eq_true, if_false] at hv ⊢
      exact ih.ap (I.grow st) hv fun v2 h2 tk2 st2 x2 => k _ _ _ (StaysIn.trans st st2) x2
    | true =>
      simp only [if_true] at hv ⊢
      cases hv
      exact k _ _ _ st x
theorem ts_andL {pos : Pos} : ∀ {es : List Expr} {pes : List PE}, All2 (TsOk prog w gv ff A cn cs L a ccd g) es pes → ∀ {pe : PE}, foldB .and pes = some pe → TsAny prog w gv ff A cn cs L a ccd g (.BoolOp .And es pos) pe
  | _, _, .nil, pe, h => by cases h
  | [e], [pe1], .cons h1 .nil, pe, h => by
    cases h
    intro ρ s m Q E pv b whole I hv ht k
    refine isTrue_and (h1.ap rfl I hv ht fun h' tk' st => ?_)
    cases b with
    | true => exact isTrue_and_nil (k _ _ st)
    | false => exact k _ _ st
  | e1 :: e2 :: es, p1 :: p2 :: pes, .cons h1 (.cons h2 hr), pe, h => by
    simp only [foldB, Option.map_eq_some_iff] at h
    obtain ⟨q, hq, rfl⟩ := h
    have ih := ts_andL (pos := pos) (.cons h2 hr) hq
    intro ρ s m Q E pv b whole I hv htb k
    simp only [pev, Option.bind_eq_some_iff] at hv
    obtain ⟨v, hv1, t, ht, hv⟩ := hv
    refine isTrue_and (h1.ap rfl I hv1 ht fun h' tk' st => ?_)
    cases t with
    | true =>
      simp only [if_true] at hv ⊢
      exact ih ρ _ _ _ _ _ _ _ (I.grow st) hv htb fun h2 tk2 st2 => k _ _ (StaysIn.trans st st2)
    | false =>
      simp only [Bool.false_eq_true, if_false] at hv ⊢
      cases hv
      rw [ht] at htb; cases htb
      exact k _ _ st
theorem ts_orL {pos : Pos} : ∀ {es : List Expr} {pes : List PE}, All2 (TsOk prog w gv ff A cn cs L a ccd g) es pes → ∀ {pe : PE}, foldB .or pes = some pe → TsAny prog w gv ff A cn cs L a ccd g (.BoolOp .Or es pos) pe
  | _, _, .nil, pe, h => by cases h
  | [e], [pe1], .cons h1 .nil, pe, h => by
    cases h
    intro ρ s m Q E pv b whole I hv ht k
    refine isTrue_or (h1.ap rfl I hv ht fun h' tk' st => ?_)
    cases b with
    | false => exact isTrue_or_nil (k _ _ st)
    | true => exact k _ _ st
  | e1 :: e2 :: es, p1 :: p2 :: pes, .cons h1 (.cons h2 hr), pe, h => by
    simp only [foldB, Option.map_eq_some_iff] at h
    obtain ⟨q, hq, rfl⟩ := h
    have ih := ts_orL (pos := pos) (.cons h2 hr) hq
    intro ρ s m Q E pv b whole I hv htb k
    simp only [pev, Option.bind_eq_some_iff] at hv
    obtain ⟨v, hv1, t, ht, hv⟩ := hv
    refine isTrue_or (h1.ap rfl I hv1 ht fun h' tk' st => ?_)
    cases t with
    | false =>
      simp only [Bool.false_eq_true, if_false] at hv ⊢
      exact ih ρ _ _ _ _ _ _ _ (I.grow st) hv htb fun h2 tk2 st2 => k _ _ (StaysIn.trans st st2)
    | true =>
      simp only [if_true] at hv ⊢
      cases hv
      rw [ht] at htb; cases htb
      exact k _ _ st

theorem call_leaf {ps : List PV} {vs : List Value} {r : PV} {f : Addr} {s : Shared} {m : Str → Option Value} {Q E : Value → Shared → Prop} (Df : Def K p loose mean mg mb D A cn cs L a ccd g) (I : Inv prog w cs ρ g L s.heap m)
    (C : Tells prog w K p loose mean mg mb D f vs (fun h => IsAll prog w h ps vs) (fun _ v h' => Is prog w h' r v)) (hx : IsAll prog w s.heap ps vs) (k : After prog w r Q s) : wpAny (model prog w) A (call (.ref f) vs) Q E s := by
  obtain ⟨hh, ⟨A₀, base, outer, hf, B⟩, X, T, hk, hd, hu⟩ := Df
  obtain ⟨hdl, dp, fr, gd, un⟩ := A
  simp only at hh hf hd hu
  subst hh hf
  exact C dp un gd cn cs a ccd [] outer A₀ base g L m s Q E B I.F X T hk hd (by omega) hx k
end
end Mine
end
section
open PySem PySem.W PySem.Calls PySem.Spec PyProof.Rows
namespace Mine

section
variable {prog : Program} {w : World} {K : Frag} {p : Program} {loose : List Str} {mean : ExcName → Option Value} {mg mb : Str → Option Value} {D : Nat}
  {gn : List Str} {gv : List PV} {fn : List Str} {ff : List (List PV → Option PV)} {A : Around} {cn : Str} {cs : Scope} {L a : Addr} {ccd : Value} {g : Heap} {ρ : Nat → Option PV}

theorem ev_not {x : Expr} {px : PE} {pos : Pos} (h : EvOk prog w gv ff A cn cs L a ccd g x px) : EvOk prog w gv ff A cn cs L a ccd g (.UnaryOp .Not x pos) (.not px) := by
  intro ρ s m Q E pv I hv k
  simp only [pev, Option.bind_eq_some_iff, Option.map_eq_some_iff] at hv
  obtain ⟨v, hv1, t, ht, rfl⟩ := hv
  exact UnaryOp_ (h.ap I hv1 fun v1 h' tk' st x => not_of (truth_leaf ht x fun tk'' => k _ _ _ st (by simp [Is])))
theorem ts_not {x : Expr} {px : PE} {pos : Pos} (h : TsOk prog w gv ff A cn cs L a ccd g x px) : TsAny prog w gv ff A cn cs L a ccd g (.UnaryOp .Not x pos) (.not px) := by
  intro ρ s m Q E pv b whole I hv htb k
  simp only [pev, Option.bind_eq_some_iff, Option.map_eq_some_iff] at hv
  obtain ⟨v, hv1, t, ht, rfl⟩ := hv
  cases htb
  exact isTrue_not (h.ap rfl I hv1 ht fun h' tk' st => k _ _ st)
theorem ev_neg {x : Expr} {px : PE} {pos : Pos} (h : EvOk prog w gv ff A cn cs L a ccd g x px) : EvOk prog w gv ff A cn cs L a ccd g (.UnaryOp .USub x pos) (.neg px) := by
  intro ρ s m Q E pv I hv k
  simp only [pev, Option.bind_eq_some_iff] at hv
  obtain ⟨v, hv1, hv⟩ := hv
  refine UnaryOp_ (h.ap I hv1 fun v1 h' tk' st x => ?_)
  unfold pneg at hv
  split at hv
  · obtain ⟨t, rfl⟩ := is_int x
    cases hv
    exact neg_int (k _ _ _ st mk_int)
  · cases hv
theorem ev_ifexp {t x y : Expr} {pt px py : PE} {pos : Pos} (ht : TsOk prog w gv ff A cn cs L a ccd g t pt) (hx : EvOk prog w gv ff A cn cs L a ccd g x px) (hy : EvOk prog w gv ff A cn cs L a ccd g y py) : EvOk prog w gv ff A cn cs L a ccd g (.IfExp t x y pos) (.ifexp pt px py) := by
  intro ρ s m Q E pv I hv k
  simp only [pev, Option.bind_eq_some_iff] at hv
  obtain ⟨v, hv1, b, hb, hv⟩ := hv
  refine IfExp_ (ht.ap rfl I hv1 hb fun h' tk' st => ?_)
  cases b with
  | true => simp only [if_true] at hv ⊢; exact hx.ap (I.grow st) hv fun v2 h2 tk2 st2 x2 => k _ _ _ (StaysIn.trans st st2) x2
  | false => simp only [Bool.false_eq_true, if_false] at hv ⊢; exact hy.ap (I.grow st) hv fun v2 h2 tk2 st2 x2 => k _ _ _ (StaysIn.trans st st2) x2
theorem ts_ifexp {t x y : Expr} {pt px py : PE} {pos : Pos} (ht : TsOk prog w gv ff A cn cs L a ccd g t pt) (hx : TsOk prog w gv ff A cn cs L a ccd g x px) (hy : TsOk prog w gv ff A cn cs L a ccd g y py) : TsAny prog w gv ff A cn cs L a ccd g (.IfExp t x y pos) (.ifexp pt px py) := by
  intro ρ s m Q E pv b whole I hv htb k
  simp only [pev, Option.bind_eq_some_iff] at hv
  obtain ⟨v, hv1, c, hb, hv⟩ := hv
  refine isTrue_IfExp (ht.ap rfl I hv1 hb fun h' tk' st => ?_)
  cases c with
  | true => simp only [if_true] at hv ⊢; exact hx.ap rfl (I.grow st) hv htb fun h2 tk2 st2 => k _ _ (StaysIn.trans st st2)
  | false => simp only [Bool.false_eq_true, if_false] at hv ⊢; exact hy.ap rfl (I.grow st) hv htb fun h2 tk2 st2 => k _ _ (StaysIn.trans st st2)
theorem ev_bin {x y : Expr} {px py : PE} {op : Operator} {pos : Pos} (hx : EvOk prog w gv ff A cn cs L a ccd g x px) (hy : EvOk prog w gv ff A cn cs L a ccd g y py) : EvOk prog w gv ff A cn cs L a ccd g (.BinOp x op y pos) (.bin op px py) := by
  intro ρ s m Q E pv I hv k
  simp only [pev, Option.bind_eq_some_iff] at hv
  obtain ⟨u, hu, v, hv1, hv⟩ := hv
  refine wpAny_BinOp (hx.ap I hu fun v1 h1 tk1 st1 x1 => hy.ap (I.grow st1) hv1 fun v2 h2 tk2 st2 x2 => ?_)
  exact bin_leaf hv (x1.mono st2) x2 fun v3 h3 tk3 st3 x3 => k _ _ _ (StaysIn.trans st1 (StaysIn.trans st2 st3)) x3
theorem ev_cmp {x y : Expr} {px py : PE} {op : CmpOp} {pos : Pos} (Df : Def K p loose mean mg mb D A cn cs L a ccd g) (hm : behindInMarks op y = false) (hx : EvOk prog w gv ff A cn cs L a ccd g x px) (hy : EvOk prog w gv ff A cn cs L a ccd g y py) : EvOk prog w gv ff A cn cs L a ccd g (.Compare x [op] [y] pos) (.cmp op px py) := by
  intro ρ s m Q E pv I hv k
  simp only [pev, Option.bind_eq_some_iff] at hv
  obtain ⟨u, hu, v, hv1, hv⟩ := hv
  refine wpAny_Compare1 (hx.ap I hu fun v1 h1 tk1 st1 x1 => hy.ap (I.grow st1) hv1 fun v2 h2 tk2 st2 x2 => ?_) hm
  exact cmp_leaf (by have := Df.hu; omega) hv (x1.mono st2) x2 fun v3 h3 tk3 st3 x3 => k _ _ _ (StaysIn.trans st1 (StaysIn.trans st2 st3)) x3
theorem ts_cmp {x y : Expr} {px py : PE} {op : CmpOp} {pos : Pos} (Df : Def K p loose mean mg mb D A cn cs L a ccd g) (hm : behindInMarks op y = false) (hx : EvOk prog w gv ff A cn cs L a ccd g x px) (hy : EvOk prog w gv ff A cn cs L a ccd g y py) : TsAny prog w gv ff A cn cs L a ccd g (.Compare x [op] [y] pos) (.cmp op px py) := by
  intro ρ s m Q E pv b whole I hv htb k
  simp only [pev, Option.bind_eq_some_iff] at hv
  obtain ⟨u, hu, v, hv1, hv⟩ := hv
  refine wpAny_isTrue_Compare1 (hx.ap I hu fun v1 h1 tk1 st1 x1 => hy.ap (I.grow st1) hv1 fun v2 h2 tk2 st2 x2 => ?_) hm
  exact cmp_leaf (by have := Df.hu; omega) hv (x1.mono st2) x2 fun v3 h3 tk3 st3 x3 => truth_leaf htb x3 fun tk4 => k _ _ (StaysIn.trans st1 (StaysIn.trans st2 st3))
theorem ev_idx {x y : Expr} {px py : PE} {pos : Pos} (hs : isSlice y = false) (hx : EvOk prog w gv ff A cn cs L a ccd g x px) (hy : EvOk prog w gv ff A cn cs L a ccd g y py) : EvOk prog w gv ff A cn cs L a ccd g (.Subscript x y pos) (.idx px py) := by
  intro ρ s m Q E pv I hv k
  simp only [pev, Option.bind_eq_some_iff] at hv
  obtain ⟨u, hu, v, hv1, hv⟩ := hv
  refine Subscript_ (hx.ap I hu fun v1 h1 tk1 st1 x1 => hy.ap (I.grow st1) hv1 fun v2 h2 tk2 st2 x2 => ?_)
  exact idx_leaf hs hv (x1.mono st2) x2 fun v3 h3 tk3 st3 x3 => k _ _ _ (StaysIn.trans st1 (StaysIn.trans st2 st3)) x3
theorem ev_sliceTo {x y : Expr} {px py : PE} {pos pp : Pos} (hn : isNameE x = true) (hx : EvOk prog w gv ff A cn cs L a ccd g x px) (hy : EvOk prog w gv ff A cn cs L a ccd g y py) : EvOk prog w gv ff A cn cs L a ccd g (.Subscript x (.Slice none (some y) none pp) pos) (.sliceTo px py) := by
  intro ρ s m Q E pv I hv k
  simp only [pev, Option.bind_eq_some_iff] at hv
  obtain ⟨u, hu, v, hv1, hv⟩ := hv
  refine Subscript_ (hx.ap I hu fun v1 h1 tk1 st1 x1 => wpAny_Slice (evalPart_none_step (evalPart_some_step (hy.ap (I.grow st1) hv1 fun v2 h2 tk2 st2 x2 => evalPart_none_step ?_))))
  exact sliceTo_leaf (s := { s with heap := h2, toks := tk2 }) hn hv (x1.mono st2) x2 fun v3 h3 tk3 st3 x3 => k _ _ _ (StaysIn.trans st1 (StaysIn.trans st2 st3)) x3
theorem ev_sliceFrom {x y : Expr} {px py : PE} {pos pp : Pos} (hn : isNameE x = true) (hx : EvOk prog w gv ff A cn cs L a ccd g x px) (hy : EvOk prog w gv ff A cn cs L a ccd g y py) : EvOk prog w gv ff A cn cs L a ccd g (.Subscript x (.Slice (some y) none none pp) pos) (.sliceFrom px py) := by
  intro ρ s m Q E pv I hv k
  simp only [pev, Option.bind_eq_some_iff] at hv
  obtain ⟨u, hu, v, hv1, hv⟩ := hv
  refine Subscript_ (hx.ap I hu fun v1 h1 tk1 st1 x1 => wpAny_Slice (evalPart_some_step (hy.ap (I.grow st1) hv1 fun v2 h2 tk2 st2 x2 => evalPart_none_step (evalPart_none_step ?_))))
  exact sliceFrom_leaf (s := { s with heap := h2, toks := tk2 }) hn hv (x1.mono st2) x2 fun v3 h3 tk3 st3 x3 => k _ _ _ (StaysIn.trans st1 (StaysIn.trans st2 st3)) x3

theorem spl_lits {env : Env} {pos : Pos} : ∀ {es : List Expr} {vs : List PV} {s : Shared} {Q : List Value → Shared → Prop} {E : Value → Shared → Prop}, All2 (fun e v => constE e = some v) es vs →
    (∀ us tk', IsAll prog w s.heap vs us → Q us { s with toks := tk' }) → wpAny (model prog w) A (spliced (backTo pos (starEach es env))) Q E s
  | _, _, s, Q, E, .nil, k => spliced_nil (k [] s.toks (by simp [IsAll]))
  | e :: es, v :: vs, s, Q, E, .cons h1 hr, k => by
    cases e with
    | Constant c kd p1 =>
      have h1' : constPV c = some v := h1
      have ih := fun tk Q' (k' : ∀ us tk', IsAll prog w s.heap vs us → Q' us { s with toks := tk' }) => spl_lits (env := env) (pos := pos) (s := { s with toks := tk }) (Q := Q') (E := E) hr k'
      show wpAny _ _ (spliced ((false, eval (.Constant c kd p1) env) :: backTo pos (starEach es env))) _ _ _
      refine spliced_cons ?_
      have go : ∀ u tk, Is prog w s.heap v u → wpAny (model prog w) A (spliced (backTo pos (starEach es env))) (fun vs_1 s₂ => Q (u :: vs_1) s₂) E { s with toks := tk } := fun u tk hu =>
        ih tk _ fun us tk' hus => k _ _ (by simp only [IsAll]; exact ⟨u, us, rfl, hu, hus⟩)
      unfold constPV at h1'
      split at h1'
      · cases h1'; exact wpAny_Constant_none (go _ s.toks (by simp [Is]))
      · cases h1'; exact wpAny_Constant_bool (go _ s.toks (by simp [Is]))
      · cases h1'; exact wpAny_Constant_int (go _ _ mk_int)
      · split at h1'
        · rename_i hl
          cases h1'; exact Constant_str (go _ _ (mk_str (Nat.le_trans hl (by decide))))
        · cases h1'
      · cases h1'
    | _ => cases h1
theorem All2.length {α β : Type} {R : α → β → Prop} : ∀ {l : List α} {r : List β}, All2 R l r → l.length = r.length
  | _, _, .nil => rfl
  | _, _, .cons _ h => by simp [h.length]
theorem ev_list {es : List Expr} {vs : List PV} {pos : Pos} (hl : es.length ≤ 1000) (h : All2 (fun e v => constE e = some v) es vs) : EvOk prog w gv ff A cn cs L a ccd g (.List es pos) (.lit true vs) := by
  intro ρ s m Q E pv I hv k
  cases hv
  refine List_ (spl_lits h fun us tk' hus => ?_)
  have hn := hus.length
  have hn2 := h.length
  have hv : vs.length ≤ lenLid := Nat.le_trans (by omega) (by decide : 1000 ≤ lenLid)
  refine wpAny_newObj_type (k _ _ _ (push_stays _ _) (mk_list hv ⟨_, Heap.get?_push_size _ rfl, rfl, _, rfl⟩ (hus.mono (push_stays _ _)))) ?_
  show us.toArray.size ≤ sizeLine
  rw [List.size_toArray, hn]; exact Nat.le_trans hv lenLid_le
theorem ev_tuple {es : List Expr} {vs : List PV} {pos : Pos} {kk : Nat} (hl : es.length ≤ 1000) (h : All2 (fun e v => constE e = some v) es vs) : EvOk prog w gv ff A cn cs L a ccd g (.Tuple es kk pos) (.lit false vs) := by
  intro ρ s m Q E pv I hv k
  cases hv
  refine Tuple_ (spl_lits h fun us tk' hus => ?_)
  have hn := hus.length
  have hn2 := h.length
  have hv : vs.length ≤ lenLid := Nat.le_trans (by omega) (by decide : 1000 ≤ lenLid)
  refine wpAny_newObj_type (k _ _ _ (push_stays _ _) (mk_tup hv ⟨_, Heap.get?_push_size _ rfl, rfl, _, rfl⟩ (hus.mono (push_stays _ _)))) ?_
  show us.toArray.size ≤ sizeLine
  rw [List.size_toArray, hn]; exact Nat.le_trans hv lenLid_le

theorem star_comp {n : Nat} {e : Expr} {pe : PE} {env : Env} {r : List Expr} (h : comp cs gn fn n e = some pe) : starEach (e :: r) env = (false, eval e env) :: starEach r env := by
  cases n with
  | zero => simp [comp] at h
  | succ n => cases e <;> first | rfl | (simp [comp] at h)

theorem ev_call0 {f : Str} {np pos : Pos} {i : Nat} (W : Std prog w K p loose mean mg mb D gn gv fn ff) (Df : Def K p loose mean mg mb D A cn cs L a ccd g) (h : nameIx cs fn f = some i) : EvOk prog w gv ff A cn cs L a ccd g (.Call (.Name f np) [] [] pos) (.call0 i) := by
  intro ρ s m Q E pv I hv k
  obtain ⟨h1, h2, h3⟩ := nameIx_kind h
  simp only [pev, Option.bind_eq_some_iff] at hv
  obtain ⟨F, hF, hr⟩ := hv
  obtain ⟨ad, hn, hk, hT⟩ := W.hF i f F h3 hF
  refine wpAny_Call_NameR (nameX_K I.F Df.X (topRead_of Df.T) hn ?_ Df.hk h1 h2)
  exact callWith_K0 (Df.X.keeps I.F.keep) hk (call_leaf Df I (hT [] pv hr []) (by simp [IsAll]) k)
theorem ev_call1 {f : Str} {x : Expr} {px : PE} {np pos : Pos} {i : Nat} (W : Std prog w K p loose mean mg mb D gn gv fn ff) (Df : Def K p loose mean mg mb D A cn cs L a ccd g) (h : nameIx cs fn f = some i) (hs : ∀ env r, starEach (x :: r) env = (false, eval x env) :: starEach r env) (hx : EvOk prog w gv ff A cn cs L a ccd g x px) :
    EvOk prog w gv ff A cn cs L a ccd g (.Call (.Name f np) [x] [] pos) (.call1 i px) := by
  intro ρ s m Q E pv I hv k
  obtain ⟨h1, h2, h3⟩ := nameIx_kind h
  simp only [pev, Option.bind_eq_some_iff] at hv
  obtain ⟨u, hu, F, hF, hr⟩ := hv
  obtain ⟨ad, hn, hk, hT⟩ := W.hF i f F h3 hF
  refine wpAny_Call_NameR (nameX_K I.F Df.X (topRead_of Df.T) hn ?_ Df.hk h1 h2)
  refine callWith_K Df.X hk ?_ (hs _ _)
  rw [hs]
  show wpAny _ _ (spliced [(false, eval x _)]) _ _ _
  refine spliced_cons (hx.ap I hu fun v1 h1 tk1 st1 x1 => spliced_nil ⟨Df.X.keeps (I.grow st1).F.keep, ?_⟩)
  exact call_leaf Df (I.grow st1) (hT [u] pv hr [v1]) (by simp only [IsAll]; exact ⟨v1, [], rfl, x1, rfl⟩) fun v2 h2 tk2 st2 x2 => k _ _ _ (StaysIn.trans st1 st2) x2
theorem ev_call2 {f : Str} {x y : Expr} {px py : PE} {np pos : Pos} {i : Nat} (W : Std prog w K p loose mean mg mb D gn gv fn ff) (Df : Def K p loose mean mg mb D A cn cs L a ccd g) (h : nameIx cs fn f = some i) (hs : ∀ env r, starEach (x :: r) env = (false, eval x env) :: starEach r env)
    (hs2 : ∀ env r, starEach (y :: r) env = (false, eval y env) :: starEach r env) (hx : EvOk prog w gv ff A cn cs L a ccd g x px) (hy : EvOk prog w gv ff A cn cs L a ccd g y py) :
    EvOk prog w gv ff A cn cs L a ccd g (.Call (.Name f np) [x, y] [] pos) (.call2 i px py) := by
  intro ρ s m Q E pv I hv k
  obtain ⟨h1, h2, h3⟩ := nameIx_kind h
  simp only [pev, Option.bind_eq_some_iff] at hv
  obtain ⟨u, hu, v, hv2, F, hF, hr⟩ := hv
  obtain ⟨ad, hn, hk, hT⟩ := W.hF i f F h3 hF
  refine wpAny_Call_NameR (nameX_K I.F Df.X (topRead_of Df.T) hn ?_ Df.hk h1 h2)
  refine callWith_K Df.X hk ?_ (hs _ _) (by rw [hs2]; rfl)
  rw [hs, hs2]
  show wpAny _ _ (spliced [(false, eval x _), (false, eval y _)]) _ _ _
  refine spliced_cons (hx.ap I hu fun v1 h1 tk1 st1 x1 => spliced_cons (hy.ap (I.grow st1) hv2 fun v2 h2 tk2 st2 x2 => spliced_nil ⟨Df.X.keeps ((I.grow st1).grow st2).F.keep, ?_⟩))
  exact call_leaf Df ((I.grow st1).grow st2) (hT [u, v] pv hr [v1, v2]) (by simp only [IsAll]; exact ⟨v1, [v2], rfl, x1.mono st2, v2, [], rfl, x2, rfl⟩) fun v3 h3 tk3 st3 x3 => k _ _ _ (StaysIn.trans st1 (StaysIn.trans st2 st3)) x3
theorem ev_len {x : Expr} {px : PE} {np pos : Pos} (W : Std prog w K p loose mean mg mb D gn gv fn ff) (Df : Def K p loose mean mg mb D A cn cs L a ccd g) (h : cs.names.lookup ("len" : Str) = some .globalImplicit) (hs : ∀ env r, starEach (x :: r) env = (false, eval x env) :: starEach r env) (hx : EvOk prog w gv ff A cn cs L a ccd g x px) :
    EvOk prog w gv ff A cn cs L a ccd g (.Call (.Name ("len" : Str) np) [x] [] pos) (.len px) := by
  intro ρ s m Q E pv I hv k
  simp only [pev, Option.bind_eq_some_iff] at hv
  obtain ⟨u, hu, hr⟩ := hv
  refine Call_name1 (hs _ _) (nameX_B I.F Df.X (topRead_of Df.T) W.hlen.1 W.hlen.2 (by decide) ?_ Df.hk h)
  refine PySem.callWith_builtin1 (hx.ap I hu fun v1 h1 tk1 st1 x1 => ?_)
  unfold plen at hr
  split at hr
  · obtain ⟨hl, t, rfl⟩ := is_str x1
    cases hr
    exact P.len_str (by have := hl; unfold lenLid at this; omega) (k _ _ _ st1 mk_int)
  · rename_i l ps
    cases hr
    cases l with
    | true =>
      obtain ⟨b, vs, rfl, hn, hb, hbv⟩ := is_list x1
      have hlen := hbv.length
      have := call_len_list (prog := prog) (w := w) (A := A) (E := E) (Q := Q) (s := { s with heap := h1, toks := tk1 }) hb (by rw [List.size_toArray, hlen]; have := hn; unfold lenLid at this; omega)
      rw [List.size_toArray, hlen] at this
      exact this (k _ _ _ st1 mk_int)
    | false =>
      obtain ⟨b, vs, rfl, hn, hb, hbv⟩ := is_tup x1
      have hlen := hbv.length
      have := len_tuple (prog := prog) (w := w) (A := A) (E := E) (Q := Q) (s := { s with heap := h1, toks := tk1 }) hb (by rw [List.size_toArray, hlen]; have := hn; unfold lenLid at this; omega)
      rw [List.size_toArray, hlen] at this
      exact this (k _ _ _ st1 mk_int)
  · cases hr
theorem ev_find {o x : Expr} {po px : PE} {apos pos : Pos} (hb : isNameOrSub o = true) (hl : (apos.endLine == pos.line) = true) (hs : ∀ env r, starEach (x :: r) env = (false, eval x env) :: starEach r env) (ho : EvOk prog w gv ff A cn cs L a ccd g o po) (hx : EvOk prog w gv ff A cn cs L a ccd g x px) :
    EvOk prog w gv ff A cn cs L a ccd g (.Call (.Attribute o ("find" : Str) apos) [x] [] pos) (.find po px) := by
  intro ρ s m Q E pv I hv k
  simp only [pev, Option.bind_eq_some_iff] at hv
  obtain ⟨u, hu, v, hv2, hr⟩ := hv
  unfold pfind at hr
  split at hr
  · cases hr
    refine Call_method1 (attributeBase_name _ hb) (hs _ _) hl (ho.ap I hu fun v1 h1 tk1 st1 x1 => ?_)
    obtain ⟨hl, t, rfl⟩ := is_str x1
    refine SB.find (hx.ap (I.grow st1) hv2 fun v2 h2 tk2 st2 x2 => ?_)
    obtain ⟨hl2, t2, rfl⟩ := is_str x2
    exact ⟨_, _, rfl, k _ _ _ (StaysIn.trans st1 st2) mk_int⟩
  · cases hr
theorem ev_ends {o x : Expr} {po px : PE} {apos pos : Pos} (hb : isNameOrSub o = true) (hl : (apos.endLine == pos.line) = true) (hs : ∀ env r, starEach (x :: r) env = (false, eval x env) :: starEach r env) (ho : EvOk prog w gv ff A cn cs L a ccd g o po) (hx : EvOk prog w gv ff A cn cs L a ccd g x px) :
    EvOk prog w gv ff A cn cs L a ccd g (.Call (.Attribute o ("endswith" : Str) apos) [x] [] pos) (.endswith po px) := by
  intro ρ s m Q E pv I hv k
  simp only [pev, Option.bind_eq_some_iff] at hv
  obtain ⟨u, hu, v, hv2, hr⟩ := hv
  unfold pends at hr
  split at hr
  · cases hr
    refine Call_method1 (attributeBase_name _ hb) (hs _ _) hl (ho.ap I hu fun v1 h1 tk1 st1 x1 => ?_)
    obtain ⟨hl, t, rfl⟩ := is_str x1
    refine SB.endswith (hx.ap (I.grow st1) hv2 fun v2 h2 tk2 st2 x2 => ?_)
    obtain ⟨hl2, t2, rfl⟩ := is_str x2
    exact ⟨_, _, rfl, k _ _ _ (StaysIn.trans st1 st2) (by simp [Is])⟩
  · cases hr
theorem get_leaf {h : Heap} {ks : List Str} {ps : List PV} {vs : List Value} {k : Str} {dp : PV} {dv : Value} (ha : IsAll prog w h ps vs) (hd : Is prog w h dp dv) : Is prog w h (((ks.zip ps).lookup k).getD dp) (((ks.zip vs).lookup k).getD dv) := by
  have z := IsAll.zip (k := k) (ks := ks) ha
  cases e : (ks.zip ps).lookup k with
  | none => rw [z.2 e]; exact hd
  | some q => obtain ⟨v, hv, hi⟩ := z.1 q e; rw [hv]; exact hi
theorem ev_get1 {o x : Expr} {po px : PE} {apos pos : Pos} (hb : isNameOrSub o = true) (hl : (apos.endLine == pos.line) = true) (hs : ∀ env r, starEach (x :: r) env = (false, eval x env) :: starEach r env) (ho : EvOk prog w gv ff A cn cs L a ccd g o po) (hx : EvOk prog w gv ff A cn cs L a ccd g x px) :
    EvOk prog w gv ff A cn cs L a ccd g (.Call (.Attribute o ("get" : Str) apos) [x] [] pos) (.get1 po px) := by
  intro ρ s m Q E pv I hv k
  simp only [pev, Option.bind_eq_some_iff] at hv
  obtain ⟨u, hu, v, hv2, hr⟩ := hv
  unfold pget at hr
  split at hr
  · cases hr
    refine Call_method1 (attributeBase_name _ hb) (hs _ _) hl (ho.ap I hu fun v1 h1 tk1 st1 x1 => ?_)
    have x1' := x1
    simp only [Is] at x1'
    obtain ⟨d, vs, rfl, hm, ⟨_, _, _, hds⟩, _, ha⟩ := x1'
    refine ⟨"dict", "dict.get", F.plainAttrs_dict, F.slot_dict_get, F.type_dict_get, hm.typeIs, hm.noDict, wpAny_dict_get1 (knd := strKind prog w) hds (hx.ap (I.grow st1) hv2 fun v2 h2 tk2 st2 x2 => ?_)⟩
    obtain ⟨hl2, t2, rfl⟩ := is_str x2
    exact ⟨_, _, strKind_is _ w _ t2, MapOf.keeps hm st2, k _ _ _ (StaysIn.trans st1 st2) (get_leaf (ha.mono st2) (by simp [Is]))⟩
  · cases hr
theorem ev_get2 {o x y : Expr} {po px py : PE} {apos pos : Pos} (hb : isNameOrSub o = true) (hl : (apos.endLine == pos.line) = true) (hs : ∀ env r, starEach (x :: r) env = (false, eval x env) :: starEach r env)
    (hs2 : ∀ env r, starEach (y :: r) env = (false, eval y env) :: starEach r env) (ho : EvOk prog w gv ff A cn cs L a ccd g o po) (hx : EvOk prog w gv ff A cn cs L a ccd g x px) (hy : EvOk prog w gv ff A cn cs L a ccd g y py) :
    EvOk prog w gv ff A cn cs L a ccd g (.Call (.Attribute o ("get" : Str) apos) [x, y] [] pos) (.get2 po px py) := by
  intro ρ s m Q E pv I hv k
  simp only [pev, Option.bind_eq_some_iff] at hv
  obtain ⟨u, hu, v, hv2, v', hv3, hr⟩ := hv
  unfold pget at hr
  split at hr
  · cases hr
    refine wpAny_Call_method_lateS (attributeBase_name _ hb) (by rw [hs, hs2]; rfl) hl (ho.ap I hu fun v1 h1 tk1 st1 x1 => ?_)
    have x1' := x1
    simp only [Is] at x1'
    obtain ⟨d, vs, rfl, hm, ⟨_, _, _, hds⟩, _, ha⟩ := x1'
    rw [hs, hs2]
    refine ⟨"dict", "dict.get", F.plainAttrs_dict, F.slot_dict_get, F.type_dict_get, hm.typeIs, hm.noDict, wpAny_dict_get2 (knd := strKind prog w) hds (hx.ap (I.grow st1) hv2 fun v2 h2 tk2 st2 x2 => hy.ap ((I.grow st1).grow st2) hv3 fun v3 h3 tk3 st3 x3 => ?_)⟩
    obtain ⟨hl2, t2, rfl⟩ := is_str x2
    exact ⟨_, _, strKind_is _ w _ t2, MapOf.keeps hm (StaysIn.trans st2 st3), k _ _ _ (StaysIn.trans st1 (StaysIn.trans st2 st3)) (get_leaf (ha.mono (StaysIn.trans st2 st3)) x3)⟩
  · cases hr
end
end Mine
end
section
open PySem PySem.W PySem.Calls PySem.Spec PyProof.Rows
namespace Mine

theorem All2.imp {α β : Type} {R S : α → β → Prop} (f : ∀ a b, R a b → S a b) : ∀ {l : List α} {r : List β}, All2 R l r → All2 S l r
  | _, _, .nil => .nil
  | _, _, .cons h r => .cons (f _ _ h) (r.imp f)

section
variable {prog : Program} {w : World} {K : Frag} {p : Program} {loose : List Str} {mean : ExcName → Option Value} {mg mb : Str → Option Value} {D : Nat}
  {gn : List Str} {gv : List PV} {fn : List Str} {ff : List (List PV → Option PV)} {A : Around} {cn : Str} {cs : Scope} {L a : Addr} {ccd : Value} {g : Heap} {ρ : Nat → Option PV}

theorem ev_sound (W : Std prog w K p loose mean mg mb D gn gv fn ff) (Df : Def K p loose mean mg mb D A cn cs L a ccd g) : ∀ (n : Nat) (e : Expr) (pe : PE), comp cs gn fn n e = some pe → EvOk prog w gv ff A cn cs L a ccd g e pe ∧ TsOk prog w gv ff A cn cs L a ccd g e pe := by
  intro n
  induction n with
  | zero => intro e pe h; simp [comp] at h
  | succ n ih =>
    have two : ∀ e pe, EvOk prog w gv ff A cn cs L a ccd g e pe → (∀ env whole, PySem.isTrue e env whole = (do let v ← whole; standAt e.pos; holding [v] (truthy v))) → EvOk prog w gv ff A cn cs L a ccd g e pe ∧ TsOk prog w gv ff A cn cs L a ccd g e pe := fun e pe h hp => ⟨h, ts_plain h hp⟩
    intro e pe h
    unfold comp at h
    split at h
    · simp only [Option.map_eq_some_iff] at h
      obtain ⟨v, hv, rfl⟩ := h
      exact two _ _ (ev_const hv) fun _ _ => rfl
    · split at h
      · rename_i hd
        split at h
        · rename_i i hi
          cases h
          exact two _ _ (ev_loc Df hd hi) fun _ _ => rfl
        · simp only [Option.map_eq_some_iff] at h
          obtain ⟨i, hi, rfl⟩ := h
          exact two _ _ (ev_glob W Df hi) fun _ _ => rfl
      · cases h
    · simp only [Option.bind_eq_some_iff] at h
      obtain ⟨pes, h1, h2⟩ := h
      have := mapM_some h1
      exact ⟨ev_andL (this.imp fun a b e => (ih a b e).1) h2, (ts_andL (this.imp fun a b e => (ih a b e).2) h2).ts⟩
    · simp only [Option.bind_eq_some_iff] at h
      obtain ⟨pes, h1, h2⟩ := h
      have := mapM_some h1
      exact ⟨ev_orL (this.imp fun a b e => (ih a b e).1) h2, (ts_orL (this.imp fun a b e => (ih a b e).2) h2).ts⟩
    · simp only [Option.map_eq_some_iff] at h
      obtain ⟨v, hv, rfl⟩ := h
      exact ⟨ev_not (ih _ _ hv).1, (ts_not (ih _ _ hv).2).ts⟩
    · simp only [Option.map_eq_some_iff] at h
      obtain ⟨v, hv, rfl⟩ := h
      exact two _ _ (ev_neg (ih _ _ hv).1) fun _ _ => rfl
    · simp only [Option.bind_eq_some_iff, Option.map_eq_some_iff] at h
      obtain ⟨t, ht, x, hx, y, hy, rfl⟩ := h
      exact ⟨ev_ifexp (ih _ _ ht).2 (ih _ _ hx).1 (ih _ _ hy).1, (ts_ifexp (ih _ _ ht).2 (ih _ _ hx).2 (ih _ _ hy).2).ts⟩
    · split at h
      · simp only [Option.bind_eq_some_iff, Option.map_eq_some_iff] at h
        obtain ⟨x, hx, y, hy, rfl⟩ := h
        exact two _ _ (ev_bin (ih _ _ hx).1 (ih _ _ hy).1) fun _ _ => rfl
      · cases h
    · split at h
      · rename_i hm
        simp only [Option.bind_eq_some_iff, Option.map_eq_some_iff] at h
        obtain ⟨x, hx, y, hy, rfl⟩ := h
        exact ⟨ev_cmp Df hm (ih _ _ hx).1 (ih _ _ hy).1, (ts_cmp Df hm (ih _ _ hx).1 (ih _ _ hy).1).ts⟩
      · cases h
    · split at h
      · rename_i hm
        simp only [Option.bind_eq_some_iff, Option.map_eq_some_iff] at h
        obtain ⟨x, hx, y, hy, rfl⟩ := h
        exact two _ _ (ev_sliceTo hm (ih _ _ hx).1 (ih _ _ hy).1) fun _ _ => rfl
      · cases h
    · split at h
      · rename_i hm
        simp only [Option.bind_eq_some_iff, Option.map_eq_some_iff] at h
        obtain ⟨x, hx, y, hy, rfl⟩ := h
        exact two _ _ (ev_sliceFrom hm (ih _ _ hx).1 (ih _ _ hy).1) fun _ _ => rfl
      · cases h
    · split at h
      · cases h
      · rename_i hm
        simp only [Option.bind_eq_some_iff, Option.map_eq_some_iff] at h
        obtain ⟨x, hx, y, hy, rfl⟩ := h
        exact two _ _ (ev_idx (by simpa using hm) (ih _ _ hx).1 (ih _ _ hy).1) fun _ _ => rfl
    · split at h
      · rename_i hl
        simp only [Option.map_eq_some_iff] at h
        obtain ⟨vs, hv, rfl⟩ := h
        exact two _ _ (ev_list hl (mapM_some hv)) fun _ _ => rfl
      · cases h
    · split at h
      · rename_i hl
        simp only [Option.map_eq_some_iff] at h
        obtain ⟨vs, hv, rfl⟩ := h
        exact two _ _ (ev_tuple hl (mapM_some hv)) fun _ _ => rfl
      · cases h
    · simp only [Option.map_eq_some_iff] at h
      obtain ⟨i, hi, rfl⟩ := h
      exact two _ _ (ev_call0 W Df hi) fun _ _ => rfl
    · split at h
      · rename_i hi
        simp only [Option.map_eq_some_iff] at h
        obtain ⟨x, hx, rfl⟩ := h
        exact two _ _ (ev_call1 W Df hi (fun _ _ => star_comp hx) (ih _ _ hx).1) fun _ _ => rfl
      · split at h
        · rename_i hl
          simp only [Option.map_eq_some_iff] at h
          obtain ⟨x, hx, rfl⟩ := h
          obtain ⟨hl, rfl⟩ := hl
          exact two _ _ (ev_len W Df hl (fun _ _ => star_comp hx) (ih _ _ hx).1) fun _ _ => rfl
        · cases h
    · simp only [Option.bind_eq_some_iff, Option.map_eq_some_iff] at h
      obtain ⟨i, hi, x, hx, y, hy, rfl⟩ := h
      exact two _ _ (ev_call2 W Df hi (fun _ _ => star_comp hx) (fun _ _ => star_comp hy) (ih _ _ hx).1 (ih _ _ hy).1) fun _ _ => rfl
    · split at h
      · rename_i hm
        simp only [Option.bind_eq_some_iff] at h
        obtain ⟨o, ho, x, hx, h⟩ := h
        split at h
        · rename_i hname
          subst hname; cases h
          exact two _ _ (ev_find hm.1 hm.2 (fun _ _ => star_comp hx) (ih _ _ ho).1 (ih _ _ hx).1) fun _ _ => rfl
        · split at h
          · rename_i hname
            subst hname; cases h
            exact two _ _ (ev_ends hm.1 hm.2 (fun _ _ => star_comp hx) (ih _ _ ho).1 (ih _ _ hx).1) fun _ _ => rfl
          · split at h
            · rename_i hname
              subst hname; cases h
              exact two _ _ (ev_get1 hm.1 hm.2 (fun _ _ => star_comp hx) (ih _ _ ho).1 (ih _ _ hx).1) fun _ _ => rfl
            · cases h
      · cases h
    · split at h
      · rename_i hm
        simp only [Option.bind_eq_some_iff, Option.map_eq_some_iff] at h
        obtain ⟨o, ho, x, hx, y, hy, rfl⟩ := h
        obtain ⟨h1, h2, rfl⟩ := hm
        exact two _ _ (ev_get2 h1 h2 (fun _ _ => star_comp hx) (fun _ _ => star_comp hy) (ih _ _ ho).1 (ih _ _ hx).1 (ih _ _ hy).1) fun _ _ => rfl
      · cases h
    · cases h
end
end Mine
end
section
open PySem PySem.W PySem.Calls PySem.Spec PyProof.Rows
namespace Mine

inductive PS where
  | nil
  | assign (i : Nat) (e : PE) (k : PS)
  | unpack (is : List Nat) (e : PE) (k : PS)
  | aug (i : Nat) (e : PE) (k : PS)
  | ite (c : PE) (a b k : PS)
  | whil (c : PE) (b k : PS)
  | for1 (i : Nat) (e : PE) (b k : PS)
  | forN (is : List Nat) (e : PE) (b k : PS)
  | ret (e : PE)

noncomputable def locE (cs : Scope) : Expr → Option Nat
  | .Name x _ => locIx cs x
  | _ => none
noncomputable def isTupleE : Expr → Bool
  | .Tuple .. => true
  | _ => false

noncomputable def compS (cs : Scope) (gn fn : List Str) : Nat → List Stmt → Option PS
  | 0, _ => none
  | _ + 1, [] => some .nil
  | n + 1, st :: rest => match st with
    | .Assign [.Name x _] value _ => (locIx cs x).bind fun i => (comp cs gn fn n value).bind fun e => (compS cs gn fn n rest).map fun k => .assign i e k
    | .Assign [.Tuple ts _ _] value _ => if isTupleE value then none else (ts.mapM (locE cs)).bind fun is => (comp cs gn fn n value).bind fun e => (compS cs gn fn n rest).map fun k => .unpack is e k
    | .AugAssign (.Name x _) .Sub value _ => (locIx cs x).bind fun i => (comp cs gn fn n value).bind fun e => (compS cs gn fn n rest).map fun k => .aug i e k
    | .If t a b _ => (comp cs gn fn n t).bind fun c => (compS cs gn fn n a).bind fun a' => (compS cs gn fn n b).bind fun b' => (compS cs gn fn n rest).map fun k => .ite c a' b' k
    | .While t b [] _ => (comp cs gn fn n t).bind fun c => (compS cs gn fn n b).bind fun b' => (compS cs gn fn n rest).map fun k => .whil c b' k
    | .For (.Name x _) it b [] _ => (locIx cs x).bind fun i => (comp cs gn fn n it).bind fun e => (compS cs gn fn n b).bind fun b' => (compS cs gn fn n rest).map fun k => .for1 i e b' k
    | .For (.Tuple ts _ _) it b [] _ => (ts.mapM (locE cs)).bind fun is => (comp cs gn fn n it).bind fun e => (compS cs gn fn n b).bind fun b' => (compS cs gn fn n rest).map fun k => .forN is e b' k
    | .Return (some e) _ => (comp cs gn fn n e).map .ret
    | _ => none

inductive PF where
  | next (ρ : Nat → Option PV)
  | ret (v : PV)
noncomputable def upd (ρ : Nat → Option PV) (i : Nat) (v : PV) : Nat → Option PV := fun j => if j = i then some v else ρ j
noncomputable def store (ρ : Nat → Option PV) (i : Nat) (v : PV) : Option (Nat → Option PV) := if v.nodict then some (upd ρ i v) else none
noncomputable def stores : (Nat → Option PV) → List Nat → List PV → Option (Nat → Option PV)
  | ρ, [], [] => some ρ
  | ρ, i :: is, v :: vs => (store ρ i v).bind fun ρ' => stores ρ' is vs
  | _, _, _ => none
noncomputable def charsP (x : Str) : List PV := x.cps.toList.map fun c => .str ⟨#[c]⟩
noncomputable def itemsP : PV → Option (List PV)
  | .seq false vs => some vs
  | .str x => some (charsP x)
  | _ => none
noncomputable def pfor (step : (Nat → Option PV) → PV → Option PF) : List PV → (Nat → Option PV) → Option PF
  | [], ρ => some (.next ρ)
  | v :: r, ρ => (step ρ v).bind fun f => match f with
    | .next ρ' => pfor step r ρ'
    | .ret v => some (.ret v)
noncomputable def pwhile (test : (Nat → Option PV) → Option Bool) (body : (Nat → Option PV) → Option PF) : Nat → (Nat → Option PV) → Option PF
  | 0, _ => none
  | n + 1, ρ => (test ρ).bind fun t => if t then (body ρ).bind fun f => (match f with
      | .next ρ' => pwhile test body n ρ'
      | .ret v => some (.ret v)) else some (.next ρ)
noncomputable def listP : PV → Option (List PV)
  | .seq true vs => if nodicts vs then some vs else none
  | _ => none

noncomputable def pex (gv : List PV) (ff : List (List PV → Option PV)) (N : Nat) : PS → (Nat → Option PV) → Option PF
  | .nil, ρ => some (.next ρ)
  | .assign i e k, ρ => (pev gv ff ρ e).bind fun v => (store ρ i v).bind fun ρ' => pex gv ff N k ρ'
  | .unpack is e k, ρ => (pev gv ff ρ e).bind fun v => (itemsP v).bind fun vs => (stores ρ is vs).bind fun ρ' => pex gv ff N k ρ'
  | .aug i e k, ρ => (ρ i).bind fun o => (pev gv ff ρ e).bind fun v => (match o, v with
      | .int x, .int y => pex gv ff N k (upd ρ i (.int (x - y)))
      | _, _ => none)
  | .ite c a b k, ρ => (pev gv ff ρ c).bind fun v => (truth v).bind fun t => (if t then pex gv ff N a ρ else pex gv ff N b ρ).bind fun f => (match f with
      | .next ρ' => pex gv ff N k ρ'
      | .ret v => some (.ret v))
  | .whil c b k, ρ => (pwhile (fun ρ => (pev gv ff ρ c).bind truth) (pex gv ff N b) N ρ).bind fun f => (match f with
      | .next ρ' => pex gv ff N k ρ'
      | .ret v => some (.ret v))
  | .for1 i e b k, ρ => (pev gv ff ρ e).bind fun v => (listP v).bind fun vs => (pfor (fun ρ v => (store ρ i v).bind (pex gv ff N b)) vs ρ).bind fun f => (match f with
      | .next ρ' => pex gv ff N k ρ'
      | .ret v => some (.ret v))
  | .forN is e b k, ρ => (pev gv ff ρ e).bind fun v => (listP v).bind fun vs => (pfor (fun ρ v => (itemsP v).bind fun us => (stores ρ is us).bind (pex gv ff N b)) vs ρ).bind fun f => (match f with
      | .next ρ' => pex gv ff N k ρ'
      | .ret v => some (.ret v))
  | .ret e, ρ => (pev gv ff ρ e).map .ret

section
variable {prog : Program} {w : World} {K : Frag} {p : Program} {loose : List Str} {mean : ExcName → Option Value} {mg mb : Str → Option Value} {D : Nat}
  {gn : List Str} {gv : List PV} {fn : List Str} {ff : List (List PV → Option PV)} {A : Around} {cn : Str} {cs : Scope} {L a : Addr} {ccd : Value} {g : Heap} {ρ : Nat → Option PV}

theorem locIx_inj {x y : Str} {i : Nat} (hx : locIx cs x = some i) (hy : locIx cs y = some i) : y = x := by
  obtain ⟨kx, rfl⟩ := locIx_kind hx
  obtain ⟨ky, e⟩ := locIx_kind hy
  have mem : ∀ z, cs.names.lookup z = some .local → ∃ q ∈ cs.names, (q.1 == z) = true := by
    intro z
    induction cs.names with
    | nil => intro h; cases h
    | cons q r ih =>
      intro h
      rw [List.lookup_cons] at h
      cases hq : z == q.1 with
      | true => exact ⟨q, by simp, by rw [eq_of_beq hq]; simp⟩
      | false => rw [hq] at h; obtain ⟨q', m', e'⟩ := ih h; exact ⟨q', by simp [m'], e'⟩
  have lx := List.findIdx_lt_length_of_exists (mem x kx)
  have ly := List.findIdx_lt_length_of_exists (mem y ky)
  have gx := List.findIdx_getElem (p := fun q : Str × NameKind => q.1 == x) (w := lx)
  have gy := List.findIdx_getElem (p := fun q : Str × NameKind => q.1 == y) (w := ly)
  have e2 : cs.names[cs.names.findIdx (fun q => q.1 == y)].1 = cs.names[cs.names.findIdx (fun q => q.1 == x)].1 := by
    congr 1
    exact getElem_congr_idx e.symm
  have a1 := eq_of_beq gx
  have a2 := eq_of_beq gy
  rw [← a1, ← a2, e2]

theorem store_leaf {x : Str} {i : Nat} {pv : PV} {v : Value} {s : Shared} {m : Str → Option Value} {Q : Unit → Shared → Prop} {E : Value → Shared → Prop} (Df : Def K p loose mean mg mb D A cn cs L a ccd g) (h : locIx cs x = some i) (I : Inv prog w cs ρ g L s.heap m) (hv : Is prog w s.heap pv v) (hd : pv.nodict = true)
    (k : ∀ h' tk' m', Heap.ExtBut L s.heap h' → Inv prog w cs (upd ρ i pv) g L h' m' → Q () { s with heap := h', toks := tk' }) : wpAny (model prog w) A (storeName (envX cn cs L a ccd []) x v) Q E s := by
  refine wpAny_storeName_local (locIx_kind h).1 I.F.ns (fun h' hn hs => k h' _ _ hs.extBut ⟨I.F.set hn hs, fun y j qv hj hq => ?_⟩) (by show (cs.kind == .class || (cs.kind == .module && L != mainGlobals)) = false; rw [Df.hk]; rfl)
  have sk : SeqKeep s.heap h' := SeqKeep.set I.F.ns hs
  unfold upd at hq
  by_cases e : j = i
  · subst e
    rw [if_pos rfl] at hq; cases hq
    have := locIx_inj h hj
    subst this
    exact ⟨v, by simp, hv.seqKeep sk hd, hd⟩
  · rw [if_neg e] at hq
    have hne : y ≠ x := by
      intro q; subst q
      rw [h] at hj; cases hj; exact e rfl
    obtain ⟨u, hu, hi, hn'⟩ := I.val y j qv hj hq
    exact ⟨u, by simp [hne, hu], hi.seqKeep sk hn', hn'⟩

theorem ExtBut.of_stays {h h' : Heap} {b : Addr} (k : h.StaysIn h') : Heap.ExtBut b h h' := fun _ _ _ e => k _ _ e
theorem ExtBut.seqKeep {h h' : Heap} {m : Str → Option Value} (F : h.Ns L m) (k : Heap.ExtBut L h h') : SeqKeep h h' := by
  intro a o xs n e d
  obtain ⟨oL, es, ep, eL, dL, _⟩ := F
  refine k a o ?_ e
  intro q; subst q
  rw [e] at eL; cases eL
  rw [d] at dL; cases dL

theorem locE_name {e : Expr} {i : Nat} (h : locE cs e = some i) : ∃ x pos, e = .Name x pos ∧ locIx cs x = some i := by
  cases e <;> first | exact ⟨_, _, rfl, h⟩ | cases h

theorem stores_leaf (Df : Def K p loose mean mg mb D A cn cs L a ccd g) : ∀ {ts : List Expr} {is : List Nat} {vs : List PV} {us : List Value} {ρ ρ' : Nat → Option PV} {s : Shared} {m : Str → Option Value} {Q : Unit → Shared → Prop} {E : Value → Shared → Prop},
    All2 (fun e i => locE cs e = some i) ts is → stores ρ is vs = some ρ' → IsAll prog w s.heap vs us → Inv prog w cs ρ g L s.heap m →
    (∀ h' tk' m', Heap.ExtBut L s.heap h' → Inv prog w cs ρ' g L h' m' → Q () { s with heap := h', toks := tk' }) →
    wpAny (model prog w) A (assignInOrder ((assignEach ts (envX cn cs L a ccd [])).map (·.2)) us) Q E s
  | _, _, vs, us, ρ, ρ', s, m, Q, E, .nil, hs, hv, I, k => by
    cases vs with
    | nil =>
      cases hs
      simp only [IsAll] at hv; subst hv
      exact wpAny_pure (k s.heap s.toks m (fun _ _ _ e => e) I)
    | cons => cases hs
  | t :: ts, i :: is, vs, us, ρ, ρ', s, m, Q, E, .cons h1 hr, hs, hv, I, k => by
    cases vs with
    | nil => cases hs
    | cons v vs =>
      simp only [stores, Option.bind_eq_some_iff] at hs
      obtain ⟨ρ1, hs1, hs2⟩ := hs
      unfold store at hs1
      split at hs1
      · rename_i hd
        cases hs1
        simp only [IsAll] at hv
        obtain ⟨u, r, rfl, hu, hrr⟩ := hv
        obtain ⟨x, pos, rfl, hx⟩ := locE_name h1
        show wpAny _ _ (do holding r (assign (.Name x pos) (envX cn cs L a ccd []) u); assignInOrder ((assignEach ts (envX cn cs L a ccd [])).map (·.2)) r) _ _ _
        refine wpAny_bind (wpAny_holding (wpAny_assign_Name (store_leaf Df hx I hu hd fun h' tk' m' he I' => ?_)))
        have sk := ExtBut.seqKeep I.F.ns he
        have hrr' : IsAll prog w h' vs r := by
          have go : ∀ {vs : List PV} {is : List Nat} {ρ1 : Nat → Option PV} {r : List Value}, stores ρ1 is vs = some ρ' → IsAll prog w s.heap vs r → IsAll prog w h' vs r := by
            intro vs
            induction vs with
            | nil => intro is ρ1 r _ h; simpa [IsAll] using h
            | cons v vs ih =>
              intro is ρ1 r hs h
              cases is with
              | nil => cases hs
              | cons i is =>
                simp only [stores, Option.bind_eq_some_iff] at hs
                obtain ⟨ρ2, h2, h3⟩ := hs
                unfold store at h2
                split at h2
                · rename_i hd2
                  simp only [IsAll] at h ⊢
                  obtain ⟨u2, r2, rfl, hu2, hr2⟩ := h
                  exact ⟨u2, r2, rfl, hu2.seqKeep sk hd2, ih h3 hr2⟩
                · cases h2
          exact go hs2 hrr
        exact stores_leaf Df hr hs2 hrr' I' fun h2 tk2 m2 he2 I2 => k h2 tk2 m2 (fun b o hb e => he2 b o hb (he b o hb e)) I2
      · cases hs1
end
end Mine
end
section
open PySem PySem.W PySem.Calls PySem.Spec PyProof.Rows
namespace Mine

section
variable {prog : Program} {w : World} {K : Frag} {p : Program} {loose : List Str} {mean : ExcName → Option Value} {mg mb : Str → Option Value} {D : Nat}
  {gn : List Str} {gv : List PV} {fn : List Str} {ff : List (List PV → Option PV)} {A : Around} {cn : Str} {cs : Scope} {L a : Addr} {ccd : Value} {g : Heap} {ρ : Nat → Option PV}

theorem draw_walks {E : Value → Shared → Prop} {I : Addr} {n : Nat} {P : Nat → Value → Prop} {St : Nat → Heap → Prop} (W : Walks prog w A I [I] [I] n P St) : ∀ (k i : Nat) (s : Shared) (Q : List Value → Shared → Prop), i + k ≤ n → St i s.heap →
    (∀ vs h' tk', vs.length = k → (∀ (j : Nat) v, vs[j]? = some v → P (i + j) v) → St (i + k) h' → Heap.ExtBut I s.heap h' → Q vs { s with heap := h', toks := tk' }) → wpAny (model prog w) A (draw (.ref I) k) Q E s
  | 0, i, s, Q, _, st, k => by
    show wpAny _ _ (pure []) Q E s
    exact wpAny_pure (k [] s.heap s.toks rfl (by simp) st (fun _ _ _ e => e))
  | n' + 1, i, s, Q, hle, st, k => by
    show wpAny _ _ (pyNext (.ref I) >>= _) Q E s
    refine wpAny_bind (W.item i s _ _ (by omega) st fun v h1 tk1 hP st1 he1 => ?_)
    refine wpAny_bind (wpAny_holding (draw_walks W n' (i + 1) _ _ (by omega) st1 fun vs h2 tk2 hl hp st2 he2 => wpAny_pure ?_))
    refine k (v :: vs) h2 tk2 (by simp [hl]) ?_ (by rw [show i + (n' + 1) = i + 1 + n' by omega]; exact st2) (fun b o hb e => he2 b o hb (he1 b o (by simpa using hb) e))
    intro j u hj
    cases j with
    | zero => simp at hj; subst hj; exact hP
    | succ j => rw [show i + (j + 1) = i + 1 + j by omega]; exact hp j u (by simpa using hj)

theorem IsAll.of_at {h : Heap} : ∀ {ps : List PV} {vs : List Value}, vs.length = ps.length → (∀ (j : Nat) p v, ps[j]? = some p → vs[j]? = some v → Is prog w h p v) → IsAll prog w h ps vs
  | [], vs, hl, _ => by simp only [IsAll]; exact List.length_eq_zero_iff.mp hl
  | p :: ps, [], hl, _ => by simp at hl
  | p :: ps, v :: vs, hl, hp => by
    simp only [IsAll]
    exact ⟨v, vs, rfl, hp 0 p v rfl rfl, IsAll.of_at (by simpa using hl) fun j q u h1 h2 => hp (j + 1) q u (by simpa using h1) (by simpa using h2)⟩

theorem unpackItems_str {s : Shared} {E : Value → Shared → Prop} {x : Str} {t : Tok} {n : Nat} {Q : List Value → Shared → Prop} (hh : A.handled = none) (hn : n = x.cps.size)
    (k : ∀ vs h' tk', s.heap.StaysIn h' → IsAll prog w h' (charsP x) vs → Q vs { s with heap := h', toks := tk' }) : wpAny (model prog w) A (unpackItems (.str x t) n none) Q E s := by
  subst hn
  unfold unpackItems
  refine wpAny_bind ?_
  unfold notIterableAtAll
  refine wpAny_bind (wpAny_specialOf (typeIs_str s x t) F.slot_str_iter.lookup ?_)
  refine wpAny_pure ?_
  simp only [Bool.false_eq_true, if_false]
  refine wpAny_bind (wpAny_holding (wpAny_pyIter_str fun o St W st => ?_))
  refine wpAny_bind (wpAny_holding (draw_walks (W A hh) x.cps.size 0 _ _ (by omega) st fun vs h1 tk1 hl hp st1 he1 => ?_))
  rw [if_neg (by omega)]
  refine wpAny_bind (wpAny_holding ((W A hh).done _ _ _ (by simpa using st1) fun h2 tk2 he2 => ?_))
  simp only [Option.isSome_none, Bool.false_eq_true, if_false]
  refine wpAny_pure (k vs h2 tk2 (fun b o e => ?_) ?_)
  · have hb : b ≠ s.heap.objs.size := Nat.ne_of_lt (Heap.lt_size e)
    exact he2 b o (by simpa using hb) (he1 b o hb (Heap.get?_push_of_some _ e))
  · refine IsAll.of_at (by simp [charsP, hl]) fun j q u h1 h2 => ?_
    obtain ⟨c, tt, hc, rfl⟩ := hp j u h2
    simp only [charsP, List.getElem?_map, Array.getElem?_toList, Option.map_eq_some_iff] at h1
    obtain ⟨c', hc', rfl⟩ := h1
    rw [Nat.zero_add] at hc
    rw [hc] at hc'; cases hc'
    exact mk_str (show 1 ≤ lenLid by decide)

theorem assignEach_names {env : Env} : ∀ {ts : List Expr} {is : List Nat}, All2 (fun e i => locE cs e = some i) ts is → (assignEach ts env).length = ts.length ∧ (assignEach ts env).findIdx? (·.1) = none
  | _, _, .nil => ⟨rfl, rfl⟩
  | _ :: ts, _, .cons h1 hr => by
    obtain ⟨x, pos, rfl, hx⟩ := locE_name h1
    obtain ⟨e1, e2⟩ := assignEach_names (env := env) hr
    refine ⟨?_, ?_⟩
    · show (_ :: assignEach ts env).length = _
      simp [e1]
    · show ((false, assign _ env) :: assignEach ts env).findIdx? (·.1) = none
      rw [List.findIdx?_cons]
      simp [e2]
theorem stores_length : ∀ {is : List Nat} {vs : List PV} {ρ ρ' : Nat → Option PV}, stores ρ is vs = some ρ' → vs.length = is.length
  | [], [], _, _, _ => rfl
  | [], _ :: _, _, _, h => by cases h
  | _ :: _, [], _, _, h => by cases h
  | i :: is, v :: vs, ρ, ρ', h => by
    simp only [stores, Option.bind_eq_some_iff] at h
    obtain ⟨ρ1, _, h2⟩ := h
    simp [stores_length h2]

theorem unpack_leaf {ts : List Expr} {is : List Nat} {kk : Nat} {pos : Pos} {pv : PV} {vs : List PV} {v : Value} {ρ ρ' : Nat → Option PV} {s : Shared} {m : Str → Option Value} {Q : Unit → Shared → Prop} {E : Value → Shared → Prop}
    (Df : Def K p loose mean mg mb D A cn cs L a ccd g) (ht : All2 (fun e i => locE cs e = some i) ts is) (hi : itemsP pv = some vs) (hs : stores ρ is vs = some ρ') (hv : Is prog w s.heap pv v) (I : Inv prog w cs ρ g L s.heap m)
    (k : ∀ h' tk' m', Heap.ExtBut L s.heap h' → Inv prog w cs ρ' g L h' m' → Q () { s with heap := h', toks := tk' }) : wpAny (model prog w) A (assign (.Tuple ts kk pos) (envX cn cs L a ccd []) v) Q E s := by
  obtain ⟨e1, e2⟩ := assignEach_names (env := envX cn cs L a ccd []) ht
  have hl := stores_length hs
  have hl2 := ht.length
  rw [arm_assign_Tuple]
  refine wpAny_bind (wpAny_standAt ?_)
  unfold itemsP at hi
  split at hi
  · cases hi
    obtain ⟨b, us, rfl, hn, hb, hbv⟩ := is_tup hv
    have hlen := hbv.length
    refine wpAny_unpack_tuple Df.hh hb (by rw [e1, List.size_toArray]; omega) e2 fun h' he => ?_
    have st : s.heap.StaysIn h' := fun b o e => he b o (Nat.ne_of_lt (Heap.lt_size e)) e
    exact stores_leaf Df ht hs (by simpa using hbv.mono st) (I.grow st) fun h2 tk2 m2 he2 I2 => k h2 tk2 m2 (fun b o hb e => he2 b o hb (st b o e)) I2
  · cases hi
    obtain ⟨hl3, t, rfl⟩ := is_str hv
    unfold unpack
    rw [e1, e2]
    refine wpAny_bind (wpAny_holding (unpackItems_str Df.hh (by rw [hl2, ← hl]; simp [charsP]) fun us h1 tk1 st hus => ?_))
    exact stores_leaf Df ht hs hus (I.grow st) fun h2 tk2 m2 he2 I2 => k h2 tk2 m2 (fun b o hb e => he2 b o hb (st b o e)) I2
  · cases hi

noncomputable def AfterF (prog : Program) (w : World) (cs : Scope) (g : Heap) (L : Addr) (r : PF) (Q : Flow → Shared → Prop) (s : Shared) : Prop := match r with
  | .next ρ' => ∀ h' tk' m', Heap.ExtBut L s.heap h' → Inv prog w cs ρ' g L h' m' → Q .next { s with heap := h', toks := tk' }
  | .ret pv => ∀ v h' tk' m', Heap.ExtBut L s.heap h' → Fr g L h' m' → Is prog w h' pv v → Q (.ret v) { s with heap := h', toks := tk' }
theorem AfterF.after {r : PF} {Q : Flow → Shared → Prop} {s : Shared} {h1 : Heap} {tk1 : Nat} (k : AfterF prog w cs g L r Q s) (x : Heap.ExtBut L s.heap h1) : AfterF prog w cs g L r Q { s with heap := h1, toks := tk1 } := by
  cases r with
  | next ρ' => exact fun h' tk' m' he I => k h' tk' m' (fun b o hb e => he b o hb (x b o hb e)) I
  | ret pv => exact fun v h' tk' m' he F hi => k v h' tk' m' (fun b o hb e => he b o hb (x b o hb e)) F hi

noncomputable def BodyOk (prog : Program) (w : World) (A : Around) (cn : Str) (cs : Scope) (L a : Addr) (ccd : Value) (g : Heap) (body : List Stmt) (sem : (Nat → Option PV) → Option PF) : Prop :=
  ∀ (ρ : Nat → Option PV) (s : Shared) (m : Str → Option Value) (Q : Flow → Shared → Prop) (E : Value → Shared → Prop) (r : PF), Inv prog w cs ρ g L s.heap m → sem ρ = some r → AfterF prog w cs g L r Q s →
    wpAny (model prog w) A (execs body (envX cn cs L a ccd [])) Q E s

theorem while_leaf {test : Expr} {body : List Stmt} {c : PE} {sem : (Nat → Option PV) → Option PF} (ht : TsOk prog w gv ff A cn cs L a ccd g test c) (hb : BodyOk prog w A cn cs L a ccd g body sem) :
    ∀ (n : Nat) (ρ : Nat → Option PV) (s : Shared) (m : Str → Option Value) (R : Result → Shared → Prop) (r : PF), Inv prog w cs ρ g L s.heap m → pwhile (fun ρ => (pev gv ff ρ c).bind truth) sem n ρ = some r → AfterF prog w cs g L r (fun f s' => R (.ok f) s') s →
      codeAny (model prog w) A (.whileLoop test body [] (envX cn cs L a ccd [])) R s := by
  intro n
  induction n with
  | zero => intro ρ s m R r _ h; cases h
  | succ n ih =>
    intro ρ s m R r I h k
    simp only [pwhile, Option.bind_eq_some_iff] at h
    obtain ⟨t, ⟨v, hv, htr⟩, h⟩ := h
    refine codeAny_of_tree ?_
    show wpAny _ A ((whileTurn test body [] (envX cn cs L a ccd [])).onRaise (fun x => do noteFrame x (envX cn cs L a ccd []); theTreesLotGoes x)) _ _ s
    refine wpAny_noted ?_
    simp only [whileTurn]
    refine wpAny_bind (ht.ap rfl I hv htr fun h1 tk1 st => ?_)
    cases t with
    | false =>
      simp only [Bool.false_eq_true, if_false] at h ⊢
      cases h
      exact wpAny_bind (wpAny_execs_nil (wpAny_pure (k h1 tk1 m (ExtBut.of_stays st) (I.grow st))))
    | true =>
      simp only [if_true, Option.bind_eq_some_iff] at h ⊢
      obtain ⟨f, hf, h⟩ := h
      refine wpAny_bind (hb ρ _ m _ _ f (I.grow st) hf ?_)
      cases f with
      | next ρ' => exact fun h2 tk2 m2 he I2 => wpAny_pure ⟨rfl, ih ρ' _ m2 R r I2 h (k.after fun b o hb e => he b o hb (st _ _ e))⟩
      | ret pv =>
        cases h
        exact fun u h2 tk2 m2 he F hi => wpAny_pure (k u h2 tk2 m2 (fun b o hb e => he b o hb (st _ _ e)) F hi)

theorem letOwned_list {target : Expr} {it l : Addr} {i : Nat} {v : Value} {s : Shared} {Q : Unit → Shared → Prop} {E : Value → Shared → Prop} (hit : s.heap.IsListIter it l i) (k : Q () s) : wpAny (model prog w) A (letOwnedTupleGo target (.ref it) v) Q E s := by
  obtain ⟨o, ho, hc, hd⟩ := hit
  have go : ∀ b : Addr, wpAny (model prog w) A (do
      let o ← load it
      match o.cls, o.data with
      | .type n, .fields vs =>
        if ["enumerate", "zip", "dict_itemiterator", "dict_reverseitemiterator", "odict_iterator", "itertools.zip_longest", "itertools.pairwise"].contains n && vs[0]? == some (rawInt b) then
          rule "for.unpacks-the-owned-tuple"
          updateField it 0 .none
      | _, _ => pure () : Sem Unit) Q E s := by
    intro b
    refine wpAny_bind (wpAny_load ho ?_)
    rw [hc, hd]
    have e : (["enumerate", "zip", "dict_itemiterator", "dict_reverseitemiterator", "odict_iterator", "itertools.zip_longest", "itertools.pairwise"].contains "list_iterator") = false := by decide
    dsimp only
    rw [e, Bool.false_and, if_neg Bool.false_ne_true]
    exact wpAny_pure k
  unfold letOwnedTupleGo
  cases target <;> first | exact wpAny_pure k | (cases v <;> first | exact wpAny_pure k | exact go _)

theorem for_leaf {target : Expr} {body : List Stmt} {step : (Nat → Option PV) → PV → Option PF} (Df : Def K p loose mean mg mb D A cn cs L a ccd g)
    (turn : ∀ (ρ : Nat → Option PV) (s : Shared) (m : Str → Option Value) (pv : PV) (v : Value) (r : PF) (Q : Flow → Shared → Prop) (E E' : Value → Shared → Prop), Inv prog w cs ρ g L s.heap m → Is prog w s.heap pv v → step ρ pv = some r → AfterF prog w cs g L r Q s →
      wpAny (model prog w) A (assign target (envX cn cs L a ccd []) v) (fun _ s₂ => wpAny (model prog w) A (execs body (envX cn cs L a ccd [])) Q E' s₂) E s)
    {it l : Addr} {items : List Value} {h0 : Heap} (hne : l ≠ L) (hitL : it ≠ L) (hitl : l ≠ it) (hitg : g.objs.size ≤ it) (hit0 : h0.get? it = none) :
    ∀ (rest : List PV) (i : Nat) (ρ : Nat → Option PV) (s : Shared) (m : Str → Option Value) (R : Result → Shared → Prop) (r : PF), i + rest.length = items.length → IsAll prog w s.heap rest (items.drop i) → nodicts rest = true → s.heap.IsListIter it l i → s.heap.IsList l items.toArray → Heap.ExtBut L h0 s.heap → Inv prog w cs ρ g L s.heap m → pfor step rest ρ = some r →
      (match r with
        | .next ρ' => ∀ h' tk' m', Heap.ExtBut L h0 h' → Inv prog w cs ρ' g L h' m' → R (.ok .next) { s with heap := h', toks := tk' }
        | .ret pv => ∀ v h' tk' m', Heap.ExtBut L h0 h' → Fr g L h' m' → Is prog w h' pv v → R (.ok (.ret v)) { s with heap := h', toks := tk' }) →
      codeAny (model prog w) A (.forLoop target (.ref it) body [] (envX cn cs L a ccd [])) R s := by
  intro rest
  induction rest with
  | nil =>
    intro i ρ s m R r hlen hall hnd hit hl hx I h k
    cases h
    refine codeAny_of_tree ?_
    show wpAny _ A ((forTurn target (.ref it) body [] (envX cn cs L a ccd [])).onRaise (fun x => do noteFrame x (envX cn cs L a ccd []); theTreesLotGoes x)) _ _ s
    refine wpAny_noted ?_
    simp only [forTurn]
    refine wpAny_bind (wpAny_standAt (wpAny_bind (wpAny_onRaise (wpAny_pyNext_list_end Df.hh hit hl (by simp at hlen ⊢; omega) fun h' he => ?_))))
    have F' : Fr g L h' m := ⟨I.F.ns.extBut he (Ne.symm hitL), fun b o e => he b o (Nat.ne_of_lt (Nat.lt_of_lt_of_le (Heap.lt_size e) hitg)) (I.F.keep b o e), I.F.above⟩
    have sk : SeqKeep s.heap h' := by
      intro b o xs n e d
      refine he b o ?_ e
      intro q; subst q
      obtain ⟨o', e', _, d'⟩ := hit
      rw [e] at e'; cases e'
      rw [d] at d'; cases d'
    refine wpAny_pure ⟨rfl, codeAny_block (wpAny_execs_nil (k h' s.toks m (fun b o hb e => ?_) ⟨F', fun x j pv e1 e2 => ?_⟩))⟩
    · refine he b o ?_ (hx b o hb e)
      intro q; subst q; rw [hit0] at e; cases e
    · obtain ⟨v, a1, a2, a3⟩ := I.val x j pv e1 e2
      exact ⟨v, a1, a2.seqKeep sk a3, a3⟩
  | cons q rest ih =>
    intro i ρ s m R r hlen hall hnd hit hl hx I h k
    simp only [nodicts, Bool.and_eq_true] at hnd
    simp only [IsAll] at hall
    obtain ⟨v, vr, hdrop, hq, hrest⟩ := hall
    have hiv : items[i]? = some v := by
      have := congrArg List.head? hdrop
      rw [List.head?_drop] at this; simpa using this
    have hdrop2 : items.drop (i + 1) = vr := by
      have := congrArg List.tail hdrop
      rw [List.tail_drop] at this; simpa using this
    simp only [pfor, Option.bind_eq_some_iff] at h
    obtain ⟨f, hf, h⟩ := h
    refine codeAny_of_tree ?_
    show wpAny _ A ((forTurn target (.ref it) body [] (envX cn cs L a ccd [])).onRaise (fun x => do noteFrame x (envX cn cs L a ccd []); theTreesLotGoes x)) _ _ s
    refine wpAny_noted ?_
    simp only [forTurn]
    refine wpAny_bind (wpAny_standAt (wpAny_bind (wpAny_onRaise (wpAny_pyNext_list_item hit hl (x := v) (by simpa using hiv) fun h' hit' hs => ?_))))
    have he := hs.extBut
    have F' : Fr g L h' m := ⟨I.F.ns.extBut he (Ne.symm hitL), fun b o e => he b o (Nat.ne_of_lt (Nat.lt_of_lt_of_le (Heap.lt_size e) hitg)) (I.F.keep b o e), I.F.above⟩
    have sk : SeqKeep s.heap h' := by
      intro b o xs n e d
      refine he b o ?_ e
      intro q; subst q
      obtain ⟨o', e', _, d'⟩ := hit
      rw [e] at e'; cases e'
      rw [d] at d'; cases d'
    have I' : Inv prog w cs ρ g L h' m := ⟨F', fun x j pv e1 e2 => by
      obtain ⟨v, a1, a2, a3⟩ := I.val x j pv e1 e2
      exact ⟨v, a1, a2.seqKeep sk a3, a3⟩⟩
    have hl' : h'.IsList l items.toArray := hl.extBut he hitl
    refine wpAny_bind (letOwned_list hit' ?_)
    have hx' : Heap.ExtBut L h0 h' := by
      intro b o hb e
      refine he b o ?_ (hx b o hb e)
      intro q; subst q; rw [hit0] at e; cases e
    refine wpAny_bind (wpAny_mono (turn ρ _ m q v f (fun f s₃ => wpAny (model prog w) A (match f with
          | .next | .cont => again (.forLoop target (.ref it) body [] (envX cn cs L a ccd []))
          | .brk => pure (.done .next)
          | .ret v => pure (.done (.ret v))) (fun fin s' => match fin with | .done f => R (.ok f) s' | .again c' => c'.quiet = true ∧ codeAny (model prog w) A c' R s') (notedBy (model prog w) A (envX cn cs L a ccd []) fun e s' => R (.error e) s') s₃) _ (notedBy (model prog w) A (envX cn cs L a ccd []) fun e s' => R (.error e) s') I' (hq.seqKeep sk hnd.1) hf ?_) (fun _ s₂ h₂ => wpAny_bind h₂) fun _ _ e => e)
    cases f with
    | next ρ' =>
      intro h2 tk2 m2 he2 I2
      have skb := ExtBut.seqKeep F'.ns he2
      refine wpAny_pure ⟨rfl, ih (i + 1) ρ' _ m2 R r (by simp at hlen; omega) ?_ hnd.2 ?_ ?_ (fun b o hb e => he2 b o hb (hx' b o hb e)) I2 h k⟩
      · rw [hdrop2]; exact (hrest.seqKeep sk hnd.2).seqKeep skb hnd.2
      · obtain ⟨o, e, r⟩ := hit'; exact ⟨o, he2 _ _ hitL e, r⟩
      · exact hl'.extBut he2 hne
    | ret pv =>
      cases h
      exact fun u h2 tk2 m2 he2 F2 hi => wpAny_pure (k u h2 tk2 m2 (fun b o hb e => he2 b o hb (hx' b o hb e)) F2 hi)
end
end Mine
end
section
open PySem PySem.W PySem.Calls PySem.Spec PyProof.Rows
namespace Mine

section
variable {prog : Program} {w : World} {K : Frag} {p : Program} {loose : List Str} {mean : ExcName → Option Value} {mg mb : Str → Option Value} {D : Nat}
  {gn : List Str} {gv : List PV} {fn : List Str} {ff : List (List PV → Option PV)} {A : Around} {cn : Str} {cs : Scope} {L a : Addr} {ccd : Value} {g : Heap} {ρ : Nat → Option PV}

theorem notComp {n : Nat} {e : Expr} {pe : PE} (h : comp cs gn fn n e = some pe) (t : Option Expr) (l : Nat) (env : Env) : swapsWith e t l env = pure false := by
  cases n with
  | zero => simp [comp] at h
  | succ n => cases e <;> first | rfl | (simp [comp] at h)
theorem notSet {n : Nat} {e : Expr} {pe : PE} (h : comp cs gn fn n e = some pe) (env : Env) (x : Value) : foldedSetIterable e env x = pure x := by
  cases n with
  | zero => simp [comp] at h
  | succ n => cases e <;> first | rfl | (simp [comp] at h)
theorem notTuple {ts : List Expr} {k : Nat} {pos : Pos} {e : Expr} (h : isTupleE e = false) (env : Env) : swappedStores [.Tuple ts k pos] e env = pure none := by
  cases e <;> first | rfl | (simp [isTupleE] at h)

theorem seq_next {st : Stmt} {rest : List Stmt} {f : PF} {r : PF} {N : Nat} {k : PS} {Q : Flow → Shared → Prop} {E : Value → Shared → Prop} {s : Shared} (hk : BodyOk prog w A cn cs L a ccd g rest (pex gv ff N k))
    (h : (match f with | .next ρ' => pex gv ff N k ρ' | .ret v => some (.ret v)) = some r) (hr : AfterF prog w cs g L r Q s)
    (go : ∀ Q', AfterF prog w cs g L f Q' s → wpAny (model prog w) A (exec st (envX cn cs L a ccd [])) Q' E s) : wpAny (model prog w) A (execs (st :: rest) (envX cn cs L a ccd [])) Q E s := by
  refine wpAny_execs_cons (go _ ?_)
  cases f with
  | next ρ' => exact fun h' tk' m' he I => hk ρ' _ m' _ _ r I h (hr.after he)
  | ret v =>
    cases h
    exact hr

theorem for_stmt {target it : Expr} {body : List Stmt} {pos : Pos} {pe : PE} {pv : PV} {vs : List PV} {step : (Nat → Option PV) → PV → Option PF} {f : PF} {s : Shared} {m : Str → Option Value} {Q : Flow → Shared → Prop} {E : Value → Shared → Prop} (Df : Def K p loose mean mg mb D A cn cs L a ccd g) (he : EvOk prog w gv ff A cn cs L a ccd g it pe)
    (hset : ∀ x, foldedSetIterable it (envX cn cs L a ccd []) x = pure x)
    (turn : ∀ (ρ : Nat → Option PV) (s : Shared) (m : Str → Option Value) (pv : PV) (v : Value) (r : PF) (Q : Flow → Shared → Prop) (E E' : Value → Shared → Prop), Inv prog w cs ρ g L s.heap m → Is prog w s.heap pv v → step ρ pv = some r → AfterF prog w cs g L r Q s →
      wpAny (model prog w) A (assign target (envX cn cs L a ccd []) v) (fun _ s₂ => wpAny (model prog w) A (execs body (envX cn cs L a ccd [])) Q E' s₂) E s)
    (I : Inv prog w cs ρ g L s.heap m) (hv : pev gv ff ρ pe = some pv) (hvs : listP pv = some vs) (hf : pfor step vs ρ = some f) (k : AfterF prog w cs g L f Q s) :
    wpAny (model prog w) A (exec (.For target it body [] pos) (envX cn cs L a ccd [])) Q E s := by
  refine wpAny_For (he.ap I hv fun u h1 tk1 st1 x1 => ?_) hset
  unfold listP at hvs
  split at hvs
  · split at hvs
    · rename_i hnd
      cases hvs
      obtain ⟨l, us, rfl, hn, hb, hbv⟩ := is_list x1
      have I1 := I.grow st1
      refine wpAny_pyIter_list hb ?_
      have hlt : l < h1.objs.size := by obtain ⟨o, e, _⟩ := hb; exact Heap.lt_size e
      have st2 := push_stays h1 { cls := .type "list_iterator", data := .fields #[.ref l, .int 0 0] }
      have hne : l ≠ L := by
        intro q; subst q
        obtain ⟨o, e, _, n, d⟩ := hb
        obtain ⟨oL, es, ep, eL, dL, _⟩ := I1.F.ns
        rw [e] at eL; cases eL
        rw [d] at dL; cases dL
      refine for_leaf Df turn (items := us) (h0 := h1) hne (Nat.ne_of_gt I1.F.ns.lt) (Nat.ne_of_lt hlt) (Nat.le_of_lt (Nat.lt_of_le_of_lt I1.F.above I1.F.ns.lt)) (Heap.StaysIn.fresh (stays_refl h1)) vs 0 ρ _ m _ f
        (by rw [hbv.length]; omega) (by simpa using hbv.mono st2) hnd ⟨_, Heap.get?_push_size _ rfl, rfl, rfl⟩ (hb.push _) (ExtBut.of_stays st2) (I1.grow st2) hf ?_
      cases f with
      | next ρ' => exact fun h' tk' m' he I' => k h' tk' m' (fun b o hb e => he b o hb (st1 b o e)) I'
      | ret pv => exact fun v h' tk' m' he F' hi => k v h' tk' m' (fun b o hb e => he b o hb (st1 b o e)) F' hi
    · cases hvs
  · cases hvs

theorem pex_sound (W : Std prog w K p loose mean mg mb D gn gv fn ff) (Df : Def K p loose mean mg mb D A cn cs L a ccd g) (N : Nat) : ∀ (n : Nat) (sts : List Stmt) (ps : PS), compS cs gn fn n sts = some ps → BodyOk prog w A cn cs L a ccd g sts (pex gv ff N ps) := by
  intro n
  induction n with
  | zero => intro sts ps h; simp [compS] at h
  | succ n ih =>
    have ev := fun e pe h => ev_sound W Df n e pe h
    intro sts ps h
    cases sts with
    | nil =>
      simp only [compS] at h
      cases h
      intro ρ s m Q E r I hr k
      cases hr
      exact wpAny_execs_nil (k s.heap s.toks m (fun _ _ _ e => e) I)
    | cons st rest =>
      simp only [compS] at h
      split at h
      · simp only [Option.bind_eq_some_iff, Option.map_eq_some_iff] at h
        obtain ⟨i, hi, e, he, kk, hk, rfl⟩ := h
        intro ρ s m Q E r I hr k
        simp only [pex, Option.bind_eq_some_iff] at hr
        obtain ⟨v, hv, ρ', hst, hr⟩ := hr
        refine seq_next (f := .next ρ') (ih _ _ hk) hr k fun Q' k' => ?_
        refine wpAny_Assign_Name ((ev _ _ he).1.ap I hv fun u h1 tk1 st1 x1 => ?_) (notComp he _ _ _)
        unfold store at hst
        split at hst
        · rename_i hd
          cases hst
          exact store_leaf Df hi (I.grow st1) x1 hd fun h2 tk2 m2 e2 I2 => k' h2 tk2 m2 (fun b o hb e => e2 b o hb (st1 b o e)) I2
        · cases hst
      · split at h
        · cases h
        · rename_i hnt
          simp only [Option.bind_eq_some_iff, Option.map_eq_some_iff] at h
          obtain ⟨is, his, e, he, kk, hk, rfl⟩ := h
          intro ρ s m Q E r I hr k
          simp only [pex, Option.bind_eq_some_iff] at hr
          obtain ⟨v, hv, vs, hvs, ρ', hst, hr⟩ := hr
          refine seq_next (f := .next ρ') (ih _ _ hk) hr k fun Q' k' => ?_
          refine Assign_Tuple ((ev _ _ he).1.ap I hv fun u h1 tk1 st1 x1 => ?_) (by simp only [swapsWithSole]; exact notComp he _ _ _) (notTuple (by simpa using hnt) _)
          exact unpack_leaf Df (mapM_some his) hvs hst x1 (I.grow st1) fun h2 tk2 m2 e2 I2 => k' h2 tk2 m2 (fun b o hb e => e2 b o hb (st1 b o e)) I2
      · simp only [Option.bind_eq_some_iff, Option.map_eq_some_iff] at h
        obtain ⟨i, hi, e, he, kk, hk, rfl⟩ := h
        intro ρ s m Q E r I hr k
        simp only [pex, Option.bind_eq_some_iff] at hr
        obtain ⟨o, ho, v, hv, hr⟩ := hr
        split at hr
        · rename_i x y
          refine seq_next (f := .next (upd ρ i (.int (x - y)))) (ih _ _ hk) hr k fun Q' k' => ?_
          obtain ⟨vo, hm, hio, _⟩ := I.val _ i _ hi ho
          refine wpAny_AugAssign_Name (wpAny_loadName_local Df.hk (locIx_kind hi).1 I.F.ns hm ((ev _ _ he).1.ap I hv fun u h1 tk1 st1 x1 => ?_))
          obtain ⟨t1, rfl⟩ := is_int hio
          obtain ⟨t2, rfl⟩ := is_int x1
          exact isub_int (store_leaf Df hi (I.grow st1) mk_int rfl fun h2 tk2 m2 e2 I2 => k' h2 tk2 m2 (fun b o hb e => e2 b o hb (st1 b o e)) I2)
        · cases hr
      · simp only [Option.bind_eq_some_iff, Option.map_eq_some_iff] at h
        obtain ⟨c, hc, x, hx, y, hy, kk, hk, rfl⟩ := h
        intro ρ s m Q E r I hr k
        simp only [pex, Option.bind_eq_some_iff] at hr
        obtain ⟨v, hv, t, ht, f, hf, hr⟩ := hr
        refine seq_next (f := f) (ih _ _ hk) hr k fun Q' k' => ?_
        refine wpAny_If ((ev _ _ hc).2.ap rfl I hv ht fun h1 tk1 st1 => ?_)
        cases t with
        | true => simp only [if_true] at hf ⊢; exact ih _ _ hx ρ _ m _ _ f (I.grow st1) hf (k'.after (ExtBut.of_stays st1))
        | false => simp only [Bool.false_eq_true, if_false] at hf ⊢; exact ih _ _ hy ρ _ m _ _ f (I.grow st1) hf (k'.after (ExtBut.of_stays st1))
      · simp only [Option.bind_eq_some_iff, Option.map_eq_some_iff] at h
        obtain ⟨c, hc, x, hx, kk, hk, rfl⟩ := h
        intro ρ s m Q E r I hr k
        simp only [pex, Option.bind_eq_some_iff] at hr
        obtain ⟨f, hf, hr⟩ := hr
        refine seq_next (f := f) (ih _ _ hk) hr k fun Q' k' => ?_
        exact wpAny_While (while_leaf (ev _ _ hc).2 (ih _ _ hx) N ρ s m _ f I hf k')
      · simp only [Option.bind_eq_some_iff, Option.map_eq_some_iff] at h
        obtain ⟨i, hi, e, he, x, hx, kk, hk, rfl⟩ := h
        intro ρ s m Q E r I hr k
        simp only [pex, Option.bind_eq_some_iff] at hr
        obtain ⟨v, hv, vs, hvs, f, hf, hr⟩ := hr
        refine seq_next (f := f) (ih _ _ hk) hr k fun Q' k' => ?_
        refine for_stmt Df (ev _ _ he).1 (notSet he _) (fun ρ s m pv v r Q E E' I hv hr k => ?_) I hv hvs hf k'
        simp only [Option.bind_eq_some_iff] at hr
        obtain ⟨ρ', hst, hr⟩ := hr
        unfold store at hst
        split at hst
        · rename_i hd
          cases hst
          exact wpAny_assign_Name (store_leaf Df hi I hv hd fun h2 tk2 m2 e2 I2 => ih _ _ hx _ _ m2 _ _ r I2 hr (k.after e2))
        · cases hst
      · simp only [Option.bind_eq_some_iff, Option.map_eq_some_iff] at h
        obtain ⟨is, his, e, he, x, hx, kk, hk, rfl⟩ := h
        intro ρ s m Q E r I hr k
        simp only [pex, Option.bind_eq_some_iff] at hr
        obtain ⟨v, hv, vs, hvs, f, hf, hr⟩ := hr
        refine seq_next (f := f) (ih _ _ hk) hr k fun Q' k' => ?_
        refine for_stmt Df (ev _ _ he).1 (notSet he _) (fun ρ s m pv v r Q E E' I hv hr k => ?_) I hv hvs hf k'
        simp only [Option.bind_eq_some_iff] at hr
        obtain ⟨us, hus, ρ', hst, hr⟩ := hr
        exact unpack_leaf Df (mapM_some his) hus hst hv I fun h2 tk2 m2 e2 I2 => ih _ _ hx _ _ m2 _ _ r I2 hr (k.after e2)
      · simp only [Option.map_eq_some_iff] at h
        obtain ⟨e, he, rfl⟩ := h
        intro ρ s m Q E r I hr k
        simp only [pex, Option.map_eq_some_iff] at hr
        obtain ⟨v, hv, rfl⟩ := hr
        refine wpAny_execs_cons (wpAny_Return_some ((ev _ _ he).1.ap I hv fun u h1 tk1 st1 x1 => ?_))
        exact k u h1 tk1 m (ExtBut.of_stays st1) (I.grow st1).F x1
      · cases h
end
end Mine
end
section
open PySem PySem.W PySem.Calls PySem.Spec PyProof.Rows
namespace Mine

/-- a def's answer, by its compiled body -/
noncomputable def runF (gv : List PV) (ff : List (List PV → Option PV)) (N : Nat) (is : List Nat) (ps : PS) (args : List PV) : Option PV :=
  (stores (fun _ => none) is args).bind fun ρ => (pex gv ff N ps ρ).map fun f => match f with
    | .ret v => v
    | .next _ => .none

section
variable {prog : Program} {w : World} {K : Frag} {p : Program} {loose : List Str} {mean : ExcName → Option Value} {mg mb : Str → Option Value} {D : Nat}
  {gn : List Str} {gv : List PV} {fn : List Str} {ff : List (List PV → Option PV)} {cs : Scope}

theorem Tells.mono {D D' : Nat} {f : Addr} {vs : List Value} {P : Heap → Prop} {R : Heap → Value → Heap → Prop} (C : Tells prog w K p loose mean mg mb D f vs P R) (h : D ≤ D') : Tells prog w K p loose mean mg mb D' f vs P R := by
  intro dp un gd cn cs a ccd cl outer A₀ base h₀ L m s Q E B F X T hk hd hu hP hQ
  exact C dp un gd cn cs a ccd cl outer A₀ base h₀ L m s Q E B F X T hk (by omega) (by omega) hP hQ

noncomputable def Holds (prog : Program) (w : World) (cs : Scope) (h : Heap) (ρ : Nat → Option PV) (m : Str → Option Value) : Prop :=
  ∀ x i pv, locIx cs x = some i → ρ i = some pv → ∃ v, m x = some v ∧ Is prog w h pv v ∧ pv.nodict = true
theorem binds_hold {h : Heap} : ∀ {xs : List Str} {is : List Nat} {args : List PV} {vs : List Value} {ρ ρ' : Nat → Option PV} {m : Str → Option Value}, xs.mapM (locIx cs) = some is → stores ρ is args = some ρ' → IsAll prog w h args vs →
    Holds prog w cs h ρ m → Holds prog w cs h ρ' (fun y => ((xs.zip vs).reverse.lookup y).or (m y))
  | [], is, args, vs, ρ, ρ', m, hx, hs, ha, H => by
    simp at hx; subst hx
    cases args with
    | nil => cases hs; simpa using H
    | cons => cases hs
  | x :: xs, is, args, vs, ρ, ρ', m, hx, hs, ha, H => by
    rw [List.mapM_cons] at hx
    simp only [Option.bind_eq_bind, Option.bind_eq_some_iff] at hx
    obtain ⟨i, hi, is', his, e⟩ := hx
    cases e
    cases args with
    | nil => cases hs
    | cons q args =>
      simp only [stores, Option.bind_eq_some_iff] at hs
      obtain ⟨ρ1, h1, h2⟩ := hs
      simp only [IsAll] at ha
      obtain ⟨v, r, rfl, hv, hr⟩ := ha
      unfold store at h1
      split at h1
      · rename_i hd
        cases h1
        have H1 : Holds prog w cs h (upd ρ i q) (fun y => if y = x then some v else m y) := by
          intro y j pv hy hj
          unfold upd at hj
          by_cases e : j = i
          · subst e
            rw [if_pos rfl] at hj; cases hj
            have := locIx_inj hi hy; subst this
            exact ⟨v, by simp, hv, hd⟩
          · rw [if_neg e] at hj
            have hne : y ≠ x := by
              intro q; subst q
              rw [hi] at hy; cases hy; exact e rfl
            obtain ⟨u, a1, a2⟩ := H y j pv hy hj
            exact ⟨u, by simp [hne, a1], a2⟩
        have ih := binds_hold his h2 hr H1
        have e : (fun y => (((x :: xs).zip (v :: r)).reverse.lookup y).or (m y)) = fun y => ((xs.zip r).reverse.lookup y).or (if y = x then some v else m y) := by
          funext y
          rw [List.zip_cons_cons, List.reverse_cons, List.lookup_append, Option.or_assoc]
          congr 1
          rw [List.lookup_cons]
          by_cases hyx : y = x
          · subst hyx; simp
          · have : (y == x) = false := beq_eq_false_iff_ne.mpr hyx
            simp [this, hyx]
        rw [e]; exact ih
      · cases h1

theorem tells_def {f : Addr} {name qual : Str} {params : Arguments} {body : List Stmt} {scope : Scope} {dV kV doc pm cdv ct oc : Value} {an od : Option Addr} {osl : Array (Option Value)} {xs : List Str} {is : List Nat} {ps : PS} {n N : Nat}
    (ho : K.lookup f = some ⟨oc, od, .func (fnOf name qual params body scope dV kV doc pm an cdv ct), osl⟩) (hcd : codeIn K cdv qual = true)
    (hbind : ∀ (s : Shared) (vs : List Value), vs.length = xs.length → BindsTo s (fnOf name qual params body scope dV kV doc pm an cdv ct) ⟨vs, []⟩ (xs.zip vs))
    (hix : xs.mapM (locIx scope) = some is) (hcomp : compS scope gn fn n body = some ps)
    (hsc : (scope.isCoroutine, scope.isGenerator, scope.kind) = (false, false, .function)) (hcell : (scope.names.all fun x => x.2 != .cell) = true)
    (W : Std prog w K p loose mean mg mb D gn gv fn ff) :
    ∀ args r, runF gv ff N is ps args = some r → ∀ vs, Tells prog w K p loose mean mg mb (D + 1) f vs (fun h => IsAll prog w h args vs) (fun _ v h' => Is prog w h' r v) := by
  simp only [Prod.mk.injEq] at hsc
  obtain ⟨hco, hgen, hk⟩ := hsc
  intro args r hrun vs dp un gd cn cs a ccd cl outer A₀ base h₀ L m s Q E B F X T hke hdp hu hP hret
  simp only [runF, Option.bind_eq_some_iff, Option.map_eq_some_iff] at hrun
  obtain ⟨ρ, hst, pf, hpf, hr⟩ := hrun
  have hlen : vs.length = xs.length := by
    have h1 := stores_length hst
    have h2 := (mapM_some hix).length
    have h3 := hP.length
    omega
  refine wpAny_call ?_
  refine enterP B F X T rfl rfl hke ho hcd (by show dp < recursionLimit; omega) (hbind s vs hlen) ?_ ?_ hco hgen hk (fun x hx => by simpa using List.all_eq_true.mp hcell x hx)
  · intro y hy
    have hm : y.1 ∈ xs := (List.of_mem_zip hy).1
    have all := mapM_some hix
    have go : ∀ {xs : List Str} {is : List Nat}, All2 (fun a b => locIx scope a = some b) xs is → ∀ z ∈ xs, scope.names.lookup z = some .local := by
      intro xs is h
      induction h with
      | nil => intro z hz; cases hz
      | cons h1 _ ih =>
        intro z hz
        rcases List.mem_cons.mp hz with rfl | hz
        · exact (locIx_kind h1).1
        · exact ih z hz
    exact go all _ hm
  · intro g L' h1 hg FG F' N' B' X' T'
    subst hg
    have st1 : s.heap.StaysIn h1 := F'.keep
    have hH := binds_hold (cs := scope) hix hst (hP.mono st1) (ρ := fun _ => none) (m := fun _ => none) (by intro x i pv _ h; cases h)
    have I : Inv prog w scope ρ s.heap L' h1 (fun y => (xs.zip vs).reverse.lookup y) := ⟨F', by
      have e : (fun y => ((xs.zip vs).reverse.lookup y).or ((fun _ => none : Str → Option Value) y)) = fun y => (xs.zip vs).reverse.lookup y := by funext y; simp
      rw [e] at hH; exact hH⟩
    have Df : Def K p loose mean mg mb D ((ktrTop dp un gd cn cs L a ccd cl outer).deeper (envOf qual scope L' f cdv)) qual scope L' f cdv s.heap :=
      ⟨rfl, ⟨ktrTop dp un gd cn cs L a ccd cl outer, base, _, rfl, B'⟩, X', T', hk, by show dp + 1 + D < recursionLimit; omega, by show un + 3 + 100 * D + 64 < cLine; omega⟩
    refine pex_sound (A := (ktrTop dp un gd cn cs L a ccd cl outer).deeper (envOf qual scope L' f cdv)) W Df N n body ps hcomp ρ _ _ _ _ pf I hpf ?_
    cases pf with
    | ret v =>
      subst hr
      exact fun u h' tk' m' he F2 hi => leaveK_ F2 News.nil fun _ _ st => hret u h' tk' st hi
    | next ρ' =>
      subst hr
      exact fun h' tk' m' he I2 => leaveK_ I2.F News.nil fun _ _ st => hret .none h' tk' st (by simp [Is])
end
end Mine
end
section
open PySem PySem.W PySem.Calls PySem.Spec PyProof.Rows
namespace Mine

/-- a dict of the written part: hash, key, value -/
noncomputable def dictParts (K : Frag) (d : Addr) : Option (List (Int × Str × Value)) := match K.lookup d with
  | some ⟨.type "dict", none, .dict es _, sl⟩ => if sl.size = 0 then es.toList.mapM (fun e => match e.key with | .str k _ => some (e.hash, k, e.val) | _ => none) else none
  | _ => none
noncomputable def hashParts (K : Frag) (P : Params) (d : Addr) (ks : List Str) : Prop := (dictParts K d).map (fun l => l.map fun e => (e.1, e.2.1)) = some (ks.map fun k => (PyData.keyHash P k, k))

noncomputable def eqS (x y : Str) : Bool := x.cps.toList == y.cps.toList
theorem eqS_eq {x y : Str} (h : eqS x y = true) : x = y := by
  unfold eqS at h
  have h2 : x.cps.toList = y.cps.toList := by simpa using h
  cases x; cases y
  congr 1
  exact Array.toList_inj.mp h2
noncomputable def eqSs : List Str → List Str → Bool
  | [], [] => true
  | x :: xs, y :: ys => eqS x y && eqSs xs ys
  | _, _ => false
theorem eqSs_eq : ∀ {xs ys : List Str}, eqSs xs ys = true → xs = ys
  | [], [], _ => rfl
  | [], _ :: _, h => by cases h
  | _ :: _, [], h => by cases h
  | x :: xs, y :: ys, h => by
    simp only [eqSs, Bool.and_eq_true] at h
    rw [eqS_eq h.1, eqSs_eq h.2]
mutual
noncomputable def chk (K : Frag) (Ds : List (Addr × List Str)) : PV → Value → Bool
  | .none, v => v == .none
  | .bool b, v => v == .bool b
  | .int i, v => (match v with | .int j _ => i == j | _ => false)
  | .str x, v => (match v with | .str y _ => eqS x y && decide (x.length ≤ 100000) | _ => false)
  | .seq l ps, v => (match v with
    | .ref a => (match K.lookup a with
      | some ⟨.type T, _, .seq xs _, _⟩ => T == (if l then "list" else "tuple") && decide (ps.length ≤ 100000) && chks K Ds ps xs.toList
      | _ => false)
    | _ => false)
  | .dict ks ps, v => (match v with
    | .ref d => (match dictParts K d with
      | some l => (match Ds.lookup d with | some ks' => eqSs ks' ks | none => false) && !(d == sysModules) && decide (ks.length = ps.length) && chks K Ds ps (l.map (·.2.2))
      | none => false)
    | _ => false)
noncomputable def chks (K : Frag) (Ds : List (Addr × List Str)) : List PV → List Value → Bool
  | [], vs => vs.isEmpty
  | p :: ps, vs => (match vs with
    | v :: r => chk K Ds p v && chks K Ds ps r
    | [] => false)
end

section
variable {prog : Program} {w : World} {K : Frag} {h : Heap} {Ds : List (Addr × List Str)}

theorem keyHash_is (w : World) (k : Str) : PyData.keyHash w.params k = hashStr w k := rfl

theorem find_parts : ∀ (es : List DictEntry) (l : List (Int × Str × Value)) (ks : List Str), es.mapM (fun e => match e.key with | .str k _ => some (e.hash, k, e.val) | _ => none) = some l →
    (l.map fun e => (e.1, e.2.1)) = (ks.map fun k => (PyData.keyHash w.params k, k)) →
    (∀ e ∈ es, ∃ k, (strKind prog w).is k e.key = true ∧ e.hash = (strKind prog w).hash k) ∧ ∀ k, (es.find? fun e => (strKind prog w).is k e.key).map (·.val) = (ks.zip (l.map (·.2.2))).lookup k
  | [], l, ks, h1, h2 => by
    simp at h1; subst h1
    cases ks with
    | nil => exact ⟨by simp, by simp⟩
    | cons => simp at h2
  | e :: es, l, ks, h1, h2 => by
    rw [List.mapM_cons] at h1
    simp only [Option.bind_eq_bind, Option.bind_eq_some_iff] at h1
    obtain ⟨x, hx, r, hr, e1⟩ := h1
    cases e1
    cases ks with
    | nil => simp at h2
    | cons k ks =>
      simp only [List.map_cons, List.cons.injEq, Prod.mk.injEq] at h2
      obtain ⟨⟨h3, h4⟩, h5⟩ := h2
      obtain ⟨i1, i2⟩ := find_parts es r ks hr h5
      split at hx
      · rename_i k' t hk
        cases hx
        simp only at h3 h4
        subst h4
        refine ⟨?_, ?_⟩
        · intro e' he'
          rcases List.mem_cons.mp he' with rfl | he'
          · exact ⟨k', by rw [hk]; exact strKind_is _ w k' t, h3⟩
          · exact i1 e' he'
        · intro q
          have e2 : (strKind prog w).is q e.key = (q == k') := by
            rw [hk]
            show Value.isStrOf q (.str k' t) = _
            cases hq : q == k' with
            | true => rw [eq_of_beq hq]; exact strKind_is prog w k' t
            | false =>
              have hne : q ≠ k' := by simpa using hq
              cases hh : Value.isStrOf q (.str k' t) with
              | false => rfl
              | true => exact absurd ((strKind prog w).inj (.str k' t) q k' hh (strKind_is prog w k' t)) hne
          rw [List.find?_cons]
          simp only [List.map_cons, List.zip_cons_cons, List.lookup_cons, e2]
          cases hq : q == k' with
          | true => rfl
          | false => exact i2 q
      · cases hx

mutual
theorem chk_sound (H : ∀ d ks, Ds.lookup d = some ks → hashParts K w.params d ks) (X : K.In h) : ∀ {p : PV} {v : Value}, chk K Ds p v = true → Is prog w h p v
  | .none, v, c => by simp only [chk, beq_iff_eq] at c; subst c; simp [Is]
  | .bool b, v, c => by simp only [chk, beq_iff_eq] at c; subst c; simp [Is]
  | .int i, v, c => by
    simp only [chk] at c
    split at c
    · rename_i j t
      have : i = j := by simpa using c
      subst this; exact mk_int
    · cases c
  | .str x, v, c => by
    simp only [chk] at c
    split at c
    · rename_i y t
      simp only [Bool.and_eq_true, decide_eq_true_eq] at c
      obtain ⟨hxy, hl⟩ := c
      cases eqS_eq hxy
      exact mk_str hl
    · cases c
  | .seq l ps, v, c => by
    simp only [chk] at c
    split at c
    · rename_i a
      split at c
      · rename_i T dd xs n sl hK
        simp only [Bool.and_eq_true, beq_iff_eq, decide_eq_true_eq] at c
        obtain ⟨⟨hT, hl⟩, hc⟩ := c
        have ha := chks_sound H X hc
        cases l with
        | true => subst hT; exact mk_list hl (vs := xs.toList) ⟨_, X _ _ hK, rfl, n, by simp⟩ ha
        | false => subst hT; exact mk_tup hl (vs := xs.toList) ⟨_, X _ _ hK, rfl, n, by simp⟩ ha
      · cases c
    · cases c
  | .dict ks ps, v, c => by
    simp only [chk] at c
    split at c
    · rename_i d
      split at c
      · rename_i l hl
        simp only [Bool.and_eq_true, beq_iff_eq, decide_eq_true_eq, Bool.not_eq_true'] at c
        obtain ⟨⟨⟨hD', hsys⟩, hlen⟩, hc⟩ := c
        have hD : Ds.lookup d = some ks := by
          split at hD'
          · rename_i ks' e; rw [e, eqSs_eq hD']
          · cases hD'
        have ha := chks_sound H X hc
        have hp := H d ks hD
        have hl' := hl
        unfold hashParts at hp
        rw [hl] at hp
        simp only [Option.map_some, Option.some.injEq] at hp
        unfold dictParts at hl'
        split at hl'
        · rename_i es n sl hK
          split at hl'
          · rename_i hsl
            obtain ⟨f1, f2⟩ := find_parts (prog := prog) (w := w) es.toList l ks hl' hp
            have hsl' : sl = #[] := Array.size_eq_zero_iff.mp hsl
            subst hsl'
            simp only [Is]
            refine ⟨d, l.map (·.2.2), rfl, ⟨_, es, n, X _ _ hK, ⟨rfl, rfl, rfl⟩, rfl, fun e he => f1 e (by simpa using he), fun k => ?_⟩, ⟨_, X _ _ hK, rfl, hsys⟩, hlen, ha⟩
            show findBy (strKind prog w).is es k = (ks.zip (l.map (·.2.2))).lookup k
            rw [← f2 k]
            unfold findBy
            rw [← Array.find?_toList]
          · cases hl'
        · cases hl'
      · cases c
    · cases c
theorem chks_sound (H : ∀ d ks, Ds.lookup d = some ks → hashParts K w.params d ks) (X : K.In h) : ∀ {ps : List PV} {vs : List Value}, chks K Ds ps vs = true → IsAll prog w h ps vs
  | [], vs, c => by simp only [chks] at c; simp only [IsAll]; simpa using c
  | p :: ps, vs, c => by
    simp only [chks] at c
    split at c
    · rename_i v r
      simp only [Bool.and_eq_true] at c
      simp only [IsAll]
      exact ⟨v, r, rfl, chk_sound H X c.1, chks_sound H X c.2⟩
    · cases c
end
end
end Mine
end
section
open PySem PySem.W PySem.Calls PySem.Spec PyProof.Rows PyProof.Rows.LCg
namespace Mine

/-- all that stands beyond the base, but the frame -/
noncomputable def ledger (g h : Heap) (L : Addr) : List (Addr × Obj) := (List.range h.objs.size).filterMap fun a => if a = L then none else match g.get? a with | some _ => none | none => (h.get? a).map fun o => (a, o)
theorem ledger_mem {g h : Heap} {L : Addr} {p : Addr × Obj} : p ∈ ledger g h L ↔ p.1 ≠ L ∧ g.get? p.1 = none ∧ h.get? p.1 = some p.2 := by
  unfold ledger
  rw [List.mem_filterMap]
  constructor
  · rintro ⟨a, ha, e⟩
    split at e
    · cases e
    · rename_i hne
      split at e
      · cases e
      · rename_i hg
        simp only [Option.map_eq_some_iff] at e
        obtain ⟨o, ho, rfl⟩ := e
        exact ⟨hne, hg, ho⟩
  · rintro ⟨h1, h2, h3⟩
    refine ⟨p.1, List.mem_range.mpr (Heap.lt_size h3), ?_⟩
    rw [if_neg h1, h2, h3]
    rfl
theorem ledger_news {g h : Heap} {L : Addr} : News g L h (ledger g h L) := fun _ hp => let ⟨a, b, c⟩ := ledger_mem.mp hp; ⟨c, a, b⟩
theorem ledger_ext {g h h' : Heap} {L : Addr} {m m' : Str → Option Value} {news : List (Addr × Obj)} (F : Fr g L h m) (F' : Fr g L h' m') (N : News g L h' news) (hs : ∀ p ∈ ledger g h L, p ∈ news) : Heap.ExtBut L h h' := by
  intro b o hb e
  cases hg : g.get? b with
  | some o' =>
    have := F.keep _ _ hg
    rw [e] at this; cases this
    exact F'.keep _ _ hg
  | none => exact (N _ (hs (b, o) (ledger_mem.mpr ⟨hb, hg, e⟩))).1

section
variable {prog : Program} {w : World} {K : Frag} {p : Program} {loose : List Str} {mean : ExcName → Option Value} {mg mb : Str → Option Value} {D : Nat}
  {gn : List Str} {gv : List PV} {fn : List Str} {ff : List (List PV → Option PV)} {A : Around} {cn : Str} {cs : Scope} {L a : Addr} {ccd : Value} {g : Heap} {ρ : Nat → Option PV}

theorem strs_take {us : List Str} {i : Nat} {y : Str} {t : Tok} {ys : List Value} (h : StrsAre ys (us.take i)) (e : us[i]? = some y) : StrsAre (ys ++ [.str y t]) (us.take (i + 1)) := by
  rw [List.take_add_one, e]
  exact strsSnoc h

theorem comp_core {E : Value → Shared → Prop} {env : Env} {elt iter : Expr} {x : Str} {px : Pos} {scope : Scope} {pos : Pos} {s₁ : Shared} {o : Obj} {m : Str → Option Value} {fp : List Addr} {n : Nat} {P : Nat → Value → Prop} {St : Nat → Heap → Prop} {us : List Str} {Q : Value → Shared → Prop}
    (W : Walks prog w A s₁.heap.objs.size fp [s₁.heap.objs.size] n P St) (hsz : n ≤ sizeLine) (hIo : ∀ i h, St i h → ∃ o, h.get? s₁.heap.objs.size = some o)
    (hSt : ∀ i h h' o nw, St i h → h.get? s₁.heap.objs.size = some o → h'.get? s₁.heap.objs.size = some o → (∀ b o, g.get? b = some o → h'.get? b = some o) → News g L h' nw → (∀ p ∈ ledger g s₁.heap L, p ∈ nw) → St i h')
    (hst : St 0 (s₁.heap.push o)) (hfp : ∀ b ∈ fp, b < s₁.heap.objs.size + 1) (F : Fr g L s₁.heap m)
    (hcell : ∀ y ∈ scope.names, y.2 ≠ .cell) (hkind : scope.kind = .function) (hx : scope.names.lookup x = some .local)
    (hus : us.length = n) 
    (turn : ∀ i v y C oC m₂ (s : Shared) (Q' E' : Value → Shared → Prop), P i v → us[i]? = some y → NsObj oC m₂ → m₂ x = some v → s.heap.get? C = some oC → Heap.ExtBut L s₁.heap s.heap →
      (∀ t h' tk', s.heap.StaysIn h' → Q' (.str y t) { s with heap := h', toks := tk' }) → wpAny (model prog w) A (eval elt (compEnvC scope [] C env)) Q' E' s)
    (k : ∀ d ys h' tk', Heap.ExtBut L s₁.heap h' → Fr g L h' m → h'.IsList d ys.toArray → StrsAre ys us → Q (.ref d) { s₁ with heap := h', toks := tk' }) :
    wpAny (model prog w) A (newList []) (fun acc s₃ => wpAny (model prog w) A (newFunctionEnv scope env.globals [] [] env.qual none .none (some env)) (fun cenv s₄ =>
      codeAny (model prog w) A (.compStart (.ListComp elt [⟨.Name x px, iter, [], 0⟩] scope pos) 0 (.ref s₁.heap.objs.size) acc { cenv with scope := relabel scope env }) (compPost (model prog w) A E none Q acc cenv.locals) s₄) E s₃) E { s₁ with heap := s₁.heap.push o } := by
  have up : ∀ b o', s₁.heap.get? b = some o' → (s₁.heap.push o).get? b = some o' := fun b o' e => Heap.get?_push_of_some _ e
  have N := ledger_news (g := g) (h := s₁.heap) (L := L)
  have R : ∀ (k i : Nat) (ys : List Value) (nw : List (Addr × Obj)), i + k = n → StrsAre ys (us.take i) → (∀ p ∈ ledger g s₁.heap L, p ∈ nw) →
      CompRest prog w A g L m env elt x scope [] { s₁ with heap := s₁.heap.push o } (fun nw => ∀ p ∈ ledger g s₁.heap L, p ∈ nw) P (fun ys nw => StrsAre ys us ∧ ∀ p ∈ ledger g s₁.heap L, p ∈ nw) k i ys nw := by
    intro k
    induction k with
    | zero =>
      intro i ys nw hi hy hS
      refine CompRest.zero ⟨?_, hS⟩
      rwa [List.take_of_length_le (by omega)] at hy
    | succ k ih =>
      intro i ys nw hi hy hS
      refine CompRest.succ fun v I oI C oC d m₂ h tk E' hP hC hm F' N' off ne => ?_
      obtain ⟨y, hyi⟩ : ∃ y, us[i]? = some y := ⟨us[i], List.getElem?_eq_getElem (by omega)⟩
      refine turn i v y C oC m₂ _ _ _ hP hyi hC hm (N' (C, oC) (by simp)).1 (ledger_ext F F' N' fun q hq => List.mem_cons_of_mem _ (List.mem_cons_of_mem _ (List.mem_cons_of_mem _ (hS q hq)))) fun t h' tk' st => ?_
      refine CompEnd.intro (F'.keeps st) (N'.grown st) nw (fun q hq => hq) off hS ?_
      exact ih (i + 1) _ nw (by omega) (strs_take hy hyi) hS
  refine block_U (S := fun nw => ∀ p ∈ ledger g s₁.heap L, p ∈ nw) (Fin := fun ys nw => StrsAre ys us ∧ ∀ p ∈ ledger g s₁.heap L, p ∈ nw) (news := ledger g s₁.heap L) W hsz hIo hSt hcell hkind hx hst
    (fun b hb => by
      show b < (s₁.heap.push _).objs.size
      rw [Heap.size_push]; exact hfp b hb)
    (F.keeps up) (N.grown up) (Nat.ne_of_lt F.ns.lt) (next_is_new F) (fun q hq => Nat.ne_of_lt (Heap.lt_size (N q hq).1)) (fun _ hp => hp) (R n 0 [] _ (by omega) (by simpa using StrsAre.nil) (fun _ hp => hp)) ?_
  rintro d C h tk m' ys news' F' N' o1 hnC hC₀ hD₀ hCL hDL hCD offC ⟨hy, hS⟩
  refine ⟨m', hnC, fun h'' hs'' => ?_⟩
  have F2 := F'.change hs'' hCL hC₀
  have N2 : News g L h'' ((d, lst ys) :: news') := fun q hq => by
    refine ⟨hs''.extBut _ _ ?_ (N' q hq).1, (N' q hq).2⟩
    rcases List.mem_cons.mp hq with rfl | hq
    · exact Ne.symm hCD
    · exact offC q hq
  exact k d ys h'' tk (ledger_ext F F2 N2 fun q hq => List.mem_cons_of_mem _ (hS q hq)) F2 ⟨_, (N2 (d, lst ys) (by simp)).1, rfl, _, rfl⟩ hy

theorem strs_all {h : Heap} : ∀ {vs : List Value} {es : List Str}, StrsAre vs es → (es.all fun e => decide (e.length ≤ lenLid)) = true → IsAll prog w h (es.map .str) vs
  | _, _, .nil, _ => by simp [IsAll]
  | _, _, .cons y t r, h => by
    simp only [List.all_cons, Bool.and_eq_true, decide_eq_true_eq] at h
    simp only [List.map_cons, IsAll]
    exact ⟨_, _, rfl, mk_str h.1, strs_all r h.2⟩

theorem Inv.ext {s h : Heap} {m : Str → Option Value} (I : Inv prog w cs ρ g L s m) (x : Heap.ExtBut L s h) (F : Fr g L h m) : Inv prog w cs ρ g L h m :=
  ⟨F, fun y j pv e1 e2 => let ⟨v, a1, a2, a3⟩ := I.val y j pv e1 e2; ⟨v, a1, a2.seqKeep (ExtBut.seqKeep I.F.ns x) a3, a3⟩⟩

/-- [x for x in a text] -/
theorem comp_text {E : Value → Shared → Prop} {iter : Expr} {x : Str} {px px' : Pos} {scope : Scope} {pos : Pos} {pe : PE} {z : Str} {s : Shared} {m : Str → Option Value} {Q : Value → Shared → Prop} (Df : Def K p loose mean mg mb D A cn cs L a ccd g)
    (hclos : closureFor scope (envX cn cs L a ccd []) = pure []) (hcell : ∀ y ∈ scope.names, y.2 ≠ .cell) (hkind : scope.kind = .function) (hnames : ∀ y ∈ scope.names, y.2 = .local → scope.names.lookup y.1 = some .local) (hx : scope.names.lookup x = some .local) (hdb : (x == ("__debug__" : Str)) = false)
    (hit : EvOk prog w gv ff A cn cs L a ccd g iter pe) (hset : ∀ v, foldedSetIterable iter (envX cn cs L a ccd []) v = pure v) (I : Inv prog w cs ρ g L s.heap m) (hev : pev gv ff ρ pe = some (.str z)) (hasc : z.cps.all (· < 128) = true)
    (k : ∀ d h' tk', Heap.ExtBut L s.heap h' → Inv prog w cs ρ g L h' m → Is prog w h' (.seq true (charsP z)) (.ref d) → Q (.ref d) { s with heap := h', toks := tk' }) :
    wpAny (model prog w) A (eval (.ListComp (.Name x px) [⟨.Name x px', iter, [], 0⟩] scope pos) (envX cn cs L a ccd [])) Q E s := by
  rw [eval_ListComp]
  refine wpAny_comprehension_free (use := none) rfl hset hclos hkind hnames (hit.ap I hev fun v h1 tk1 st1 x1 => ?_)
  obtain ⟨hl, t, rfl⟩ := is_str x1
  have I1 := I.grow st1
  have hsz : z.cps.size ≤ sizeLine := Nat.le_trans hl lenLid_le
  have hmap : (z.cps.toList.map fun c => (⟨#[c]⟩ : Str)).map PV.str = charsP z := by unfold charsP; rw [List.map_map]; rfl
  refine wpAny_pyIter_ascii hasc ?_
  refine comp_core (s₁ := { s with heap := h1, toks := tk1 }) (g := g) (L := L) (m := m) (us := z.cps.toList.map fun c => ⟨#[c]⟩) (Walks.strAscii Df.hh h1.objs.size z t) hsz (fun i h st => by obtain ⟨o, e, _⟩ := st; exact ⟨o, e⟩)
    (fun i h h' o nw st e1 e2 _ _ _ => by obtain ⟨o', e, r⟩ := st; rw [e1] at e; cases e; exact ⟨o, e2, r⟩) ⟨_, Heap.get?_push_size _ rfl, rfl, rfl⟩ (fun b hb => by rw [List.mem_singleton.mp hb]; exact Nat.lt_succ_self _) I1.F hcell hkind hx (by simp) ?_ ?_
  · intro i v y C oC m₂ s' Q' E' hP hy hC hm hCo _ kk
    obtain ⟨c, u, hc, rfl⟩ := hP
    have hyc : y = ⟨#[c]⟩ := by
      rw [List.getElem?_map, Array.getElem?_toList, hc] at hy
      simpa using hy.symm
    subst hyc
    exact wpAny_Name (wpAny_loadName_local (by simp [compEnvC, relabel, hkind]) (lookup_relabel_local hx) (hC.ns hCo) hm (kk u s'.heap s'.toks (stays_refl _))) hdb
  · intro d ys h' tk' he F' hd hy
    have hall := strs_all (prog := prog) (w := w) (h := h') hy (by
      rw [List.all_map, List.all_eq_true]
      intro c _
      show decide ((⟨#[c]⟩ : Str).length ≤ lenLid) = true
      exact decide_eq_true (show 1 ≤ lenLid by decide))
    rw [hmap] at hall
    refine k d h' tk' (fun b o hb e => he b o hb (st1 b o e)) (I1.ext he F') (mk_list (by simp [charsP]; exact hl) hd hall)

noncomputable def heads : List PV → Option (List Str)
  | [] => some []
  | .seq false (.str y :: _) :: r => (heads r).map (y :: ·)
  | _ :: _ => none
theorem heads_length : ∀ {vs : List PV} {us : List Str}, heads vs = some us → us.length = vs.length
  | [], us, h => by cases h; rfl
  | v :: vs, us, h => by
    unfold heads at h
    split at h
    · cases ‹_ :: _ = []›
    · rename_i e
      cases e
      simp only [Option.map_eq_some_iff] at h
      obtain ⟨r, hr, rfl⟩ := h
      simp [heads_length hr]
    · cases h
theorem heads_at : ∀ {vs : List PV} {us : List Str} {i : Nat} {y : Str}, heads vs = some us → us[i]? = some y → ∃ r, vs[i]? = some (.seq false (.str y :: r))
  | [], us, i, y, h, e => by cases h; simp at e
  | v :: vs, us, i, y, h, e => by
    unfold heads at h
    split at h
    · cases ‹_ :: _ = []›
    · rename_i z r0 r e0
      cases e0
      simp only [Option.map_eq_some_iff] at h
      obtain ⟨rs, hr, rfl⟩ := h
      cases i with
      | zero => simp at e; subst e; exact ⟨r0, rfl⟩
      | succ i => obtain ⟨r', h'⟩ := heads_at (i := i) hr (by simpa using e); exact ⟨r', by simpa using h'⟩
    · cases h

/-- [x[0] for x in a list of tuples of texts] -/
theorem comp_heads {E : Value → Shared → Prop} {iter : Expr} {x : Str} {px px' p0 ps : Pos} {kk : Nat} {scope : Scope} {pos : Pos} {pe : PE} {vs : List PV} {us : List Str} {s : Shared} {m : Str → Option Value} {Q : Value → Shared → Prop} (Df : Def K p loose mean mg mb D A cn cs L a ccd g)
    (hclos : closureFor scope (envX cn cs L a ccd []) = pure []) (hcell : ∀ y ∈ scope.names, y.2 ≠ .cell) (hkind : scope.kind = .function) (hnames : ∀ y ∈ scope.names, y.2 = .local → scope.names.lookup y.1 = some .local) (hx : scope.names.lookup x = some .local) (hdb : (x == ("__debug__" : Str)) = false)
    (hit : EvOk prog w gv ff A cn cs L a ccd g iter pe) (hset : ∀ v, foldedSetIterable iter (envX cn cs L a ccd []) v = pure v) (I : Inv prog w cs ρ g L s.heap m) (hev : pev gv ff ρ pe = some (.seq true vs)) (hnd : nodicts vs = true) (hh : heads vs = some us) (hlen : (us.all fun e => decide (e.length ≤ lenLid)) = true)
    (k : ∀ d h' tk', Heap.ExtBut L s.heap h' → Inv prog w cs ρ g L h' m → Is prog w h' (.seq true (us.map .str)) (.ref d) → Q (.ref d) { s with heap := h', toks := tk' }) :
    wpAny (model prog w) A (eval (.ListComp (.Subscript (.Name x px) (.Constant (.int 0) kk p0) ps) [⟨.Name x px', iter, [], 0⟩] scope pos) (envX cn cs L a ccd [])) Q E s := by
  rw [eval_ListComp]
  refine wpAny_comprehension_free (use := none) rfl hset hclos hkind hnames (hit.ap I hev fun v h1 tk1 st1 x1 => ?_)
  obtain ⟨l, its, rfl, hn, hl, hall⟩ := is_list x1
  have I1 := I.grow st1
  have hlen1 := hall.length
  have hul := heads_length hh
  have hlt : l < h1.objs.size := by obtain ⟨o, e, _⟩ := hl; exact Heap.lt_size e
  refine wpAny_pyIter_list hl ?_
  have hlistAt : ∀ (h' : Heap) (nw : List (Addr × Obj)), (∀ b o, g.get? b = some o → h'.get? b = some o) → News g L h' nw → (∀ p ∈ ledger g h1 L, p ∈ nw) → h'.IsList l its.toArray := by
    intro h' nw hk N hS
    obtain ⟨o, e, r⟩ := hl
    have hne : l ≠ L := by
      intro q; subst q
      obtain ⟨c, n, dd⟩ := r
      obtain ⟨oL, es, ep, eL, dL, _⟩ := I1.F.ns
      rw [e] at eL; cases eL
      rw [dd] at dL; cases dL
    cases hg : g.get? l with
    | some o' =>
      have := I1.F.keep _ _ hg
      rw [e] at this; cases this
      exact ⟨o, hk _ _ hg, r⟩
    | none => exact ⟨o, (N _ (hS (l, o) (ledger_mem.mpr ⟨hne, hg, e⟩))).1, r⟩
  refine comp_core (s₁ := { s with heap := h1, toks := tk1 }) (g := g) (L := L) (m := m) (us := us) (Walks.list Df.hh h1.objs.size l (Nat.ne_of_lt hlt) its.toArray) (by rw [List.size_toArray, hlen1]; exact Nat.le_trans hn lenLid_le) (fun i h st => by obtain ⟨o, e, _⟩ := st.1; exact ⟨o, e⟩)
    (fun i h h' o nw st e1 e2 hk N hS => ⟨by obtain ⟨o', e, r⟩ := st.1; rw [e1] at e; cases e; exact ⟨o, e2, r⟩, hlistAt h' nw hk N hS⟩) ⟨⟨_, Heap.get?_push_size _ rfl, rfl, rfl⟩, hl.push _⟩ (fun b hb => by
        rcases List.mem_cons.mp hb with rfl | hb
        · exact Nat.lt_succ_self _
        · rw [List.mem_singleton.mp hb]; exact Nat.lt_succ_of_lt hlt) I1.F hcell hkind hx (by rw [hul, List.size_toArray, hlen1]) ?_ ?_
  · intro i v y C oC m₂ s' Q' E' hP hy hC hm hCo hext kk
    obtain ⟨r, hr⟩ := heads_at hh hy
    obtain ⟨v', hv', hiv⟩ := IsAll.at hall hr
    have : v = v' := by
      have hP' : its[i]? = some v := by simpa using hP
      rw [hv'] at hP'; exact (Option.some.inj hP').symm
    subst this
    have hnd' : ∀ {vs : List PV} {i : Nat} {q : PV}, nodicts vs = true → vs[i]? = some q → q.nodict = true := by
      intro vs
      induction vs with
      | nil => intro i q _ e; simp at e
      | cons a vs ih =>
        intro i q hd e
        simp only [nodicts, Bool.and_eq_true] at hd
        cases i with
        | zero => simp at e; subst e; exact hd.1
        | succ i => exact ih hd.2 (by simpa using e)
    have hi2 : Is prog w s'.heap (.seq false (.str y :: r)) v := hiv.seqKeep (ExtBut.seqKeep I1.F.ns hext) (hnd' hnd hr)
    refine Subscript_ (wpAny_Name (wpAny_loadName_local (by simp [compEnvC, relabel, hkind]) (lookup_relabel_local hx) (hC.ns hCo) hm (wpAny_Constant_int ?_)) hdb)
    refine idx_leaf (s := { s' with toks := s'.toks + 1 }) rfl (x := .seq false (.str y :: r)) (y := .int 0) (r := .str y) (by simp [pidx]) hi2 mk_int fun u h' tk' st hu => ?_
    obtain ⟨_, t, rfl⟩ := is_str hu
    exact kk t h' tk' st
  · intro d ys h' tk' he F' hd hy
    exact k d h' tk' (fun b o hb e => he b o hb (st1 b o e)) (I1.ext he F') (mk_list (by rw [List.length_map, hul]; exact hn) hd (strs_all hy hlen))

theorem IsAll.append {h : Heap} : ∀ {ps qs : List PV} {vs us : List Value}, IsAll prog w h ps vs → IsAll prog w h qs us → IsAll prog w h (ps ++ qs) (vs ++ us)
  | [], qs, vs, us, x, y => by simp only [IsAll] at x; subst x; exact y
  | p :: ps, qs, vs, us, x, y => by
    simp only [IsAll] at x
    obtain ⟨v, r, rfl, a, b⟩ := x
    simp only [List.cons_append, IsAll]
    exact ⟨v, _, rfl, a, b.append y⟩

theorem add_lists_leaf {ps qs : List PV} {u v : Value} {s : Shared} {m : Str → Option Value} {Q E : Value → Shared → Prop} (hl : ps.length + qs.length ≤ lenLid) (F : Fr g L s.heap m) (hx : Is prog w s.heap (.seq true ps) u) (hy : Is prog w s.heap (.seq true qs) v)
    (k : ∀ d h', Heap.ExtBut L s.heap h' → Fr g L h' m → Is prog w h' (.seq true (ps ++ qs)) (.ref d) → Q (.ref d) { s with heap := h' }) (hnd : nodicts (ps ++ qs) = true) : wpAny (model prog w) A (binaryOp .Add u v) Q E s := by
  obtain ⟨l, vs, rfl, h1, hv, ha⟩ := is_list hx
  obtain ⟨b, us, rfl, h2, hu, hb⟩ := is_list hy
  have e1 := ha.length
  have e2 := hb.length
  refine add_arrays F ledger_news hv hu (fun h' F' N' => ?_) (by rw [List.size_toArray, List.size_toArray, e1, e2]; exact Nat.le_trans hl lenLid_le)
  have he : Heap.ExtBut L s.heap h' := ledger_ext F F' N' fun q hq => List.mem_cons_of_mem _ hq
  refine k _ h' he F' (mk_list (vs := vs ++ us) (by rw [List.length_append]; exact hl) ⟨_, (N' (_, _) List.mem_cons_self).1, rfl, 0, by simp⟩ ?_)
  exact (ha.append hb).seqKeep (ExtBut.seqKeep F.ns he) hnd
end
end Mine
end
section
open PySem PySem.W PySem.Calls PySem.Spec PyProof.Rows
namespace Mine

/-- a text by its signs from behind -/
noncomputable def ofRev (r : List Nat) : Str := ⟨r.reverse.toArray⟩
noncomputable abbrev ch (a : Nat) : Str := ⟨#[a]⟩
theorem ofRev_len (r : List Nat) : (ofRev r).length = r.length := by simp [ofRev, Str.length]
theorem ofRev_list (r : List Nat) : (ofRev r).cps.toList = r.reverse := by simp [ofRev]
theorem str_ext {x y : Str} (h : x.cps.toList = y.cps.toList) : x = y := by
  cases x; cases y; congr 1; exact Array.toList_inj.mp h
theorem exists_rev (x : Str) : ∃ r, x = ofRev r := ⟨x.cps.toList.reverse, str_ext (by simp [ofRev])⟩
theorem ofRev_inj {r s : List Nat} (h : ofRev r = ofRev s) : r = s := by
  have := congrArg (fun x : Str => x.cps.toList.reverse) h
  simpa [ofRev] using this
theorem ofRev_beq (r s : List Nat) : (ofRev r == ofRev s) = (r == s) := by
  cases h : r == s with
  | true => rw [eq_of_beq h]; simp
  | false =>
    rw [beq_eq_false_iff_ne] at h ⊢
    exact fun e => h (ofRev_inj e)
theorem ch_rev (a : Nat) : ch a = ofRev [a] := rfl
theorem ch_beq (a b : Nat) : (ch a == ch b) = (a == b) := by
  rw [ch_rev, ch_rev, ofRev_beq]
  cases h : a == b with
  | true => rw [eq_of_beq h]; simp
  | false => rw [beq_eq_false_iff_ne] at h ⊢; simpa using h

theorem range_pick {α : Type} (l : List α) (s : Nat) : ∀ k : Nat, ((List.range k).filterMap fun i => l[s + i]?) = (l.drop s).take k
  | 0 => by simp
  | k + 1 => by
    rw [List.range_succ, List.filterMap_append, range_pick l s k, List.take_add_one, List.getElem?_drop]
    simp only [List.filterMap_cons, List.filterMap_nil]
    cases l[s + k]? <;> rfl

noncomputable def clipN (i : Int) (n : Nat) : Nat := (max 0 (min (if i < 0 then i + n else i) (n : Int))).toNat
theorem clipN_le (i : Int) (n : Nat) : clipN i n ≤ n := by unfold clipN; omega

theorem sliceIx (a b : Nat) (hb : a ≤ b) : sliceRange (a : Int) (b : Int) 1 = (List.range (b - a)).map fun k => a + k := by
  unfold sliceRange
  have e : (if (1 : Int) > 0 then (if (a : Int) < b then ((b : Int) - a + 1 - 1) / 1 else 0) else (if (a : Int) > b then ((a : Int) - b - 1 - 1) / (-1) else 0)).toNat = b - a := by
    rw [if_pos (by decide), Int.ediv_one]
    split <;> omega
  show ((List.range (if (1 : Int) > 0 then (if (a : Int) < b then ((b : Int) - a + 1 - 1) / 1 else 0) else (if (a : Int) > b then ((a : Int) - b - 1 - 1) / (-1) else 0)).toNat).map fun (k : Nat) => ((a : Int) + 1 * (k : Int)).toNat) = _
  rw [e]
  apply List.map_congr_left
  intro k _
  omega

theorem slice_ix (x : Str) (a b : Nat) (hab : a ≤ b) (hb : b ≤ x.length) {l u : Option Int} (h : Builtin.Str.strSliceIndices l u 1 x.length = sliceRange (a : Int) (b : Int) 1) : (Txt.slice x l u).cps.toList = (x.cps.toList.drop a).take (b - a) := by
  have hx : x.cps.toList.length = x.length := by simp [Str.length]
  unfold Txt.slice
  rw [h, sliceIx a b hab]
  split
  · rename_i hc
    have hl : b - a = x.length := by simpa using hc
    have ha : a = 0 ∨ x.length = 0 := by omega
    rcases ha with rfl | h0
    · rw [List.drop_zero, List.take_of_length_le (by omega)]
    · have : x.cps.toList = [] := List.length_eq_zero_iff.mp (by omega)
      simp [this]
  · rw [List.toList_toArray, List.filterMap_map]
    have e : ((fun i => x.cps[i]?) ∘ fun k => a + k) = fun k => x.cps.toList[a + k]? := by funext k; simp
    rw [e, range_pick]

theorem clip_cast (i : Int) (n : Nat) : max 0 (min (if i < 0 then i + n else i) (n : Int)) = (clipN i n : Int) := by unfold clipN; omega
theorem slice_from (x : Str) (i : Int) : (Txt.slice x (some i) none).cps.toList = x.cps.toList.drop (clipN i x.length) := by
  rw [slice_ix x (clipN i x.length) x.length (clipN_le _ _) (Nat.le_refl _) (by
    unfold Builtin.Str.strSliceIndices
    simp only [show (1 : Int) > 0 by decide, if_true]
    rw [clip_cast])]
  exact List.take_of_length_le (by simp [Str.length])
theorem slice_to (x : Str) (i : Int) : (Txt.slice x none (some i)).cps.toList = x.cps.toList.take (clipN i x.length) := by
  rw [slice_ix x 0 (clipN i x.length) (Nat.zero_le _) (clipN_le _ _) (by
    unfold Builtin.Str.strSliceIndices
    simp only [show (1 : Int) > 0 by decide, if_true]
    rw [clip_cast]; rfl)]
  simp

theorem slice_from_rev (r : List Nat) (i : Int) : Txt.slice (ofRev r) (some i) none = ofRev (r.take (r.length - clipN i r.length)) := by
  apply str_ext
  rw [slice_from, ofRev_list, ofRev_list, ofRev_len, List.drop_reverse]
theorem slice_to_rev (r : List Nat) (i : Int) : Txt.slice (ofRev r) none (some i) = ofRev (r.drop (r.length - clipN i r.length)) := by
  apply str_ext
  rw [slice_to, ofRev_list, ofRev_list, ofRev_len, List.take_reverse]

theorem charAt_neg (r : List Nat) (j : Nat) (h1 : 1 ≤ j) (h2 : j ≤ r.length) : Txt.charAt (ofRev r) (-(j : Int)) = r[j - 1]? := by
  unfold Txt.charAt seqIndex?
  rw [ofRev_len]
  have e : (if (-(j : Int)) < 0 then -(j : Int) + (r.length : Int) else -(j : Int)) = ((r.length - j : Nat) : Int) := by rw [if_pos (by omega)]; omega
  simp only [e]
  have c : (decide ((0 : Int) ≤ ((r.length - j : Nat) : Int)) && decide (((r.length - j : Nat) : Int) < (r.length : Int))) = true := by
    rw [Bool.and_eq_true, decide_eq_true_eq, decide_eq_true_eq]; omega
  rw [if_pos c]
  simp only [Option.bind_some, Int.toNat_natCast]
  unfold ofRev
  rw [List.getElem?_toArray, List.getElem?_reverse (by omega)]
  congr 1; omega
theorem charAt_pos (r : List Nat) (j : Nat) (h2 : j < r.length) : Txt.charAt (ofRev r) (j : Int) = r[r.length - 1 - j]? := by
  unfold Txt.charAt seqIndex?
  rw [ofRev_len]
  have e : (if ((j : Int)) < 0 then (j : Int) + (r.length : Int) else (j : Int)) = (j : Int) := by rw [if_neg (by omega)]
  simp only [e]
  have c : (decide ((0 : Int) ≤ (j : Int)) && decide ((j : Int) < (r.length : Int))) = true := by
    rw [Bool.and_eq_true, decide_eq_true_eq, decide_eq_true_eq]; omega
  rw [if_pos c]
  simp only [Option.bind_some, Int.toNat_natCast]
  unfold ofRev
  rw [List.getElem?_toArray, List.getElem?_reverse (by omega)]
theorem item_neg (r : List Nat) (j : Nat) (h1 : 1 ≤ j) (h2 : j ≤ r.length) : Txt.item (ofRev r) (-(j : Int)) = ch ((r[j - 1]?).getD 0) := by
  unfold Txt.item; rw [charAt_neg r j h1 h2]
theorem item_pos (r : List Nat) (j : Nat) (h2 : j < r.length) : Txt.item (ofRev r) (j : Int) = ch ((r[r.length - 1 - j]?).getD 0) := by
  unfold Txt.item; rw [charAt_pos r j h2]
theorem item_last (a : Nat) (r : List Nat) : Txt.item (ofRev (a :: r)) (-1) = ch a := item_neg (a :: r) 1 (by omega) (by simp)
theorem item_2 (a b : Nat) (r : List Nat) : Txt.item (ofRev (a :: b :: r)) (-2) = ch b := item_neg (a :: b :: r) 2 (by omega) (by simp)
theorem item_3 (a b c : Nat) (r : List Nat) : Txt.item (ofRev (a :: b :: c :: r)) (-3) = ch c := item_neg (a :: b :: c :: r) 3 (by omega) (by simp)

/-- an ending and a text from behind; 63 stands for any sign -/
noncomputable def matchR : List Nat → List Nat → Bool
  | [], _ => true
  | _ :: _, [] => false
  | q :: p, a :: r => (q == 63 || q == a) && matchR p r
theorem matchR_iff : ∀ (p r : List Nat), matchR p r = true ↔ p.length ≤ r.length ∧ ∀ j, j < p.length → p[j]? = some 63 ∨ p[j]? = r[j]?
  | [], r => by simp [matchR]
  | q :: p, [] => by simp [matchR]
  | q :: p, a :: r => by
    simp only [matchR, Bool.and_eq_true, Bool.or_eq_true, beq_iff_eq, matchR_iff p r, List.length_cons]
    constructor
    · rintro ⟨h1, h2, h3⟩
      refine ⟨by omega, fun j hj => ?_⟩
      cases j with
      | zero => simpa using h1
      | succ j => simpa using h3 j (by omega)
    · rintro ⟨h1, h2⟩
      refine ⟨by simpa using h2 0 (by omega), by omega, fun j hj => by simpa using h2 (j + 1) (by omega)⟩

/-- a text from behind begins so -/
noncomputable def preR : List Nat → List Nat → Bool
  | [], _ => true
  | _ :: _, [] => false
  | q :: p, a :: r => (q == a) && preR p r
theorem preR_iff : ∀ (p r : List Nat), preR p r = true ↔ r.take p.length = p
  | [], r => by simp [preR]
  | q :: p, [] => by simp [preR]
  | q :: p, a :: r => by
    simp only [preR, Bool.and_eq_true, beq_iff_eq, preR_iff p r, List.length_cons, List.take_succ_cons, List.cons.injEq]
    exact ⟨fun h => ⟨h.1.symm, h.2⟩, fun h => ⟨h.1.symm, h.2⟩⟩
theorem subAt_iff (x y : Str) (i : Nat) : Builtin.Str.subAt x y i = ((x.cps.toList.drop i).take y.length == y.cps.toList) := by
  unfold Builtin.Str.subAt
  have e : (x.cps.extract i (i + y.length)).toList = (x.cps.toList.drop i).take y.length := by
    rw [Array.toList_extract]
    simp [List.extract_eq_take_drop]
  rw [← e]
  cases h : x.cps.extract i (i + y.length) == y.cps with
  | true => rw [eq_of_beq h]; simp
  | false =>
    rw [beq_eq_false_iff_ne] at h
    symm
    rw [beq_eq_false_iff_ne]
    exact fun q => h (Array.toList_inj.mp q)
theorem endswith_rev (r p : List Nat) : Txt.endswith (ofRev r) (ofRev p) = preR p r := by
  unfold Txt.endswith
  rw [subAt_iff, ofRev_len, ofRev_len, ofRev_list, ofRev_list]
  by_cases h : p.length ≤ r.length
  · rw [decide_eq_true (show 0 + p.length ≤ r.length by omega), Bool.true_and, List.drop_reverse, List.take_of_length_le (by simp; omega)]
    have e2 : r.length - (r.length - p.length) = p.length := by omega
    rw [e2]
    cases hp : preR p r with
    | true => rw [(preR_iff p r).mp hp]; simp
    | false =>
      rw [beq_eq_false_iff_ne]
      intro e
      have : r.take p.length = p := by simpa using congrArg List.reverse e
      rw [(preR_iff p r).mpr this] at hp; cases hp
  · rw [decide_eq_false (show ¬ 0 + p.length ≤ r.length by omega), Bool.false_and]
    cases hp : preR p r with
    | false => rfl
    | true =>
      have := congrArg List.length ((preR_iff p r).mp hp)
      rw [List.length_take] at this; omega
theorem add_rev (r p : List Nat) : ofRev r ++ ofRev p = ofRev (p ++ r) := by
  apply str_ext
  show ((ofRev r).cps ++ (ofRev p).cps).toList = _
  rw [Array.toList_append, ofRev_list, ofRev_list, ofRev_list, List.reverse_append]
theorem contains_ch (x : Str) (c : Nat) : Txt.contains x (ch c) = decide (c ∈ x.cps.toList) := StrLaws.found_one x c
end Mine
end
section
open PySem PySem.W PyProof.Rows
namespace Mine
noncomputable abbrev R := PySem.Challenge.rw_iv0078_01

theorem nrs_all (lk : Look) : ∀ l : List Stmt, noRoadLSs lk l = l.all (noRoadLS lk)
  | [] => by unfold noRoadLSs; rfl
  | s :: r => by rw [noRoadLSs, nrs_all lk r, List.all_cons]

theorem nrs_cut {lk : Look} {l : List Stmt} (n : Nat) (h1 : noRoadLSs lk (l.take n) = true) (h2 : noRoadLSs lk (l.drop n) = true) : noRoadLSs lk l = true := by
  rw [nrs_all] at *
  rw [← List.take_append_drop n l, List.all_append, h1, h2]; rfl

theorem nrs_cut' {lk : Look} {l : List Stmt} (n k : Nat) (h1 : noRoadLSs lk ((l.drop n).take k) = true) (h2 : noRoadLSs lk (l.drop (n + k)) = true) : noRoadLSs lk (l.drop n) = true := by
  rw [nrs_all] at *
  rw [← List.take_append_drop k (l.drop n), List.all_append, h1, List.drop_drop, h2]; rfl

/-- a sign that no name of the kit's lists and no road bears -/
noncomputable def quietCp (c : Nat) : Bool := c != 95 && c != 46 && c != 123 && c != 125
theorem frames_95 : frameAttrs.all (fun n => n.cps.toList.any (· == 95)) = true := by decide +kernel
theorem word_ok {lk : Look} (hb : lk.but = none) (hs : lk.strict = true → ((["__dict__", "__getstate__", "__getattribute__", "__reduce__", "__reduce_ex__"] : List Str).all (fun n => n.cps.toList.any (· == 95))) = true)
    (hf : ((["__setattr__", "__delattr__", "__getattr__", "__getattribute__", "__call__", "__new__", "__prepare__", "__objclass__"] : List Str).all (fun n => n.cps.toList.any (· == 95))) = true)
    {x : Str} (h : x.cps.toList.all (fun c => c != 95) = true) : lk.word x = true := by
  have no : ∀ {l : List Str}, l.all (fun n => n.cps.toList.any (· == 95)) = true → l.contains x = false := by
    intro l hl
    rw [Bool.eq_false_iff]
    intro hc
    have hx := List.all_eq_true.mp hl x (List.contains_iff_mem.mp hc)
    obtain ⟨c, hc1, hc2⟩ := List.any_eq_true.mp hx
    have := List.all_eq_true.mp h c hc1
    simp_all
  have ha : attrL x = true := by
    unfold attrL
    rw [no frames_95]
    have ho : x.opensWith "__" = false := by
      rw [Bool.eq_false_iff]
      intro hc
      have e : x.cps.extract 0 2 = #[95, 95] := by
        have := eq_of_beq hc
        exact this.trans (by decide +kernel)
      have e2 : (x.cps.extract 0 2).toList = [95, 95] := by rw [e]
      rw [Array.toList_extract, List.extract_eq_drop_take] at e2
      have m : (95 : Nat) ∈ x.cps.toList := by
        have m1 : (95 : Nat) ∈ (x.cps.toList.drop 0).take (2 - 0) := by rw [e2]; simp
        exact List.mem_of_mem_drop (List.mem_of_mem_take m1)
      have := List.all_eq_true.mp h 95 m
      simp at this
    rw [ho]; rfl
  unfold Look.word
  rw [ha, hb, no hf]
  have e3 : (lk.strict && ((["__dict__", "__getstate__", "__getattribute__", "__reduce__", "__reduce_ex__"] : List Str).contains x)) = false := by
    cases hl : lk.strict with
    | false => rfl
    | true => rw [no (hs hl)]; rfl
  rw [e3]
  simp
theorem str_ok {lk : Look} (hb : lk.but = none) {l : List Nat} (h : l.all quietCp = true) : lk.str ⟨⟨l⟩⟩ = true := by
  have h95 : (⟨⟨l⟩⟩ : Str).cps.toList.all (fun c => c != 95) = true := by
    refine List.all_eq_true.mpr fun c hc => ?_
    have := List.all_eq_true.mp h c hc
    unfold quietCp at this
    simp only [Bool.and_eq_true] at this
    exact this.1.1.1
  have hw : lk.word ⟨⟨l⟩⟩ = true := word_ok hb (fun _ => by decide +kernel) (by decide +kernel) h95
  have hr : roadStr ⟨⟨l⟩⟩ = false := by
    unfold roadStr
    have e1 : (Array.mk l).any (fun c => c == 123 || c == 125) = false := by
      rw [Bool.eq_false_iff]; intro hc
      rw [Array.any_eq_true'] at hc
      obtain ⟨c, hc, hq⟩ := hc
      have := List.all_eq_true.mp h c (Array.mem_toList_iff.mpr hc)
      unfold quietCp at this
      simp_all
    have e2 : (Array.mk l).any (fun c => c == 46) = false := by
      rw [Bool.eq_false_iff]; intro hc
      rw [Array.any_eq_true'] at hc
      obtain ⟨c, hc, hq⟩ := hc
      have := List.all_eq_true.mp h c (Array.mem_toList_iff.mpr hc)
      unfold quietCp at this
      simp_all
    show ((Array.mk l).any _ || ((Array.mk l).any _ && _)) = false
    rw [e1, e2]; rfl
  unfold Look.str
  rw [hw, hr]; simp

noncomputable abbrev atomIs (s : String) (l : List Nat) : Prop := Str.ofString s = ⟨⟨l⟩⟩
theorem atom_is (cs : List Char) : atomIs (String.ofList cs) (cs.map Char.toNat) := Fast.ofString_ofList cs
noncomputable def gl0 : List Nat := [32]
theorem ga0 : Str.ofString " " = ⟨⟨gl0⟩⟩ := Fast.ofString_ofList [Char.ofNat 32]
theorem gq0 : gl0.all quietCp = true := by decide +kernel
noncomputable def gl1 : List Nat := [32, 97, 58, 65, 32, 101, 58, 65, 32, 105, 58, 65, 32, 111, 58, 65, 32, 115, 58, 87, 32, 121, 58, 66, 32]
theorem ga1 : Str.ofString " a:A e:A i:A o:A s:W y:B " = ⟨⟨gl1⟩⟩ := Fast.ofString_ofList [Char.ofNat 32, Char.ofNat 97, Char.ofNat 58, Char.ofNat 65, Char.ofNat 32, Char.ofNat 101, Char.ofNat 58, Char.ofNat 65, Char.ofNat 32, Char.ofNat 105, Char.ofNat 58, Char.ofNat 65, Char.ofNat 32, Char.ofNat 111, Char.ofNat 58, Char.ofNat 65, Char.ofNat 32, Char.ofNat 115, Char.ofNat 58, Char.ofNat 87, Char.ofNat 32, Char.ofNat 121, Char.ofNat 58, Char.ofNat 66, Char.ofNat 32]
theorem gq1 : gl1.all quietCp = true := by decide +kernel
noncomputable def gl2 : List Nat := [32, 97, 101, 58, 65, 32, 97, 108, 58, 98, 32, 97, 114, 58, 88, 32, 97, 115, 58, 66, 32, 101, 100, 58, 69, 32, 101, 110, 58, 70, 32, 101, 115, 58, 69, 32, 105, 97, 58, 65, 32, 105, 99, 58, 65, 32, 105, 115, 58, 65, 32, 108, 121, 58, 66, 32, 111, 110, 58, 83, 32, 111, 114, 58, 84, 32, 117, 109, 58, 85, 32, 117, 115, 58, 86, 32, 121, 108, 58, 82, 32, 115, 39, 58, 65, 32, 39, 115, 58, 65, 32]
theorem ga2 : Str.ofString " ae:A al:b ar:X as:B ed:E en:F es:E ia:A ic:A is:A ly:B on:S or:T um:U us:V yl:R s':A 's:A " = ⟨⟨gl2⟩⟩ := Fast.ofString_ofList [Char.ofNat 32, Char.ofNat 97, Char.ofNat 101, Char.ofNat 58, Char.ofNat 65, Char.ofNat 32, Char.ofNat 97, Char.ofNat 108, Char.ofNat 58, Char.ofNat 98, Char.ofNat 32, Char.ofNat 97, Char.ofNat 114, Char.ofNat 58, Char.ofNat 88, Char.ofNat 32, Char.ofNat 97, Char.ofNat 115, Char.ofNat 58, Char.ofNat 66, Char.ofNat 32, Char.ofNat 101, Char.ofNat 100, Char.ofNat 58, Char.ofNat 69, Char.ofNat 32, Char.ofNat 101, Char.ofNat 110, Char.ofNat 58, Char.ofNat 70, Char.ofNat 32, Char.ofNat 101, Char.ofNat 115, Char.ofNat 58, Char.ofNat 69, Char.ofNat 32, Char.ofNat 105, Char.ofNat 97, Char.ofNat 58, Char.ofNat 65, Char.ofNat 32, Char.ofNat 105, Char.ofNat 99, Char.ofNat 58, Char.ofNat 65, Char.ofNat 32, Char.ofNat 105, Char.ofNat 115, Char.ofNat 58, Char.ofNat 65, Char.ofNat 32, Char.ofNat 108, Char.ofNat 121, Char.ofNat 58, Char.ofNat 66, Char.ofNat 32, Char.ofNat 111, Char.ofNat 110, Char.ofNat 58, Char.ofNat 83, Char.ofNat 32, Char.ofNat 111, Char.ofNat 114, Char.ofNat 58, Char.ofNat 84, Char.ofNat 32, Char.ofNat 117, Char.ofNat 109, Char.ofNat 58, Char.ofNat 85, Char.ofNat 32, Char.ofNat 117, Char.ofNat 115, Char.ofNat 58, Char.ofNat 86, Char.ofNat 32, Char.ofNat 121, Char.ofNat 108, Char.ofNat 58, Char.ofNat 82, Char.ofNat 32, Char.ofNat 115, Char.ofNat 39, Char.ofNat 58, Char.ofNat 65, Char.ofNat 32, Char.ofNat 39, Char.ofNat 115, Char.ofNat 58, Char.ofNat 65, Char.ofNat 32]
theorem gq2 : gl2.all quietCp = true := by decide +kernel
noncomputable def gl3 : List Nat := [32, 97, 99, 121, 58, 65, 32, 97, 103, 101, 58, 66, 32, 97, 105, 99, 58, 65, 32, 97, 108, 115, 58, 98, 32, 97, 110, 116, 58, 66, 32, 97, 114, 115, 58, 79, 32, 97, 114, 121, 58, 70, 32, 97, 116, 97, 58, 65, 32, 97, 116, 101, 58, 65, 32, 101, 97, 108, 58, 89, 32, 101, 97, 114, 58, 89, 32, 101, 108, 121, 58, 69, 32, 101, 110, 101, 58, 69, 32, 101, 110, 116, 58, 67, 32, 101, 114, 121, 58, 69, 32, 101, 115, 101, 58, 65, 32, 102, 117, 108, 58, 65, 32, 105, 97, 108, 58, 65, 32, 105, 97, 110, 58, 65, 32, 105, 99, 115, 58, 65, 32, 105, 100, 101, 58, 76, 32, 105, 101, 100, 58, 65, 32, 105, 101, 114, 58, 65, 32, 105, 101, 115, 58, 80, 32, 105, 108, 121, 58, 65, 32, 105, 110, 101, 58, 77, 32, 105, 110, 103, 58, 78, 32, 105, 111, 110, 58, 81, 32, 105, 115, 104, 58, 67, 32, 105, 115, 109, 58, 66, 32, 105, 115, 116, 58, 65, 32, 105, 116, 101, 58, 97, 32, 105, 116, 121, 58, 65, 32, 105, 117, 109, 58, 65, 32, 105, 118, 101, 58, 65, 32, 105, 122, 101, 58, 70, 32, 111, 105, 100, 58, 65, 32, 111, 110, 101, 58, 82, 32, 111, 117, 115, 58, 65, 32]
theorem ga3 : Str.ofString " acy:A age:B aic:A als:b ant:B ars:O ary:F ata:A ate:A eal:Y ear:Y ely:E ene:E ent:C ery:E ese:A ful:A ial:A ian:A ics:A ide:L ied:A ier:A ies:P ily:A ine:M ing:N ion:Q ish:C ism:B ist:A ite:a ity:A ium:A ive:A ize:F oid:A one:R ous:A " = ⟨⟨gl3⟩⟩ := Fast.ofString_ofList [Char.ofNat 32, Char.ofNat 97, Char.ofNat 99, Char.ofNat 121, Char.ofNat 58, Char.ofNat 65, Char.ofNat 32, Char.ofNat 97, Char.ofNat 103, Char.ofNat 101, Char.ofNat 58, Char.ofNat 66, Char.ofNat 32, Char.ofNat 97, Char.ofNat 105, Char.ofNat 99, Char.ofNat 58, Char.ofNat 65, Char.ofNat 32, Char.ofNat 97, Char.ofNat 108, Char.ofNat 115, Char.ofNat 58, Char.ofNat 98, Char.ofNat 32, Char.ofNat 97, Char.ofNat 110, Char.ofNat 116, Char.ofNat 58, Char.ofNat 66, Char.ofNat 32, Char.ofNat 97, Char.ofNat 114, Char.ofNat 115, Char.ofNat 58, Char.ofNat 79, Char.ofNat 32, Char.ofNat 97, Char.ofNat 114, Char.ofNat 121, Char.ofNat 58, Char.ofNat 70, Char.ofNat 32, Char.ofNat 97, Char.ofNat 116, Char.ofNat 97, Char.ofNat 58, Char.ofNat 65, Char.ofNat 32, Char.ofNat 97, Char.ofNat 116, Char.ofNat 101, Char.ofNat 58, Char.ofNat 65, Char.ofNat 32, Char.ofNat 101, Char.ofNat 97, Char.ofNat 108, Char.ofNat 58, Char.ofNat 89, Char.ofNat 32, Char.ofNat 101, Char.ofNat 97, Char.ofNat 114, Char.ofNat 58, Char.ofNat 89, Char.ofNat 32, Char.ofNat 101, Char.ofNat 108, Char.ofNat 121, Char.ofNat 58, Char.ofNat 69, Char.ofNat 32, Char.ofNat 101, Char.ofNat 110, Char.ofNat 101, Char.ofNat 58, Char.ofNat 69, Char.ofNat 32, Char.ofNat 101, Char.ofNat 110, Char.ofNat 116, Char.ofNat 58, Char.ofNat 67, Char.ofNat 32, Char.ofNat 101, Char.ofNat 114, Char.ofNat 121, Char.ofNat 58, Char.ofNat 69, Char.ofNat 32, Char.ofNat 101, Char.ofNat 115, Char.ofNat 101, Char.ofNat 58, Char.ofNat 65, Char.ofNat 32, Char.ofNat 102, Char.ofNat 117, Char.ofNat 108, Char.ofNat 58, Char.ofNat 65, Char.ofNat 32, Char.ofNat 105, Char.ofNat 97, Char.ofNat 108, Char.ofNat 58, Char.ofNat 65, Char.ofNat 32, Char.ofNat 105, Char.ofNat 97, Char.ofNat 110, Char.ofNat 58, Char.ofNat 65, Char.ofNat 32, Char.ofNat 105, Char.ofNat 99, Char.ofNat 115, Char.ofNat 58, Char.ofNat 65, Char.ofNat 32, Char.ofNat 105, Char.ofNat 100, Char.ofNat 101, Char.ofNat 58, Char.ofNat 76, Char.ofNat 32, Char.ofNat 105, Char.ofNat 101, Char.ofNat 100, Char.ofNat 58, Char.ofNat 65, Char.ofNat 32, Char.ofNat 105, Char.ofNat 101, Char.ofNat 114, Char.ofNat 58, Char.ofNat 65, Char.ofNat 32, Char.ofNat 105, Char.ofNat 101, Char.ofNat 115, Char.ofNat 58, Char.ofNat 80, Char.ofNat 32, Char.ofNat 105, Char.ofNat 108, Char.ofNat 121, Char.ofNat 58, Char.ofNat 65, Char.ofNat 32, Char.ofNat 105, Char.ofNat 110, Char.ofNat 101, Char.ofNat 58, Char.ofNat 77, Char.ofNat 32, Char.ofNat 105, Char.ofNat 110, Char.ofNat 103, Char.ofNat 58, Char.ofNat 78, Char.ofNat 32, Char.ofNat 105, Char.ofNat 111, Char.ofNat 110, Char.ofNat 58, Char.ofNat 81, Char.ofNat 32, Char.ofNat 105, Char.ofNat 115, Char.ofNat 104, Char.ofNat 58, Char.ofNat 67, Char.ofNat 32, Char.ofNat 105, Char.ofNat 115, Char.ofNat 109, Char.ofNat 58, Char.ofNat 66, Char.ofNat 32, Char.ofNat 105, Char.ofNat 115, Char.ofNat 116, Char.ofNat 58, Char.ofNat 65, Char.ofNat 32, Char.ofNat 105, Char.ofNat 116, Char.ofNat 101, Char.ofNat 58, Char.ofNat 97, Char.ofNat 32, Char.ofNat 105, Char.ofNat 116, Char.ofNat 121, Char.ofNat 58, Char.ofNat 65, Char.ofNat 32, Char.ofNat 105, Char.ofNat 117, Char.ofNat 109, Char.ofNat 58, Char.ofNat 65, Char.ofNat 32, Char.ofNat 105, Char.ofNat 118, Char.ofNat 101, Char.ofNat 58, Char.ofNat 65, Char.ofNat 32, Char.ofNat 105, Char.ofNat 122, Char.ofNat 101, Char.ofNat 58, Char.ofNat 70, Char.ofNat 32, Char.ofNat 111, Char.ofNat 105, Char.ofNat 100, Char.ofNat 58, Char.ofNat 65, Char.ofNat 32, Char.ofNat 111, Char.ofNat 110, Char.ofNat 101, Char.ofNat 58, Char.ofNat 82, Char.ofNat 32, Char.ofNat 111, Char.ofNat 117, Char.ofNat 115, Char.ofNat 58, Char.ofNat 65, Char.ofNat 32]
theorem gq3 : gl3.all quietCp = true := by decide +kernel
noncomputable def gl4 : List Nat := [32, 97, 98, 108, 101, 58, 65, 32, 97, 98, 108, 121, 58, 65, 32, 97, 103, 101, 115, 58, 66, 32, 97, 108, 108, 121, 58, 66, 32, 97, 110, 99, 101, 58, 66, 32, 97, 110, 99, 121, 58, 66, 32, 97, 110, 116, 115, 58, 66, 32, 97, 114, 105, 99, 58, 65, 32, 97, 114, 108, 121, 58, 75, 32, 97, 116, 101, 100, 58, 73, 32, 97, 116, 101, 115, 58, 65, 32, 97, 116, 105, 99, 58, 66, 32, 97, 116, 111, 114, 58, 65, 32, 101, 97, 108, 121, 58, 89, 32, 101, 100, 108, 121, 58, 69, 32, 101, 102, 117, 108, 58, 65, 32, 101, 105, 116, 121, 58, 65, 32, 101, 110, 99, 101, 58, 65, 32, 101, 110, 99, 121, 58, 65, 32, 101, 110, 101, 100, 58, 69, 32, 101, 110, 108, 121, 58, 69, 32, 101, 111, 117, 115, 58, 65, 32, 104, 111, 111, 100, 58, 65, 32, 105, 97, 108, 115, 58, 65, 32, 105, 97, 110, 115, 58, 65, 32, 105, 98, 108, 101, 58, 65, 32, 105, 98, 108, 121, 58, 65, 32, 105, 99, 97, 108, 58, 65, 32, 105, 100, 101, 115, 58, 76, 32, 105, 101, 114, 115, 58, 65, 32, 105, 102, 117, 108, 58, 65, 32, 105, 110, 101, 115, 58, 77, 32, 105, 110, 103, 115, 58, 78, 32, 105, 111, 110, 115, 58, 66, 32, 105, 111, 117, 115, 58, 65, 32, 105, 115, 109, 115, 58, 66, 32, 105, 115, 116, 115, 58, 65, 32, 105, 116, 105, 99, 58, 72, 32, 105, 122, 101, 100, 58, 70, 32, 105, 122, 101, 114, 58, 70, 32, 108, 101, 115, 115, 58, 65, 32, 108, 105, 108, 121, 58, 65, 32, 110, 101, 115, 115, 58, 65, 32, 111, 103, 101, 110, 58, 65, 32, 119, 97, 114, 100, 58, 65, 32, 119, 105, 115, 101, 58, 65, 32, 121, 105, 110, 103, 58, 66, 32, 121, 105, 115, 104, 58, 65, 32]
theorem ga4 : Str.ofString " able:A ably:A ages:B ally:B ance:B ancy:B ants:B aric:A arly:K ated:I ates:A atic:B ator:A ealy:Y edly:E eful:A eity:A ence:A ency:A ened:E enly:E eous:A hood:A ials:A ians:A ible:A ibly:A ical:A ides:L iers:A iful:A ines:M ings:N ions:B ious:A isms:B ists:A itic:H ized:F izer:F less:A lily:A ness:A ogen:A ward:A wise:A ying:B yish:A " = ⟨⟨gl4⟩⟩ := Fast.ofString_ofList [Char.ofNat 32, Char.ofNat 97, Char.ofNat 98, Char.ofNat 108, Char.ofNat 101, Char.ofNat 58, Char.ofNat 65, Char.ofNat 32, Char.ofNat 97, Char.ofNat 98, Char.ofNat 108, Char.ofNat 121, Char.ofNat 58, Char.ofNat 65, Char.ofNat 32, Char.ofNat 97, Char.ofNat 103, Char.ofNat 101, Char.ofNat 115, Char.ofNat 58, Char.ofNat 66, Char.ofNat 32, Char.ofNat 97, Char.ofNat 108, Char.ofNat 108, Char.ofNat 121, Char.ofNat 58, Char.ofNat 66, Char.ofNat 32, Char.ofNat 97, Char.ofNat 110, Char.ofNat 99, Char.ofNat 101, Char.ofNat 58, Char.ofNat 66, Char.ofNat 32, Char.ofNat 97, Char.ofNat 110, Char.ofNat 99, Char.ofNat 121, Char.ofNat 58, Char.ofNat 66, Char.ofNat 32, Char.ofNat 97, Char.ofNat 110, Char.ofNat 116, Char.ofNat 115, Char.ofNat 58, Char.ofNat 66, Char.ofNat 32, Char.ofNat 97, Char.ofNat 114, Char.ofNat 105, Char.ofNat 99, Char.ofNat 58, Char.ofNat 65, Char.ofNat 32, Char.ofNat 97, Char.ofNat 114, Char.ofNat 108, Char.ofNat 121, Char.ofNat 58, Char.ofNat 75, Char.ofNat 32, Char.ofNat 97, Char.ofNat 116, Char.ofNat 101, Char.ofNat 100, Char.ofNat 58, Char.ofNat 73, Char.ofNat 32, Char.ofNat 97, Char.ofNat 116, Char.ofNat 101, Char.ofNat 115, Char.ofNat 58, Char.ofNat 65, Char.ofNat 32, Char.ofNat 97, Char.ofNat 116, Char.ofNat 105, Char.ofNat 99, Char.ofNat 58, Char.ofNat 66, Char.ofNat 32, Char.ofNat 97, Char.ofNat 116, Char.ofNat 111, Char.ofNat 114, Char.ofNat 58, Char.ofNat 65, Char.ofNat 32, Char.ofNat 101, Char.ofNat 97, Char.ofNat 108, Char.ofNat 121, Char.ofNat 58, Char.ofNat 89, Char.ofNat 32, Char.ofNat 101, Char.ofNat 100, Char.ofNat 108, Char.ofNat 121, Char.ofNat 58, Char.ofNat 69, Char.ofNat 32, Char.ofNat 101, Char.ofNat 102, Char.ofNat 117, Char.ofNat 108, Char.ofNat 58, Char.ofNat 65, Char.ofNat 32, Char.ofNat 101, Char.ofNat 105, Char.ofNat 116, Char.ofNat 121, Char.ofNat 58, Char.ofNat 65, Char.ofNat 32, Char.ofNat 101, Char.ofNat 110, Char.ofNat 99, Char.ofNat 101, Char.ofNat 58, Char.ofNat 65, Char.ofNat 32, Char.ofNat 101, Char.ofNat 110, Char.ofNat 99, Char.ofNat 121, Char.ofNat 58, Char.ofNat 65, Char.ofNat 32, Char.ofNat 101, Char.ofNat 110, Char.ofNat 101, Char.ofNat 100, Char.ofNat 58, Char.ofNat 69, Char.ofNat 32, Char.ofNat 101, Char.ofNat 110, Char.ofNat 108, Char.ofNat 121, Char.ofNat 58, Char.ofNat 69, Char.ofNat 32, Char.ofNat 101, Char.ofNat 111, Char.ofNat 117, Char.ofNat 115, Char.ofNat 58, Char.ofNat 65, Char.ofNat 32, Char.ofNat 104, Char.ofNat 111, Char.ofNat 111, Char.ofNat 100, Char.ofNat 58, Char.ofNat 65, Char.ofNat 32, Char.ofNat 105, Char.ofNat 97, Char.ofNat 108, Char.ofNat 115, Char.ofNat 58, Char.ofNat 65, Char.ofNat 32, Char.ofNat 105, Char.ofNat 97, Char.ofNat 110, Char.ofNat 115, Char.ofNat 58, Char.ofNat 65, Char.ofNat 32, Char.ofNat 105, Char.ofNat 98, Char.ofNat 108, Char.ofNat 101, Char.ofNat 58, Char.ofNat 65, Char.ofNat 32, Char.ofNat 105, Char.ofNat 98, Char.ofNat 108, Char.ofNat 121, Char.ofNat 58, Char.ofNat 65, Char.ofNat 32, Char.ofNat 105, Char.ofNat 99, Char.ofNat 97, Char.ofNat 108, Char.ofNat 58, Char.ofNat 65, Char.ofNat 32, Char.ofNat 105, Char.ofNat 100, Char.ofNat 101, Char.ofNat 115, Char.ofNat 58, Char.ofNat 76, Char.ofNat 32, Char.ofNat 105, Char.ofNat 101, Char.ofNat 114, Char.ofNat 115, Char.ofNat 58, Char.ofNat 65, Char.ofNat 32, Char.ofNat 105, Char.ofNat 102, Char.ofNat 117, Char.ofNat 108, Char.ofNat 58, Char.ofNat 65, Char.ofNat 32, Char.ofNat 105, Char.ofNat 110, Char.ofNat 101, Char.ofNat 115, Char.ofNat 58, Char.ofNat 77, Char.ofNat 32, Char.ofNat 105, Char.ofNat 110, Char.ofNat 103, Char.ofNat 115, Char.ofNat 58, Char.ofNat 78, Char.ofNat 32, Char.ofNat 105, Char.ofNat 111, Char.ofNat 110, Char.ofNat 115, Char.ofNat 58, Char.ofNat 66, Char.ofNat 32, Char.ofNat 105, Char.ofNat 111, Char.ofNat 117, Char.ofNat 115, Char.ofNat 58, Char.ofNat 65, Char.ofNat 32, Char.ofNat 105, Char.ofNat 115, Char.ofNat 109, Char.ofNat 115, Char.ofNat 58, Char.ofNat 66, Char.ofNat 32, Char.ofNat 105, Char.ofNat 115, Char.ofNat 116, Char.ofNat 115, Char.ofNat 58, Char.ofNat 65, Char.ofNat 32, Char.ofNat 105, Char.ofNat 116, Char.ofNat 105, Char.ofNat 99, Char.ofNat 58, Char.ofNat 72, Char.ofNat 32, Char.ofNat 105, Char.ofNat 122, Char.ofNat 101, Char.ofNat 100, Char.ofNat 58, Char.ofNat 70, Char.ofNat 32, Char.ofNat 105, Char.ofNat 122, Char.ofNat 101, Char.ofNat 114, Char.ofNat 58, Char.ofNat 70, Char.ofNat 32, Char.ofNat 108, Char.ofNat 101, Char.ofNat 115, Char.ofNat 115, Char.ofNat 58, Char.ofNat 65, Char.ofNat 32, Char.ofNat 108, Char.ofNat 105, Char.ofNat 108, Char.ofNat 121, Char.ofNat 58, Char.ofNat 65, Char.ofNat 32, Char.ofNat 110, Char.ofNat 101, Char.ofNat 115, Char.ofNat 115, Char.ofNat 58, Char.ofNat 65, Char.ofNat 32, Char.ofNat 111, Char.ofNat 103, Char.ofNat 101, Char.ofNat 110, Char.ofNat 58, Char.ofNat 65, Char.ofNat 32, Char.ofNat 119, Char.ofNat 97, Char.ofNat 114, Char.ofNat 100, Char.ofNat 58, Char.ofNat 65, Char.ofNat 32, Char.ofNat 119, Char.ofNat 105, Char.ofNat 115, Char.ofNat 101, Char.ofNat 58, Char.ofNat 65, Char.ofNat 32, Char.ofNat 121, Char.ofNat 105, Char.ofNat 110, Char.ofNat 103, Char.ofNat 58, Char.ofNat 66, Char.ofNat 32, Char.ofNat 121, Char.ofNat 105, Char.ofNat 115, Char.ofNat 104, Char.ofNat 58, Char.ofNat 65, Char.ofNat 32]
theorem gq4 : gl4.all quietCp = true := by decide +kernel
noncomputable def gl5 : List Nat := [32, 97, 99, 105, 101, 115, 58, 65, 32, 97, 99, 105, 116, 121, 58, 65, 32, 97, 103, 105, 110, 103, 58, 66, 32, 97, 105, 99, 97, 108, 58, 65, 32, 97, 108, 105, 115, 116, 58, 65, 32, 97, 108, 105, 115, 109, 58, 66, 32, 97, 108, 105, 116, 121, 58, 65, 32, 97, 108, 105, 122, 101, 58, 65, 32, 97, 108, 108, 105, 99, 58, 98, 32, 97, 110, 99, 101, 100, 58, 66, 32, 97, 110, 99, 101, 115, 58, 66, 32, 97, 110, 116, 105, 99, 58, 67, 32, 97, 114, 105, 97, 108, 58, 65, 32, 97, 114, 105, 101, 115, 58, 65, 32, 97, 114, 105, 108, 121, 58, 65, 32, 97, 114, 105, 116, 121, 58, 66, 32, 97, 114, 105, 122, 101, 58, 65, 32, 97, 114, 111, 105, 100, 58, 65, 32, 97, 116, 101, 108, 121, 58, 65, 32, 97, 116, 105, 110, 103, 58, 73, 32, 97, 116, 105, 111, 110, 58, 66, 32, 97, 116, 105, 118, 101, 58, 65, 32, 97, 116, 111, 114, 115, 58, 65, 32, 97, 116, 111, 114, 121, 58, 65, 32, 97, 116, 117, 114, 101, 58, 69, 32, 101, 97, 114, 108, 121, 58, 89, 32, 101, 104, 111, 111, 100, 58, 65, 32, 101, 108, 101, 115, 115, 58, 65, 32, 101, 109, 101, 110, 116, 58, 65, 32, 101, 110, 99, 101, 100, 58, 65, 32, 101, 110, 99, 101, 115, 58, 65, 32, 101, 110, 101, 115, 115, 58, 69, 32, 101, 110, 105, 110, 103, 58, 69, 32, 101, 110, 116, 97, 108, 58, 65, 32, 101, 110, 116, 101, 100, 58, 67, 32, 101, 110, 116, 108, 121, 58, 65, 32, 102, 117, 108, 108, 121, 58, 65, 32, 105, 97, 108, 108, 121, 58, 65, 32, 105, 99, 97, 110, 116, 58, 65, 32, 105, 99, 105, 97, 110, 58, 65, 32, 105, 99, 105, 100, 101, 58, 65, 32, 105, 99, 105, 115, 109, 58, 65, 32, 105, 99, 105, 115, 116, 58, 65, 32, 105, 99, 105, 116, 121, 58, 65, 32, 105, 100, 105, 110, 101, 58, 73, 32, 105, 101, 100, 108, 121, 58, 65, 32, 105, 104, 111, 111, 100, 58, 65, 32, 105, 110, 97, 116, 101, 58, 65, 32, 105, 110, 101, 115, 115, 58, 65, 32, 105, 110, 103, 108, 121, 58, 66, 32, 105, 110, 105, 115, 109, 58, 74, 32, 105, 110, 105, 116, 121, 58, 99, 32, 105, 111, 110, 97, 108, 58, 65, 32, 105, 111, 110, 101, 100, 58, 65, 32, 105, 115, 104, 101, 100, 58, 65, 32, 105, 115, 116, 105, 99, 58, 65, 32, 105, 116, 105, 101, 115, 58, 65, 32, 105, 116, 111, 117, 115, 58, 65, 32, 105, 118, 101, 108, 121, 58, 65, 32, 105, 118, 105, 116, 121, 58, 65, 32, 105, 122, 101, 114, 115, 58, 70, 32, 105, 122, 105, 110, 103, 58, 70, 32, 111, 105, 100, 97, 108, 58, 65, 32, 111, 105, 100, 101, 115, 58, 65, 32, 111, 116, 105, 100, 101, 58, 65, 32, 111, 117, 115, 108, 121, 58, 65, 32]
theorem ga5 : Str.ofString " acies:A acity:A aging:B aical:A alist:A alism:B ality:A alize:A allic:b anced:B ances:B antic:C arial:A aries:A arily:A arity:B arize:A aroid:A ately:A ating:I ation:B ative:A ators:A atory:A ature:E early:Y ehood:A eless:A ement:A enced:A ences:A eness:E ening:E ental:A ented:C ently:A fully:A ially:A icant:A ician:A icide:A icism:A icist:A icity:A idine:I iedly:A ihood:A inate:A iness:A ingly:B inism:J inity:c ional:A ioned:A ished:A istic:A ities:A itous:A ively:A ivity:A izers:F izing:F oidal:A oides:A otide:A ously:A " = ⟨⟨gl5⟩⟩ := Fast.ofString_ofList [Char.ofNat 32, Char.ofNat 97, Char.ofNat 99, Char.ofNat 105, Char.ofNat 101, Char.ofNat 115, Char.ofNat 58, Char.ofNat 65, Char.ofNat 32, Char.ofNat 97, Char.ofNat 99, Char.ofNat 105, Char.ofNat 116, Char.ofNat 121, Char.ofNat 58, Char.ofNat 65, Char.ofNat 32, Char.ofNat 97, Char.ofNat 103, Char.ofNat 105, Char.ofNat 110, Char.ofNat 103, Char.ofNat 58, Char.ofNat 66, Char.ofNat 32, Char.ofNat 97, Char.ofNat 105, Char.ofNat 99, Char.ofNat 97, Char.ofNat 108, Char.ofNat 58, Char.ofNat 65, Char.ofNat 32, Char.ofNat 97, Char.ofNat 108, Char.ofNat 105, Char.ofNat 115, Char.ofNat 116, Char.ofNat 58, Char.ofNat 65, Char.ofNat 32, Char.ofNat 97, Char.ofNat 108, Char.ofNat 105, Char.ofNat 115, Char.ofNat 109, Char.ofNat 58, Char.ofNat 66, Char.ofNat 32, Char.ofNat 97, Char.ofNat 108, Char.ofNat 105, Char.ofNat 116, Char.ofNat 121, Char.ofNat 58, Char.ofNat 65, Char.ofNat 32, Char.ofNat 97, Char.ofNat 108, Char.ofNat 105, Char.ofNat 122, Char.ofNat 101, Char.ofNat 58, Char.ofNat 65, Char.ofNat 32, Char.ofNat 97, Char.ofNat 108, Char.ofNat 108, Char.ofNat 105, Char.ofNat 99, Char.ofNat 58, Char.ofNat 98, Char.ofNat 32, Char.ofNat 97, Char.ofNat 110, Char.ofNat 99, Char.ofNat 101, Char.ofNat 100, Char.ofNat 58, Char.ofNat 66, Char.ofNat 32, Char.ofNat 97, Char.ofNat 110, Char.ofNat 99, Char.ofNat 101, Char.ofNat 115, Char.ofNat 58, Char.ofNat 66, Char.ofNat 32, Char.ofNat 97, Char.ofNat 110, Char.ofNat 116, Char.ofNat 105, Char.ofNat 99, Char.ofNat 58, Char.ofNat 67, Char.ofNat 32, Char.ofNat 97, Char.ofNat 114, Char.ofNat 105, Char.ofNat 97, Char.ofNat 108, Char.ofNat 58, Char.ofNat 65, Char.ofNat 32, Char.ofNat 97, Char.ofNat 114, Char.ofNat 105, Char.ofNat 101, Char.ofNat 115, Char.ofNat 58, Char.ofNat 65, Char.ofNat 32, Char.ofNat 97, Char.ofNat 114, Char.ofNat 105, Char.ofNat 108, Char.ofNat 121, Char.ofNat 58, Char.ofNat 65, Char.ofNat 32, Char.ofNat 97, Char.ofNat 114, Char.ofNat 105, Char.ofNat 116, Char.ofNat 121, Char.ofNat 58, Char.ofNat 66, Char.ofNat 32, Char.ofNat 97, Char.ofNat 114, Char.ofNat 105, Char.ofNat 122, Char.ofNat 101, Char.ofNat 58, Char.ofNat 65, Char.ofNat 32, Char.ofNat 97, Char.ofNat 114, Char.ofNat 111, Char.ofNat 105, Char.ofNat 100, Char.ofNat 58, Char.ofNat 65, Char.ofNat 32, Char.ofNat 97, Char.ofNat 116, Char.ofNat 101, Char.ofNat 108, Char.ofNat 121, Char.ofNat 58, Char.ofNat 65, Char.ofNat 32, Char.ofNat 97, Char.ofNat 116, Char.ofNat 105, Char.ofNat 110, Char.ofNat 103, Char.ofNat 58, Char.ofNat 73, Char.ofNat 32, Char.ofNat 97, Char.ofNat 116, Char.ofNat 105, Char.ofNat 111, Char.ofNat 110, Char.ofNat 58, Char.ofNat 66, Char.ofNat 32, Char.ofNat 97, Char.ofNat 116, Char.ofNat 105, Char.ofNat 118, Char.ofNat 101, Char.ofNat 58, Char.ofNat 65, Char.ofNat 32, Char.ofNat 97, Char.ofNat 116, Char.ofNat 111, Char.ofNat 114, Char.ofNat 115, Char.ofNat 58, Char.ofNat 65, Char.ofNat 32, Char.ofNat 97, Char.ofNat 116, Char.ofNat 111, Char.ofNat 114, Char.ofNat 121, Char.ofNat 58, Char.ofNat 65, Char.ofNat 32, Char.ofNat 97, Char.ofNat 116, Char.ofNat 117, Char.ofNat 114, Char.ofNat 101, Char.ofNat 58, Char.ofNat 69, Char.ofNat 32, Char.ofNat 101, Char.ofNat 97, Char.ofNat 114, Char.ofNat 108, Char.ofNat 121, Char.ofNat 58, Char.ofNat 89, Char.ofNat 32, Char.ofNat 101, Char.ofNat 104, Char.ofNat 111, Char.ofNat 111, Char.ofNat 100, Char.ofNat 58, Char.ofNat 65, Char.ofNat 32, Char.ofNat 101, Char.ofNat 108, Char.ofNat 101, Char.ofNat 115, Char.ofNat 115, Char.ofNat 58, Char.ofNat 65, Char.ofNat 32, Char.ofNat 101, Char.ofNat 109, Char.ofNat 101, Char.ofNat 110, Char.ofNat 116, Char.ofNat 58, Char.ofNat 65, Char.ofNat 32, Char.ofNat 101, Char.ofNat 110, Char.ofNat 99, Char.ofNat 101, Char.ofNat 100, Char.ofNat 58, Char.ofNat 65, Char.ofNat 32, Char.ofNat 101, Char.ofNat 110, Char.ofNat 99, Char.ofNat 101, Char.ofNat 115, Char.ofNat 58, Char.ofNat 65, Char.ofNat 32, Char.ofNat 101, Char.ofNat 110, Char.ofNat 101, Char.ofNat 115, Char.ofNat 115, Char.ofNat 58, Char.ofNat 69, Char.ofNat 32, Char.ofNat 101, Char.ofNat 110, Char.ofNat 105, Char.ofNat 110, Char.ofNat 103, Char.ofNat 58, Char.ofNat 69, Char.ofNat 32, Char.ofNat 101, Char.ofNat 110, Char.ofNat 116, Char.ofNat 97, Char.ofNat 108, Char.ofNat 58, Char.ofNat 65, Char.ofNat 32, Char.ofNat 101, Char.ofNat 110, Char.ofNat 116, Char.ofNat 101, Char.ofNat 100, Char.ofNat 58, Char.ofNat 67, Char.ofNat 32, Char.ofNat 101, Char.ofNat 110, Char.ofNat 116, Char.ofNat 108, Char.ofNat 121, Char.ofNat 58, Char.ofNat 65, Char.ofNat 32, Char.ofNat 102, Char.ofNat 117, Char.ofNat 108, Char.ofNat 108, Char.ofNat 121, Char.ofNat 58, Char.ofNat 65, Char.ofNat 32, Char.ofNat 105, Char.ofNat 97, Char.ofNat 108, Char.ofNat 108, Char.ofNat 121, Char.ofNat 58, Char.ofNat 65, Char.ofNat 32, Char.ofNat 105, Char.ofNat 99, Char.ofNat 97, Char.ofNat 110, Char.ofNat 116, Char.ofNat 58, Char.ofNat 65, Char.ofNat 32, Char.ofNat 105, Char.ofNat 99, Char.ofNat 105, Char.ofNat 97, Char.ofNat 110, Char.ofNat 58, Char.ofNat 65, Char.ofNat 32, Char.ofNat 105, Char.ofNat 99, Char.ofNat 105, Char.ofNat 100, Char.ofNat 101, Char.ofNat 58, Char.ofNat 65, Char.ofNat 32, Char.ofNat 105, Char.ofNat 99, Char.ofNat 105, Char.ofNat 115, Char.ofNat 109, Char.ofNat 58, Char.ofNat 65, Char.ofNat 32, Char.ofNat 105, Char.ofNat 99, Char.ofNat 105, Char.ofNat 115, Char.ofNat 116, Char.ofNat 58, Char.ofNat 65, Char.ofNat 32, Char.ofNat 105, Char.ofNat 99, Char.ofNat 105, Char.ofNat 116, Char.ofNat 121, Char.ofNat 58, Char.ofNat 65, Char.ofNat 32, Char.ofNat 105, Char.ofNat 100, Char.ofNat 105, Char.ofNat 110, Char.ofNat 101, Char.ofNat 58, Char.ofNat 73, Char.ofNat 32, Char.ofNat 105, Char.ofNat 101, Char.ofNat 100, Char.ofNat 108, Char.ofNat 121, Char.ofNat 58, Char.ofNat 65, Char.ofNat 32, Char.ofNat 105, Char.ofNat 104, Char.ofNat 111, Char.ofNat 111, Char.ofNat 100, Char.ofNat 58, Char.ofNat 65, Char.ofNat 32, Char.ofNat 105, Char.ofNat 110, Char.ofNat 97, Char.ofNat 116, Char.ofNat 101, Char.ofNat 58, Char.ofNat 65, Char.ofNat 32, Char.ofNat 105, Char.ofNat 110, Char.ofNat 101, Char.ofNat 115, Char.ofNat 115, Char.ofNat 58, Char.ofNat 65, Char.ofNat 32, Char.ofNat 105, Char.ofNat 110, Char.ofNat 103, Char.ofNat 108, Char.ofNat 121, Char.ofNat 58, Char.ofNat 66, Char.ofNat 32, Char.ofNat 105, Char.ofNat 110, Char.ofNat 105, Char.ofNat 115, Char.ofNat 109, Char.ofNat 58, Char.ofNat 74, Char.ofNat 32, Char.ofNat 105, Char.ofNat 110, Char.ofNat 105, Char.ofNat 116, Char.ofNat 121, Char.ofNat 58, Char.ofNat 99, Char.ofNat 32, Char.ofNat 105, Char.ofNat 111, Char.ofNat 110, Char.ofNat 97, Char.ofNat 108, Char.ofNat 58, Char.ofNat 65, Char.ofNat 32, Char.ofNat 105, Char.ofNat 111, Char.ofNat 110, Char.ofNat 101, Char.ofNat 100, Char.ofNat 58, Char.ofNat 65, Char.ofNat 32, Char.ofNat 105, Char.ofNat 115, Char.ofNat 104, Char.ofNat 101, Char.ofNat 100, Char.ofNat 58, Char.ofNat 65, Char.ofNat 32, Char.ofNat 105, Char.ofNat 115, Char.ofNat 116, Char.ofNat 105, Char.ofNat 99, Char.ofNat 58, Char.ofNat 65, Char.ofNat 32, Char.ofNat 105, Char.ofNat 116, Char.ofNat 105, Char.ofNat 101, Char.ofNat 115, Char.ofNat 58, Char.ofNat 65, Char.ofNat 32, Char.ofNat 105, Char.ofNat 116, Char.ofNat 111, Char.ofNat 117, Char.ofNat 115, Char.ofNat 58, Char.ofNat 65, Char.ofNat 32, Char.ofNat 105, Char.ofNat 118, Char.ofNat 101, Char.ofNat 108, Char.ofNat 121, Char.ofNat 58, Char.ofNat 65, Char.ofNat 32, Char.ofNat 105, Char.ofNat 118, Char.ofNat 105, Char.ofNat 116, Char.ofNat 121, Char.ofNat 58, Char.ofNat 65, Char.ofNat 32, Char.ofNat 105, Char.ofNat 122, Char.ofNat 101, Char.ofNat 114, Char.ofNat 115, Char.ofNat 58, Char.ofNat 70, Char.ofNat 32, Char.ofNat 105, Char.ofNat 122, Char.ofNat 105, Char.ofNat 110, Char.ofNat 103, Char.ofNat 58, Char.ofNat 70, Char.ofNat 32, Char.ofNat 111, Char.ofNat 105, Char.ofNat 100, Char.ofNat 97, Char.ofNat 108, Char.ofNat 58, Char.ofNat 65, Char.ofNat 32, Char.ofNat 111, Char.ofNat 105, Char.ofNat 100, Char.ofNat 101, Char.ofNat 115, Char.ofNat 58, Char.ofNat 65, Char.ofNat 32, Char.ofNat 111, Char.ofNat 116, Char.ofNat 105, Char.ofNat 100, Char.ofNat 101, Char.ofNat 58, Char.ofNat 65, Char.ofNat 32, Char.ofNat 111, Char.ofNat 117, Char.ofNat 115, Char.ofNat 108, Char.ofNat 121, Char.ofNat 58, Char.ofNat 65, Char.ofNat 32]
theorem gq5 : gl5.all quietCp = true := by decide +kernel
noncomputable def gl6 : List Nat := [32, 97, 99, 101, 111, 117, 115, 58, 65, 32, 97, 99, 105, 111, 117, 115, 58, 66, 32, 97, 99, 116, 105, 111, 110, 58, 71, 32, 97, 108, 110, 101, 115, 115, 58, 65, 32, 97, 110, 99, 105, 97, 108, 58, 65, 32, 97, 110, 99, 105, 101, 115, 58, 65, 32, 97, 110, 99, 105, 110, 103, 58, 66, 32, 97, 114, 105, 115, 101, 114, 58, 65, 32, 97, 114, 105, 122, 101, 100, 58, 65, 32, 97, 114, 105, 122, 101, 114, 58, 65, 32, 97, 116, 97, 98, 108, 101, 58, 65, 32, 97, 116, 105, 111, 110, 115, 58, 66, 32, 97, 116, 105, 118, 101, 115, 58, 65, 32, 101, 97, 116, 117, 114, 101, 58, 90, 32, 101, 102, 117, 108, 108, 121, 58, 65, 32, 101, 110, 99, 105, 101, 115, 58, 65, 32, 101, 110, 99, 105, 110, 103, 58, 65, 32, 101, 110, 116, 105, 97, 108, 58, 65, 32, 101, 110, 116, 105, 110, 103, 58, 67, 32, 101, 110, 116, 105, 115, 116, 58, 65, 32, 101, 111, 117, 115, 108, 121, 58, 65, 32, 105, 97, 108, 105, 115, 116, 58, 65, 32, 105, 97, 108, 105, 116, 121, 58, 65, 32, 105, 97, 108, 105, 122, 101, 58, 65, 32, 105, 99, 97, 108, 108, 121, 58, 65, 32, 105, 99, 97, 110, 99, 101, 58, 65, 32, 105, 99, 105, 97, 110, 115, 58, 65, 32, 105, 99, 105, 115, 116, 115, 58, 65, 32, 105, 102, 117, 108, 108, 121, 58, 65, 32, 105, 111, 110, 97, 108, 115, 58, 65, 32, 105, 111, 110, 97, 116, 101, 58, 68, 32, 105, 111, 110, 105, 110, 103, 58, 65, 32, 105, 111, 110, 105, 115, 116, 58, 65, 32, 105, 111, 117, 115, 108, 121, 58, 65, 32, 105, 115, 116, 105, 99, 115, 58, 65, 32, 105, 122, 97, 98, 108, 101, 58, 69, 32, 108, 101, 115, 115, 108, 121, 58, 65, 32, 110, 101, 115, 115, 101, 115, 58, 65, 32, 111, 105, 100, 105, 115, 109, 58, 65, 32]
theorem ga6 : Str.ofString " aceous:A acious:B action:G alness:A ancial:A ancies:A ancing:B ariser:A arized:A arizer:A atable:A ations:B atives:A eature:Z efully:A encies:A encing:A ential:A enting:C entist:A eously:A ialist:A iality:A ialize:A ically:A icance:A icians:A icists:A ifully:A ionals:A ionate:D ioning:A ionist:A iously:A istics:A izable:E lessly:A nesses:A oidism:A " = ⟨⟨gl6⟩⟩ := Fast.ofString_ofList [Char.ofNat 32, Char.ofNat 97, Char.ofNat 99, Char.ofNat 101, Char.ofNat 111, Char.ofNat 117, Char.ofNat 115, Char.ofNat 58, Char.ofNat 65, Char.ofNat 32, Char.ofNat 97, Char.ofNat 99, Char.ofNat 105, Char.ofNat 111, Char.ofNat 117, Char.ofNat 115, Char.ofNat 58, Char.ofNat 66, Char.ofNat 32, Char.ofNat 97, Char.ofNat 99, Char.ofNat 116, Char.ofNat 105, Char.ofNat 111, Char.ofNat 110, Char.ofNat 58, Char.ofNat 71, Char.ofNat 32, Char.ofNat 97, Char.ofNat 108, Char.ofNat 110, Char.ofNat 101, Char.ofNat 115, Char.ofNat 115, Char.ofNat 58, Char.ofNat 65, Char.ofNat 32, Char.ofNat 97, Char.ofNat 110, Char.ofNat 99, Char.ofNat 105, Char.ofNat 97, Char.ofNat 108, Char.ofNat 58, Char.ofNat 65, Char.ofNat 32, Char.ofNat 97, Char.ofNat 110, Char.ofNat 99, Char.ofNat 105, Char.ofNat 101, Char.ofNat 115, Char.ofNat 58, Char.ofNat 65, Char.ofNat 32, Char.ofNat 97, Char.ofNat 110, Char.ofNat 99, Char.ofNat 105, Char.ofNat 110, Char.ofNat 103, Char.ofNat 58, Char.ofNat 66, Char.ofNat 32, Char.ofNat 97, Char.ofNat 114, Char.ofNat 105, Char.ofNat 115, Char.ofNat 101, Char.ofNat 114, Char.ofNat 58, Char.ofNat 65, Char.ofNat 32, Char.ofNat 97, Char.ofNat 114, Char.ofNat 105, Char.ofNat 122, Char.ofNat 101, Char.ofNat 100, Char.ofNat 58, Char.ofNat 65, Char.ofNat 32, Char.ofNat 97, Char.ofNat 114, Char.ofNat 105, Char.ofNat 122, Char.ofNat 101, Char.ofNat 114, Char.ofNat 58, Char.ofNat 65, Char.ofNat 32, Char.ofNat 97, Char.ofNat 116, Char.ofNat 97, Char.ofNat 98, Char.ofNat 108, Char.ofNat 101, Char.ofNat 58, Char.ofNat 65, Char.ofNat 32, Char.ofNat 97, Char.ofNat 116, Char.ofNat 105, Char.ofNat 111, Char.ofNat 110, Char.ofNat 115, Char.ofNat 58, Char.ofNat 66, Char.ofNat 32, Char.ofNat 97, Char.ofNat 116, Char.ofNat 105, Char.ofNat 118, Char.ofNat 101, Char.ofNat 115, Char.ofNat 58, Char.ofNat 65, Char.ofNat 32, Char.ofNat 101, Char.ofNat 97, Char.ofNat 116, Char.ofNat 117, Char.ofNat 114, Char.ofNat 101, Char.ofNat 58, Char.ofNat 90, Char.ofNat 32, Char.ofNat 101, Char.ofNat 102, Char.ofNat 117, Char.ofNat 108, Char.ofNat 108, Char.ofNat 121, Char.ofNat 58, Char.ofNat 65, Char.ofNat 32, Char.ofNat 101, Char.ofNat 110, Char.ofNat 99, Char.ofNat 105, Char.ofNat 101, Char.ofNat 115, Char.ofNat 58, Char.ofNat 65, Char.ofNat 32, Char.ofNat 101, Char.ofNat 110, Char.ofNat 99, Char.ofNat 105, Char.ofNat 110, Char.ofNat 103, Char.ofNat 58, Char.ofNat 65, Char.ofNat 32, Char.ofNat 101, Char.ofNat 110, Char.ofNat 116, Char.ofNat 105, Char.ofNat 97, Char.ofNat 108, Char.ofNat 58, Char.ofNat 65, Char.ofNat 32, Char.ofNat 101, Char.ofNat 110, Char.ofNat 116, Char.ofNat 105, Char.ofNat 110, Char.ofNat 103, Char.ofNat 58, Char.ofNat 67, Char.ofNat 32, Char.ofNat 101, Char.ofNat 110, Char.ofNat 116, Char.ofNat 105, Char.ofNat 115, Char.ofNat 116, Char.ofNat 58, Char.ofNat 65, Char.ofNat 32, Char.ofNat 101, Char.ofNat 111, Char.ofNat 117, Char.ofNat 115, Char.ofNat 108, Char.ofNat 121, Char.ofNat 58, Char.ofNat 65, Char.ofNat 32, Char.ofNat 105, Char.ofNat 97, Char.ofNat 108, Char.ofNat 105, Char.ofNat 115, Char.ofNat 116, Char.ofNat 58, Char.ofNat 65, Char.ofNat 32, Char.ofNat 105, Char.ofNat 97, Char.ofNat 108, Char.ofNat 105, Char.ofNat 116, Char.ofNat 121, Char.ofNat 58, Char.ofNat 65, Char.ofNat 32, Char.ofNat 105, Char.ofNat 97, Char.ofNat 108, Char.ofNat 105, Char.ofNat 122, Char.ofNat 101, Char.ofNat 58, Char.ofNat 65, Char.ofNat 32, Char.ofNat 105, Char.ofNat 99, Char.ofNat 97, Char.ofNat 108, Char.ofNat 108, Char.ofNat 121, Char.ofNat 58, Char.ofNat 65, Char.ofNat 32, Char.ofNat 105, Char.ofNat 99, Char.ofNat 97, Char.ofNat 110, Char.ofNat 99, Char.ofNat 101, Char.ofNat 58, Char.ofNat 65, Char.ofNat 32, Char.ofNat 105, Char.ofNat 99, Char.ofNat 105, Char.ofNat 97, Char.ofNat 110, Char.ofNat 115, Char.ofNat 58, Char.ofNat 65, Char.ofNat 32, Char.ofNat 105, Char.ofNat 99, Char.ofNat 105, Char.ofNat 115, Char.ofNat 116, Char.ofNat 115, Char.ofNat 58, Char.ofNat 65, Char.ofNat 32, Char.ofNat 105, Char.ofNat 102, Char.ofNat 117, Char.ofNat 108, Char.ofNat 108, Char.ofNat 121, Char.ofNat 58, Char.ofNat 65, Char.ofNat 32, Char.ofNat 105, Char.ofNat 111, Char.ofNat 110, Char.ofNat 97, Char.ofNat 108, Char.ofNat 115, Char.ofNat 58, Char.ofNat 65, Char.ofNat 32, Char.ofNat 105, Char.ofNat 111, Char.ofNat 110, Char.ofNat 97, Char.ofNat 116, Char.ofNat 101, Char.ofNat 58, Char.ofNat 68, Char.ofNat 32, Char.ofNat 105, Char.ofNat 111, Char.ofNat 110, Char.ofNat 105, Char.ofNat 110, Char.ofNat 103, Char.ofNat 58, Char.ofNat 65, Char.ofNat 32, Char.ofNat 105, Char.ofNat 111, Char.ofNat 110, Char.ofNat 105, Char.ofNat 115, Char.ofNat 116, Char.ofNat 58, Char.ofNat 65, Char.ofNat 32, Char.ofNat 105, Char.ofNat 111, Char.ofNat 117, Char.ofNat 115, Char.ofNat 108, Char.ofNat 121, Char.ofNat 58, Char.ofNat 65, Char.ofNat 32, Char.ofNat 105, Char.ofNat 115, Char.ofNat 116, Char.ofNat 105, Char.ofNat 99, Char.ofNat 115, Char.ofNat 58, Char.ofNat 65, Char.ofNat 32, Char.ofNat 105, Char.ofNat 122, Char.ofNat 97, Char.ofNat 98, Char.ofNat 108, Char.ofNat 101, Char.ofNat 58, Char.ofNat 69, Char.ofNat 32, Char.ofNat 108, Char.ofNat 101, Char.ofNat 115, Char.ofNat 115, Char.ofNat 108, Char.ofNat 121, Char.ofNat 58, Char.ofNat 65, Char.ofNat 32, Char.ofNat 110, Char.ofNat 101, Char.ofNat 115, Char.ofNat 115, Char.ofNat 101, Char.ofNat 115, Char.ofNat 58, Char.ofNat 65, Char.ofNat 32, Char.ofNat 111, Char.ofNat 105, Char.ofNat 100, Char.ofNat 105, Char.ofNat 115, Char.ofNat 109, Char.ofNat 58, Char.ofNat 65, Char.ofNat 32]
theorem gq6 : gl6.all quietCp = true := by decide +kernel
noncomputable def gl7 : List Nat := [32, 97, 98, 105, 108, 105, 116, 121, 58, 65, 32, 97, 105, 99, 97, 108, 108, 121, 58, 65, 32, 97, 108, 105, 115, 116, 105, 99, 58, 66, 32, 97, 108, 105, 116, 105, 101, 115, 58, 65, 32, 97, 114, 105, 110, 101, 115, 115, 58, 69, 32, 97, 114, 105, 115, 116, 105, 99, 58, 65, 32, 97, 114, 105, 122, 105, 110, 103, 58, 65, 32, 97, 116, 101, 110, 101, 115, 115, 58, 65, 32, 97, 116, 105, 110, 103, 108, 121, 58, 65, 32, 97, 116, 105, 111, 110, 97, 108, 58, 66, 32, 97, 116, 105, 118, 101, 108, 121, 58, 65, 32, 97, 116, 105, 118, 105, 115, 109, 58, 65, 32, 101, 108, 105, 104, 111, 111, 100, 58, 69, 32, 101, 110, 99, 105, 98, 108, 101, 58, 65, 32, 101, 110, 116, 97, 108, 108, 121, 58, 65, 32, 101, 110, 116, 105, 97, 108, 115, 58, 65, 32, 101, 110, 116, 105, 97, 116, 101, 58, 65, 32, 101, 110, 116, 110, 101, 115, 115, 58, 65, 32, 102, 117, 108, 110, 101, 115, 115, 58, 65, 32, 105, 98, 105, 108, 105, 116, 121, 58, 65, 32, 105, 99, 97, 108, 105, 115, 109, 58, 65, 32, 105, 99, 97, 108, 105, 115, 116, 58, 65, 32, 105, 99, 97, 108, 105, 116, 121, 58, 65, 32, 105, 99, 97, 108, 105, 122, 101, 58, 65, 32, 105, 99, 97, 116, 105, 111, 110, 58, 71, 32, 105, 99, 105, 97, 110, 114, 121, 58, 65, 32, 105, 110, 97, 116, 105, 111, 110, 58, 65, 32, 105, 110, 103, 110, 101, 115, 115, 58, 65, 32, 105, 111, 110, 97, 108, 108, 121, 58, 65, 32, 105, 115, 97, 116, 105, 111, 110, 58, 65, 32, 105, 115, 104, 110, 101, 115, 115, 58, 65, 32, 105, 115, 116, 105, 99, 97, 108, 58, 65, 32, 105, 116, 101, 110, 101, 115, 115, 58, 65, 32, 105, 118, 101, 110, 101, 115, 115, 58, 65, 32, 105, 118, 105, 115, 116, 105, 99, 58, 65, 32, 105, 118, 105, 116, 105, 101, 115, 58, 65, 32, 105, 122, 97, 116, 105, 111, 110, 58, 70, 32, 105, 122, 101, 109, 101, 110, 116, 58, 65, 32, 111, 105, 100, 97, 108, 108, 121, 58, 65, 32, 111, 117, 115, 110, 101, 115, 115, 58, 65, 32]
theorem ga7 : Str.ofString " ability:A aically:A alistic:B alities:A ariness:E aristic:A arizing:A ateness:A atingly:A ational:B atively:A ativism:A elihood:E encible:A entally:A entials:A entiate:A entness:A fulness:A ibility:A icalism:A icalist:A icality:A icalize:A ication:G icianry:A ination:A ingness:A ionally:A isation:A ishness:A istical:A iteness:A iveness:A ivistic:A ivities:A ization:F izement:A oidally:A ousness:A " = ⟨⟨gl7⟩⟩ := Fast.ofString_ofList [Char.ofNat 32, Char.ofNat 97, Char.ofNat 98, Char.ofNat 105, Char.ofNat 108, Char.ofNat 105, Char.ofNat 116, Char.ofNat 121, Char.ofNat 58, Char.ofNat 65, Char.ofNat 32, Char.ofNat 97, Char.ofNat 105, Char.ofNat 99, Char.ofNat 97, Char.ofNat 108, Char.ofNat 108, Char.ofNat 121, Char.ofNat 58, Char.ofNat 65, Char.ofNat 32, Char.ofNat 97, Char.ofNat 108, Char.ofNat 105, Char.ofNat 115, Char.ofNat 116, Char.ofNat 105, Char.ofNat 99, Char.ofNat 58, Char.ofNat 66, Char.ofNat 32, Char.ofNat 97, Char.ofNat 108, Char.ofNat 105, Char.ofNat 116, Char.ofNat 105, Char.ofNat 101, Char.ofNat 115, Char.ofNat 58, Char.ofNat 65, Char.ofNat 32, Char.ofNat 97, Char.ofNat 114, Char.ofNat 105, Char.ofNat 110, Char.ofNat 101, Char.ofNat 115, Char.ofNat 115, Char.ofNat 58, Char.ofNat 69, Char.ofNat 32, Char.ofNat 97, Char.ofNat 114, Char.ofNat 105, Char.ofNat 115, Char.ofNat 116, Char.ofNat 105, Char.ofNat 99, Char.ofNat 58, Char.ofNat 65, Char.ofNat 32, Char.ofNat 97, Char.ofNat 114, Char.ofNat 105, Char.ofNat 122, Char.ofNat 105, Char.ofNat 110, Char.ofNat 103, Char.ofNat 58, Char.ofNat 65, Char.ofNat 32, Char.ofNat 97, Char.ofNat 116, Char.ofNat 101, Char.ofNat 110, Char.ofNat 101, Char.ofNat 115, Char.ofNat 115, Char.ofNat 58, Char.ofNat 65, Char.ofNat 32, Char.ofNat 97, Char.ofNat 116, Char.ofNat 105, Char.ofNat 110, Char.ofNat 103, Char.ofNat 108, Char.ofNat 121, Char.ofNat 58, Char.ofNat 65, Char.ofNat 32, Char.ofNat 97, Char.ofNat 116, Char.ofNat 105, Char.ofNat 111, Char.ofNat 110, Char.ofNat 97, Char.ofNat 108, Char.ofNat 58, Char.ofNat 66, Char.ofNat 32, Char.ofNat 97, Char.ofNat 116, Char.ofNat 105, Char.ofNat 118, Char.ofNat 101, Char.ofNat 108, Char.ofNat 121, Char.ofNat 58, Char.ofNat 65, Char.ofNat 32, Char.ofNat 97, Char.ofNat 116, Char.ofNat 105, Char.ofNat 118, Char.ofNat 105, Char.ofNat 115, Char.ofNat 109, Char.ofNat 58, Char.ofNat 65, Char.ofNat 32, Char.ofNat 101, Char.ofNat 108, Char.ofNat 105, Char.ofNat 104, Char.ofNat 111, Char.ofNat 111, Char.ofNat 100, Char.ofNat 58, Char.ofNat 69, Char.ofNat 32, Char.ofNat 101, Char.ofNat 110, Char.ofNat 99, Char.ofNat 105, Char.ofNat 98, Char.ofNat 108, Char.ofNat 101, Char.ofNat 58, Char.ofNat 65, Char.ofNat 32, Char.ofNat 101, Char.ofNat 110, Char.ofNat 116, Char.ofNat 97, Char.ofNat 108, Char.ofNat 108, Char.ofNat 121, Char.ofNat 58, Char.ofNat 65, Char.ofNat 32, Char.ofNat 101, Char.ofNat 110, Char.ofNat 116, Char.ofNat 105, Char.ofNat 97, Char.ofNat 108, Char.ofNat 115, Char.ofNat 58, Char.ofNat 65, Char.ofNat 32, Char.ofNat 101, Char.ofNat 110, Char.ofNat 116, Char.ofNat 105, Char.ofNat 97, Char.ofNat 116, Char.ofNat 101, Char.ofNat 58, Char.ofNat 65, Char.ofNat 32, Char.ofNat 101, Char.ofNat 110, Char.ofNat 116, Char.ofNat 110, Char.ofNat 101, Char.ofNat 115, Char.ofNat 115, Char.ofNat 58, Char.ofNat 65, Char.ofNat 32, Char.ofNat 102, Char.ofNat 117, Char.ofNat 108, Char.ofNat 110, Char.ofNat 101, Char.ofNat 115, Char.ofNat 115, Char.ofNat 58, Char.ofNat 65, Char.ofNat 32, Char.ofNat 105, Char.ofNat 98, Char.ofNat 105, Char.ofNat 108, Char.ofNat 105, Char.ofNat 116, Char.ofNat 121, Char.ofNat 58, Char.ofNat 65, Char.ofNat 32, Char.ofNat 105, Char.ofNat 99, Char.ofNat 97, Char.ofNat 108, Char.ofNat 105, Char.ofNat 115, Char.ofNat 109, Char.ofNat 58, Char.ofNat 65, Char.ofNat 32, Char.ofNat 105, Char.ofNat 99, Char.ofNat 97, Char.ofNat 108, Char.ofNat 105, Char.ofNat 115, Char.ofNat 116, Char.ofNat 58, Char.ofNat 65, Char.ofNat 32, Char.ofNat 105, Char.ofNat 99, Char.ofNat 97, Char.ofNat 108, Char.ofNat 105, Char.ofNat 116, Char.ofNat 121, Char.ofNat 58, Char.ofNat 65, Char.ofNat 32, Char.ofNat 105, Char.ofNat 99, Char.ofNat 97, Char.ofNat 108, Char.ofNat 105, Char.ofNat 122, Char.ofNat 101, Char.ofNat 58, Char.ofNat 65, Char.ofNat 32, Char.ofNat 105, Char.ofNat 99, Char.ofNat 97, Char.ofNat 116, Char.ofNat 105, Char.ofNat 111, Char.ofNat 110, Char.ofNat 58, Char.ofNat 71, Char.ofNat 32, Char.ofNat 105, Char.ofNat 99, Char.ofNat 105, Char.ofNat 97, Char.ofNat 110, Char.ofNat 114, Char.ofNat 121, Char.ofNat 58, Char.ofNat 65, Char.ofNat 32, Char.ofNat 105, Char.ofNat 110, Char.ofNat 97, Char.ofNat 116, Char.ofNat 105, Char.ofNat 111, Char.ofNat 110, Char.ofNat 58, Char.ofNat 65, Char.ofNat 32, Char.ofNat 105, Char.ofNat 110, Char.ofNat 103, Char.ofNat 110, Char.ofNat 101, Char.ofNat 115, Char.ofNat 115, Char.ofNat 58, Char.ofNat 65, Char.ofNat 32, Char.ofNat 105, Char.ofNat 111, Char.ofNat 110, Char.ofNat 97, Char.ofNat 108, Char.ofNat 108, Char.ofNat 121, Char.ofNat 58, Char.ofNat 65, Char.ofNat 32, Char.ofNat 105, Char.ofNat 115, Char.ofNat 97, Char.ofNat 116, Char.ofNat 105, Char.ofNat 111, Char.ofNat 110, Char.ofNat 58, Char.ofNat 65, Char.ofNat 32, Char.ofNat 105, Char.ofNat 115, Char.ofNat 104, Char.ofNat 110, Char.ofNat 101, Char.ofNat 115, Char.ofNat 115, Char.ofNat 58, Char.ofNat 65, Char.ofNat 32, Char.ofNat 105, Char.ofNat 115, Char.ofNat 116, Char.ofNat 105, Char.ofNat 99, Char.ofNat 97, Char.ofNat 108, Char.ofNat 58, Char.ofNat 65, Char.ofNat 32, Char.ofNat 105, Char.ofNat 116, Char.ofNat 101, Char.ofNat 110, Char.ofNat 101, Char.ofNat 115, Char.ofNat 115, Char.ofNat 58, Char.ofNat 65, Char.ofNat 32, Char.ofNat 105, Char.ofNat 118, Char.ofNat 101, Char.ofNat 110, Char.ofNat 101, Char.ofNat 115, Char.ofNat 115, Char.ofNat 58, Char.ofNat 65, Char.ofNat 32, Char.ofNat 105, Char.ofNat 118, Char.ofNat 105, Char.ofNat 115, Char.ofNat 116, Char.ofNat 105, Char.ofNat 99, Char.ofNat 58, Char.ofNat 65, Char.ofNat 32, Char.ofNat 105, Char.ofNat 118, Char.ofNat 105, Char.ofNat 116, Char.ofNat 105, Char.ofNat 101, Char.ofNat 115, Char.ofNat 58, Char.ofNat 65, Char.ofNat 32, Char.ofNat 105, Char.ofNat 122, Char.ofNat 97, Char.ofNat 116, Char.ofNat 105, Char.ofNat 111, Char.ofNat 110, Char.ofNat 58, Char.ofNat 70, Char.ofNat 32, Char.ofNat 105, Char.ofNat 122, Char.ofNat 101, Char.ofNat 109, Char.ofNat 101, Char.ofNat 110, Char.ofNat 116, Char.ofNat 58, Char.ofNat 65, Char.ofNat 32, Char.ofNat 111, Char.ofNat 105, Char.ofNat 100, Char.ofNat 97, Char.ofNat 108, Char.ofNat 108, Char.ofNat 121, Char.ofNat 58, Char.ofNat 65, Char.ofNat 32, Char.ofNat 111, Char.ofNat 117, Char.ofNat 115, Char.ofNat 110, Char.ofNat 101, Char.ofNat 115, Char.ofNat 115, Char.ofNat 58, Char.ofNat 65, Char.ofNat 32]
theorem gq7 : gl7.all quietCp = true := by decide +kernel
noncomputable def gl8 : List Nat := [32, 97, 98, 108, 101, 110, 101, 115, 115, 58, 65, 32, 97, 114, 105, 122, 97, 98, 108, 101, 58, 65, 32, 101, 110, 116, 97, 116, 105, 111, 110, 58, 65, 32, 101, 110, 116, 105, 97, 108, 108, 121, 58, 65, 32, 101, 111, 117, 115, 110, 101, 115, 115, 58, 65, 32, 105, 98, 108, 101, 110, 101, 115, 115, 58, 65, 32, 105, 99, 97, 108, 110, 101, 115, 115, 58, 65, 32, 105, 111, 110, 97, 108, 105, 115, 109, 58, 65, 32, 105, 111, 110, 97, 108, 105, 116, 121, 58, 65, 32, 105, 111, 110, 97, 108, 105, 122, 101, 58, 65, 32, 105, 111, 117, 115, 110, 101, 115, 115, 58, 65, 32, 105, 122, 97, 116, 105, 111, 110, 115, 58, 65, 32, 108, 101, 115, 115, 110, 101, 115, 115, 58, 65, 32]
theorem ga8 : Str.ofString " ableness:A arizable:A entation:A entially:A eousness:A ibleness:A icalness:A ionalism:A ionality:A ionalize:A iousness:A izations:A lessness:A " = ⟨⟨gl8⟩⟩ := Fast.ofString_ofList [Char.ofNat 32, Char.ofNat 97, Char.ofNat 98, Char.ofNat 108, Char.ofNat 101, Char.ofNat 110, Char.ofNat 101, Char.ofNat 115, Char.ofNat 115, Char.ofNat 58, Char.ofNat 65, Char.ofNat 32, Char.ofNat 97, Char.ofNat 114, Char.ofNat 105, Char.ofNat 122, Char.ofNat 97, Char.ofNat 98, Char.ofNat 108, Char.ofNat 101, Char.ofNat 58, Char.ofNat 65, Char.ofNat 32, Char.ofNat 101, Char.ofNat 110, Char.ofNat 116, Char.ofNat 97, Char.ofNat 116, Char.ofNat 105, Char.ofNat 111, Char.ofNat 110, Char.ofNat 58, Char.ofNat 65, Char.ofNat 32, Char.ofNat 101, Char.ofNat 110, Char.ofNat 116, Char.ofNat 105, Char.ofNat 97, Char.ofNat 108, Char.ofNat 108, Char.ofNat 121, Char.ofNat 58, Char.ofNat 65, Char.ofNat 32, Char.ofNat 101, Char.ofNat 111, Char.ofNat 117, Char.ofNat 115, Char.ofNat 110, Char.ofNat 101, Char.ofNat 115, Char.ofNat 115, Char.ofNat 58, Char.ofNat 65, Char.ofNat 32, Char.ofNat 105, Char.ofNat 98, Char.ofNat 108, Char.ofNat 101, Char.ofNat 110, Char.ofNat 101, Char.ofNat 115, Char.ofNat 115, Char.ofNat 58, Char.ofNat 65, Char.ofNat 32, Char.ofNat 105, Char.ofNat 99, Char.ofNat 97, Char.ofNat 108, Char.ofNat 110, Char.ofNat 101, Char.ofNat 115, Char.ofNat 115, Char.ofNat 58, Char.ofNat 65, Char.ofNat 32, Char.ofNat 105, Char.ofNat 111, Char.ofNat 110, Char.ofNat 97, Char.ofNat 108, Char.ofNat 105, Char.ofNat 115, Char.ofNat 109, Char.ofNat 58, Char.ofNat 65, Char.ofNat 32, Char.ofNat 105, Char.ofNat 111, Char.ofNat 110, Char.ofNat 97, Char.ofNat 108, Char.ofNat 105, Char.ofNat 116, Char.ofNat 121, Char.ofNat 58, Char.ofNat 65, Char.ofNat 32, Char.ofNat 105, Char.ofNat 111, Char.ofNat 110, Char.ofNat 97, Char.ofNat 108, Char.ofNat 105, Char.ofNat 122, Char.ofNat 101, Char.ofNat 58, Char.ofNat 65, Char.ofNat 32, Char.ofNat 105, Char.ofNat 111, Char.ofNat 117, Char.ofNat 115, Char.ofNat 110, Char.ofNat 101, Char.ofNat 115, Char.ofNat 115, Char.ofNat 58, Char.ofNat 65, Char.ofNat 32, Char.ofNat 105, Char.ofNat 122, Char.ofNat 97, Char.ofNat 116, Char.ofNat 105, Char.ofNat 111, Char.ofNat 110, Char.ofNat 115, Char.ofNat 58, Char.ofNat 65, Char.ofNat 32, Char.ofNat 108, Char.ofNat 101, Char.ofNat 115, Char.ofNat 115, Char.ofNat 110, Char.ofNat 101, Char.ofNat 115, Char.ofNat 115, Char.ofNat 58, Char.ofNat 65, Char.ofNat 32]
theorem gq8 : gl8.all quietCp = true := by decide +kernel
noncomputable def gl9 : List Nat := [32, 97, 108, 108, 105, 99, 97, 108, 108, 121, 58, 67, 32, 97, 110, 116, 97, 110, 101, 111, 117, 115, 58, 65, 32, 97, 110, 116, 105, 97, 108, 105, 116, 121, 58, 65, 32, 97, 114, 105, 115, 97, 116, 105, 111, 110, 58, 65, 32, 97, 114, 105, 122, 97, 116, 105, 111, 110, 58, 65, 32, 97, 116, 105, 111, 110, 97, 108, 108, 121, 58, 66, 32, 97, 116, 105, 118, 101, 110, 101, 115, 115, 58, 65, 32, 101, 97, 98, 108, 101, 110, 101, 115, 115, 58, 69, 32, 101, 110, 116, 97, 116, 105, 111, 110, 115, 58, 65, 32, 101, 110, 116, 105, 97, 108, 105, 116, 121, 58, 65, 32, 101, 110, 116, 105, 97, 108, 105, 122, 101, 58, 65, 32, 101, 110, 116, 105, 97, 116, 105, 111, 110, 58, 65, 32, 105, 111, 110, 97, 108, 110, 101, 115, 115, 58, 65, 32, 105, 115, 116, 105, 99, 97, 108, 108, 121, 58, 65, 32, 105, 116, 111, 117, 115, 110, 101, 115, 115, 58, 65, 32, 105, 122, 97, 98, 105, 108, 105, 116, 121, 58, 65, 32, 105, 122, 97, 116, 105, 111, 110, 97, 108, 58, 65, 32]
theorem ga9 : Str.ofString " allically:C antaneous:A antiality:A arisation:A arization:A ationally:B ativeness:A eableness:E entations:A entiality:A entialize:A entiation:A ionalness:A istically:A itousness:A izability:A izational:A " = ⟨⟨gl9⟩⟩ := Fast.ofString_ofList [Char.ofNat 32, Char.ofNat 97, Char.ofNat 108, Char.ofNat 108, Char.ofNat 105, Char.ofNat 99, Char.ofNat 97, Char.ofNat 108, Char.ofNat 108, Char.ofNat 121, Char.ofNat 58, Char.ofNat 67, Char.ofNat 32, Char.ofNat 97, Char.ofNat 110, Char.ofNat 116, Char.ofNat 97, Char.ofNat 110, Char.ofNat 101, Char.ofNat 111, Char.ofNat 117, Char.ofNat 115, Char.ofNat 58, Char.ofNat 65, Char.ofNat 32, Char.ofNat 97, Char.ofNat 110, Char.ofNat 116, Char.ofNat 105, Char.ofNat 97, Char.ofNat 108, Char.ofNat 105, Char.ofNat 116, Char.ofNat 121, Char.ofNat 58, Char.ofNat 65, Char.ofNat 32, Char.ofNat 97, Char.ofNat 114, Char.ofNat 105, Char.ofNat 115, Char.ofNat 97, Char.ofNat 116, Char.ofNat 105, Char.ofNat 111, Char.ofNat 110, Char.ofNat 58, Char.ofNat 65, Char.ofNat 32, Char.ofNat 97, Char.ofNat 114, Char.ofNat 105, Char.ofNat 122, Char.ofNat 97, Char.ofNat 116, Char.ofNat 105, Char.ofNat 111, Char.ofNat 110, Char.ofNat 58, Char.ofNat 65, Char.ofNat 32, Char.ofNat 97, Char.ofNat 116, Char.ofNat 105, Char.ofNat 111, Char.ofNat 110, Char.ofNat 97, Char.ofNat 108, Char.ofNat 108, Char.ofNat 121, Char.ofNat 58, Char.ofNat 66, Char.ofNat 32, Char.ofNat 97, Char.ofNat 116, Char.ofNat 105, Char.ofNat 118, Char.ofNat 101, Char.ofNat 110, Char.ofNat 101, Char.ofNat 115, Char.ofNat 115, Char.ofNat 58, Char.ofNat 65, Char.ofNat 32, Char.ofNat 101, Char.ofNat 97, Char.ofNat 98, Char.ofNat 108, Char.ofNat 101, Char.ofNat 110, Char.ofNat 101, Char.ofNat 115, Char.ofNat 115, Char.ofNat 58, Char.ofNat 69, Char.ofNat 32, Char.ofNat 101, Char.ofNat 110, Char.ofNat 116, Char.ofNat 97, Char.ofNat 116, Char.ofNat 105, Char.ofNat 111, Char.ofNat 110, Char.ofNat 115, Char.ofNat 58, Char.ofNat 65, Char.ofNat 32, Char.ofNat 101, Char.ofNat 110, Char.ofNat 116, Char.ofNat 105, Char.ofNat 97, Char.ofNat 108, Char.ofNat 105, Char.ofNat 116, Char.ofNat 121, Char.ofNat 58, Char.ofNat 65, Char.ofNat 32, Char.ofNat 101, Char.ofNat 110, Char.ofNat 116, Char.ofNat 105, Char.ofNat 97, Char.ofNat 108, Char.ofNat 105, Char.ofNat 122, Char.ofNat 101, Char.ofNat 58, Char.ofNat 65, Char.ofNat 32, Char.ofNat 101, Char.ofNat 110, Char.ofNat 116, Char.ofNat 105, Char.ofNat 97, Char.ofNat 116, Char.ofNat 105, Char.ofNat 111, Char.ofNat 110, Char.ofNat 58, Char.ofNat 65, Char.ofNat 32, Char.ofNat 105, Char.ofNat 111, Char.ofNat 110, Char.ofNat 97, Char.ofNat 108, Char.ofNat 110, Char.ofNat 101, Char.ofNat 115, Char.ofNat 115, Char.ofNat 58, Char.ofNat 65, Char.ofNat 32, Char.ofNat 105, Char.ofNat 115, Char.ofNat 116, Char.ofNat 105, Char.ofNat 99, Char.ofNat 97, Char.ofNat 108, Char.ofNat 108, Char.ofNat 121, Char.ofNat 58, Char.ofNat 65, Char.ofNat 32, Char.ofNat 105, Char.ofNat 116, Char.ofNat 111, Char.ofNat 117, Char.ofNat 115, Char.ofNat 110, Char.ofNat 101, Char.ofNat 115, Char.ofNat 115, Char.ofNat 58, Char.ofNat 65, Char.ofNat 32, Char.ofNat 105, Char.ofNat 122, Char.ofNat 97, Char.ofNat 98, Char.ofNat 105, Char.ofNat 108, Char.ofNat 105, Char.ofNat 116, Char.ofNat 121, Char.ofNat 58, Char.ofNat 65, Char.ofNat 32, Char.ofNat 105, Char.ofNat 122, Char.ofNat 97, Char.ofNat 116, Char.ofNat 105, Char.ofNat 111, Char.ofNat 110, Char.ofNat 97, Char.ofNat 108, Char.ofNat 58, Char.ofNat 65, Char.ofNat 32]
theorem gq9 : gl9.all quietCp = true := by decide +kernel
noncomputable def gl10 : List Nat := [32, 97, 110, 116, 105, 97, 108, 110, 101, 115, 115, 58, 65, 32, 97, 114, 105, 115, 97, 116, 105, 111, 110, 115, 58, 65, 32, 97, 114, 105, 122, 97, 116, 105, 111, 110, 115, 58, 65, 32, 101, 110, 116, 105, 97, 108, 110, 101, 115, 115, 58, 65, 32]
theorem ga10 : Str.ofString " antialness:A arisations:A arizations:A entialness:A " = ⟨⟨gl10⟩⟩ := Fast.ofString_ofList [Char.ofNat 32, Char.ofNat 97, Char.ofNat 110, Char.ofNat 116, Char.ofNat 105, Char.ofNat 97, Char.ofNat 108, Char.ofNat 110, Char.ofNat 101, Char.ofNat 115, Char.ofNat 115, Char.ofNat 58, Char.ofNat 65, Char.ofNat 32, Char.ofNat 97, Char.ofNat 114, Char.ofNat 105, Char.ofNat 115, Char.ofNat 97, Char.ofNat 116, Char.ofNat 105, Char.ofNat 111, Char.ofNat 110, Char.ofNat 115, Char.ofNat 58, Char.ofNat 65, Char.ofNat 32, Char.ofNat 97, Char.ofNat 114, Char.ofNat 105, Char.ofNat 122, Char.ofNat 97, Char.ofNat 116, Char.ofNat 105, Char.ofNat 111, Char.ofNat 110, Char.ofNat 115, Char.ofNat 58, Char.ofNat 65, Char.ofNat 32, Char.ofNat 101, Char.ofNat 110, Char.ofNat 116, Char.ofNat 105, Char.ofNat 97, Char.ofNat 108, Char.ofNat 110, Char.ofNat 101, Char.ofNat 115, Char.ofNat 115, Char.ofNat 58, Char.ofNat 65, Char.ofNat 32]
theorem gq10 : gl10.all quietCp = true := by decide +kernel
noncomputable def gl11 : List Nat := [32, 97, 108, 105, 115, 116, 105, 99, 97, 108, 108, 121, 58, 66, 32, 97, 114, 105, 122, 97, 98, 105, 108, 105, 116, 121, 58, 65, 32, 105, 122, 97, 116, 105, 111, 110, 97, 108, 108, 121, 58, 66, 32]
theorem ga11 : Str.ofString " alistically:B arizability:A izationally:B " = ⟨⟨gl11⟩⟩ := Fast.ofString_ofList [Char.ofNat 32, Char.ofNat 97, Char.ofNat 108, Char.ofNat 105, Char.ofNat 115, Char.ofNat 116, Char.ofNat 105, Char.ofNat 99, Char.ofNat 97, Char.ofNat 108, Char.ofNat 108, Char.ofNat 121, Char.ofNat 58, Char.ofNat 66, Char.ofNat 32, Char.ofNat 97, Char.ofNat 114, Char.ofNat 105, Char.ofNat 122, Char.ofNat 97, Char.ofNat 98, Char.ofNat 105, Char.ofNat 108, Char.ofNat 105, Char.ofNat 116, Char.ofNat 121, Char.ofNat 58, Char.ofNat 65, Char.ofNat 32, Char.ofNat 105, Char.ofNat 122, Char.ofNat 97, Char.ofNat 116, Char.ofNat 105, Char.ofNat 111, Char.ofNat 110, Char.ofNat 97, Char.ofNat 108, Char.ofNat 108, Char.ofNat 121, Char.ofNat 58, Char.ofNat 66, Char.ofNat 32]
theorem gq11 : gl11.all quietCp = true := by decide +kernel

noncomputable def lk1 : Look := { strict := false, foot := none, bare := [] }
noncomputable def lk2 : Look := { strict := true, foot := some R.bound', writes := R.writes, may := R.may }
theorem goes81 {lk : Look} (hb : lk.but = none) (ho : lk.out.but = none) (hs : lk.stores [Expr.Name (Str.ofString "_law_goes") ⟨217, 0, 217, 9⟩] = true) (hn : lk.name (Str.ofString "_law_goes") = true) : noRoadLSs lk ((R.prog.main.body.drop 81).take 1) = true := by
  refine Eq.trans (b := (lk.stores [Expr.Name (Str.ofString "_law_goes") ⟨217, 0, 217, 9⟩] && (lk.name (Str.ofString "_law_goes") && true) && (lk.str (Str.ofString " ") && (lk.str (Str.ofString " a:A e:A i:A o:A s:W y:B ") && (lk.str (Str.ofString " ae:A al:b ar:X as:B ed:E en:F es:E ia:A ic:A is:A ly:B on:S or:T um:U us:V yl:R s':A 's:A ") && (lk.str (Str.ofString " acy:A age:B aic:A als:b ant:B ars:O ary:F ata:A ate:A eal:Y ear:Y ely:E ene:E ent:C ery:E ese:A ful:A ial:A ian:A ics:A ide:L ied:A ier:A ies:P ily:A ine:M ing:N ion:Q ish:C ism:B ist:A ite:a ity:A ium:A ive:A ize:F oid:A one:R ous:A ") && (lk.str (Str.ofString " able:A ably:A ages:B ally:B ance:B ancy:B ants:B aric:A arly:K ated:I ates:A atic:B ator:A ealy:Y edly:E eful:A eity:A ence:A ency:A ened:E enly:E eous:A hood:A ials:A ians:A ible:A ibly:A ical:A ides:L iers:A iful:A ines:M ings:N ions:B ious:A isms:B ists:A itic:H ized:F izer:F less:A lily:A ness:A ogen:A ward:A wise:A ying:B yish:A ") && (lk.str (Str.ofString " acies:A acity:A aging:B aical:A alist:A alism:B ality:A alize:A allic:b anced:B ances:B antic:C arial:A aries:A arily:A arity:B arize:A aroid:A ately:A ating:I ation:B ative:A ators:A atory:A ature:E early:Y ehood:A eless:A ement:A enced:A ences:A eness:E ening:E ental:A ented:C ently:A fully:A ially:A icant:A ician:A icide:A icism:A icist:A icity:A idine:I iedly:A ihood:A inate:A iness:A ingly:B inism:J inity:c ional:A ioned:A ished:A istic:A ities:A itous:A ively:A ivity:A izers:F izing:F oidal:A oides:A otide:A ously:A ") && (lk.str (Str.ofString " aceous:A acious:B action:G alness:A ancial:A ancies:A ancing:B ariser:A arized:A arizer:A atable:A ations:B atives:A eature:Z efully:A encies:A encing:A ential:A enting:C entist:A eously:A ialist:A iality:A ialize:A ically:A icance:A icians:A icists:A ifully:A ionals:A ionate:D ioning:A ionist:A iously:A istics:A izable:E lessly:A nesses:A oidism:A ") && (lk.str (Str.ofString " ability:A aically:A alistic:B alities:A ariness:E aristic:A arizing:A ateness:A atingly:A ational:B atively:A ativism:A elihood:E encible:A entally:A entials:A entiate:A entness:A fulness:A ibility:A icalism:A icalist:A icality:A icalize:A ication:G icianry:A ination:A ingness:A ionally:A isation:A ishness:A istical:A iteness:A iveness:A ivistic:A ivities:A ization:F izement:A oidally:A ousness:A ") && (lk.str (Str.ofString " ableness:A arizable:A entation:A entially:A eousness:A ibleness:A icalness:A ionalism:A ionality:A ionalize:A iousness:A izations:A lessness:A ") && (lk.str (Str.ofString " allically:C antaneous:A antiality:A arisation:A arization:A ationally:B ativeness:A eableness:E entations:A entiality:A entialize:A entiation:A ionalness:A istically:A itousness:A izability:A izational:A ") && (lk.str (Str.ofString " antialness:A arisations:A arizations:A entialness:A ") && (lk.str (Str.ofString " alistically:B arizability:A izationally:B ") && true)))))))))))) && true)) (by kernel_rfl) ?_
  rw [hs, hn, ga0, ga1, ga2, ga3, ga4, ga5, ga6, ga7, ga8, ga9, ga10, ga11]
  rw [str_ok hb gq0, str_ok hb gq1, str_ok hb gq2, str_ok hb gq3, str_ok hb gq4, str_ok hb gq5, str_ok hb gq6, str_ok hb gq7, str_ok hb gq8, str_ok hb gq9, str_ok hb gq10, str_ok hb gq11]
  rfl
theorem lk2_eq : lk2 = { strict := true, foot := some (Fast.tw797321630700447069 R), writes := R.writes, may := Fast.tw9572597257264208301 R } := by
  unfold lk2
  rewrite [Fast.te797321630700447069, Fast.te9572597257264208301]
  rfl
theorem s1 : lk1.stores [Expr.Name (Str.ofString "_law_goes") ⟨217, 0, 217, 9⟩] = true := by rewrite [Fast.te16848011837605711753]; kernel_rfl
theorem s2 : lk1.name (Str.ofString "_law_goes") = true := by rewrite [Fast.te2597284629091452987]; kernel_rfl
theorem s3 : lk2.stores [Expr.Name (Str.ofString "_law_goes") ⟨217, 0, 217, 9⟩] = true := by rewrite [lk2_eq, Fast.te16848011837605711753]; kernel_rfl
theorem s4 : lk2.name (Str.ofString "_law_goes") = true := by rewrite [lk2_eq, Fast.te2597284629091452987]; kernel_rfl
theorem g81a : noRoadLSs lk1 ((R.prog.main.body.drop 81).take 1) = true := goes81 rfl rfl s1 s2
theorem g81b : noRoadLSs lk2 ((R.prog.main.body.drop 81).take 1) = true := goes81 rfl rfl s3 s4
theorem n1a : noRoadLSs lk1 (R.prog.main.body.take 60) = true := by rewrite [Fast.te8326940854005059898]; kernel_rfl
theorem n1b : noRoadLSs lk1 ((R.prog.main.body.drop 60).take 10) = true := by rewrite [Fast.te8326940854005059898]; kernel_rfl
theorem n1c : noRoadLSs lk1 ((R.prog.main.body.drop 70).take 11) = true := by rewrite [Fast.te8326940854005059898]; kernel_rfl
theorem n1d : noRoadLSs lk1 (R.prog.main.body.drop (81 + 1)) = true := by rewrite [Fast.te8326940854005059898]; kernel_rfl
theorem n1 : noRoadLSs lk1 R.prog.main.body = true := nrs_cut (n := 60) n1a (nrs_cut' 60 10 n1b (nrs_cut' 70 11 n1c (nrs_cut' 81 1 g81a n1d)))
theorem n2a : noRoadLSs lk2 ((R.prog.main.body.drop 80).take 1) = true := by rewrite [lk2_eq, Fast.te8326940854005059898]; kernel_rfl
theorem n2b : noRoadLSs lk2 (R.prog.main.body.drop (81 + 1)) = true := by rewrite [lk2_eq, Fast.te8326940854005059898]; kernel_rfl
theorem n2 : noRoadLSs lk2 R.footing = true := nrs_cut' 80 1 n2a (nrs_cut' 81 1 g81b n2b)
theorem h1 : ((importedModules R.row.prog.main.body).all cThrough.contains) = true := by rewrite [Fast.te5923862056798008813, Fast.te3471404346716756564, Fast.te17691160309236699985]; kernel_rfl
theorem h2 : ((["vars", "dir", "locals"] : List Str).filter (readsOut R.row.prog R.row.prog.main.body)).isEmpty = true := by rewrite [Fast.te13343964577679436407]; kernel_rfl
theorem lk1_eq : ({ strict := !(importedModules R.row.prog.main.body).all cThrough.contains, foot := none, bare := (["vars", "dir", "locals"] : List Str).filter (readsOut R.row.prog R.row.prog.main.body) } : Look) = lk1 := by
  have h1 : (!(importedModules R.row.prog.main.body).all cThrough.contains) = false := by
    rw [Bool.not_eq_false']; exact h1
  have h2 : ((["vars", "dir", "locals"] : List Str).filter (readsOut R.row.prog R.row.prog.main.body)).isEmpty = true := h2
  rw [h1, List.isEmpty_iff.mp h2]; rfl
theorem n1' : noRoadLSs { strict := !(importedModules R.row.prog.main.body).all cThrough.contains, foot := none, bare := (["vars", "dir", "locals"] : List Str).filter (readsOut R.row.prog R.row.prog.main.body) } R.row.prog.main.body = true := by
  rw [lk1_eq]; exact n1
theorem n2' : noRoadLSs { strict := true, foot := some (OpenLaw.bound' R), writes := R.writes, may := OpenLaw.may R } (OpenLaw.footing R) = true := n2
theorem said : R.wellSaid = true := by
  unfold OpenLaw.wellSaid OpenRow.wellSaid OpenRow.partSaid looksOpen
  repeat' (with_reducible refine look_both ?_ ?_)
  all_goals (with_reducible first | exact n1' | exact n2' | skip)
  all_goals (try rewrite [Fast.te9807087744658564304])
  all_goals (try rewrite [Fast.te12862048085361865435])
  all_goals (try rewrite [Fast.te8377067652309620493])
  all_goals (try rewrite [Fast.te18344453789297297638])
  all_goals (try rewrite [Fast.te3471404346716756564])
  all_goals (try rewrite [Fast.te14412699480532031325])
  all_goals (try rewrite [Fast.te17119622794617984870])
  all_goals (try rewrite [Fast.te17868728402115742887])
  all_goals (try rewrite [Fast.te9706382859710513879])
  all_goals (try rewrite [Fast.te2357444279172408678])
  all_goals (try rewrite [Fast.te4857012375875476094])
  all_goals (try rewrite [Fast.te13582783067957832011])
  all_goals (try rewrite [Fast.te5318747976498570220])
  all_goals (try rewrite [Fast.te4579403493507170074])
  all_goals (try rewrite [Fast.te4274047373036748609])
  all_goals (try rewrite [Fast.te12749700546528644094])
  all_goals (try rewrite [Fast.te10501279942588096481])
  all_goals (try rewrite [Fast.te8179353310426384613])
  all_goals (try rewrite [Fast.te9558739934217749035])
  all_goals (try rewrite [Fast.te16286561074155671207])
  all_goals (try rewrite [Fast.te797321630700447069])
  all_goals (try rewrite [Fast.te6984425678791042302])
  all_goals (try rewrite [Fast.te17095254045102204799])
  all_goals (try rewrite [Fast.te12879404354523853263])
  all_goals (try rewrite [Fast.te482687673346738481])
  all_goals (try rewrite [Fast.te9572597257264208301])
  all_goals (try rewrite [Fast.te10792542408131684335])
  all_goals (try rewrite [Fast.te7723801398212525404])
  all_goals (try rewrite [Fast.te11788848310118352699])
  all_goals (try rewrite [sDec_eq])
  all_goals (try rewrite [Fast.named_eq])
  all_goals kernel_rfl
end Mine
end
section
open PySem PySem.W PySem.Calls PyProof.Rows
namespace Mine
abbrev P0 : Program := PySem.Challenge.pw_iv0078_01
def nthS : Nat → List Stmt → Stmt
  | 0, s :: _ => s
  | n + 1, _ :: r => nthS n r
  | _, [] => .Pass ⟨0, 0, 0, 0⟩
/-- the text's statement of that number -/
def stN (i : Nat) : Stmt := nthS i P0.main.body
def nmS : Stmt → Str
  | .FunctionDef n _ _ _ _ _ _ _ _ _ => n
  | _ => Str.empty
def paS : Stmt → Arguments
  | .FunctionDef _ a _ _ _ _ _ _ _ _ => a
  | _ => default
def boS : Stmt → List Stmt
  | .FunctionDef _ _ b _ _ _ _ _ _ _ => b
  | _ => []
def scS : Stmt → Scope
  | .FunctionDef _ _ _ _ _ _ sc _ _ _ => sc
  | _ => default
abbrev Vn : Value := .none
abbrev Vi (i : Int) (t : Nat) : Value := .int i t
abbrev Vs (s : String) (t : Nat) : Value := .str (Str.ofString s) t
abbrev Vr (a : Addr) : Value := .ref a
abbrev hDe (P : Params) (s : String) (t : Nat) (v : Value) : DictEntry := ⟨PyData.keyHash P (Str.ofString s), .str (Str.ofString s) t, v⟩
abbrev Os (c : Value) (l : List Value) (n : Nat) : Obj := ⟨c, none, .seq (Array.mk l) n, #[]⟩
abbrev Of (c : Value) (l : List Value) : Obj := ⟨c, none, .fields (Array.mk l), #[]⟩
abbrev Od (c : Value) (l : List DictEntry) (n : Nat) : Obj := ⟨c, none, .dict (Array.mk l) n, #[]⟩
abbrev Fh (i : Nat) : Obj := ⟨.none, none, .func { name := nmS (stN i), qualname := nmS (stN i), params := paS (stN i), body := .stmts (boS (stN i)), scope := scS (stN i), globals := 0, closure := [], defaults := .none, kwdefaults := .none }, #[]⟩
abbrev Ff (i c : Nat) (m : Value) : Obj := ⟨.type "function", none, .func { name := nmS (stN i), qualname := nmS (stN i), params := paS (stN i), body := .stmts (boS (stN i)), scope := scS (stN i), globals := 3, closure := [], defaults := .none, kwdefaults := .none, pyModule := m, code := .ref c }, #[]⟩
noncomputable abbrev hN (o : Obj) (l r : BT) : BT := .node o l r
noncomputable abbrev hE : BT := .nil
noncomputable def Ts31 (P : Params) : BT := (hN (Os (Value.type "tuple") [(Vs "base" 206)] 0) (hN (Ff 7 62 (Vs "whoosh.lang.lovins" 187)) (hN (Os (Value.type "tuple") [] 0) (hN (Os (Value.type "tuple") [(Vs "entiality" 510), (Vs "A" 413)] 0) (hN (Of (Value.type "StopIteration") [(Vr 510), Vn, Vn, Vn, (Value.bool false), Vn]) hE hE) hE) (hN (Os (Value.type "tuple") [(Vs "acies" 735), (Vs "A" 413)] 0) (hN (Os (Value.type "tuple") [(Vs "yz" 1199), (Vs "ys" 1200)] 0) hE hE) hE)) (hN (Of Vn []) (hN (Os (Value.type "tuple") [(Vs "isation" 598), (Vs "A" 413)] 0) (hN (Os (Value.type "tuple") [(Vs "'s" 1072), (Vs "A" 413)] 0) hE hE) hE) (hN (Os (Value.type "tuple") [(Vs "oides" 799), (Vs "A" 413)] 0) (hN (Of Vn []) hE hE) hE))) (hN (Os (Value.type "tuple") [] 0) (hN (Fh 21) (hN (Of (Value.type "tuple_iterator") [Vn, (Vi 13 0)]) (hN (Os (Value.type "tuple") [(Vs "ite" 1004), (Vs "a" 465)] 0) hE hE) hE) (hN (Os (Value.type "tuple") [(Vs "eness" 767), (Vs "E" 421)] 0) (hN (Os (Value.type "tuple") [(Vs "word" 1675)] 0) hE hE) hE)) (hN (Of (Value.type "code") [(Vs "_holds" 471), (Vs "_holds" 472), (Vs "/claim/cut.py" 473), (Vi 107 0), (Vi 2 0), (Vi 0 0), (Vi 0 0), (Vi 3 0), (Vr 218), (Value.bool true), (Vi 181 0), (Vr 219), Vn, (Vr 220), (Vr 221), (Vr 222), (Vi 476 0), (Vi 107 0), (Vs "/claim/cut.py" 477)]) (hN (Os (Value.type "tuple") [(Vs "efully" 667), (Vs "A" 413)] 0) (hN (Os (Value.type "tuple") [(Vs "uct" 1130), (Vs "uc" 1131)] 0) hE hE) hE) (hN (Os (Value.type "tuple") [(Vs "hood" 895), (Vs "A" 413)] 0) hE hE))))
noncomputable def Ts47 (P : Params) : BT := (hN (Fh 5) (hN (Of Vn []) (hN (Os (Value.type "tuple") [(Vs "base" 330), (Vs "l2" 331)] 0) (hN (Os (Value.type "tuple") [(Vs "arizable" 540), (Vs "A" 413)] 0) (hN (Os (Value.type "tuple") [(Vs "ese" 988), (Vs "A" 413)] 0) hE hE) hE) (hN (Os (Value.type "tuple") [(Vs "arize" 751), (Vs "A" 413)] 0) (hN (Os (Value.type "list") [(Vr 614)] 1) hE hE) hE)) (hN (Os (Value.type "tuple") [] 0) (hN (Os (Value.type "tuple") [] 0) (hN (Os (Value.type "tuple") [(Vs "'tuple' object has no attribute 'keys'" 1102)] 0) hE hE) hE) (hN (Os (Value.type "tuple") [(Vs "ants" 879), (Vs "B" 415)] 0) (hN (Os (Value.type "tuple") [] 0) hE hE) hE))) (hN (Of (Value.type "code") [(Vs "_N" 289), (Vs "_N" 290), (Vs "/claim/cut.py" 291), (Vi 35 0), (Vi 1 0), (Vi 0 0), (Vi 0 0), (Vi 3 0), (Vr 106), (Value.bool true), (Vi 181 0), (Vr 107), Vn, (Vr 108), (Vr 109), (Vr 110), (Vi 293 0), (Vi 35 0), (Vs "/claim/cut.py" 294)]) (hN (Ff 23 174 (Vs "whoosh.lang.lovins" 187)) (hN (Os (Value.type "tuple") [(Vs "encible" 582), (Vs "A" 413)] 0) (hN (Os (Value.type "tuple") [(Vs "al" 1056), (Vs "b" 467)] 0) hE hE) hE) (hN (Os (Value.type "tuple") [(Vs "inate" 783), (Vs "A" 413)] 0) (hN (Os (Value.type "tuple") [] 0) hE hE) hE)) (hN (Os (Value.type "tuple") [(Vr 235), (Vr 236), (Vr 237), (Vr 238)] 0) (hN (Os (Value.type "tuple") [(Vs "ionate" 683), (Vs "D" 419)] 0) (hN (Os (Value.type "tuple") [(Vs "uad" 1163), (Vs "uas" 1164)] 0) hE hE) hE) (hN (Os (Value.type "tuple") [(Vs "ized" 911), (Vs "F" 423)] 0) hE hE))))
noncomputable def Ts39 (P : Params) : BT := (hN (Os (Value.type "tuple") [] 0) (hN (Os (Value.type "tuple") [] 0) (hN (Of Vn []) (hN (Os (Value.type "tuple") [(Vr 246), (Vr 247), (Vr 248), (Vr 249), (Vr 250), (Vr 251), (Vr 252), (Vr 253), (Vr 254), (Vr 255), (Vr 256), (Vr 257), (Vr 258), (Vr 259), (Vr 260), (Vr 261), (Vr 262)] 0) (hN (Os (Value.type "tuple") [(Vs "ata" 980), (Vs "A" 413)] 0) hE hE) hE) (hN (Os (Value.type "tuple") [(Vs "allic" 743), (Vs "b" 467)] 0) (hN (Ff 74 646 (Vs "whoosh.lang.lovins" 187)) hE hE) hE)) (hN (Os (Value.type "tuple") [(Vs "base" 393), (Vs "c" 394), (Vs "l2" 395)] 0) (hN (Os (Value.type "tuple") [(Vs "izement" 606), (Vs "A" 413)] 0) (hN (Os (Value.type "tuple") [(Vs "a" 1095), (Vs "A" 413)] 0) hE hE) hE) (hN (Os (Value.type "tuple") [] 0) (hN (Os (Value.type "tuple") [(Vs "word" 1803), (Vs "size" 1804), (Vs "left" 1805), (Vs "ending" 1806), (Vs "place" 1807), (Vs "held" 1808)] 0) hE hE) hE))) (hN (Fh 13) (hN (Of (Value.type "code") [(Vs "_V" 352), (Vs "_V" 353), (Vs "/claim/cut.py" 354), (Vi 57 0), (Vi 1 0), (Vi 0 0), (Vi 0 0), (Vi 3 0), (Vr 162), (Value.bool true), (Vi 181 0), (Vr 163), Vn, (Vr 164), (Vr 165), (Vr 166), (Vi 356 0), (Vi 57 0), (Vs "/claim/cut.py" 357)]) (hN (Os (Value.type "tuple") [(Vs "aristic" 574), (Vs "A" 413)] 0) (hN (Os (Value.type "tuple") [(Vr 512), (Vr 513), (Vr 514), (Vr 515), (Vr 516), (Vr 517), (Vr 518), (Vr 519), (Vr 520), (Vr 521), (Vr 522), (Vr 523), (Vr 524), (Vr 525), (Vr 526), (Vr 527), (Vr 528), (Vr 529), (Vr 530), (Vr 531), (Vr 532), (Vr 533), (Vr 534), (Vr 535), (Vr 536), (Vr 537), (Vr 538), (Vr 539), (Vr 540), (Vr 541), (Vr 542), (Vr 543), (Vr 544), (Vr 545), (Vr 546), (Vr 547), (Vr 548), (Vr 549), (Vr 550)] 0) hE hE) hE) (hN (Os (Value.type "tuple") [(Vs "ician" 775), (Vs "A" 413)] 0) (hN (Os (Value.type "tuple") [] 0) hE hE) hE)) (hN (Of (Value.type "AttributeError") [(Vr 230), Vn, Vn, Vn, (Value.bool false), Vn, (Vs "keys" 484), (Vr 228)]) (hN (Os (Value.type "tuple") [(Vs "iality" 675), (Vs "A" 413)] 0) (hN (Os (Value.type "tuple") [(Vs "bex" 1147), (Vs "bic" 1148)] 0) hE hE) hE) (hN (Os (Value.type "tuple") [(Vs "iful" 903), (Vs "A" 413)] 0) hE hE))))
noncomputable def Ts55 (P : Params) : BT := (hN (Of (Value.type "code") [(Vs "_F" 224), (Vs "_F" 225), (Vs "/claim/cut.py" 226), (Vi 12 0), (Vi 1 0), (Vi 0 0), (Vi 0 0), (Vi 3 0), (Vr 50), (Value.bool true), (Vi 181 0), (Vr 51), Vn, (Vr 52), (Vr 53), (Vr 54), (Vi 228 0), (Vi 12 0), (Vs "/claim/cut.py" 229)]) (hN (Os (Value.type "tuple") [(Vs "base" 266), (Vs "c" 267), (Vs "cc" 268)] 0) (hN (Os (Value.type "tuple") [] 0) (hN (Os (Value.type "tuple") [(Vs "ionalize" 548), (Vs "A" 413)] 0) (hN (Os (Value.type "tuple") [(Vs "ies" 996), (Vs "P" 443)] 0) hE hE) hE) (hN (Os (Value.type "tuple") [(Vs "ature" 759), (Vs "E" 421)] 0) (hN (Of Vn []) hE hE) hE)) (hN (Fh 29) (hN (Os (Value.type "tuple") [(Vs "ancing" 659), (Vs "B" 415)] 0) (hN (Os (Value.type "tuple") [(Vs "word" 1115), (Vs "length" 1116), (Vs "el" 1117), (Vs "ending" 1118), (Vs "cond" 1119), (Vs "base" 1120)] 0) hE hE) hE) (hN (Os (Value.type "tuple") [(Vs "edly" 887), (Vs "E" 421)] 0) (hN (Ff 90 726 (Vs "law_iv0078_01" 1679)) hE hE) hE))) (hN (Ff 15 118 (Vs "whoosh.lang.lovins" 187)) (hN (Os (Value.type "tuple") [] 0) (hN (Os (Value.type "tuple") [(Vs "icalist" 590), (Vs "A" 413)] 0) (hN (Os (Value.type "tuple") [(Vs "is" 1064), (Vs "A" 413)] 0) hE hE) hE) (hN (Os (Value.type "tuple") [(Vs "istic" 791), (Vs "A" 413)] 0) (hN (Of (Value.type "code") [(Vs "_law_closes" 1775), (Vs "_law_closes" 1776), (Vs "/claim/cut.py" 1777), (Vi 223 0), (Vi 2 0), (Vi 0 0), (Vi 0 0), (Vi 3 0), (Vr 692), (Value.bool true), (Vi 181 0), (Vr 693), Vn, Vn, Vn, (Vr 694), (Vi 1778 0), (Vi 223 0), (Vs "/claim/cut.py" 1779)]) hE hE) hE)) (hN (Os (Value.type "tuple") [(Vs "antaneous" 502), (Vs "A" 413)] 0) (hN (Os (Value.type "tuple") [(Vs "oidism" 691), (Vs "A" 413)] 0) (hN (Os (Value.type "tuple") [(Vs "lud" 1180), (Vs "lus" 1181)] 0) hE hE) hE) (hN (Os (Value.type "tuple") [(Vs "ying" 919), (Vs "B" 415)] 0) hE hE))))
noncomputable def Ts35 (P : Params) : BT := (hN (Ff 3 34 (Vs "whoosh.lang.lovins" 187)) (hN (Os (Value.type "tuple") [] 0) (hN (Fh 17) (hN (Os (Value.type "tuple") [(Vs "istically" 514), (Vs "A" 413)] 0) (hN (Os (Value.type "tuple") [(Vs "als" 976), (Vs "b" 467)] 0) hE hE) hE) (hN (Os (Value.type "tuple") [(Vs "alist" 739), (Vs "A" 413)] 0) (hN (Os (Value.type "tuple") [(Vs "endings" 1205), (Vs "found" 1206), (Vs "rule" 1207)] 0) hE hE) hE)) (hN (Of (Value.type "code") [(Vs "_Z" 383), (Vs "_Z" 384), (Vs "/claim/cut.py" 385), (Vi 68 0), (Vi 1 0), (Vi 0 0), (Vi 0 0), (Vi 3 0), (Vr 190), (Value.bool true), (Vi 181 0), (Vr 191), Vn, (Vr 192), (Vr 193), (Vr 194), (Vi 387 0), (Vi 68 0), (Vs "/claim/cut.py" 388)]) (hN (Os (Value.type "tuple") [(Vs "iveness" 602), (Vs "A" 413)] 0) (hN (Of (Value.type "AttributeError") [(Vr 578), Vn, Vn, Vn, (Value.bool false), Vn, (Vs "keys" 1075), (Vr 576)]) hE hE) hE) (hN (Od (Value.type "dict") [hDe P "acies" 735 (Vs "A" 413), hDe P "acity" 736 (Vs "A" 413), hDe P "aging" 737 (Vs "B" 415), hDe P "aical" 738 (Vs "A" 413), hDe P "alist" 739 (Vs "A" 413), hDe P "alism" 740 (Vs "B" 415), hDe P "ality" 741 (Vs "A" 413), hDe P "alize" 742 (Vs "A" 413), hDe P "allic" 743 (Vs "b" 467), hDe P "anced" 744 (Vs "B" 415), hDe P "ances" 745 (Vs "B" 415), hDe P "antic" 746 (Vs "C" 417), hDe P "arial" 747 (Vs "A" 413), hDe P "aries" 748 (Vs "A" 413), hDe P "arily" 749 (Vs "A" 413), hDe P "arity" 750 (Vs "B" 415), hDe P "arize" 751 (Vs "A" 413), hDe P "aroid" 752 (Vs "A" 413), hDe P "ately" 753 (Vs "A" 413), hDe P "ating" 754 (Vs "I" 429), hDe P "ation" 755 (Vs "B" 415), hDe P "ative" 756 (Vs "A" 413), hDe P "ators" 757 (Vs "A" 413), hDe P "atory" 758 (Vs "A" 413), hDe P "ature" 759 (Vs "E" 421), hDe P "early" 760 (Vs "Y" 461), hDe P "ehood" 761 (Vs "A" 413), hDe P "eless" 762 (Vs "A" 413), hDe P "elily" 763 (Vs "A" 413), hDe P "ement" 764 (Vs "A" 413), hDe P "enced" 765 (Vs "A" 413), hDe P "ences" 766 (Vs "A" 413), hDe P "eness" 767 (Vs "E" 421), hDe P "ening" 768 (Vs "E" 421), hDe P "ental" 769 (Vs "A" 413), hDe P "ented" 770 (Vs "C" 417), hDe P "ently" 771 (Vs "A" 413), hDe P "fully" 772 (Vs "A" 413), hDe P "ially" 773 (Vs "A" 413), hDe P "icant" 774 (Vs "A" 413), hDe P "ician" 775 (Vs "A" 413), hDe P "icide" 776 (Vs "A" 413), hDe P "icism" 777 (Vs "A" 413), hDe P "icist" 778 (Vs "A" 413), hDe P "icity" 779 (Vs "A" 413), hDe P "idine" 780 (Vs "I" 429), hDe P "iedly" 781 (Vs "A" 413), hDe P "ihood" 782 (Vs "A" 413), hDe P "inate" 783 (Vs "A" 413), hDe P "iness" 784 (Vs "A" 413), hDe P "ingly" 785 (Vs "B" 415), hDe P "inism" 786 (Vs "J" 431), hDe P "inity" 787 (Vs "c" 469), hDe P "ional" 788 (Vs "A" 413), hDe P "ioned" 789 (Vs "A" 413), hDe P "ished" 790 (Vs "A" 413), hDe P "istic" 791 (Vs "A" 413), hDe P "ities" 792 (Vs "A" 413), hDe P "itous" 793 (Vs "A" 413), hDe P "ively" 794 (Vs "A" 413), hDe P "ivity" 795 (Vs "A" 413), hDe P "izers" 796 (Vs "F" 423), hDe P "izing" 797 (Vs "F" 423), hDe P "oidal" 798 (Vs "A" 413), hDe P "oides" 799 (Vs "A" 413), hDe P "otide" 800 (Vs "A" 413), hDe P "ously" 801 (Vs "A" 413)] 67) (hN (Of (Value.type "code") [(Vs "_law_holds" 1787), (Vs "_law_holds" 1788), (Vs "/claim/cut.py" 1789), (Vi 228 0), (Vi 2 0), (Vi 0 0), (Vi 0 0), (Vi 3 0), (Vr 702), (Value.bool true), (Vi 181 0), (Vr 703), Vn, (Vr 704), (Vr 705), (Vr 706), (Vi 1797 0), (Vi 228 0), (Vs "/claim/cut.py" 1798)]) hE hE) hE))) (hN (Os (Value.type "tuple") [] 0) (hN (Of Vn []) (hN (Os (Value.type "tuple") [(Vs "aically" 570), (Vs "A" 413)] 0) (hN (Os (Value.type "tuple") [(Vs "ize" 1008), (Vs "F" 423)] 0) hE hE) hE) (hN (Os (Value.type "tuple") [(Vs "ently" 771), (Vs "A" 413)] 0) (hN (Ff 78 674 (Vs "whoosh.lang.lovins" 187)) hE hE) hE)) (hN (Os (Value.type "tuple") [(Vs "izationally" 481), (Vs "B" 415)] 0) (hN (Os (Value.type "tuple") [(Vs "enting" 671), (Vs "C" 417)] 0) (hN (Os (Value.type "tuple") [(Vs "istr" 1138), (Vs "ister" 1139)] 0) hE hE) hE) (hN (Os (Value.type "tuple") [(Vs "ibly" 899), (Vs "A" 413)] 0) hE hE))))
noncomputable def Ts51 (P : Params) : BT := (hN (Of Vn []) (hN (Of (Value.type "code") [(Vs "_J" 255), (Vs "_J" 256), (Vs "/claim/cut.py" 257), (Vi 22 0), (Vi 1 0), (Vi 0 0), (Vi 0 0), (Vi 3 0), (Vr 78), (Value.bool true), (Vi 181 0), (Vr 79), Vn, (Vr 80), (Vr 81), (Vr 82), (Vi 260 0), (Vi 22 0), (Vs "/claim/cut.py" 261)]) (hN (Ff 19 146 (Vs "whoosh.lang.lovins" 187)) (hN (Os (Value.type "tuple") [(Vs "ibleness" 544), (Vs "A" 413)] 0) (hN (Os (Value.type "tuple") [(Vs "ics" 992), (Vs "A" 413)] 0) hE hE) hE) (hN (Os (Value.type "tuple") [(Vs "ation" 755), (Vs "B" 415)] 0) (hN (Os (Value.type "tuple") [] 0) hE hE) hE)) (hN (Os (Value.type "tuple") [] 0) (hN (Os (Value.type "tuple") [(Vs "action" 655), (Vs "G" 425)] 0) (hN (Of (Value.type "StopIteration") [(Vr 594), Vn, Vn, Vn, (Value.bool false), Vn]) hE hE) hE) (hN (Os (Value.type "tuple") [(Vs "ates" 883), (Vs "A" 413)] 0) (hN (Os (Value.type "tuple") [] 0) hE hE) hE))) (hN (Os (Value.type "tuple") [(Vs "base" 299), (Vs "c" 300)] 0) (hN (Os (Value.type "tuple") [] 0) (hN (Os (Value.type "tuple") [(Vs "entness" 586), (Vs "A" 413)] 0) (hN (Os (Value.type "tuple") [(Vs "en" 1060), (Vs "F" 423)] 0) hE hE) hE) (hN (Os (Value.type "tuple") [(Vs "inity" 787), (Vs "c" 469)] 0) (hN (Os (Value.type "list") [(Vs "e" 1708), (Vs "s" 1709), (Vs "ed" 1710), (Vs "en" 1711), (Vs "ar" 1712), (Vs "on" 1713), (Vs "or" 1714), (Vs "um" 1715), (Vs "us" 1716), (Vs "yl" 1717), (Vs "s'" 1718), (Vs "al" 1719), (Vs "als" 1720), (Vs "ars" 1721), (Vs "ear" 1722), (Vs "ide" 1723), (Vs "ies" 1724), (Vs "ine" 1725), (Vs "ing" 1726), (Vs "ion" 1727), (Vs "ite" 1728), (Vs "ize" 1729), (Vs "one" 1730), (Vs "ent" 1731), (Vs "ish" 1732), (Vs "arly" 1733), (Vs "ated" 1734), (Vs "ealy" 1735), (Vs "ides" 1736), (Vs "ines" 1737), (Vs "ings" 1738), (Vs "itic" 1739), (Vs "ionally" 1740), (Vs "ized" 1741), (Vs "allic" 1742), (Vs "antic" 1743), (Vs "ating" 1744), (Vs "ature" 1745), (Vs "early" 1746), (Vs "ening" 1747), (Vs "idine" 1748), (Vs "inism" 1749), (Vs "inity" 1750), (Vs "izers" 1751), (Vs "ously" 1752), (Vs "action" 1753), (Vs "eature" 1754), (Vs "enting" 1755), (Vs "ionate" 1756), (Vs "izable" 1757), (Vs "ariness" 1758), (Vs "ational" 1759), (Vs "elihood" 1760), (Vs "ication" 1761), (Vs "ization" 1762), (Vs "entation" 1763), (Vs "ationally" 1764), (Vs "eableness" 1765), (Vs "allically" 1766), (Vs "arizations" 1767), (Vs "alistically" 1768), (Vs "izationally" 1769), (Vs "ness" 1770), (Vs "less" 1771), (Vs "ation" 1772), (Vs "istic" 1773)] 0) hE hE) hE)) (hN (Of (Value.type "tuple_iterator") [Vn, (Vi 4 0)]) (hN (Os (Value.type "tuple") [(Vs "istics" 687), (Vs "A" 413)] 0) (hN (Os (Value.type "tuple") [(Vs "erid" 1171), (Vs "eris" 1172)] 0) hE hE) hE) (hN (Os (Value.type "tuple") [(Vs "ness" 915), (Vs "A" 413)] 0) hE hE))))
noncomputable def Ts43 (P : Params) : BT := (hN (Os (Value.type "tuple") [] 0) (hN (Fh 9) (hN (Of (Value.type "code") [(Vs "_R" 319), (Vs "_R" 320), (Vs "/claim/cut.py" 321), (Vi 45 0), (Vi 1 0), (Vi 0 0), (Vi 0 0), (Vi 3 0), (Vr 134), (Value.bool true), (Vi 181 0), (Vr 135), Vn, (Vr 136), (Vr 137), (Vr 138), (Vi 324 0), (Vi 45 0), (Vs "/claim/cut.py" 325)]) (hN (Of (Value.type "tuple_iterator") [Vn, (Vi 17 0)]) (hN (Os (Value.type "tuple") [(Vs "ely" 984), (Vs "E" 421)] 0) hE hE) hE) (hN (Os (Value.type "tuple") [(Vs "arial" 747), (Vs "A" 413)] 0) (hN (Os (Value.type "list") [(Vr 604), (Vr 606), (Vr 613)] 3) hE hE) hE)) (hN (Ff 27 202 (Vs "whoosh.lang.lovins" 187)) (hN (Od (Value.type "dict") [hDe P "ability" 569 (Vs "A" 413), hDe P "aically" 570 (Vs "A" 413), hDe P "alistic" 571 (Vs "B" 415), hDe P "alities" 572 (Vs "A" 413), hDe P "ariness" 573 (Vs "E" 421), hDe P "aristic" 574 (Vs "A" 413), hDe P "arizing" 575 (Vs "A" 413), hDe P "ateness" 576 (Vs "A" 413), hDe P "atingly" 577 (Vs "A" 413), hDe P "ational" 578 (Vs "B" 415), hDe P "atively" 579 (Vs "A" 413), hDe P "ativism" 580 (Vs "A" 413), hDe P "elihood" 581 (Vs "E" 421), hDe P "encible" 582 (Vs "A" 413), hDe P "entally" 583 (Vs "A" 413), hDe P "entials" 584 (Vs "A" 413), hDe P "entiate" 585 (Vs "A" 413), hDe P "entness" 586 (Vs "A" 413), hDe P "fulness" 587 (Vs "A" 413), hDe P "ibility" 588 (Vs "A" 413), hDe P "icalism" 589 (Vs "A" 413), hDe P "icalist" 590 (Vs "A" 413), hDe P "icality" 591 (Vs "A" 413), hDe P "icalize" 592 (Vs "A" 413), hDe P "ication" 593 (Vs "G" 425), hDe P "icianry" 594 (Vs "A" 413), hDe P "ination" 595 (Vs "A" 413), hDe P "ingness" 596 (Vs "A" 413), hDe P "ionally" 597 (Vs "A" 413), hDe P "isation" 598 (Vs "A" 413), hDe P "ishness" 599 (Vs "A" 413), hDe P "istical" 600 (Vs "A" 413), hDe P "iteness" 601 (Vs "A" 413), hDe P "iveness" 602 (Vs "A" 413), hDe P "ivistic" 603 (Vs "A" 413), hDe P "ivities" 604 (Vs "A" 413), hDe P "ization" 605 (Vs "F" 423), hDe P "izement" 606 (Vs "A" 413), hDe P "oidally" 607 (Vs "A" 413), hDe P "ousness" 608 (Vs "A" 413)] 40) (hN (Os (Value.type "tuple") [(Vs "s" 1099), (Vs "W" 457)] 0) hE hE) hE) (hN (Os (Value.type "tuple") [(Vs "ages" 875), (Vs "B" 415)] 0) (hN (Ff 88 714 (Vs "law_iv0078_01" 1679)) hE hE) hE))) (hN (Of Vn []) (hN (Os (Value.type "tuple") [(Vs "base" 362), (Vs "c" 363)] 0) (hN (Os (Value.type "tuple") [(Vs "ational" 578), (Vs "B" 415)] 0) (hN (Of (Value.type "tuple_iterator") [Vn, (Vi 39 0)]) hE hE) hE) (hN (Os (Value.type "tuple") [(Vs "icity" 779), (Vs "A" 413)] 0) (hN (Ff 82 682 (Vs "law_iv0078_01" 1679)) hE hE) hE)) (hN (Os (Value.type "tuple") [(Vs "antialness" 489), (Vs "A" 413)] 0) (hN (Os (Value.type "tuple") [(Vs "icians" 679), (Vs "A" 413)] 0) (hN (Os (Value.type "tuple") [(Vs "ax" 1155), (Vs "ac" 1156)] 0) hE hE) hE) (hN (Os (Value.type "tuple") [(Vs "ious" 907), (Vs "A" 413)] 0) hE hE))))
noncomputable def Ts59 (P : Params) : BT := (hN (Os (Value.type "tuple") [(Vs "base" 234)] 0) (hN (Ff 11 90 (Vs "whoosh.lang.lovins" 187)) (hN (Os (Value.type "tuple") [] 0) (hN (Os (Value.type "tuple") [(Vr 270), (Vr 271), (Vr 272), (Vr 273), (Vr 274), (Vr 275), (Vr 276), (Vr 277), (Vr 278), (Vr 279), (Vr 280), (Vr 281), (Vr 282)] 0) (hN (Os (Value.type "tuple") [(Vs "ion" 1000), (Vs "Q" 445)] 0) hE hE) hE) (hN (Os (Value.type "tuple") [(Vs "elily" 763), (Vs "A" 413)] 0) (hN (Of (Value.type "code") [(Vs "fix_ending" 1660), (Vs "fix_ending" 1661), (Vs "/claim/cut.py" 1662), (Vi 200 0), (Vi 1 0), (Vi 0 0), (Vi 0 0), (Vi 3 0), (Vr 662), (Value.bool true), (Vi 181 0), (Vr 663), Vn, (Vr 664), (Vr 665), (Vr 666), (Vi 1669 0), (Vi 200 0), (Vs "/claim/cut.py" 1670)]) hE hE) hE)) (hN (Of Vn []) (hN (Os (Value.type "tuple") [(Vs "atable" 663), (Vs "A" 413)] 0) (hN (Ff 72 602 (Vs "whoosh.lang.lovins" 187)) hE hE) hE) (hN (Os (Value.type "tuple") [(Vs "ency" 891), (Vs "A" 413)] 0) hE hE))) (hN (Os (Value.type "tuple") [] 0) (hN (Fh 25) (hN (Os (Value.type "tuple") [(Vs "icianry" 594), (Vs "A" 413)] 0) (hN (Os (Value.type "tuple") [(Vs "um" 1068), (Vs "U" 453)] 0) hE hE) hE) (hN (Os (Value.type "tuple") [(Vs "ivity" 795), (Vs "A" 413)] 0) (hN (Fh 86) hE hE) hE)) (hN (Os (Value.type "tuple") [(Vs "ationally" 506), (Vs "B" 415)] 0) (hN (Of (Value.type "AttributeError") [(Vr 378), Vn, Vn, Vn, (Value.bool false), Vn, (Vs "keys" 694), (Vr 376)]) (hN (Os (Value.type "tuple") [(Vs "ent" 1189), (Vs "ens" 1190), (Vs "m" 1191)] 0) hE hE) hE) (hN (Os (Value.type "tuple") [(Vs "'tuple' object has no attribute 'keys'" 922)] 0) hE hE))))
noncomputable def Ts33 (P : Params) : BT := (hN (Fh 3) (hN (Of Vn []) (hN (Os (Value.type "tuple") [(Vs "base" 314), (Vs "c" 315)] 0) (hN (Os (Value.type "tuple") [(Vs "entiation" 512), (Vs "A" 413)] 0) (hN (Os (Value.type "tuple") [(Vs "age" 974), (Vs "B" 415)] 0) hE hE) hE) (hN (Os (Value.type "tuple") [(Vs "aging" 737), (Vs "B" 415)] 0) (hN (Os (Value.type "tuple") [] 0) hE hE) hE)) (hN (Os (Value.type "tuple") [] 0) (hN (Os (Value.type "tuple") [(Vs "istical" 600), (Vs "A" 413)] 0) (hN (Od (Value.type "dict") [hDe P "ae" 1055 (Vs "A" 413), hDe P "al" 1056 (Vs "b" 467), hDe P "ar" 1057 (Vs "X" 459), hDe P "as" 1058 (Vs "B" 415), hDe P "ed" 1059 (Vs "E" 421), hDe P "en" 1060 (Vs "F" 423), hDe P "es" 1061 (Vs "E" 421), hDe P "ia" 1062 (Vs "A" 413), hDe P "ic" 1063 (Vs "A" 413), hDe P "is" 1064 (Vs "A" 413), hDe P "ly" 1065 (Vs "B" 415), hDe P "on" 1066 (Vs "S" 449), hDe P "or" 1067 (Vs "T" 451), hDe P "um" 1068 (Vs "U" 453), hDe P "us" 1069 (Vs "V" 455), hDe P "yl" 1070 (Vs "R" 447), hDe P "s'" 1071 (Vs "A" 413), hDe P "'s" 1072 (Vs "A" 413)] 18) hE hE) hE) (hN (Os (Value.type "tuple") [(Vs "ously" 801), (Vs "A" 413)] 0) (hN (Os (Value.type "tuple") [] 0) hE hE) hE))) (hN (Of (Value.type "code") [(Vs "_L" 272), (Vs "_L" 273), (Vs "/claim/cut.py" 274), (Vi 29 0), (Vi 1 0), (Vi 0 0), (Vi 0 0), (Vi 3 0), (Vr 92), (Value.bool true), (Vi 181 0), (Vr 93), Vn, (Vr 94), (Vr 95), (Vr 96), (Vi 278 0), (Vi 29 0), (Vs "/claim/cut.py" 279)]) (hN (Ff 21 160 (Vs "whoosh.lang.lovins" 187)) (hN (Of (Value.type "StopIteration") [(Vr 288), Vn, Vn, Vn, (Value.bool false), Vn]) (hN (Os (Value.type "tuple") [(Vs "ium" 1006), (Vs "A" 413)] 0) hE hE) hE) (hN (Os (Value.type "tuple") [(Vs "ental" 769), (Vs "A" 413)] 0) (hN (Fh 78) hE hE) hE)) (hN (Os (Value.type "tuple") [(Vs "alistically" 479), (Vs "B" 415)] 0) (hN (Os (Value.type "tuple") [(Vs "encing" 669), (Vs "A" 413)] 0) (hN (Os (Value.type "tuple") [(Vs "rpt" 1134), (Vs "rb" 1135)] 0) hE hE) hE) (hN (Os (Value.type "tuple") [(Vs "ians" 897), (Vs "A" 413)] 0) hE hE))))
noncomputable def Ts49 (P : Params) : BT := (hN (Ff 5 48 (Vs "whoosh.lang.lovins" 187)) (hN (Os (Value.type "tuple") [] 0) (hN (Fh 19) (hN (Os (Value.type "tuple") [(Vs "entially" 542), (Vs "A" 413)] 0) (hN (Os (Value.type "tuple") [(Vs "ial" 990), (Vs "A" 413)] 0) hE hE) hE) (hN (Os (Value.type "tuple") [(Vs "ately" 753), (Vs "A" 413)] 0) (hN (Os (Value.type "list") [(Vr 623), (Vr 624), (Vr 625), (Vr 626), (Vr 627), (Vr 628), (Vr 629), (Vr 630), (Vr 631), (Vr 632)] 10) hE hE) hE)) (hN (Of (Value.type "code") [(Vs "_b" 399), (Vs "_b" 400), (Vs "/claim/cut.py" 401), (Vi 74 0), (Vi 1 0), (Vi 0 0), (Vi 0 0), (Vi 3 0), (Vr 204), (Value.bool true), (Vi 181 0), (Vr 205), Vn, (Vr 206), (Vr 207), (Vr 208), (Vi 403 0), (Vi 74 0), (Vs "/claim/cut.py" 404)]) (hN (Os (Value.type "tuple") [(Vs "aceous" 653), (Vs "A" 413)] 0) (hN (Of (Value.type "tuple_iterator") [Vn, (Vi 6 0)]) hE hE) hE) (hN (Os (Value.type "tuple") [(Vs "arly" 881), (Vs "K" 433)] 0) (hN (Of (Value.type "code") [(Vs "_law_stemmed" 1812), (Vs "_law_stemmed" 1813), (Vs "/claim/cut.py" 1814), (Vi 253 0), (Vi 1 0), (Vi 0 0), (Vi 0 0), (Vi 3 0), (Vr 716), (Value.bool true), (Vi 181 0), (Vr 717), Vn, (Vr 718), (Vr 719), (Vr 720), (Vi 1821 0), (Vi 253 0), (Vs "/claim/cut.py" 1822)]) hE hE) hE))) (hN (Os (Value.type "tuple") [] 0) (hN (Of Vn []) (hN (Os (Value.type "tuple") [(Vs "entials" 584), (Vs "A" 413)] 0) (hN (Os (Value.type "tuple") [(Vs "as" 1058), (Vs "B" 415)] 0) hE hE) hE) (hN (Os (Value.type "tuple") [(Vs "ingly" 785), (Vs "B" 415)] 0) (hN (Of (Value.type "code") [(Vs "_law_anew" 1702), (Vs "_law_anew" 1703), (Vs "/claim/cut.py" 1704), (Vi 220 0), (Vi 0 0), (Vi 0 0), (Vi 0 0), (Vi 3 0), (Vr 684), (Value.bool true), (Vi 181 0), (Vr 685), Vn, (Vr 686), (Vr 687), (Vr 688), (Vi 1705 0), (Vi 220 0), (Vs "/claim/cut.py" 1706)]) hE hE) hE)) (hN (Os (Value.type "tuple") [(Vs "'tuple' object has no attribute 'keys'" 494)] 0) (hN (Os (Value.type "tuple") [(Vs "ionist" 685), (Vs "A" 413)] 0) (hN (Os (Value.type "tuple") [(Vs "cid" 1167), (Vs "cis" 1168)] 0) hE hE) hE) (hN (Os (Value.type "tuple") [(Vs "less" 913), (Vs "A" 413)] 0) hE hE))))
noncomputable def Ts41 (P : Params) : BT := (hN (Of (Value.type "code") [(Vs "_D" 210), (Vs "_D" 211), (Vs "/claim/cut.py" 212), (Vi 8 0), (Vi 1 0), (Vi 0 0), (Vi 0 0), (Vi 3 0), (Vr 36), (Value.bool true), (Vi 181 0), (Vr 37), Vn, (Vr 38), (Vr 39), (Vr 40), (Vi 214 0), (Vi 8 0), (Vs "/claim/cut.py" 215)]) (hN (Os (Value.type "tuple") [(Vs "base" 250), (Vs "c" 251)] 0) (hN (Os (Value.type "tuple") [] 0) (hN (Os (Value.type "tuple") [(Vs "'tuple' object has no attribute 'keys'" 519)] 0) (hN (Os (Value.type "tuple") [(Vs "eal" 982), (Vs "Y" 461)] 0) hE hE) hE) (hN (Os (Value.type "tuple") [(Vs "ances" 745), (Vs "B" 415)] 0) (hN (Od (Value.type "dict") [hDe P "v" 1222 (Vr 651), hDe P "t" 1238 (Vr 652), hDe P "s" 1298 (Vr 653), hDe P "r" 1314 (Vr 654), hDe P "l" 1352 (Vr 655), hDe P "x" 1368 (Vr 656), hDe P "d" 1461 (Vr 657), hDe P "z" 1642 (Vr 658)] 8) hE hE) hE)) (hN (Fh 27) (hN (Os (Value.type "tuple") [(Vs "ousness" 608), (Vs "A" 413)] 0) (hN (Os (Value.type "tuple") [(Vs "i" 1097), (Vs "A" 413)] 0) hE hE) hE) (hN (Os (Value.type "tuple") [(Vs "able" 873), (Vs "A" 413)] 0) (hN (Fh 88) hE hE) hE))) (hN (Ff 13 104 (Vs "whoosh.lang.lovins" 187)) (hN (Os (Value.type "tuple") [] 0) (hN (Os (Value.type "tuple") [(Vs "ateness" 576), (Vs "A" 413)] 0) (hN (Os (Value.type "tuple") [(Vs "'tuple' object has no attribute 'keys'" 1013)] 0) hE hE) hE) (hN (Os (Value.type "tuple") [(Vs "icism" 777), (Vs "A" 413)] 0) (hN (Fh 82) hE hE) hE)) (hN (Os (Value.type "tuple") [] 0) (hN (Os (Value.type "tuple") [(Vs "ically" 677), (Vs "A" 413)] 0) (hN (Os (Value.type "tuple") [(Vs "pex" 1151), (Vs "pic" 1152)] 0) hE hE) hE) (hN (Os (Value.type "tuple") [(Vs "ings" 905), (Vs "N" 439)] 0) hE hE))))
noncomputable def Ts57 (P : Params) : BT := (hN (Os (Value.type "tuple") [] 0) (hN (Fh 11) (hN (Of (Value.type "code") [(Vs "_T" 335), (Vs "_T" 336), (Vs "/claim/cut.py" 337), (Vi 51 0), (Vi 1 0), (Vi 0 0), (Vi 0 0), (Vi 3 0), (Vr 148), (Value.bool true), (Vi 181 0), (Vr 149), Vn, (Vr 150), (Vr 151), (Vr 152), (Vi 341 0), (Vi 51 0), (Vs "/claim/cut.py" 342)]) (hN (Os (Value.type "tuple") [(Vs "izations" 550), (Vs "A" 413)] 0) (hN (Os (Value.type "tuple") [(Vs "ine" 998), (Vs "M" 437)] 0) hE hE) hE) (hN (Os (Value.type "tuple") [(Vs "ehood" 761), (Vs "A" 413)] 0) (hN (Os (Value.type "tuple") [] 0) hE hE) hE)) (hN (Ff 29 216 (Vs "whoosh.lang.lovins" 187)) (hN (Os (Value.type "tuple") [(Vs "arized" 661), (Vs "A" 413)] 0) (hN (Fh 72) hE hE) hE) (hN (Os (Value.type "tuple") [(Vs "eity" 889), (Vs "A" 413)] 0) hE hE))) (hN (Of Vn []) (hN (Os (Value.type "tuple") [(Vs "base" 379)] 0) (hN (Os (Value.type "tuple") [(Vs "icalize" 592), (Vs "A" 413)] 0) (hN (Os (Value.type "tuple") [(Vs "on" 1066), (Vs "S" 449)] 0) hE hE) hE) (hN (Os (Value.type "tuple") [(Vs "itous" 793), (Vs "A" 413)] 0) (hN (Os (Value.type "tuple") [] 0) hE hE) hE)) (hN (Os (Value.type "tuple") [(Vs "arisation" 504), (Vs "A" 413)] 0) (hN (Od (Value.type "dict") [hDe P "aceous" 653 (Vs "A" 413), hDe P "acious" 654 (Vs "B" 415), hDe P "action" 655 (Vs "G" 425), hDe P "alness" 656 (Vs "A" 413), hDe P "ancial" 657 (Vs "A" 413), hDe P "ancies" 658 (Vs "A" 413), hDe P "ancing" 659 (Vs "B" 415), hDe P "ariser" 660 (Vs "A" 413), hDe P "arized" 661 (Vs "A" 413), hDe P "arizer" 662 (Vs "A" 413), hDe P "atable" 663 (Vs "A" 413), hDe P "ations" 664 (Vs "B" 415), hDe P "atives" 665 (Vs "A" 413), hDe P "eature" 666 (Vs "Z" 463), hDe P "efully" 667 (Vs "A" 413), hDe P "encies" 668 (Vs "A" 413), hDe P "encing" 669 (Vs "A" 413), hDe P "ential" 670 (Vs "A" 413), hDe P "enting" 671 (Vs "C" 417), hDe P "entist" 672 (Vs "A" 413), hDe P "eously" 673 (Vs "A" 413), hDe P "ialist" 674 (Vs "A" 413), hDe P "iality" 675 (Vs "A" 413), hDe P "ialize" 676 (Vs "A" 413), hDe P "ically" 677 (Vs "A" 413), hDe P "icance" 678 (Vs "A" 413), hDe P "icians" 679 (Vs "A" 413), hDe P "icists" 680 (Vs "A" 413), hDe P "ifully" 681 (Vs "A" 413), hDe P "ionals" 682 (Vs "A" 413), hDe P "ionate" 683 (Vs "D" 419), hDe P "ioning" 684 (Vs "A" 413), hDe P "ionist" 685 (Vs "A" 413), hDe P "iously" 686 (Vs "A" 413), hDe P "istics" 687 (Vs "A" 413), hDe P "izable" 688 (Vs "E" 421), hDe P "lessly" 689 (Vs "A" 413), hDe P "nesses" 690 (Vs "A" 413), hDe P "oidism" 691 (Vs "A" 413)] 39) (hN (Os (Value.type "tuple") [(Vs "her" 1184), (Vs "hes" 1185), (Vs "pt" 1186)] 0) hE hE) hE) (hN (Os (Value.type "tuple") [(Vr 457), (Vr 458), (Vr 459), (Vr 460), (Vr 461), (Vr 462), (Vr 463), (Vr 464), (Vr 465), (Vr 466), (Vr 467), (Vr 468), (Vr 469), (Vr 470), (Vr 471), (Vr 472), (Vr 473), (Vr 474), (Vr 475), (Vr 476), (Vr 477), (Vr 478), (Vr 479), (Vr 480), (Vr 481), (Vr 482), (Vr 483), (Vr 484), (Vr 485), (Vr 486), (Vr 487), (Vr 488), (Vr 489), (Vr 490), (Vr 491), (Vr 492), (Vr 493), (Vr 494), (Vr 495), (Vr 496), (Vr 497), (Vr 498), (Vr 499), (Vr 500), (Vr 501), (Vr 502), (Vr 503), (Vr 504)] 0) hE hE))))
noncomputable def Ts37 (P : Params) : BT := (hN (Of Vn []) (hN (Of (Value.type "code") [(Vs "_H" 238), (Vs "_H" 239), (Vs "/claim/cut.py" 240), (Vi 16 0), (Vi 1 0), (Vi 0 0), (Vi 0 0), (Vi 3 0), (Vr 64), (Value.bool true), (Vi 181 0), (Vr 65), Vn, (Vr 66), (Vr 67), (Vr 68), (Vi 244 0), (Vi 16 0), (Vs "/claim/cut.py" 245)]) (hN (Ff 17 132 (Vs "whoosh.lang.lovins" 187)) (hN (Os (Value.type "tuple") [(Vs "izability" 516), (Vs "A" 413)] 0) (hN (Os (Value.type "tuple") [(Vs "ars" 978), (Vs "O" 441)] 0) hE hE) hE) (hN (Os (Value.type "tuple") [(Vs "ality" 741), (Vs "A" 413)] 0) (hN (Fh 74) hE hE) hE)) (hN (Os (Value.type "tuple") [] 0) (hN (Os (Value.type "tuple") [(Vs "ivities" 604), (Vs "A" 413)] 0) (hN (Os (Value.type "tuple") [] 0) hE hE) hE) (hN (Of (Value.type "AttributeError") [(Vr 452), Vn, Vn, Vn, (Value.bool false), Vn, (Vs "keys" 804), (Vr 450)]) (hN (Os (Value.type "tuple") [] 0) hE hE) hE))) (hN (Os (Value.type "tuple") [(Vs "base" 284), (Vs "c" 285)] 0) (hN (Os (Value.type "tuple") [] 0) (hN (Os (Value.type "tuple") [(Vs "alities" 572), (Vs "A" 413)] 0) (hN (Os (Value.type "tuple") [(Vs "one" 1010), (Vs "R" 447)] 0) hE hE) hE) (hN (Os (Value.type "tuple") [(Vs "ially" 773), (Vs "A" 413)] 0) (hN (Os (Value.type "tuple") [] 0) hE hE) hE)) (hN (Od (Value.type "dict") [hDe P "alistically" 479 (Vs "B" 415), hDe P "arizability" 480 (Vs "A" 413), hDe P "izationally" 481 (Vs "B" 415)] 3) (hN (Os (Value.type "tuple") [(Vs "eously" 673), (Vs "A" 413)] 0) (hN (Os (Value.type "tuple") [(Vs "olv" 1142), (Vs "olut" 1143)] 0) hE hE) hE) (hN (Os (Value.type "tuple") [(Vs "ides" 901), (Vs "L" 435)] 0) hE hE))))
noncomputable def Ts53 (P : Params) : BT := (hN (Os (Value.type "tuple") [] 0) (hN (Os (Value.type "tuple") [] 0) (hN (Of Vn []) (hN (Os (Value.type "tuple") [(Vs "ionalism" 546), (Vs "A" 413)] 0) (hN (Os (Value.type "tuple") [(Vs "ied" 994), (Vs "A" 413)] 0) hE hE) hE) (hN (Os (Value.type "tuple") [(Vs "ators" 757), (Vs "A" 413)] 0) (hN (Os (Value.type "tuple") [(Vs "dd" 1650), (Vs "gg" 1651), (Vs "ll" 1652), (Vs "mm" 1653), (Vs "nn" 1654), (Vs "pp" 1655), (Vs "rr" 1656), (Vs "ss" 1657), (Vs "tt" 1658)] 0) hE hE) hE)) (hN (Os (Value.type "tuple") [(Vs "base" 409)] 0) (hN (Os (Value.type "tuple") [(Vs "ancial" 657), (Vs "A" 413)] 0) (hN (Os (Value.type "tuple") [] 0) hE hE) hE) (hN (Os (Value.type "tuple") [(Vs "ator" 885), (Vs "A" 413)] 0) (hN (Fh 90) hE hE) hE))) (hN (Fh 15) (hN (Of (Value.type "code") [(Vs "_X" 367), (Vs "_X" 368), (Vs "/claim/cut.py" 369), (Vi 62 0), (Vi 1 0), (Vi 0 0), (Vi 0 0), (Vi 3 0), (Vr 176), (Value.bool true), (Vi 181 0), (Vr 177), Vn, (Vr 178), (Vr 179), (Vr 180), (Vi 373 0), (Vi 62 0), (Vs "/claim/cut.py" 374)]) (hN (Os (Value.type "tuple") [(Vs "ibility" 588), (Vs "A" 413)] 0) (hN (Os (Value.type "tuple") [(Vs "ia" 1062), (Vs "A" 413)] 0) hE hE) hE) (hN (Os (Value.type "tuple") [(Vs "ioned" 789), (Vs "A" 413)] 0) (hN (Of Vn []) hE hE) hE)) (hN (Of (Value.type "StopIteration") [(Vr 244), Vn, Vn, Vn, (Value.bool false), Vn]) (hN (Os (Value.type "tuple") [(Vs "lessly" 689), (Vs "A" 413)] 0) (hN (Os (Value.type "tuple") [(Vs "end" 1175), (Vs "ens" 1176), (Vs "s" 1177)] 0) hE hE) hE) (hN (Os (Value.type "tuple") [(Vs "ward" 917), (Vs "A" 413)] 0) hE hE))))
noncomputable def Ts45 (P : Params) : BT := (hN (Os (Value.type "tuple") [(Vs "base" 220)] 0) (hN (Ff 9 76 (Vs "whoosh.lang.lovins" 187)) (hN (Os (Value.type "tuple") [] 0) (hN (Of (Value.type "StopIteration") [(Vr 268), Vn, Vn, Vn, (Value.bool false), Vn]) (hN (Os (Value.type "tuple") [(Vs "ent" 986), (Vs "C" 417)] 0) hE hE) hE) (hN (Os (Value.type "tuple") [(Vs "arily" 749), (Vs "A" 413)] 0) (hN (Os (Value.type "list") [(Vr 610)] 1) hE hE) hE)) (hN (Of Vn []) (hN (Of (Value.type "AttributeError") [(Vr 332), Vn, Vn, Vn, (Value.bool false), Vn, (Vs "keys" 611), (Vr 330)]) (hN (Os (Value.type "tuple") [(Vr 583), (Vr 584), (Vr 585), (Vr 586), (Vr 587), (Vr 588)] 0) hE hE) hE) (hN (Os (Value.type "tuple") [(Vs "ance" 877), (Vs "B" 415)] 0) (hN (Of Vn []) hE hE) hE))) (hN (Os (Value.type "tuple") [] 0) (hN (Fh 23) (hN (Os (Value.type "tuple") [(Vs "ativism" 580), (Vs "A" 413)] 0) (hN (Of (Value.type "StopIteration") [(Vr 556), Vn, Vn, Vn, (Value.bool false), Vn]) hE hE) hE) (hN (Os (Value.type "tuple") [(Vs "iedly" 781), (Vs "A" 413)] 0) (hN (Of Vn []) hE hE) hE)) (hN (Os (Value.type "tuple") [(Vs "arizations" 491), (Vs "A" 413)] 0) (hN (Os (Value.type "tuple") [(Vs "ifully" 681), (Vs "A" 413)] 0) (hN (Os (Value.type "tuple") [(Vs "ix" 1159), (Vs "ic" 1160)] 0) hE hE) hE) (hN (Os (Value.type "tuple") [(Vs "ists" 909), (Vs "A" 413)] 0) hE hE))))
noncomputable def Ts61 (P : Params) : BT := (hN (Fh 7) (hN (Of Vn []) (hN (Os (Value.type "tuple") [(Vs "base" 347), (Vs "c" 348)] 0) (hN (Os (Value.type "tuple") [(Vs "'tuple' object has no attribute 'keys'" 553)] 0) (hN (Os (Value.type "tuple") [(Vs "ism" 1002), (Vs "B" 415)] 0) hE hE) hE) (hN (Os (Value.type "tuple") [(Vs "enced" 765), (Vs "A" 413)] 0) (hN (Os (Value.type "tuple") [] 0) hE hE) hE)) (hN (Os (Value.type "tuple") [] 0) (hN (Os (Value.type "tuple") [(Vs "atives" 665), (Vs "A" 413)] 0) (hN (Os (Value.type "tuple") [(Vs "uct" 1126), (Vs "uc" 1127)] 0) hE hE) hE) (hN (Os (Value.type "tuple") [(Vs "enly" 893), (Vs "E" 421)] 0) hE hE))) (hN (Of (Value.type "code") [(Vs "_P" 304), (Vs "_P" 305), (Vs "/claim/cut.py" 306), (Vi 40 0), (Vi 1 0), (Vi 0 0), (Vi 0 0), (Vi 3 0), (Vr 120), (Value.bool true), (Vi 181 0), (Vr 121), Vn, (Vr 122), (Vr 123), (Vr 124), (Vi 308 0), (Vi 40 0), (Vs "/claim/cut.py" 309)]) (hN (Ff 25 188 (Vs "whoosh.lang.lovins" 187)) (hN (Os (Value.type "tuple") [(Vs "ingness" 596), (Vs "A" 413)] 0) (hN (Os (Value.type "tuple") [(Vs "yl" 1070), (Vs "R" 447)] 0) hE hE) hE) (hN (Os (Value.type "tuple") [(Vs "izing" 797), (Vs "F" 423)] 0) (hN (Ff 86 700 (Vs "law_iv0078_01" 1679)) hE hE) hE)) (hN (Os (Value.type "tuple") [(Vs "eableness" 508), (Vs "E" 421)] 0) (hN (Os (Value.type "tuple") [] 0) (hN (Os (Value.type "tuple") [(Vs "et" 1194), (Vs "es" 1195), (Vs "n" 1196)] 0) hE hE) hE) (hN (Of (Value.type "tuple_iterator") [Vn, (Vi 48 0)]) hE hE))))
noncomputable def Ts32 (P : Params) : BT := (hN (Os (Value.type "tuple") [] 0) (hN (Os (Value.type "tuple") [] 0) (hN (Of Vn []) (hN (Os (Value.type "tuple") [(Vs "entialize" 511), (Vs "A" 413)] 0) (hN (Os (Value.type "tuple") [(Vs "acy" 973), (Vs "A" 413)] 0) hE hE) hE) (hN (Os (Value.type "tuple") [(Vs "acity" 736), (Vs "A" 413)] 0) (hN (Os (Value.type "tuple") [(Vr 604), (Vr 605), (Vr 606), (Vr 607), (Vr 608), (Vr 609), (Vr 610), (Vr 611), (Vr 612), (Vr 613), (Vr 614), (Vr 615), (Vr 616), (Vr 617), (Vr 618), (Vr 619), (Vr 620), (Vr 621), (Vr 622), (Vr 623), (Vr 624), (Vr 625), (Vr 626), (Vr 627), (Vr 628), (Vr 629), (Vr 630), (Vr 631), (Vr 632), (Vr 633), (Vr 634), (Vr 635), (Vr 636), (Vr 637), (Vr 638), (Vr 639)] 0) hE hE) hE)) (hN (Os (Value.type "tuple") [(Vs "base" 386)] 0) (hN (Os (Value.type "tuple") [(Vs "ishness" 599), (Vs "A" 413)] 0) (hN (Os (Value.type "tuple") [(Vr 558), (Vr 559), (Vr 560), (Vr 561), (Vr 562), (Vr 563), (Vr 564), (Vr 565), (Vr 566), (Vr 567), (Vr 568), (Vr 569), (Vr 570), (Vr 571), (Vr 572), (Vr 573), (Vr 574), (Vr 575)] 0) hE hE) hE) (hN (Os (Value.type "tuple") [(Vs "otide" 800), (Vs "A" 413)] 0) (hN (Os (Value.type "tuple") [(Vs "letter" 1790), (Vs "left" 1791), (Vs "size" 1792), (Vs "least" 1793), (Vs "wanted" 1794), (Vs "refused" 1795), (Vs "spared" 1796)] 0) hE hE) hE))) (hN (Fh 12) (hN (Of (Value.type "code") [(Vs "_U" 344), (Vs "_U" 345), (Vs "/claim/cut.py" 346), (Vi 54 0), (Vi 1 0), (Vi 0 0), (Vi 0 0), (Vi 3 0), (Vr 155), (Value.bool true), (Vi 181 0), (Vr 156), Vn, (Vr 157), (Vr 158), (Vr 159), (Vi 349 0), (Vi 54 0), (Vs "/claim/cut.py" 350)]) (hN (Os (Value.type "tuple") [] 0) (hN (Os (Value.type "tuple") [(Vs "ity" 1005), (Vs "A" 413)] 0) hE hE) hE) (hN (Os (Value.type "tuple") [(Vs "ening" 768), (Vs "E" 421)] 0) (hN (Os (Value.type "tuple") [] 0) hE hE) hE)) (hN (Ff 59 223 (Vs "whoosh.lang.lovins" 187)) (hN (Os (Value.type "tuple") [(Vs "encies" 668), (Vs "A" 413)] 0) (hN (Os (Value.type "tuple") [(Vs "umpt" 1132), (Vs "um" 1133)] 0) hE hE) hE) (hN (Os (Value.type "tuple") [(Vs "ials" 896), (Vs "A" 413)] 0) hE hE))))
noncomputable def Ts48 (P : Params) : BT := (hN (Of (Value.type "code") [(Vs "_E" 217), (Vs "_E" 218), (Vs "/claim/cut.py" 219), (Vi 10 0), (Vi 1 0), (Vi 0 0), (Vi 0 0), (Vi 3 0), (Vr 43), (Value.bool true), (Vi 181 0), (Vr 44), Vn, (Vr 45), (Vr 46), (Vr 47), (Vi 221 0), (Vi 10 0), (Vs "/claim/cut.py" 222)]) (hN (Os (Value.type "tuple") [(Vs "base" 258), (Vs "c" 259)] 0) (hN (Os (Value.type "tuple") [] 0) (hN (Os (Value.type "tuple") [(Vs "entation" 541), (Vs "A" 413)] 0) (hN (Os (Value.type "tuple") [(Vs "ful" 989), (Vs "A" 413)] 0) hE hE) hE) (hN (Os (Value.type "tuple") [(Vs "aroid" 752), (Vs "A" 413)] 0) (hN (Os (Value.type "list") [(Vr 615), (Vr 616), (Vr 617), (Vr 618), (Vr 619), (Vr 620), (Vr 621), (Vr 622)] 8) hE hE) hE)) (hN (Fh 28) (hN (Of (Value.type "StopIteration") [(Vr 335), Vn, Vn, Vn, (Value.bool false), Vn]) (hN (Of (Value.type "AttributeError") [(Vr 591), Vn, Vn, Vn, (Value.bool false), Vn, (Vs "keys" 1103), (Vr 589)]) hE hE) hE) (hN (Os (Value.type "tuple") [(Vs "aric" 880), (Vs "A" 413)] 0) (hN (Fh 89) hE hE) hE))) (hN (Ff 14 111 (Vs "whoosh.lang.lovins" 187)) (hN (Os (Value.type "tuple") [] 0) (hN (Os (Value.type "tuple") [(Vs "entally" 583), (Vs "A" 413)] 0) (hN (Os (Value.type "tuple") [(Vs "ar" 1057), (Vs "X" 459)] 0) hE hE) hE) (hN (Os (Value.type "tuple") [(Vs "iness" 784), (Vs "A" 413)] 0) (hN (Fh 83) hE hE) hE)) (hN (Od (Value.type "dict") [hDe P "antialness" 489 (Vs "A" 413), hDe P "arisations" 490 (Vs "A" 413), hDe P "arizations" 491 (Vs "A" 413), hDe P "entialness" 492 (Vs "A" 413)] 4) (hN (Os (Value.type "tuple") [(Vs "ioning" 684), (Vs "A" 413)] 0) (hN (Os (Value.type "tuple") [(Vs "vad" 1165), (Vs "vas" 1166)] 0) hE hE) hE) (hN (Os (Value.type "tuple") [(Vs "izer" 912), (Vs "F" 423)] 0) hE hE))))
noncomputable def Ts40 (P : Params) : BT := (hN (Fh 4) (hN (Of Vn []) (hN (Os (Value.type "tuple") [(Vs "base" 322), (Vs "c" 323)] 0) (hN (Od (Value.type "dict") [hDe P "allically" 501 (Vs "C" 417), hDe P "antaneous" 502 (Vs "A" 413), hDe P "antiality" 503 (Vs "A" 413), hDe P "arisation" 504 (Vs "A" 413), hDe P "arization" 505 (Vs "A" 413), hDe P "ationally" 506 (Vs "B" 415), hDe P "ativeness" 507 (Vs "A" 413), hDe P "eableness" 508 (Vs "E" 421), hDe P "entations" 509 (Vs "A" 413), hDe P "entiality" 510 (Vs "A" 413), hDe P "entialize" 511 (Vs "A" 413), hDe P "entiation" 512 (Vs "A" 413), hDe P "ionalness" 513 (Vs "A" 413), hDe P "istically" 514 (Vs "A" 413), hDe P "itousness" 515 (Vs "A" 413), hDe P "izability" 516 (Vs "A" 413), hDe P "izational" 517 (Vs "A" 413)] 17) (hN (Os (Value.type "tuple") [(Vs "ate" 981), (Vs "A" 413)] 0) hE hE) hE) (hN (Os (Value.type "tuple") [(Vs "anced" 744), (Vs "B" 415)] 0) (hN (Od (Value.type "frame") [hDe P "endings" 1211 (Vr 640), hDe P "found" 1212 (Vr 649), hDe P "rule" 1213 (Vr 639)] 3) hE hE) hE)) (hN (Os (Value.type "tuple") [] 0) (hN (Os (Value.type "tuple") [(Vs "oidally" 607), (Vs "A" 413)] 0) (hN (Os (Value.type "tuple") [(Vs "e" 1096), (Vs "A" 413)] 0) hE hE) hE) (hN (Of (Value.type "StopIteration") [(Vr 455), Vn, Vn, Vn, (Value.bool false), Vn]) (hN (Os (Value.type "tuple") [] 0) hE hE) hE))) (hN (Of (Value.type "code") [(Vs "_M" 281), (Vs "_M" 282), (Vs "/claim/cut.py" 283), (Vi 32 0), (Vi 1 0), (Vi 0 0), (Vi 0 0), (Vi 3 0), (Vr 99), (Value.bool true), (Vi 181 0), (Vr 100), Vn, (Vr 101), (Vr 102), (Vr 103), (Vi 286 0), (Vi 32 0), (Vs "/claim/cut.py" 287)]) (hN (Ff 22 167 (Vs "whoosh.lang.lovins" 187)) (hN (Os (Value.type "tuple") [(Vs "arizing" 575), (Vs "A" 413)] 0) (hN (Od (Value.type "dict") [hDe P "acy" 973 (Vs "A" 413), hDe P "age" 974 (Vs "B" 415), hDe P "aic" 975 (Vs "A" 413), hDe P "als" 976 (Vs "b" 467), hDe P "ant" 977 (Vs "B" 415), hDe P "ars" 978 (Vs "O" 441), hDe P "ary" 979 (Vs "F" 423), hDe P "ata" 980 (Vs "A" 413), hDe P "ate" 981 (Vs "A" 413), hDe P "eal" 982 (Vs "Y" 461), hDe P "ear" 983 (Vs "Y" 461), hDe P "ely" 984 (Vs "E" 421), hDe P "ene" 985 (Vs "E" 421), hDe P "ent" 986 (Vs "C" 417), hDe P "ery" 987 (Vs "E" 421), hDe P "ese" 988 (Vs "A" 413), hDe P "ful" 989 (Vs "A" 413), hDe P "ial" 990 (Vs "A" 413), hDe P "ian" 991 (Vs "A" 413), hDe P "ics" 992 (Vs "A" 413), hDe P "ide" 993 (Vs "L" 435), hDe P "ied" 994 (Vs "A" 413), hDe P "ier" 995 (Vs "A" 413), hDe P "ies" 996 (Vs "P" 443), hDe P "ily" 997 (Vs "A" 413), hDe P "ine" 998 (Vs "M" 437), hDe P "ing" 999 (Vs "N" 439), hDe P "ion" 1000 (Vs "Q" 445), hDe P "ish" 1001 (Vs "C" 417), hDe P "ism" 1002 (Vs "B" 415), hDe P "ist" 1003 (Vs "A" 413), hDe P "ite" 1004 (Vs "a" 465), hDe P "ity" 1005 (Vs "A" 413), hDe P "ium" 1006 (Vs "A" 413), hDe P "ive" 1007 (Vs "A" 413), hDe P "ize" 1008 (Vs "F" 423), hDe P "oid" 1009 (Vs "A" 413), hDe P "one" 1010 (Vs "R" 447), hDe P "ous" 1011 (Vs "A" 413)] 39) hE hE) hE) (hN (Os (Value.type "tuple") [(Vs "icide" 776), (Vs "A" 413)] 0) (hN (Os (Value.type "tuple") [] 0) hE hE) hE)) (hN (Of (Value.type "tuple_iterator") [Vn, (Vi 3 0)]) (hN (Os (Value.type "tuple") [(Vs "ialize" 676), (Vs "A" 413)] 0) (hN (Os (Value.type "tuple") [(Vs "dex" 1149), (Vs "dic" 1150)] 0) hE hE) hE) (hN (Os (Value.type "tuple") [(Vs "ines" 904), (Vs "M" 437)] 0) hE hE))))
noncomputable def Ts56 (P : Params) : BT := (hN (Ff 6 55 (Vs "whoosh.lang.lovins" 187)) (hN (Os (Value.type "tuple") [] 0) (hN (Fh 20) (hN (Os (Value.type "tuple") [(Vs "iousness" 549), (Vs "A" 413)] 0) (hN (Os (Value.type "tuple") [(Vs "ily" 997), (Vs "A" 413)] 0) hE hE) hE) (hN (Os (Value.type "tuple") [(Vs "early" 760), (Vs "Y" 461)] 0) (hN (Os (Value.type "tuple") [(Vs "word" 1663), (Vs "endingrule" 1664), (Vs "target" 1665), (Vs "newend" 1666), (Vs "exceptafter" 1667), (Vs "c" 1668)] 0) hE hE) hE)) (hN (Of (Value.type "code") [(Vs "_c" 406), (Vs "_c" 407), (Vs "/claim/cut.py" 408), (Vi 76 0), (Vi 1 0), (Vi 0 0), (Vi 0 0), (Vi 3 0), (Vr 211), (Value.bool true), (Vi 181 0), (Vr 212), Vn, (Vr 213), (Vr 214), (Vr 215), (Vi 410 0), (Vi 76 0), (Vs "/claim/cut.py" 411)]) (hN (Os (Value.type "tuple") [(Vs "ariser" 660), (Vs "A" 413)] 0) (hN (Os (Value.type "tuple") [] 0) hE hE) hE) (hN (Os (Value.type "tuple") [(Vs "eful" 888), (Vs "A" 413)] 0) hE hE))) (hN (Os (Value.type "tuple") [] 0) (hN (Of Vn []) (hN (Os (Value.type "tuple") [(Vs "icality" 591), (Vs "A" 413)] 0) (hN (Os (Value.type "tuple") [(Vs "ly" 1065), (Vs "B" 415)] 0) hE hE) hE) (hN (Os (Value.type "tuple") [(Vs "ities" 792), (Vs "A" 413)] 0) (hN (Ff 85 695 (Vs "law_iv0078_01" 1679)) hE hE) hE)) (hN (Os (Value.type "tuple") [(Vs "antiality" 503), (Vs "A" 413)] 0) (hN (Os (Value.type "tuple") [(Vr 337), (Vr 338), (Vr 339), (Vr 340), (Vr 341), (Vr 342), (Vr 343), (Vr 344), (Vr 345), (Vr 346), (Vr 347), (Vr 348), (Vr 349), (Vr 350), (Vr 351), (Vr 352), (Vr 353), (Vr 354), (Vr 355), (Vr 356), (Vr 357), (Vr 358), (Vr 359), (Vr 360), (Vr 361), (Vr 362), (Vr 363), (Vr 364), (Vr 365), (Vr 366), (Vr 367), (Vr 368), (Vr 369), (Vr 370), (Vr 371), (Vr 372), (Vr 373), (Vr 374), (Vr 375)] 0) (hN (Os (Value.type "tuple") [(Vs "rud" 1182), (Vs "rus" 1183)] 0) hE hE) hE) (hN (Os (Value.type "tuple") [(Vs "yish" 920), (Vs "A" 413)] 0) hE hE))))
noncomputable def Ts36 (P : Params) : BT := (hN (Os (Value.type "tuple") [] 0) (hN (Fh 8) (hN (Of (Value.type "code") [(Vs "_Q" 311), (Vs "_Q" 312), (Vs "/claim/cut.py" 313), (Vi 42 0), (Vi 1 0), (Vi 0 0), (Vi 0 0), (Vi 3 0), (Vr 127), (Value.bool true), (Vi 181 0), (Vr 128), Vn, (Vr 129), (Vr 130), (Vr 131), (Vi 316 0), (Vi 42 0), (Vs "/claim/cut.py" 317)]) (hN (Os (Value.type "tuple") [(Vs "itousness" 515), (Vs "A" 413)] 0) (hN (Os (Value.type "tuple") [(Vs "ant" 977), (Vs "B" 415)] 0) hE hE) hE) (hN (Os (Value.type "tuple") [(Vs "alism" 740), (Vs "B" 415)] 0) (hN (Os (Value.type "tuple") [] 0) hE hE) hE)) (hN (Ff 26 195 (Vs "whoosh.lang.lovins" 187)) (hN (Os (Value.type "tuple") [(Vs "ivistic" 603), (Vs "A" 413)] 0) (hN (Of (Value.type "tuple_iterator") [Vn, (Vi 18 0)]) hE hE) hE) (hN (Os (Value.type "tuple") [(Vs "'tuple' object has no attribute 'keys'" 803)] 0) (hN (Ff 87 707 (Vs "law_iv0078_01" 1679)) hE hE) hE))) (hN (Of Vn []) (hN (Os (Value.type "tuple") [(Vs "base" 355)] 0) (hN (Os (Value.type "tuple") [(Vs "alistic" 571), (Vs "B" 415)] 0) (hN (Os (Value.type "tuple") [(Vs "oid" 1009), (Vs "A" 413)] 0) hE hE) hE) (hN (Os (Value.type "tuple") [(Vs "fully" 772), (Vs "A" 413)] 0) (hN (Os (Value.type "list") [(Vs " " 1683), (Vs " a:A e:A i:A o:A s:W y:B " 1684), (Vs " ae:A al:b ar:X as:B ed:E en:F es:E ia:A ic:A is:A ly:B on:S or:T um:U us:V yl:R s':A 's:A " 1685), (Vs " acy:A age:B aic:A als:b ant:B ars:O ary:F ata:A ate:A eal:Y ear:Y ely:E ene:E ent:C ery:E ese:A ful:A ial:A ian:A ics:A ide:L ied:A ier:A ies:P ily:A ine:M ing:N ion:Q ish:C ism:B ist:A ite:a ity:A ium:A ive:A ize:F oid:A one:R ous:A " 1686), (Vs " able:A ably:A ages:B ally:B ance:B ancy:B ants:B aric:A arly:K ated:I ates:A atic:B ator:A ealy:Y edly:E eful:A eity:A ence:A ency:A ened:E enly:E eous:A hood:A ials:A ians:A ible:A ibly:A ical:A ides:L iers:A iful:A ines:M ings:N ions:B ious:A isms:B ists:A itic:H ized:F izer:F less:A lily:A ness:A ogen:A ward:A wise:A ying:B yish:A " 1687), (Vs " acies:A acity:A aging:B aical:A alist:A alism:B ality:A alize:A allic:b anced:B ances:B antic:C arial:A aries:A arily:A arity:B arize:A aroid:A ately:A ating:I ation:B ative:A ators:A atory:A ature:E early:Y ehood:A eless:A ement:A enced:A ences:A eness:E ening:E ental:A ented:C ently:A fully:A ially:A icant:A ician:A icide:A icism:A icist:A icity:A idine:I iedly:A ihood:A inate:A iness:A ingly:B inism:J inity:c ional:A ioned:A ished:A istic:A ities:A itous:A ively:A ivity:A izers:F izing:F oidal:A oides:A otide:A ously:A " 1688), (Vs " aceous:A acious:B action:G alness:A ancial:A ancies:A ancing:B ariser:A arized:A arizer:A atable:A ations:B atives:A eature:Z efully:A encies:A encing:A ential:A enting:C entist:A eously:A ialist:A iality:A ialize:A ically:A icance:A icians:A icists:A ifully:A ionals:A ionate:D ioning:A ionist:A iously:A istics:A izable:E lessly:A nesses:A oidism:A " 1689), (Vs " ability:A aically:A alistic:B alities:A ariness:E aristic:A arizing:A ateness:A atingly:A ational:B atively:A ativism:A elihood:E encible:A entally:A entials:A entiate:A entness:A fulness:A ibility:A icalism:A icalist:A icality:A icalize:A ication:G icianry:A ination:A ingness:A ionally:A isation:A ishness:A istical:A iteness:A iveness:A ivistic:A ivities:A ization:F izement:A oidally:A ousness:A " 1690), (Vs " ableness:A arizable:A entation:A entially:A eousness:A ibleness:A icalness:A ionalism:A ionality:A ionalize:A iousness:A izations:A lessness:A " 1691), (Vs " allically:C antaneous:A antiality:A arisation:A arization:A ationally:B ativeness:A eableness:E entations:A entiality:A entialize:A entiation:A ionalness:A istically:A itousness:A izability:A izational:A " 1692), (Vs " antialness:A arisations:A arizations:A entialness:A " 1693), (Vs " alistically:B arizability:A izationally:B " 1694)] 0) hE hE) hE)) (hN (Os (Value.type "tuple") [(Vr 225), (Vr 226), (Vr 227)] 0) (hN (Os (Value.type "tuple") [(Vs "entist" 672), (Vs "A" 413)] 0) (hN (Os (Value.type "tuple") [(Vs "metr" 1140), (Vs "meter" 1141)] 0) hE hE) hE) (hN (Os (Value.type "tuple") [(Vs "ical" 900), (Vs "A" 413)] 0) hE hE))))
noncomputable def Ts52 (P : Params) : BT := (hN (Os (Value.type "tuple") [(Vs "base" 227)] 0) (hN (Ff 10 83 (Vs "whoosh.lang.lovins" 187)) (hN (Os (Value.type "tuple") [] 0) (hN (Os (Value.type "tuple") [(Vs "icalness" 545), (Vs "A" 413)] 0) (hN (Os (Value.type "tuple") [(Vs "ide" 993), (Vs "L" 435)] 0) hE hE) hE) (hN (Os (Value.type "tuple") [(Vs "ative" 756), (Vs "A" 413)] 0) (hN (Of (Value.type "StopIteration") [(Vr 659), Vn, Vn, Vn, (Value.bool false), Vn]) hE hE) hE)) (hN (Of Vn []) (hN (Os (Value.type "tuple") [(Vs "alness" 656), (Vs "A" 413)] 0) (hN (Os (Value.type "list") [Vn, (Vr 590), (Vr 577), (Vr 552), (Vr 506), (Vr 451), (Vr 377), (Vr 331), (Vr 284), (Vr 264), (Vr 240), (Vr 229)] 0) hE hE) hE) (hN (Os (Value.type "tuple") [(Vs "atic" 884), (Vs "B" 415)] 0) (hN (Of Vn []) hE hE) hE))) (hN (Os (Value.type "tuple") [] 0) (hN (Fh 24) (hN (Os (Value.type "tuple") [(Vs "fulness" 587), (Vs "A" 413)] 0) (hN (Os (Value.type "tuple") [(Vs "es" 1061), (Vs "E" 421)] 0) hE hE) hE) (hN (Os (Value.type "tuple") [(Vs "ional" 788), (Vs "A" 413)] 0) (hN (Os (Value.type "tuple") [] 0) hE hE) hE)) (hN (Os (Value.type "tuple") [] 0) (hN (Os (Value.type "tuple") [(Vs "izable" 688), (Vs "E" 421)] 0) (hN (Os (Value.type "tuple") [(Vs "pand" 1173), (Vs "pans" 1174)] 0) hE hE) hE) (hN (Os (Value.type "tuple") [(Vs "ogen" 916), (Vs "A" 413)] 0) hE hE))))
noncomputable def Ts44 (P : Params) : BT := (hN (Of Vn []) (hN (Of (Value.type "code") [(Vs "_I" 247), (Vs "_I" 248), (Vs "/claim/cut.py" 249), (Vi 19 0), (Vi 1 0), (Vi 0 0), (Vi 0 0), (Vi 3 0), (Vr 71), (Value.bool true), (Vi 181 0), (Vr 72), Vn, (Vr 73), (Vr 74), (Vr 75), (Vi 252 0), (Vi 19 0), (Vs "/claim/cut.py" 253)]) (hN (Ff 18 139 (Vs "whoosh.lang.lovins" 187)) (hN (Os (Value.type "tuple") [] 0) (hN (Os (Value.type "tuple") [(Vs "ene" 985), (Vs "E" 421)] 0) hE hE) hE) (hN (Os (Value.type "tuple") [(Vs "aries" 748), (Vs "A" 413)] 0) (hN (Os (Value.type "list") [(Vr 605), (Vr 607), (Vr 608), (Vr 609), (Vr 634), (Vr 635), (Vr 636), (Vr 637), (Vr 638)] 9) hE hE) hE)) (hN (Os (Value.type "tuple") [] 0) (hN (Os (Value.type "tuple") [(Vs "'tuple' object has no attribute 'keys'" 610)] 0) (hN (Os (Value.type "tuple") [(Vs "y" 1100), (Vs "B" 415)] 0) hE hE) hE) (hN (Os (Value.type "tuple") [(Vs "ally" 876), (Vs "B" 415)] 0) (hN (Os (Value.type "tuple") [] 0) hE hE) hE))) (hN (Os (Value.type "tuple") [(Vs "base" 292)] 0) (hN (Os (Value.type "tuple") [] 0) (hN (Os (Value.type "tuple") [(Vs "atively" 579), (Vs "A" 413)] 0) (hN (Os (Value.type "tuple") [] 0) hE hE) hE) (hN (Os (Value.type "tuple") [(Vs "idine" 780), (Vs "I" 429)] 0) (hN (Os (Value.type "tuple") [] 0) hE hE) hE)) (hN (Os (Value.type "tuple") [(Vs "arisations" 490), (Vs "A" 413)] 0) (hN (Os (Value.type "tuple") [(Vs "icists" 680), (Vs "A" 413)] 0) (hN (Os (Value.type "tuple") [(Vs "ex" 1157), (Vs "ec" 1158)] 0) hE hE) hE) (hN (Os (Value.type "tuple") [(Vs "isms" 908), (Vs "B" 415)] 0) hE hE))))
noncomputable def Ts60 (P : Params) : BT := (hN (Os (Value.type "tuple") [] 0) (hN (Os (Value.type "tuple") [] 0) (hN (Of Vn []) (hN (Od (Value.type "dict") [hDe P "ableness" 539 (Vs "A" 413), hDe P "arizable" 540 (Vs "A" 413), hDe P "entation" 541 (Vs "A" 413), hDe P "entially" 542 (Vs "A" 413), hDe P "eousness" 543 (Vs "A" 413), hDe P "ibleness" 544 (Vs "A" 413), hDe P "icalness" 545 (Vs "A" 413), hDe P "ionalism" 546 (Vs "A" 413), hDe P "ionality" 547 (Vs "A" 413), hDe P "ionalize" 548 (Vs "A" 413), hDe P "iousness" 549 (Vs "A" 413), hDe P "izations" 550 (Vs "A" 413), hDe P "lessness" 551 (Vs "A" 413)] 13) (hN (Os (Value.type "tuple") [(Vs "ish" 1001), (Vs "C" 417)] 0) hE hE) hE) (hN (Os (Value.type "tuple") [(Vs "ement" 764), (Vs "A" 413)] 0) (hN (Ff 77 667 (Vs "whoosh.lang.lovins" 187)) hE hE) hE)) (hN (Os (Value.type "tuple") [(Vs "cond" 474), (Vs "base" 475)] 0) (hN (Os (Value.type "tuple") [(Vs "ations" 664), (Vs "B" 415)] 0) (hN (Os (Value.type "tuple") [(Vs "iev" 1124), (Vs "ief" 1125)] 0) hE hE) hE) (hN (Os (Value.type "tuple") [(Vs "ened" 892), (Vs "E" 421)] 0) hE hE))) (hN (Fh 16) (hN (Of (Value.type "code") [(Vs "_Y" 376), (Vs "_Y" 377), (Vs "/claim/cut.py" 378), (Vi 66 0), (Vi 1 0), (Vi 0 0), (Vi 0 0), (Vi 3 0), (Vr 183), (Value.bool true), (Vi 181 0), (Vr 184), Vn, (Vr 185), (Vr 186), (Vr 187), (Vi 380 0), (Vi 66 0), (Vs "/claim/cut.py" 381)]) (hN (Os (Value.type "tuple") [(Vs "ination" 595), (Vs "A" 413)] 0) (hN (Os (Value.type "tuple") [(Vs "us" 1069), (Vs "V" 455)] 0) hE hE) hE) (hN (Os (Value.type "tuple") [(Vs "izers" 796), (Vs "F" 423)] 0) (hN (Of (Value.type "code") [(Vs "_law_any" 1781), (Vs "_law_any" 1782), (Vs "/claim/cut.py" 1783), (Vi 226 0), (Vi 2 0), (Vi 0 0), (Vi 0 0), (Vi 3 0), (Vr 697), (Value.bool true), (Vi 181 0), (Vr 698), Vn, Vn, Vn, (Vr 699), (Vi 1784 0), (Vi 226 0), (Vs "/claim/cut.py" 1785)]) hE hE) hE)) (hN (Os (Value.type "tuple") [(Vs "ativeness" 507), (Vs "A" 413)] 0) (hN (Of (Value.type "tuple_iterator") [Vn, (Vi 39 0)]) (hN (Os (Value.type "tuple") [(Vs "ert" 1192), (Vs "ers" 1193)] 0) hE hE) hE) (hN (Of (Value.type "AttributeError") [(Vr 507), Vn, Vn, Vn, (Value.bool false), Vn, (Vs "keys" 923), (Vr 505)]) hE hE))))
noncomputable def Ts34 (P : Params) : BT := (hN (Of (Value.type "code") [(Vs "_C" 203), (Vs "_C" 204), (Vs "/claim/cut.py" 205), (Vi 6 0), (Vi 1 0), (Vi 0 0), (Vi 0 0), (Vi 3 0), (Vr 29), (Value.bool true), (Vi 181 0), (Vr 30), Vn, (Vr 31), (Vr 32), (Vr 33), (Vi 207 0), (Vi 6 0), (Vs "/claim/cut.py" 208)]) (hN (Os (Value.type "tuple") [(Vs "base" 241), (Vs "c1" 242), (Vs "c2" 243)] 0) (hN (Os (Value.type "tuple") [] 0) (hN (Os (Value.type "tuple") [(Vs "ionalness" 513), (Vs "A" 413)] 0) (hN (Os (Value.type "tuple") [(Vs "aic" 975), (Vs "A" 413)] 0) hE hE) hE) (hN (Os (Value.type "tuple") [(Vs "aical" 738), (Vs "A" 413)] 0) (hN (Of Vn []) hE hE) hE)) (hN (Fh 26) (hN (Os (Value.type "tuple") [(Vs "iteness" 601), (Vs "A" 413)] 0) (hN (Os (Value.type "tuple") [(Vs "'tuple' object has no attribute 'keys'" 1074)] 0) hE hE) hE) (hN (Os (Value.type "tuple") [(Vr 383), (Vr 384), (Vr 385), (Vr 386), (Vr 387), (Vr 388), (Vr 389), (Vr 390), (Vr 391), (Vr 392), (Vr 393), (Vr 394), (Vr 395), (Vr 396), (Vr 397), (Vr 398), (Vr 399), (Vr 400), (Vr 401), (Vr 402), (Vr 403), (Vr 404), (Vr 405), (Vr 406), (Vr 407), (Vr 408), (Vr 409), (Vr 410), (Vr 411), (Vr 412), (Vr 413), (Vr 414), (Vr 415), (Vr 416), (Vr 417), (Vr 418), (Vr 419), (Vr 420), (Vr 421), (Vr 422), (Vr 423), (Vr 424), (Vr 425), (Vr 426), (Vr 427), (Vr 428), (Vr 429), (Vr 430), (Vr 431), (Vr 432), (Vr 433), (Vr 434), (Vr 435), (Vr 436), (Vr 437), (Vr 438), (Vr 439), (Vr 440), (Vr 441), (Vr 442), (Vr 443), (Vr 444), (Vr 445), (Vr 446), (Vr 447), (Vr 448), (Vr 449)] 0) (hN (Fh 87) hE hE) hE))) (hN (Ff 12 97 (Vs "whoosh.lang.lovins" 187)) (hN (Os (Value.type "tuple") [] 0) (hN (Os (Value.type "tuple") [(Vs "ability" 569), (Vs "A" 413)] 0) (hN (Os (Value.type "tuple") [(Vs "ive" 1007), (Vs "A" 413)] 0) hE hE) hE) (hN (Os (Value.type "tuple") [(Vs "ented" 770), (Vs "C" 417)] 0) (hN (Of (Value.type "code") [(Vs "stem" 1672), (Vs "stem" 1673), (Vs "/claim/cut.py" 1674), (Vi 213 0), (Vi 1 0), (Vi 0 0), (Vi 0 0), (Vi 3 0), (Vr 669), (Value.bool true), (Vi 181 0), (Vr 670), Vn, (Vr 671), (Vr 672), (Vr 673), (Vi 1676 0), (Vi 213 0), (Vs "/claim/cut.py" 1677)]) hE hE) hE)) (hN (Os (Value.type "tuple") [(Vs "arizability" 480), (Vs "A" 413)] 0) (hN (Os (Value.type "tuple") [(Vs "ential" 670), (Vs "A" 413)] 0) (hN (Os (Value.type "tuple") [(Vs "urs" 1136), (Vs "ur" 1137)] 0) hE hE) hE) (hN (Os (Value.type "tuple") [(Vs "ible" 898), (Vs "A" 413)] 0) hE hE))))
noncomputable def Ts50 (P : Params) : BT := (hN (Os (Value.type "tuple") [] 0) (hN (Fh 10) (hN (Of (Value.type "code") [(Vs "_S" 327), (Vs "_S" 328), (Vs "/claim/cut.py" 329), (Vi 48 0), (Vi 1 0), (Vi 0 0), (Vi 0 0), (Vi 3 0), (Vr 141), (Value.bool true), (Vi 181 0), (Vr 142), Vn, (Vr 143), (Vr 144), (Vr 145), (Vi 332 0), (Vi 48 0), (Vs "/claim/cut.py" 333)]) (hN (Os (Value.type "tuple") [(Vs "eousness" 543), (Vs "A" 413)] 0) (hN (Os (Value.type "tuple") [(Vs "ian" 991), (Vs "A" 413)] 0) hE hE) hE) (hN (Os (Value.type "tuple") [(Vs "ating" 754), (Vs "I" 429)] 0) (hN (Os (Value.type "list") [(Vr 639)] 1) hE hE) hE)) (hN (Ff 28 209 (Vs "whoosh.lang.lovins" 187)) (hN (Os (Value.type "tuple") [(Vs "acious" 654), (Vs "B" 415)] 0) (hN (Os (Value.type "tuple") [] 0) hE hE) hE) (hN (Os (Value.type "tuple") [(Vs "ated" 882), (Vs "I" 429)] 0) (hN (Ff 89 721 (Vs "law_iv0078_01" 1679)) hE hE) hE))) (hN (Of Vn []) (hN (Os (Value.type "tuple") [(Vs "base" 370), (Vs "c" 371), (Vs "cc" 372)] 0) (hN (Os (Value.type "tuple") [(Vs "entiate" 585), (Vs "A" 413)] 0) (hN (Os (Value.type "tuple") [(Vs "ed" 1059), (Vs "E" 421)] 0) hE hE) hE) (hN (Os (Value.type "tuple") [(Vs "inism" 786), (Vs "J" 431)] 0) (hN (Ff 83 689 (Vs "law_iv0078_01" 1679)) hE hE) hE)) (hN (Of (Value.type "AttributeError") [(Vr 241), Vn, Vn, Vn, (Value.bool false), Vn, (Vs "keys" 495), (Vr 239)]) (hN (Os (Value.type "tuple") [(Vs "iously" 686), (Vs "A" 413)] 0) (hN (Os (Value.type "tuple") [(Vs "lid" 1169), (Vs "lis" 1170)] 0) hE hE) hE) (hN (Os (Value.type "tuple") [(Vs "lily" 914), (Vs "A" 413)] 0) hE hE))))
noncomputable def Ts42 (P : Params) : BT := (hN (Ff 4 41 (Vs "whoosh.lang.lovins" 187)) (hN (Os (Value.type "tuple") [] 0) (hN (Fh 18) (hN (Of (Value.type "AttributeError") [(Vr 265), Vn, Vn, Vn, (Value.bool false), Vn, (Vs "keys" 520), (Vr 263)]) (hN (Os (Value.type "tuple") [(Vs "ear" 983), (Vs "Y" 461)] 0) hE hE) hE) (hN (Os (Value.type "tuple") [(Vs "antic" 746), (Vs "C" 417)] 0) (hN (Of (Value.type "tuple_iterator") [Vn, (Vi 36 0)]) hE hE) hE)) (hN (Of (Value.type "code") [(Vs "_a" 390), (Vs "_a" 391), (Vs "/claim/cut.py" 392), (Vi 70 0), (Vi 1 0), (Vi 0 0), (Vi 0 0), (Vi 3 0), (Vr 197), (Value.bool true), (Vi 181 0), (Vr 198), Vn, (Vr 199), (Vr 200), (Vr 201), (Vi 396 0), (Vi 70 0), (Vs "/claim/cut.py" 397)]) (hN (Os (Value.type "tuple") [(Vr 290), (Vr 291), (Vr 292), (Vr 293), (Vr 294), (Vr 295), (Vr 296), (Vr 297), (Vr 298), (Vr 299), (Vr 300), (Vr 301), (Vr 302), (Vr 303), (Vr 304), (Vr 305), (Vr 306), (Vr 307), (Vr 308), (Vr 309), (Vr 310), (Vr 311), (Vr 312), (Vr 313), (Vr 314), (Vr 315), (Vr 316), (Vr 317), (Vr 318), (Vr 319), (Vr 320), (Vr 321), (Vr 322), (Vr 323), (Vr 324), (Vr 325), (Vr 326), (Vr 327), (Vr 328), (Vr 329)] 0) (hN (Os (Value.type "tuple") [(Vs "o" 1098), (Vs "A" 413)] 0) hE hE) hE) (hN (Os (Value.type "tuple") [(Vs "ably" 874), (Vs "A" 413)] 0) (hN (Of (Value.type "code") [(Vs "_law_bare" 1800), (Vs "_law_bare" 1801), (Vs "/claim/cut.py" 1802), (Vi 240 0), (Vi 1 0), (Vi 0 0), (Vi 0 0), (Vi 3 0), (Vr 709), (Value.bool true), (Vi 181 0), (Vr 710), Vn, (Vr 711), (Vr 712), (Vr 713), (Vi 1809 0), (Vi 240 0), (Vs "/claim/cut.py" 1810)]) hE hE) hE))) (hN (Os (Value.type "tuple") [] 0) (hN (Of Vn []) (hN (Os (Value.type "tuple") [(Vs "atingly" 577), (Vs "A" 413)] 0) (hN (Of (Value.type "AttributeError") [(Vr 553), Vn, Vn, Vn, (Value.bool false), Vn, (Vs "keys" 1014), (Vr 551)]) hE hE) hE) (hN (Os (Value.type "tuple") [(Vs "icist" 778), (Vs "A" 413)] 0) (hN (Of (Value.type "code") [(Vs "_law_terms" 1696), (Vs "_law_terms" 1697), (Vs "/claim/cut.py" 1698), (Vi 218 0), (Vi 0 0), (Vi 0 0), (Vi 0 0), (Vi 3 0), (Vr 677), (Value.bool true), (Vi 181 0), (Vr 678), Vn, (Vr 679), (Vr 680), (Vr 681), (Vi 1699 0), (Vi 218 0), (Vs "/claim/cut.py" 1700)]) hE hE) hE)) (hN (Of (Value.type "StopIteration") [(Vr 233), Vn, Vn, Vn, (Value.bool false), Vn]) (hN (Os (Value.type "tuple") [(Vs "icance" 678), (Vs "A" 413)] 0) (hN (Os (Value.type "tuple") [(Vs "tex" 1153), (Vs "tic" 1154)] 0) hE hE) hE) (hN (Os (Value.type "tuple") [(Vs "ions" 906), (Vs "B" 415)] 0) hE hE))))
noncomputable def Ts58 (P : Params) : BT := (hN (Of Vn []) (hN (Of (Value.type "code") [(Vs "_K" 263), (Vs "_K" 264), (Vs "/claim/cut.py" 265), (Vi 25 0), (Vi 1 0), (Vi 0 0), (Vi 0 0), (Vi 3 0), (Vr 85), (Value.bool true), (Vi 181 0), (Vr 86), Vn, (Vr 87), (Vr 88), (Vr 89), (Vi 269 0), (Vi 25 0), (Vs "/claim/cut.py" 270)]) (hN (Ff 20 153 (Vs "whoosh.lang.lovins" 187)) (hN (Os (Value.type "tuple") [(Vs "lessness" 551), (Vs "A" 413)] 0) (hN (Os (Value.type "tuple") [(Vs "ing" 999), (Vs "N" 439)] 0) hE hE) hE) (hN (Os (Value.type "tuple") [(Vs "eless" 762), (Vs "A" 413)] 0) (hN (Fh 77) hE hE) hE)) (hN (Os (Value.type "tuple") [] 0) (hN (Os (Value.type "tuple") [(Vs "arizer" 662), (Vs "A" 413)] 0) (hN (Of (Value.type "code") [(Vs "remove_ending" 1112), (Vs "remove_ending" 1113), (Vs "/claim/cut.py" 1114), (Vi 177 0), (Vi 1 0), (Vi 0 0), (Vi 0 0), (Vi 3 0), (Vr 597), (Value.bool true), (Vi 181 0), (Vr 598), Vn, (Vr 599), (Vr 600), (Vr 601), (Vi 1121 0), (Vi 177 0), (Vs "/claim/cut.py" 1122)]) hE hE) hE) (hN (Os (Value.type "tuple") [(Vs "ence" 890), (Vs "A" 413)] 0) hE hE))) (hN (Os (Value.type "tuple") [(Vs "base" 307)] 0) (hN (Os (Value.type "tuple") [] 0) (hN (Os (Value.type "tuple") [(Vs "ication" 593), (Vs "G" 425)] 0) (hN (Os (Value.type "tuple") [(Vs "or" 1067), (Vs "T" 451)] 0) hE hE) hE) (hN (Os (Value.type "tuple") [(Vs "ively" 794), (Vs "A" 413)] 0) (hN (Of Vn []) hE hE) hE)) (hN (Os (Value.type "tuple") [(Vs "arization" 505), (Vs "A" 413)] 0) (hN (Os (Value.type "tuple") [(Vs "'tuple' object has no attribute 'keys'" 693)] 0) (hN (Os (Value.type "tuple") [(Vs "mit" 1187), (Vs "mis" 1188)] 0) hE hE) hE) (hN (Od (Value.type "dict") [hDe P "able" 873 (Vs "A" 413), hDe P "ably" 874 (Vs "A" 413), hDe P "ages" 875 (Vs "B" 415), hDe P "ally" 876 (Vs "B" 415), hDe P "ance" 877 (Vs "B" 415), hDe P "ancy" 878 (Vs "B" 415), hDe P "ants" 879 (Vs "B" 415), hDe P "aric" 880 (Vs "A" 413), hDe P "arly" 881 (Vs "K" 433), hDe P "ated" 882 (Vs "I" 429), hDe P "ates" 883 (Vs "A" 413), hDe P "atic" 884 (Vs "B" 415), hDe P "ator" 885 (Vs "A" 413), hDe P "ealy" 886 (Vs "Y" 461), hDe P "edly" 887 (Vs "E" 421), hDe P "eful" 888 (Vs "A" 413), hDe P "eity" 889 (Vs "A" 413), hDe P "ence" 890 (Vs "A" 413), hDe P "ency" 891 (Vs "A" 413), hDe P "ened" 892 (Vs "E" 421), hDe P "enly" 893 (Vs "E" 421), hDe P "eous" 894 (Vs "A" 413), hDe P "hood" 895 (Vs "A" 413), hDe P "ials" 896 (Vs "A" 413), hDe P "ians" 897 (Vs "A" 413), hDe P "ible" 898 (Vs "A" 413), hDe P "ibly" 899 (Vs "A" 413), hDe P "ical" 900 (Vs "A" 413), hDe P "ides" 901 (Vs "L" 435), hDe P "iers" 902 (Vs "A" 413), hDe P "iful" 903 (Vs "A" 413), hDe P "ines" 904 (Vs "M" 437), hDe P "ings" 905 (Vs "N" 439), hDe P "ions" 906 (Vs "B" 415), hDe P "ious" 907 (Vs "A" 413), hDe P "isms" 908 (Vs "B" 415), hDe P "ists" 909 (Vs "A" 413), hDe P "itic" 910 (Vs "H" 427), hDe P "ized" 911 (Vs "F" 423), hDe P "izer" 912 (Vs "F" 423), hDe P "less" 913 (Vs "A" 413), hDe P "lily" 914 (Vs "A" 413), hDe P "ness" 915 (Vs "A" 413), hDe P "ogen" 916 (Vs "A" 413), hDe P "ward" 917 (Vs "A" 413), hDe P "wise" 918 (Vs "A" 413), hDe P "ying" 919 (Vs "B" 415), hDe P "yish" 920 (Vs "A" 413)] 48) hE hE))))
noncomputable def Ts38 (P : Params) : BT := (hN (Os (Value.type "tuple") [(Vs "base" 213)] 0) (hN (Ff 8 69 (Vs "whoosh.lang.lovins" 187)) (hN (Os (Value.type "tuple") [] 0) (hN (Os (Value.type "tuple") [(Vs "izational" 517), (Vs "A" 413)] 0) (hN (Os (Value.type "tuple") [(Vs "ary" 979), (Vs "F" 423)] 0) hE hE) hE) (hN (Os (Value.type "tuple") [(Vs "alize" 742), (Vs "A" 413)] 0) (hN (Of (Value.type "code") [(Vs "_by_last_letter" 1202), (Vs "_by_last_letter" 1203), (Vs "/claim/cut.py" 1204), (Vi 191 0), (Vi 1 0), (Vi 0 0), (Vi 0 0), (Vi 3 0), (Vr 641), (Value.bool true), (Vi 181 0), (Vr 642), Vn, (Vr 643), (Vr 644), (Vr 645), (Vi 1208 0), (Vi 191 0), (Vs "/claim/cut.py" 1209)]) hE hE) hE)) (hN (Of Vn []) (hN (Os (Value.type "tuple") [(Vs "ization" 605), (Vs "F" 423)] 0) (hN (Of (Value.type "StopIteration") [(Vr 581), Vn, Vn, Vn, (Value.bool false), Vn]) hE hE) hE) (hN (Of (Value.type "tuple_iterator") [Vn, (Vi 67 0)]) (hN (Of Vn []) hE hE) hE))) (hN (Os (Value.type "tuple") [] 0) (hN (Fh 22) (hN (Os (Value.type "tuple") [(Vs "ariness" 573), (Vs "E" 421)] 0) (hN (Os (Value.type "tuple") [(Vs "ous" 1011), (Vs "A" 413)] 0) hE hE) hE) (hN (Os (Value.type "tuple") [(Vs "icant" 774), (Vs "A" 413)] 0) (hN (Of Vn []) hE hE) hE)) (hN (Os (Value.type "tuple") [(Vs "'tuple' object has no attribute 'keys'" 483)] 0) (hN (Os (Value.type "tuple") [(Vs "ialist" 674), (Vs "A" 413)] 0) (hN (Os (Value.type "tuple") [(Vs "ul" 1144), (Vs "l" 1145), (Vs "aoi" 1146)] 0) hE hE) hE) (hN (Os (Value.type "tuple") [(Vs "iers" 902), (Vs "A" 413)] 0) hE hE))))
noncomputable def Ts54 (P : Params) : BT := (hN (Fh 6) (hN (Of Vn []) (hN (Os (Value.type "tuple") [(Vs "base" 338), (Vs "c1" 339), (Vs "c2" 340)] 0) (hN (Os (Value.type "tuple") [(Vs "ionality" 547), (Vs "A" 413)] 0) (hN (Os (Value.type "tuple") [(Vs "ier" 995), (Vs "A" 413)] 0) hE hE) hE) (hN (Os (Value.type "tuple") [(Vs "atory" 758), (Vs "A" 413)] 0) (hN (Os (Value.type "tuple") [] 0) hE hE) hE)) (hN (Os (Value.type "tuple") [] 0) (hN (Os (Value.type "tuple") [(Vs "ancies" 658), (Vs "A" 413)] 0) (hN (Of Vn []) hE hE) hE) (hN (Os (Value.type "tuple") [(Vs "ealy" 886), (Vs "Y" 461)] 0) (hN (Of (Value.type "code") [(Vs "law" 1824), (Vs "law" 1825), (Vs "/claim/cut.py" 1826), (Vi 270 0), (Vi 1 0), (Vi 0 0), (Vi 0 0), (Vi 3 0), (Vr 723), (Value.bool true), (Vi 181 0), (Vr 724), Vn, Vn, Vn, (Vr 725), (Vi 1827 0), (Vi 270 0), (Vs "/claim/cut.py" 1828)]) hE hE) hE))) (hN (Of (Value.type "code") [(Vs "_O" 296), (Vs "_O" 297), (Vs "/claim/cut.py" 298), (Vi 37 0), (Vi 1 0), (Vi 0 0), (Vi 0 0), (Vi 3 0), (Vr 113), (Value.bool true), (Vi 181 0), (Vr 114), Vn, (Vr 115), (Vr 116), (Vr 117), (Vi 301 0), (Vi 37 0), (Vs "/claim/cut.py" 302)]) (hN (Ff 24 181 (Vs "whoosh.lang.lovins" 187)) (hN (Os (Value.type "tuple") [(Vs "icalism" 589), (Vs "A" 413)] 0) (hN (Os (Value.type "tuple") [(Vs "ic" 1063), (Vs "A" 413)] 0) hE hE) hE) (hN (Os (Value.type "tuple") [(Vs "ished" 790), (Vs "A" 413)] 0) (hN (Fh 85) hE hE) hE)) (hN (Os (Value.type "tuple") [(Vs "allically" 501), (Vs "C" 417)] 0) (hN (Os (Value.type "tuple") [(Vs "nesses" 690), (Vs "A" 413)] 0) (hN (Os (Value.type "tuple") [(Vs "ond" 1178), (Vs "ons" 1179)] 0) hE hE) hE) (hN (Os (Value.type "tuple") [(Vs "wise" 918), (Vs "A" 413)] 0) hE hE))))
noncomputable def Ts46 (P : Params) : BT := (hN (Os (Value.type "tuple") [] 0) (hN (Os (Value.type "tuple") [] 0) (hN (Of Vn []) (hN (Os (Value.type "tuple") [(Vs "ableness" 539), (Vs "A" 413)] 0) (hN (Os (Value.type "tuple") [(Vs "ery" 987), (Vs "E" 421)] 0) hE hE) hE) (hN (Os (Value.type "tuple") [(Vs "arity" 750), (Vs "B" 415)] 0) (hN (Os (Value.type "list") [(Vr 611), (Vr 612), (Vr 633)] 3) hE hE) hE)) (hN (Os (Value.type "tuple") [(Vs "base" 402)] 0) (hN (Of (Value.type "tuple_iterator") [Vn, (Vi 40 0)]) (hN (Od (Value.type "dict") [hDe P "a" 1095 (Vs "A" 413), hDe P "e" 1096 (Vs "A" 413), hDe P "i" 1097 (Vs "A" 413), hDe P "o" 1098 (Vs "A" 413), hDe P "s" 1099 (Vs "W" 457), hDe P "y" 1100 (Vs "B" 415)] 6) hE hE) hE) (hN (Os (Value.type "tuple") [(Vs "ancy" 878), (Vs "B" 415)] 0) (hN (Os (Value.type "tuple") [(Vs "word" 1815), (Vs "left" 1816), (Vs "ending" 1817), (Vs "given" 1818), (Vs "spared" 1819), (Vs "ahead" 1820)] 0) hE hE) hE))) (hN (Fh 14) (hN (Of (Value.type "code") [(Vs "_W" 359), (Vs "_W" 360), (Vs "/claim/cut.py" 361), (Vi 59 0), (Vi 1 0), (Vi 0 0), (Vi 0 0), (Vi 3 0), (Vr 169), (Value.bool true), (Vi 181 0), (Vr 170), Vn, (Vr 171), (Vr 172), (Vr 173), (Vi 364 0), (Vi 59 0), (Vs "/claim/cut.py" 365)]) (hN (Os (Value.type "tuple") [(Vs "elihood" 581), (Vs "E" 421)] 0) (hN (Os (Value.type "tuple") [(Vs "ae" 1055), (Vs "A" 413)] 0) hE hE) hE) (hN (Os (Value.type "tuple") [(Vs "ihood" 782), (Vs "A" 413)] 0) (hN (Os (Value.type "tuple") [] 0) hE hE) hE)) (hN (Os (Value.type "tuple") [(Vs "entialness" 492), (Vs "A" 413)] 0) (hN (Os (Value.type "tuple") [(Vs "ionals" 682), (Vs "A" 413)] 0) (hN (Os (Value.type "tuple") [(Vs "lux" 1161), (Vs "luc" 1162)] 0) hE hE) hE) (hN (Os (Value.type "tuple") [(Vs "itic" 910), (Vs "H" 427)] 0) hE hE))))
noncomputable def Ts62 (P : Params) : BT := (hN (Of (Value.type "code") [(Vs "_G" 231), (Vs "_G" 232), (Vs "/claim/cut.py" 233), (Vi 14 0), (Vi 1 0), (Vi 0 0), (Vi 0 0), (Vi 3 0), (Vr 57), (Value.bool true), (Vi 181 0), (Vr 58), Vn, (Vr 59), (Vr 60), (Vr 61), (Vi 235 0), (Vi 14 0), (Vs "/claim/cut.py" 236)]) (hN (Os (Value.type "tuple") [(Vs "base" 275), (Vs "c1" 276), (Vs "c2" 277)] 0) (hN (Os (Value.type "tuple") [] 0) (hN (Of (Value.type "AttributeError") [(Vr 285), Vn, Vn, Vn, (Value.bool false), Vn, (Vs "keys" 554), (Vr 283)]) (hN (Os (Value.type "tuple") [(Vs "ist" 1003), (Vs "A" 413)] 0) hE hE) hE) (hN (Os (Value.type "tuple") [(Vs "ences" 766), (Vs "A" 413)] 0) (hN (Of Vn []) hE hE) hE)) (hN (Fh 59) (hN (Os (Value.type "tuple") [(Vs "eature" 666), (Vs "Z" 463)] 0) (hN (Os (Value.type "tuple") [(Vs "iev" 1128), (Vs "ief" 1129)] 0) hE hE) hE) (hN (Os (Value.type "tuple") [(Vs "eous" 894), (Vs "A" 413)] 0) hE hE))) (hN (Ff 16 125 (Vs "whoosh.lang.lovins" 187)) (hN (Os (Value.type "tuple") [] 0) (hN (Os (Value.type "tuple") [(Vs "ionally" 597), (Vs "A" 413)] 0) (hN (Os (Value.type "tuple") [(Vs "s'" 1071), (Vs "A" 413)] 0) hE hE) hE) (hN (Os (Value.type "tuple") [(Vs "oidal" 798), (Vs "A" 413)] 0) (hN (Os (Value.type "tuple") [] 0) hE hE) hE)) (hN (Os (Value.type "tuple") [(Vs "entations" 509), (Vs "A" 413)] 0) (hN (Of (Value.type "StopIteration") [(Vr 381), Vn, Vn, Vn, (Value.bool false), Vn]) (hN (Os (Value.type "tuple") [(Vs "yt" 1197), (Vs "ys" 1198)] 0) hE hE) hE) (hN (Os (Value.type "tuple") [] 0) hE hE))))
noncomputable def hTf (P : Params) : BT := (hN (Od (Value.type "dict") [hDe P "__name__" 1 (Vs "builtins" 160), hDe P "__doc__" 2 (Value.builtin "builtins.__doc__:str#opaque"), hDe P "__package__" 3 (Value.builtin "builtins.__package__:str#opaque"), hDe P "__loader__" 4 (Value.builtin "builtins.__loader__:shared#opaque"), hDe P "__spec__" 5 (Value.builtin "builtins.__spec__#opaque"), hDe P "__build_class__" 6 (Value.builtin "__build_class__"), hDe P "__import__" 7 (Value.builtin "__import__"), hDe P "abs" 8 (Value.builtin "abs"), hDe P "all" 9 (Value.builtin "all"), hDe P "any" 10 (Value.builtin "any"), hDe P "ascii" 11 (Value.builtin "ascii"), hDe P "bin" 12 (Value.builtin "bin"), hDe P "breakpoint" 13 (Value.builtin "breakpoint"), hDe P "callable" 14 (Value.builtin "callable"), hDe P "chr" 15 (Value.builtin "chr"), hDe P "compile" 16 (Value.builtin "compile"), hDe P "delattr" 17 (Value.builtin "delattr"), hDe P "dir" 18 (Value.builtin "dir"), hDe P "divmod" 19 (Value.builtin "divmod"), hDe P "eval" 20 (Value.builtin "eval"), hDe P "exec" 21 (Value.builtin "exec"), hDe P "format" 22 (Value.builtin "format"), hDe P "getattr" 23 (Value.builtin "getattr"), hDe P "globals" 24 (Value.builtin "globals"), hDe P "hasattr" 25 (Value.builtin "hasattr"), hDe P "hash" 26 (Value.builtin "hash"), hDe P "hex" 27 (Value.builtin "hex"), hDe P "id" 28 (Value.builtin "id"), hDe P "input" 29 (Value.builtin "input"), hDe P "isinstance" 30 (Value.builtin "isinstance"), hDe P "issubclass" 31 (Value.builtin "issubclass"), hDe P "iter" 32 (Value.builtin "iter"), hDe P "aiter" 33 (Value.builtin "aiter"), hDe P "len" 34 (Value.builtin "len"), hDe P "locals" 35 (Value.builtin "locals"), hDe P "max" 36 (Value.builtin "max"), hDe P "min" 37 (Value.builtin "min"), hDe P "next" 38 (Value.builtin "next"), hDe P "anext" 39 (Value.builtin "anext"), hDe P "oct" 40 (Value.builtin "oct"), hDe P "ord" 41 (Value.builtin "ord"), hDe P "pow" 42 (Value.builtin "pow"), hDe P "print" 43 (Value.builtin "print"), hDe P "repr" 44 (Value.builtin "repr"), hDe P "round" 45 (Value.builtin "round"), hDe P "setattr" 46 (Value.builtin "setattr"), hDe P "sorted" 47 (Value.builtin "sorted"), hDe P "sum" 48 (Value.builtin "sum"), hDe P "vars" 49 (Value.builtin "vars"), hDe P "None" 50 Vn, hDe P "Ellipsis" 51 (Value.ellipsis), hDe P "NotImplemented" 52 (Value.notImplemented), hDe P "False" 53 (Value.bool false), hDe P "True" 54 (Value.bool true), hDe P "bool" 55 (Value.type "bool"), hDe P "memoryview" 56 (Value.type "memoryview"), hDe P "bytearray" 57 (Value.type "bytearray"), hDe P "bytes" 58 (Value.type "bytes"), hDe P "classmethod" 59 (Value.type "classmethod"), hDe P "complex" 60 (Value.type "complex"), hDe P "dict" 61 (Value.type "dict"), hDe P "enumerate" 62 (Value.type "enumerate"), hDe P "filter" 63 (Value.type "filter"), hDe P "float" 64 (Value.type "float"), hDe P "frozenset" 65 (Value.type "frozenset"), hDe P "property" 66 (Value.type "property"), hDe P "int" 67 (Value.type "int"), hDe P "list" 68 (Value.type "list"), hDe P "map" 69 (Value.type "map"), hDe P "object" 70 (Value.type "object"), hDe P "range" 71 (Value.type "range"), hDe P "reversed" 72 (Value.type "reversed"), hDe P "set" 73 (Value.type "set"), hDe P "slice" 74 (Value.type "slice"), hDe P "staticmethod" 75 (Value.type "staticmethod"), hDe P "str" 76 (Value.type "str"), hDe P "super" 77 (Value.type "super"), hDe P "tuple" 78 (Value.type "tuple"), hDe P "type" 79 (Value.type "type"), hDe P "zip" 80 (Value.type "zip"), hDe P "__debug__" 81 (Value.bool true), hDe P "BaseException" 82 (Value.type "BaseException"), hDe P "BaseExceptionGroup" 83 (Value.type "BaseExceptionGroup"), hDe P "Exception" 84 (Value.type "Exception"), hDe P "GeneratorExit" 85 (Value.type "GeneratorExit"), hDe P "KeyboardInterrupt" 86 (Value.type "KeyboardInterrupt"), hDe P "SystemExit" 87 (Value.type "SystemExit"), hDe P "ArithmeticError" 88 (Value.type "ArithmeticError"), hDe P "AssertionError" 89 (Value.type "AssertionError"), hDe P "AttributeError" 90 (Value.type "AttributeError"), hDe P "BufferError" 91 (Value.type "BufferError"), hDe P "EOFError" 92 (Value.type "EOFError"), hDe P "ImportError" 93 (Value.type "ImportError"), hDe P "LookupError" 94 (Value.type "LookupError"), hDe P "MemoryError" 95 (Value.type "MemoryError"), hDe P "NameError" 96 (Value.type "NameError"), hDe P "OSError" 97 (Value.type "OSError"), hDe P "ReferenceError" 98 (Value.type "ReferenceError"), hDe P "RuntimeError" 99 (Value.type "RuntimeError"), hDe P "StopAsyncIteration" 100 (Value.type "StopAsyncIteration"), hDe P "StopIteration" 101 (Value.type "StopIteration"), hDe P "SyntaxError" 102 (Value.type "SyntaxError"), hDe P "SystemError" 103 (Value.type "SystemError"), hDe P "TypeError" 104 (Value.type "TypeError"), hDe P "ValueError" 105 (Value.type "ValueError"), hDe P "Warning" 106 (Value.type "Warning"), hDe P "FloatingPointError" 107 (Value.type "FloatingPointError"), hDe P "OverflowError" 108 (Value.type "OverflowError"), hDe P "ZeroDivisionError" 109 (Value.type "ZeroDivisionError"), hDe P "BytesWarning" 110 (Value.type "BytesWarning"), hDe P "DeprecationWarning" 111 (Value.type "DeprecationWarning"), hDe P "EncodingWarning" 112 (Value.type "EncodingWarning"), hDe P "FutureWarning" 113 (Value.type "FutureWarning"), hDe P "ImportWarning" 114 (Value.type "ImportWarning"), hDe P "PendingDeprecationWarning" 115 (Value.type "PendingDeprecationWarning"), hDe P "ResourceWarning" 116 (Value.type "ResourceWarning"), hDe P "RuntimeWarning" 117 (Value.type "RuntimeWarning"), hDe P "SyntaxWarning" 118 (Value.type "SyntaxWarning"), hDe P "UnicodeWarning" 119 (Value.type "UnicodeWarning"), hDe P "UserWarning" 120 (Value.type "UserWarning"), hDe P "BlockingIOError" 121 (Value.type "BlockingIOError"), hDe P "ChildProcessError" 122 (Value.type "ChildProcessError"), hDe P "ConnectionError" 123 (Value.type "ConnectionError"), hDe P "FileExistsError" 124 (Value.type "FileExistsError"), hDe P "FileNotFoundError" 125 (Value.type "FileNotFoundError"), hDe P "InterruptedError" 126 (Value.type "InterruptedError"), hDe P "IsADirectoryError" 127 (Value.type "IsADirectoryError"), hDe P "NotADirectoryError" 128 (Value.type "NotADirectoryError"), hDe P "PermissionError" 129 (Value.type "PermissionError"), hDe P "ProcessLookupError" 130 (Value.type "ProcessLookupError"), hDe P "TimeoutError" 131 (Value.type "TimeoutError"), hDe P "IndentationError" 132 (Value.type "IndentationError"), hDe P "_IncompleteInputError" 133 (Value.type "_IncompleteInputError"), hDe P "IndexError" 134 (Value.type "IndexError"), hDe P "KeyError" 135 (Value.type "KeyError"), hDe P "ModuleNotFoundError" 136 (Value.type "ModuleNotFoundError"), hDe P "NotImplementedError" 137 (Value.type "NotImplementedError"), hDe P "PythonFinalizationError" 138 (Value.type "PythonFinalizationError"), hDe P "RecursionError" 139 (Value.type "RecursionError"), hDe P "UnboundLocalError" 140 (Value.type "UnboundLocalError"), hDe P "UnicodeError" 141 (Value.type "UnicodeError"), hDe P "BrokenPipeError" 142 (Value.type "BrokenPipeError"), hDe P "ConnectionAbortedError" 143 (Value.type "ConnectionAbortedError"), hDe P "ConnectionRefusedError" 144 (Value.type "ConnectionRefusedError"), hDe P "ConnectionResetError" 145 (Value.type "ConnectionResetError"), hDe P "TabError" 146 (Value.type "TabError"), hDe P "UnicodeDecodeError" 147 (Value.type "UnicodeDecodeError"), hDe P "UnicodeEncodeError" 148 (Value.type "UnicodeEncodeError"), hDe P "UnicodeTranslateError" 149 (Value.type "UnicodeTranslateError"), hDe P "ExceptionGroup" 150 (Value.type "ExceptionGroup"), hDe P "EnvironmentError" 151 (Value.type "OSError"), hDe P "IOError" 152 (Value.type "OSError"), hDe P "open" 153 (Value.builtin "open"), hDe P "quit" 154 (Value.builtin "builtins.quit#opaque"), hDe P "exit" 155 (Value.builtin "builtins.exit#opaque"), hDe P "copyright" 156 (Value.builtin "builtins.copyright#opaque"), hDe P "credits" 157 (Value.builtin "builtins.credits#opaque"), hDe P "license" 158 (Value.builtin "builtins.license#opaque"), hDe P "help" 159 (Value.builtin "builtins.help#opaque")] 159) (hN (Od (Value.type "dict") [hDe P "builtins" 162 (Vr 4), hDe P "__main__" 163 (Vr 5)] 2) (hN (Od (Value.type "dict") [hDe P "__name__" 165 (Vs "law_iv0078_01" 1679), hDe P "__doc__" 166 Vn, hDe P "__package__" 167 Vn, hDe P "__loader__" 168 (Value.builtin "__main__.__loader__#opaque"), hDe P "__spec__" 169 Vn, hDe P "__annotations__" 170 (Vr 6), hDe P "__builtins__" 171 (Vr 4), hDe P "__file__" 173 (Vs "/claim/cut.py" 172), hDe P "__cached__" 174 Vn, hDe P "_A" 195 (Vr 21), hDe P "_B" 202 (Vr 28), hDe P "_C" 209 (Vr 35), hDe P "_D" 216 (Vr 42), hDe P "_E" 223 (Vr 49), hDe P "_F" 230 (Vr 56), hDe P "_G" 237 (Vr 63), hDe P "_H" 246 (Vr 70), hDe P "_I" 254 (Vr 77), hDe P "_J" 262 (Vr 84), hDe P "_K" 271 (Vr 91), hDe P "_L" 280 (Vr 98), hDe P "_M" 288 (Vr 105), hDe P "_N" 295 (Vr 112), hDe P "_O" 303 (Vr 119), hDe P "_P" 310 (Vr 126), hDe P "_Q" 318 (Vr 133), hDe P "_R" 326 (Vr 140), hDe P "_S" 334 (Vr 147), hDe P "_T" 343 (Vr 154), hDe P "_U" 351 (Vr 161), hDe P "_V" 358 (Vr 168), hDe P "_W" 366 (Vr 175), hDe P "_X" 375 (Vr 182), hDe P "_Y" 382 (Vr 189), hDe P "_Z" 389 (Vr 196), hDe P "_a" 398 (Vr 203), hDe P "_b" 405 (Vr 210), hDe P "_c" 412 (Vr 217), hDe P "A" 414 (Vs "A" 413), hDe P "B" 416 (Vs "B" 415), hDe P "C" 418 (Vs "C" 417), hDe P "D" 420 (Vs "D" 419), hDe P "E" 422 (Vs "E" 421), hDe P "F" 424 (Vs "F" 423), hDe P "G" 426 (Vs "G" 425), hDe P "H" 428 (Vs "H" 427), hDe P "I" 430 (Vs "I" 429), hDe P "J" 432 (Vs "J" 431), hDe P "K" 434 (Vs "K" 433), hDe P "L" 436 (Vs "L" 435), hDe P "M" 438 (Vs "M" 437), hDe P "N" 440 (Vs "N" 439), hDe P "O" 442 (Vs "O" 441), hDe P "P" 444 (Vs "P" 443), hDe P "Q" 446 (Vs "Q" 445), hDe P "R" 448 (Vs "R" 447), hDe P "S" 450 (Vs "S" 449), hDe P "T" 452 (Vs "T" 451), hDe P "U" 454 (Vs "U" 453), hDe P "V" 456 (Vs "V" 455), hDe P "W" 458 (Vs "W" 457), hDe P "X" 460 (Vs "X" 459), hDe P "Y" 462 (Vs "Y" 461), hDe P "Z" 464 (Vs "Z" 463), hDe P "a" 466 (Vs "a" 465), hDe P "b" 468 (Vs "b" 467), hDe P "c" 470 (Vs "c" 469), hDe P "_holds" 478 (Vr 224), hDe P "m11" 488 (Vr 229), hDe P "m10" 500 (Vr 240), hDe P "m9" 538 (Vr 264), hDe P "m8" 568 (Vr 284), hDe P "m7" 652 (Vr 331), hDe P "m6" 734 (Vr 377), hDe P "m5" 872 (Vr 451), hDe P "m4" 972 (Vr 506), hDe P "m3" 1054 (Vr 552), hDe P "m2" 1094 (Vr 577), hDe P "m1" 1110 (Vr 590), hDe P "m" 1111 (Vr 596), hDe P "remove_ending" 1123 (Vr 603), hDe P "_endings" 1201 (Vr 640), hDe P "_by_last_letter" 1210 (Vr 647), hDe P "_endingrules" 1649 (Vr 649), hDe P "_doubles" 1659 (Vr 661), hDe P "fix_ending" 1671 (Vr 668), hDe P "stem" 1678 (Vr 675), hDe P "_law_letters" 1682 (Vs "etaoinsrhldcumfpgwbvkxjqzy'" 1681), hDe P "_law_goes" 1695 (Vr 676), hDe P "_law_terms" 1701 (Vr 683), hDe P "_law_anew" 1707 (Vr 690), hDe P "_law_tails" 1774 (Vr 691), hDe P "_law_closes" 1780 (Vr 696), hDe P "_law_any" 1786 (Vr 701), hDe P "_law_holds" 1799 (Vr 708), hDe P "_law_bare" 1811 (Vr 715), hDe P "_law_stemmed" 1823 (Vr 722), hDe P "law" 1829 (Vr 727)] 98) (hN (Os (Value.type "tuple") [] 0) (hN (Os (Value.type "tuple") [] 0) (Ts31 P) (Ts47 P)) (hN (Of Vn []) (Ts39 P) (Ts55 P))) (hN (Os (Value.type "tuple") [] 0) (hN (Fh 1) (Ts35 P) (Ts51 P)) (hN (Of (Value.type "code") [(Vs "_B" 196), (Vs "_B" 197), (Vs "/claim/cut.py" 198), (Vi 4 0), (Vi 1 0), (Vi 0 0), (Vi 0 0), (Vi 3 0), (Vr 22), (Value.bool true), (Vi 181 0), (Vr 23), Vn, (Vr 24), (Vr 25), (Vr 26), (Vi 200 0), (Vi 4 0), (Vs "/claim/cut.py" 201)]) (Ts43 P) (Ts59 P)))) (hN ({ cls := Value.type "module", dict := some 3 } : Obj) (hN (Of (Value.type "code") [(Vs "<module>" 176), (Vs "<module>" 177), (Vs "/claim/cut.py" 178), (Vi 1 0), (Vi 0 0), (Vi 0 0), (Vi 0 0), (Vi 0 0), (Vr 7), (Value.bool false), (Vi 175 0), (Vr 8), Vn, Vn, Vn, Vn, (Vi 179 0), (Vi 1 0), (Vs "/claim/cut.py" 180)]) (hN (Os (Value.type "tuple") [(Vs "base" 192)] 0) (Ts33 P) (Ts49 P)) (hN (Os (Value.type "tuple") [] 0) (Ts41 P) (Ts57 P))) (hN (Of (Value.type "code") [(Vs "<module>" 182), (Vs "<module>" 183), (Vs "/claim/cut.py" 184), (Vi 1 0), (Vi 0 0), (Vi 0 0), (Vi 0 0), (Vi 0 0), (Vr 11), (Value.bool false), (Vi 181 0), (Vr 12), Vn, Vn, Vn, Vn, (Vi 185 0), (Vi 1 0), (Vs "/claim/cut.py" 186)]) (hN (Ff 1 20 (Vs "whoosh.lang.lovins" 187)) (Ts37 P) (Ts53 P)) (hN (Os (Value.type "tuple") [] 0) (Ts45 P) (Ts61 P))))) (hN (Od Vn [] 0) (hN ({ cls := Value.type "module", dict := some 0 } : Obj) (hN (Of Vn []) (hN (Of Vn []) (Ts32 P) (Ts48 P)) (hN (Os (Value.type "tuple") [(Vs "base" 199)] 0) (Ts40 P) (Ts56 P))) (hN (Of Vn [(Vi 2 0), (Vi 0 0), (Vr 20), (Vi 4 0), (Vi 0 0), (Vr 27), (Vi 6 0), (Vi 0 0), (Vr 34), (Vi 8 0), (Vi 0 0), (Vr 41), (Vi 10 0), (Vi 0 0), (Vr 48), (Vi 12 0), (Vi 0 0), (Vr 55), (Vi 14 0), (Vi 0 0), (Vr 62), (Vi 16 0), (Vi 0 0), (Vr 69), (Vi 19 0), (Vi 0 0), (Vr 76), (Vi 22 0), (Vi 0 0), (Vr 83), (Vi 25 0), (Vi 0 0), (Vr 90), (Vi 29 0), (Vi 0 0), (Vr 97), (Vi 32 0), (Vi 0 0), (Vr 104), (Vi 35 0), (Vi 0 0), (Vr 111), (Vi 37 0), (Vi 0 0), (Vr 118), (Vi 40 0), (Vi 0 0), (Vr 125), (Vi 42 0), (Vi 0 0), (Vr 132), (Vi 45 0), (Vi 0 0), (Vr 139), (Vi 48 0), (Vi 0 0), (Vr 146), (Vi 51 0), (Vi 0 0), (Vr 153), (Vi 54 0), (Vi 0 0), (Vr 160), (Vi 57 0), (Vi 0 0), (Vr 167), (Vi 59 0), (Vi 0 0), (Vr 174), (Vi 62 0), (Vi 0 0), (Vr 181), (Vi 66 0), (Vi 0 0), (Vr 188), (Vi 68 0), (Vi 0 0), (Vr 195), (Vi 70 0), (Vi 0 0), (Vr 202), (Vi 74 0), (Vi 0 0), (Vr 209), (Vi 76 0), (Vi 0 0), (Vr 216), (Vi 107 0), (Vi 0 0), (Vr 223), (Vi 177 0), (Vi 0 0), (Vr 602), (Vi 191 0), (Vi 0 0), (Vr 646), (Vi 200 0), (Vi 0 0), (Vr 667), (Vi 213 0), (Vi 0 0), (Vr 674), (Vi 218 0), (Vi 0 0), (Vr 682), (Vi 220 0), (Vi 0 0), (Vr 689), (Vi 223 0), (Vi 0 0), (Vr 695), (Vi 226 0), (Vi 0 0), (Vr 700), (Vi 228 0), (Vi 0 0), (Vr 707), (Vi 240 0), (Vi 0 0), (Vr 714), (Vi 253 0), (Vi 0 0), (Vr 721), (Vi 270 0), (Vi 0 0), (Vr 726)]) (hN (Of (Value.type "code") [(Vs "_A" 189), (Vs "_A" 190), (Vs "/claim/cut.py" 191), (Vi 2 0), (Vi 1 0), (Vi 0 0), (Vi 0 0), (Vi 3 0), (Vr 15), (Value.bool true), (Vi 181 0), (Vr 16), Vn, (Vr 17), (Vr 18), (Vr 19), (Vi 193 0), (Vi 2 0), (Vs "/claim/cut.py" 194)]) (Ts36 P) (Ts52 P)) (hN (Ff 2 27 (Vs "whoosh.lang.lovins" 187)) (Ts44 P) (Ts60 P)))) (hN (Od (Value.type "dict") [] 0) (hN ({ cls := Value.type "frame", slots := #[some (Value.ref 9), some (Value.ref 3), some (Value.ref 3), none, some (Value.str (Str.ofString "__main__") 164), none, some (Value.ref 0)] } : Obj) (hN (Os (Value.type "tuple") [] 0) (Ts34 P) (Ts50 P)) (hN (Fh 2) (Ts42 P) (Ts58 P))) (hN ({ cls := Value.type "frame", slots := #[some (Value.ref 13), some (Value.ref 3), some (Value.ref 3), none, some (Value.str (Str.ofString "__main__") 164), none, some (Value.ref 0)] } : Obj) (hN (Os (Value.type "tuple") [] 0) (Ts38 P) (Ts54 P)) (hN (Of Vn []) (Ts46 P) (Ts62 P))))))
noncomputable def entO : Obj → List DictEntry
  | ⟨_, _, .dict es _, _⟩ => es.toList
  | _ => []
noncomputable def fldO : Obj → List Value
  | ⟨_, _, .fields vs, _⟩ => vs.toList
  | _ => []
/-- the text's names as they stand while it runs: the first n of those that it leaves, with the module's own name -/
noncomputable def setHd (v : Value) : List DictEntry → List DictEntry
  | e :: r => ⟨e.hash, e.key, v⟩ :: r
  | [] => []
noncomputable def Gd (P : Params) (n : Nat) (v : Value) : Obj := ⟨.type "dict", none, .dict (Array.mk (setHd v ((entO (((hTf P).get 3).getD default)).take n))) n, #[]⟩
noncomputable def Gf (P : Params) (n : Nat) : Obj := ⟨.none, none, .fields (Array.mk ((fldO (((hTf P).get 12).getD default)).take n)), #[]⟩
-- the last number of the two is the state's own: two states' terms part there at once
noncomputable def ovr : List (Nat × Obj) → Nat → Obj → Nat → Obj
  | [], _, o, _ => o
  | (a, x) :: r, b, o, k => match Nat.beq a b with
    | true => x
    | false => ovr r b o k
noncomputable def cutT (n : Nat) (ov : List (Nat × Obj)) : BT → Nat → Nat → Nat → BT
  | .nil, _, _, _ => .nil
  | .node o l r, a, b, k => match Nat.blt b n with
    | true => .node (ovr ov b o k) (cutT n ov l (2 * a) (a + b) k) (cutT n ov r (2 * a) (2 * a + b) k)
    | false => .nil
noncomputable def envN : Env := { scope := P0.main.scope, locals := mainNs, globals := mainNs, cells := [], code := .ref 13, frame := some 14 }
noncomputable def bE : List Stmt := behindTheImports P0
noncomputable abbrev cN : Code := Code.body bE envN
noncomputable abbrev q0 : Pos := ⟨0, 0, 0, 0⟩
end Mine
end
section
open PySem PySem.W PySem.Calls PyProof.Rows
namespace Mine
open PySem.W.Fast in
theorem toF {w : World} {m0 : Nat} {ann : Option Value} {b n : Nat} {s : SharedT} {l : List Stmt} {env : Env} {c : Code} {pos : Pos} {B : List Frame} :
    segRunT treeTable P0 w m0 ann b n s (piecesOf l env c pos B) = tw10110043849684766642 tw14364793385576792824 P0 w m0 ann b n s ⟨(tw12563942051412417395 l env).wrap doneF deadEnd id id, c, pos, B⟩ := by
  rw [← te10110043849684766642, ← te14364793385576792824, ← te12563942051412417395]
noncomputable abbrev S0 (P : Params) (os : OsState) : SharedT := ⟨cutT 15 [(3, (Gd P 9 (Vs "__main__" 164))), (12, (Gf P 0))] (hTf P) 1 0 0, 15, {}, #[], {}, 187, os⟩
noncomputable abbrev S1 (P : Params) (os : OsState) : SharedT := ⟨cutT 57 [(3, (Gd P 15 (Vs "whoosh.lang.lovins" 187))), (12, (Gf P 18))] (hTf P) 1 0 1, 57, {}, #[], {}, 231, os⟩
noncomputable abbrev S2 (P : Params) (os : OsState) : SharedT := ⟨cutT 99 [(3, (Gd P 21 (Vs "whoosh.lang.lovins" 187))), (12, (Gf P 36))] (hTf P) 1 0 2, 99, {}, #[], {}, 281, os⟩
noncomputable abbrev S3 (P : Params) (os : OsState) : SharedT := ⟨cutT 141 [(3, (Gd P 27 (Vs "whoosh.lang.lovins" 187))), (12, (Gf P 54))] (hTf P) 1 0 3, 141, {}, #[], {}, 327, os⟩
noncomputable abbrev S4 (P : Params) (os : OsState) : SharedT := ⟨cutT 183 [(3, (Gd P 33 (Vs "whoosh.lang.lovins" 187))), (12, (Gf P 72))] (hTf P) 1 0 4, 183, {}, #[], {}, 376, os⟩
noncomputable abbrev S5 (P : Params) (os : OsState) : SharedT := ⟨cutT 218 [(3, (Gd P 43 (Vs "whoosh.lang.lovins" 187))), (12, (Gf P 87))] (hTf P) 1 0 5, 218, {}, #[], {}, 423, os⟩
noncomputable abbrev S6 (P : Params) (os : OsState) : SharedT := ⟨cutT 218 [(3, (Gd P 65 (Vs "whoosh.lang.lovins" 187))), (12, (Gf P 87))] (hTf P) 1 0 6, 218, {}, #[], {}, 467, os⟩
noncomputable abbrev S7 (P : Params) (os : OsState) : SharedT := ⟨cutT 225 [(3, (Gd P 68 (Vs "whoosh.lang.lovins" 187))), (12, (Gf P 90))] (hTf P) 1 0 7, 225, {}, #[], {}, 479, os⟩
noncomputable abbrev S8 (P : Params) (os : OsState) : SharedT := ⟨cutT 235 [(3, (Gd P 69 (Vs "whoosh.lang.lovins" 187))), (12, (Gf P 90))] (hTf P) 1 0 8, 235, {}, #[], {}, 489, os⟩
noncomputable abbrev S9 (P : Params) (os : OsState) : SharedT := ⟨cutT 246 [(3, (Gd P 70 (Vs "whoosh.lang.lovins" 187))), (12, (Gf P 90))] (hTf P) 1 0 9, 246, {}, #[], {}, 501, os⟩
noncomputable abbrev S10 (P : Params) (os : OsState) : SharedT := ⟨cutT 270 [(3, (Gd P 71 (Vs "whoosh.lang.lovins" 187))), (12, (Gf P 90))] (hTf P) 1 0 10, 270, {}, #[], {}, 539, os⟩
noncomputable abbrev S11 (P : Params) (os : OsState) : SharedT := ⟨cutT 290 [(3, (Gd P 72 (Vs "whoosh.lang.lovins" 187))), (12, (Gf P 90))] (hTf P) 1 0 11, 290, {}, #[], {}, 569, os⟩
noncomputable abbrev S12 (P : Params) (os : OsState) : SharedT := ⟨cutT 337 [(3, (Gd P 73 (Vs "whoosh.lang.lovins" 187))), (12, (Gf P 90))] (hTf P) 1 0 12, 337, {}, #[], {}, 653, os⟩
noncomputable abbrev S13 (P : Params) (os : OsState) : SharedT := ⟨cutT 383 [(3, (Gd P 74 (Vs "whoosh.lang.lovins" 187))), (12, (Gf P 90))] (hTf P) 1 0 13, 383, {}, #[], {}, 735, os⟩
noncomputable abbrev S14 (P : Params) (os : OsState) : SharedT := ⟨cutT 457 [(3, (Gd P 75 (Vs "whoosh.lang.lovins" 187))), (12, (Gf P 90))] (hTf P) 1 0 14, 457, {}, #[], {}, 873, os⟩
noncomputable abbrev S15 (P : Params) (os : OsState) : SharedT := ⟨cutT 512 [(3, (Gd P 76 (Vs "whoosh.lang.lovins" 187))), (12, (Gf P 90))] (hTf P) 1 0 15, 512, {}, #[], {}, 973, os⟩
noncomputable abbrev S16 (P : Params) (os : OsState) : SharedT := ⟨cutT 558 [(3, (Gd P 77 (Vs "whoosh.lang.lovins" 187))), (12, (Gf P 90))] (hTf P) 1 0 16, 558, {}, #[], {}, 1055, os⟩
noncomputable abbrev S17 (P : Params) (os : OsState) : SharedT := ⟨cutT 583 [(3, (Gd P 78 (Vs "whoosh.lang.lovins" 187))), (12, (Gf P 90))] (hTf P) 1 0 17, 583, {}, #[], {}, 1095, os⟩
noncomputable abbrev S18 (P : Params) (os : OsState) : SharedT := ⟨cutT 596 [(3, (Gd P 79 (Vs "whoosh.lang.lovins" 187))), (12, (Gf P 90))] (hTf P) 1 0 18, 596, {}, #[], {}, 1111, os⟩
noncomputable abbrev S19 (P : Params) (os : OsState) : SharedT := ⟨cutT 604 [(3, (Gd P 81 (Vs "whoosh.lang.lovins" 187))), (12, (Gf P 93))] (hTf P) 1 0 19, 604, {}, #[], {}, 1124, os⟩
noncomputable abbrev S20 (P : Params) (os : OsState) : SharedT := ⟨cutT 648 [(3, (Gd P 83 (Vs "whoosh.lang.lovins" 187))), (12, (Gf P 96))] (hTf P) 1 0 20, 648, {}, #[], {}, 1211, os⟩
noncomputable abbrev S21 (P : Params) (os : OsState) : SharedT := ⟨cutT 661 [(3, (Gd P 84 (Vs "whoosh.lang.lovins" 187))), (12, (Gf P 96))] (hTf P) 1 0 21, 661, {}, #[], {}, 1650, os⟩
noncomputable abbrev S22 (P : Params) (os : OsState) : SharedT := ⟨cutT 691 [(3, (Gd P 91 (Vs "law_iv0078_01" 1679))), (12, (Gf P 108))] (hTf P) 1 0 22, 691, {}, #[], {}, 1708, os⟩
noncomputable abbrev S23 (P : Params) (os : OsState) : SharedT := ⟨cutT 716 [(3, (Gd P 96 (Vs "law_iv0078_01" 1679))), (12, (Gf P 120))] (hTf P) 1 0 23, 716, {}, #[], {}, 1812, os⟩
noncomputable abbrev S24 (P : Params) (os : OsState) : SharedT := ⟨cutT 728 [] (hTf P) 1 0 24, 728, {}, #[], {}, 1830, os⟩
theorem fk1 (w : World) : ∀ os, PySem.W.Fast.tw10110043849684766642 PySem.W.Fast.tw14364793385576792824 P0 w 11 (some (.ref 6)) 1 184 (S0 w.params os) ⟨(PySem.W.Fast.tw12563942051412417395 [stN 0, stN 1, stN 2, stN 3, stN 4, stN 5, stN 6] envN).wrap doneF deadEnd id id, cN, ⟨0, 0, 0, 0⟩, [topFrame q0]⟩ = some (Flow.next, S1 w.params os, cN, ⟨12, 0, 13, 44⟩) := by intro os; kernel_rfl
theorem fk2 (w : World) : ∀ os, PySem.W.Fast.tw10110043849684766642 PySem.W.Fast.tw14364793385576792824 P0 w 11 (some (.ref 6)) 1 183 (S1 w.params os) ⟨(PySem.W.Fast.tw12563942051412417395 [stN 7, stN 8, stN 9, stN 10, stN 11, stN 12] envN).wrap doneF deadEnd id id, cN, ⟨12, 0, 13, 44⟩, [topFrame q0]⟩ = some (Flow.next, S2 w.params os, cN, ⟨29, 0, 31, 63⟩) := by intro os; kernel_rfl
theorem fk3 (w : World) : ∀ os, PySem.W.Fast.tw10110043849684766642 PySem.W.Fast.tw14364793385576792824 P0 w 11 (some (.ref 6)) 1 179 (S2 w.params os) ⟨(PySem.W.Fast.tw12563942051412417395 [stN 13, stN 14, stN 15, stN 16, stN 17, stN 18] envN).wrap doneF deadEnd id id, cN, ⟨29, 0, 31, 63⟩, [topFrame q0]⟩ = some (Flow.next, S3 w.params os, cN, ⟨45, 0, 47, 31⟩) := by intro os; kernel_rfl
theorem fk4 (w : World) : ∀ os, PySem.W.Fast.tw10110043849684766642 PySem.W.Fast.tw14364793385576792824 P0 w 11 (some (.ref 6)) 1 182 (S3 w.params os) ⟨(PySem.W.Fast.tw12563942051412417395 [stN 19, stN 20, stN 21, stN 22, stN 23, stN 24] envN).wrap doneF deadEnd id id, cN, ⟨45, 0, 47, 31⟩, [topFrame q0]⟩ = some (Flow.next, S4 w.params os, cN, ⟨62, 0, 65, 59⟩) := by intro os; kernel_rfl
theorem fk5 (w : World) : ∀ os, PySem.W.Fast.tw10110043849684766642 PySem.W.Fast.tw14364793385576792824 P0 w 11 (some (.ref 6)) 1 193 (S4 w.params os) ⟨(PySem.W.Fast.tw12563942051412417395 [stN 25, stN 26, stN 27, stN 28, stN 29, stN 30, stN 31, stN 32, stN 33, stN 34] envN).wrap doneF deadEnd id id, cN, ⟨62, 0, 65, 59⟩, [topFrame q0]⟩ = some (Flow.next, S5 w.params os, cN, ⟨82, 0, 82, 1⟩) := by intro os; kernel_rfl
theorem fk6 (w : World) : ∀ os, PySem.W.Fast.tw10110043849684766642 PySem.W.Fast.tw14364793385576792824 P0 w 11 (some (.ref 6)) 1 199 (S5 w.params os) ⟨(PySem.W.Fast.tw12563942051412417395 [stN 35, stN 36, stN 37, stN 38, stN 39, stN 40, stN 41, stN 42, stN 43, stN 44, stN 45, stN 46, stN 47, stN 48, stN 49, stN 50, stN 51, stN 52, stN 53, stN 54, stN 55, stN 56] envN).wrap doneF deadEnd id id, cN, ⟨82, 0, 82, 1⟩, [topFrame q0]⟩ = some (Flow.next, S6 w.params os, cN, ⟨104, 0, 104, 1⟩) := by intro os; kernel_rfl
theorem fk7 (w : World) : ∀ os, PySem.W.Fast.tw10110043849684766642 PySem.W.Fast.tw14364793385576792824 P0 w 11 (some (.ref 6)) 1 49 (S6 w.params os) ⟨(PySem.W.Fast.tw12563942051412417395 [stN 57, stN 58, stN 59] envN).wrap doneF deadEnd id id, cN, ⟨104, 0, 104, 1⟩, [topFrame q0]⟩ = some (Flow.next, S7 w.params os, cN, ⟨107, 0, 164, 19⟩) := by intro os; kernel_rfl
noncomputable abbrev Pk8 (w : World) : Prop := ∀ os, PySem.W.Fast.tw10110043849684766642 PySem.W.Fast.tw14364793385576792824 P0 w 11 (some (.ref 6)) 1 171 (S7 w.params os) ⟨(PySem.W.Fast.tw12563942051412417395 [stN 60] envN).wrap doneF deadEnd id id, cN, ⟨107, 0, 164, 19⟩, [topFrame q0]⟩ = some (Flow.next, S8 w.params os, cN, ⟨165, 0, 165, 3⟩)
theorem fk8f (w : World) : Pk8 (w.withFollow "special-get-raises" false) := by intro os; kernel_rfl
theorem fk8t (w : World) : Pk8 (w.withFollow "special-get-raises" true) := by intro os; kernel_rfl
theorem fk8 (w : World) : Pk8 w := byRow2 "special-get-raises" fk8f fk8t w
noncomputable abbrev Pk9 (w : World) : Prop := ∀ os, PySem.W.Fast.tw10110043849684766642 PySem.W.Fast.tw14364793385576792824 P0 w 11 (some (.ref 6)) 1 201 (S8 w.params os) ⟨(PySem.W.Fast.tw12563942051412417395 [stN 61] envN).wrap doneF deadEnd id id, cN, ⟨165, 0, 165, 3⟩, [topFrame q0]⟩ = some (Flow.next, S9 w.params os, cN, ⟨166, 0, 166, 3⟩)
theorem fk9f (w : World) : Pk9 (w.withFollow "special-get-raises" false) := by intro os; kernel_rfl
theorem fk9t (w : World) : Pk9 (w.withFollow "special-get-raises" true) := by intro os; kernel_rfl
theorem fk9 (w : World) : Pk9 w := byRow2 "special-get-raises" fk9f fk9t w
noncomputable abbrev Pk10 (w : World) : Prop := ∀ os, PySem.W.Fast.tw10110043849684766642 PySem.W.Fast.tw14364793385576792824 P0 w 11 (some (.ref 6)) 1 591 (S9 w.params os) ⟨(PySem.W.Fast.tw12563942051412417395 [stN 62] envN).wrap doneF deadEnd id id, cN, ⟨166, 0, 166, 3⟩, [topFrame q0]⟩ = some (Flow.next, S10 w.params os, cN, ⟨167, 0, 167, 2⟩)
theorem fk10f (w : World) : Pk10 (w.withFollow "special-get-raises" false) := by intro os; kernel_rfl
theorem fk10t (w : World) : Pk10 (w.withFollow "special-get-raises" true) := by intro os; kernel_rfl
theorem fk10 (w : World) : Pk10 w := byRow2 "special-get-raises" fk10f fk10t w
noncomputable abbrev Pk11 (w : World) : Prop := ∀ os, PySem.W.Fast.tw10110043849684766642 PySem.W.Fast.tw14364793385576792824 P0 w 11 (some (.ref 6)) 1 471 (S10 w.params os) ⟨(PySem.W.Fast.tw12563942051412417395 [stN 63] envN).wrap doneF deadEnd id id, cN, ⟨167, 0, 167, 2⟩, [topFrame q0]⟩ = some (Flow.next, S11 w.params os, cN, ⟨168, 0, 168, 2⟩)
theorem fk11f (w : World) : Pk11 (w.withFollow "special-get-raises" false) := by intro os; kernel_rfl
theorem fk11t (w : World) : Pk11 (w.withFollow "special-get-raises" true) := by intro os; kernel_rfl
theorem fk11 (w : World) : Pk11 w := byRow2 "special-get-raises" fk11f fk11t w
noncomputable abbrev Pk12 (w : World) : Prop := ∀ os, PySem.W.Fast.tw10110043849684766642 PySem.W.Fast.tw14364793385576792824 P0 w 11 (some (.ref 6)) 1 1281 (S11 w.params os) ⟨(PySem.W.Fast.tw12563942051412417395 [stN 64] envN).wrap doneF deadEnd id id, cN, ⟨168, 0, 168, 2⟩, [topFrame q0]⟩ = some (Flow.next, S12 w.params os, cN, ⟨169, 0, 169, 2⟩)
theorem fk12f (w : World) : Pk12 (w.withFollow "special-get-raises" false) := by intro os; kernel_rfl
theorem fk12t (w : World) : Pk12 (w.withFollow "special-get-raises" true) := by intro os; kernel_rfl
theorem fk12 (w : World) : Pk12 w := byRow2 "special-get-raises" fk12f fk12t w
noncomputable abbrev Pk13 (w : World) : Prop := ∀ os, PySem.W.Fast.tw10110043849684766642 PySem.W.Fast.tw14364793385576792824 P0 w 11 (some (.ref 6)) 1 1251 (S12 w.params os) ⟨(PySem.W.Fast.tw12563942051412417395 [stN 65] envN).wrap doneF deadEnd id id, cN, ⟨169, 0, 169, 2⟩, [topFrame q0]⟩ = some (Flow.next, S13 w.params os, cN, ⟨170, 0, 170, 2⟩)
theorem fk13f (w : World) : Pk13 (w.withFollow "special-get-raises" false) := by intro os; kernel_rfl
theorem fk13t (w : World) : Pk13 (w.withFollow "special-get-raises" true) := by intro os; kernel_rfl
theorem fk13 (w : World) : Pk13 w := byRow2 "special-get-raises" fk13f fk13t w
noncomputable abbrev Pk14 (w : World) : Prop := ∀ os, PySem.W.Fast.tw10110043849684766642 PySem.W.Fast.tw14364793385576792824 P0 w 11 (some (.ref 6)) 1 2091 (S13 w.params os) ⟨(PySem.W.Fast.tw12563942051412417395 [stN 66] envN).wrap doneF deadEnd id id, cN, ⟨170, 0, 170, 2⟩, [topFrame q0]⟩ = some (Flow.next, S14 w.params os, cN, ⟨171, 0, 171, 2⟩)
theorem fk14f (w : World) : Pk14 (w.withFollow "special-get-raises" false) := by intro os; kernel_rfl
theorem fk14t (w : World) : Pk14 (w.withFollow "special-get-raises" true) := by intro os; kernel_rfl
theorem fk14 (w : World) : Pk14 w := byRow2 "special-get-raises" fk14f fk14t w
noncomputable abbrev Pk15 (w : World) : Prop := ∀ os, PySem.W.Fast.tw10110043849684766642 PySem.W.Fast.tw14364793385576792824 P0 w 11 (some (.ref 6)) 1 1521 (S14 w.params os) ⟨(PySem.W.Fast.tw12563942051412417395 [stN 67] envN).wrap doneF deadEnd id id, cN, ⟨171, 0, 171, 2⟩, [topFrame q0]⟩ = some (Flow.next, S15 w.params os, cN, ⟨172, 0, 172, 2⟩)
theorem fk15f (w : World) : Pk15 (w.withFollow "special-get-raises" false) := by intro os; kernel_rfl
theorem fk15t (w : World) : Pk15 (w.withFollow "special-get-raises" true) := by intro os; kernel_rfl
theorem fk15 (w : World) : Pk15 w := byRow2 "special-get-raises" fk15f fk15t w
noncomputable abbrev Pk16 (w : World) : Prop := ∀ os, PySem.W.Fast.tw10110043849684766642 PySem.W.Fast.tw14364793385576792824 P0 w 11 (some (.ref 6)) 1 1251 (S15 w.params os) ⟨(PySem.W.Fast.tw12563942051412417395 [stN 68] envN).wrap doneF deadEnd id id, cN, ⟨172, 0, 172, 2⟩, [topFrame q0]⟩ = some (Flow.next, S16 w.params os, cN, ⟨173, 0, 173, 2⟩)
theorem fk16f (w : World) : Pk16 (w.withFollow "special-get-raises" false) := by intro os; kernel_rfl
theorem fk16t (w : World) : Pk16 (w.withFollow "special-get-raises" true) := by intro os; kernel_rfl
theorem fk16 (w : World) : Pk16 w := byRow2 "special-get-raises" fk16f fk16t w
noncomputable abbrev Pk17 (w : World) : Prop := ∀ os, PySem.W.Fast.tw10110043849684766642 PySem.W.Fast.tw14364793385576792824 P0 w 11 (some (.ref 6)) 1 621 (S16 w.params os) ⟨(PySem.W.Fast.tw12563942051412417395 [stN 69] envN).wrap doneF deadEnd id id, cN, ⟨173, 0, 173, 2⟩, [topFrame q0]⟩ = some (Flow.next, S17 w.params os, cN, ⟨174, 0, 174, 2⟩)
theorem fk17f (w : World) : Pk17 (w.withFollow "special-get-raises" false) := by intro os; kernel_rfl
theorem fk17t (w : World) : Pk17 (w.withFollow "special-get-raises" true) := by intro os; kernel_rfl
theorem fk17 (w : World) : Pk17 w := byRow2 "special-get-raises" fk17f fk17t w
noncomputable abbrev Pk18 (w : World) : Prop := ∀ os, PySem.W.Fast.tw10110043849684766642 PySem.W.Fast.tw14364793385576792824 P0 w 11 (some (.ref 6)) 1 261 (S17 w.params os) ⟨(PySem.W.Fast.tw12563942051412417395 [stN 70] envN).wrap doneF deadEnd id id, cN, ⟨174, 0, 174, 2⟩, [topFrame q0]⟩ = some (Flow.next, S18 w.params os, cN, ⟨175, 0, 175, 2⟩)
theorem fk18f (w : World) : Pk18 (w.withFollow "special-get-raises" false) := by intro os; kernel_rfl
theorem fk18t (w : World) : Pk18 (w.withFollow "special-get-raises" true) := by intro os; kernel_rfl
theorem fk18 (w : World) : Pk18 w := byRow2 "special-get-raises" fk18f fk18t w
theorem fk19 (w : World) : ∀ os, PySem.W.Fast.tw10110043849684766642 PySem.W.Fast.tw14364793385576792824 P0 w 11 (some (.ref 6)) 1 67 (S18 w.params os) ⟨(PySem.W.Fast.tw12563942051412417395 [stN 71, stN 72] envN).wrap doneF deadEnd id id, cN, ⟨175, 0, 175, 2⟩, [topFrame q0]⟩ = some (Flow.next, S19 w.params os, cN, ⟨177, 0, 189, 15⟩) := by intro os; kernel_rfl
theorem fk20 (w : World) : ∀ os, PySem.W.Fast.tw10110043849684766642 PySem.W.Fast.tw14364793385576792824 P0 w 11 (some (.ref 6)) 1 191 (S19 w.params os) ⟨(PySem.W.Fast.tw12563942051412417395 [stN 73, stN 74] envN).wrap doneF deadEnd id id, cN, ⟨177, 0, 189, 15⟩, [topFrame q0]⟩ = some (Flow.next, S20 w.params os, cN, ⟨191, 0, 197, 16⟩) := by intro os; kernel_rfl
noncomputable abbrev Pk21 (w : World) : Prop := ∀ os, PySem.W.Fast.tw10110043849684766642 PySem.W.Fast.tw14364793385576792824 P0 w 11 (some (.ref 6)) 1 5262 (S20 w.params os) ⟨(PySem.W.Fast.tw12563942051412417395 [stN 75] envN).wrap doneF deadEnd id id, cN, ⟨191, 0, 197, 16⟩, [topFrame q0]⟩ = some (Flow.next, S21 w.params os, cN, ⟨198, 0, 198, 12⟩)
theorem fk21f (w : World) : Pk21 (w.withFollow "special-get-raises" false) := by intro os; kernel_rfl
theorem fk21t (w : World) : Pk21 (w.withFollow "special-get-raises" true) := by intro os; kernel_rfl
theorem fk21 (w : World) : Pk21 w := byRow2 "special-get-raises" fk21f fk21t w
theorem fk22 (w : World) : ∀ os, PySem.W.Fast.tw10110043849684766642 PySem.W.Fast.tw14364793385576792824 P0 w 11 (some (.ref 6)) 1 179 (S21 w.params os) ⟨(PySem.W.Fast.tw12563942051412417395 [stN 76, stN 77, stN 78, stN 79, stN 80, stN 81, stN 82, stN 83] envN).wrap doneF deadEnd id id, cN, ⟨198, 0, 198, 12⟩, [topFrame q0]⟩ = some (Flow.next, S22 w.params os, cN, ⟨220, 0, 221, 692⟩) := by intro os; kernel_rfl
theorem fk23 (w : World) : ∀ os, PySem.W.Fast.tw10110043849684766642 PySem.W.Fast.tw14364793385576792824 P0 w 11 (some (.ref 6)) 1 198 (S22 w.params os) ⟨(PySem.W.Fast.tw12563942051412417395 [stN 84, stN 85, stN 86, stN 87, stN 88] envN).wrap doneF deadEnd id id, cN, ⟨220, 0, 221, 692⟩, [topFrame q0]⟩ = some (Flow.next, S23 w.params os, cN, ⟨240, 0, 252, 15⟩) := by intro os; kernel_rfl
theorem fk24 (w : World) : ∀ os, PySem.W.Fast.tw10110043849684766642 PySem.W.Fast.tw14364793385576792824 P0 w 11 (some (.ref 6)) 1 61 (S23 w.params os) ⟨(PySem.W.Fast.tw12563942051412417395 [stN 89, stN 90] envN).wrap doneF deadEnd id id, cN, ⟨240, 0, 252, 15⟩, [topFrame q0]⟩ = some (Flow.next, S24 w.params os, cN, ⟨270, 0, 277, 43⟩) := by intro os; kernel_rfl
end Mine
end
section
open PySem PySem.W PySem.Calls PyProof.Rows
namespace Mine
noncomputable abbrev H1f (P : Params) : Heap := absHeap (hTf P) 728 {}
open PySem.W.Fast in
theorem fpre (w : World) : ∀ os, tw15667345088766844465 tw14364793385576792824 P0 w 11 (some (.ref 6)) 12 ⟨boot_heap w.params, Array.mk [], boot_drawn, boot_toks, os⟩ (topStub P0) = some ((S0 w.params os).abs, ⟨tw11892475500146522536 tw14364793385576792824 cN, cN, q0, [topFrame q0]⟩) := by intro os; kernel_rfl
open PySem.W.Fast in
theorem cpre (w : World) (os : OsState) : topGo treeTable P0 w 11 (some (.ref 6)) 12 ⟨boot_heap w.params, Array.mk [], boot_drawn, boot_toks, os⟩ (topStub P0) = some ((S0 w.params os).abs, ⟨denote treeTable cN, cN, q0, [topFrame q0]⟩) := by
  have h := fpre w os
  rw [← te15667345088766844465, ← te14364793385576792824, ← te11892475500146522536] at h
  exact h
theorem cblock (w : World) (os : OsState) : segRun treeTable P0 w 11 (some (.ref 6)) 1 1 (S0 w.params os).abs (blockOf bE envN cN q0 [topFrame q0]) = some (.next, (S0 w.params os).abs, cN, q0) := by kernel_rfl
theorem cfin (w : World) (os : OsState) : topRun treeTable P0 w 11 (some (.ref 6)) 2 (S24 w.params os).abs ⟨doneF .next, cN, ⟨270, 0, 277, 43⟩, [topFrame q0]⟩ = some ⟨H1f w.params, #[], {}, 1830, os⟩ := by kernel_rfl
theorem piece_blockB {p : Program} {w : World} {n₀ : Nat} {ann : Option Value} {env : Env} {q : Pos} {n N : Nat} {s s' r : Shared} {b l : List Stmt} {c : Code} {pos p' : Pos} (hb : b = l) (h : segRun treeTable p w n₀ ann 1 n s (blockOf b env c pos [topFrame q]) = some (.next, s', c, p'))
    (k : topRun treeTable p w n₀ ann N s' (restOf l env c p' [topFrame q]) = some r) : topRun treeTable p w n₀ ann (n + N) s ⟨denote treeTable (.body b env), c, pos, [topFrame q]⟩ = some r := by
  subst hb; exact piece_block h k
theorem ck1 (w : World) (os : OsState) : segRun treeTable P0 w 11 (some (.ref 6)) 1 184 (S0 w.params os).abs (piecesOf [stN 0, stN 1, stN 2, stN 3, stN 4, stN 5, stN 6] envN cN ⟨0, 0, 0, 0⟩ [topFrame q0]) = some (.next, (S1 w.params os).abs, cN, ⟨12, 0, 13, 44⟩) := segRun_of (toF.trans (fk1 w os))
theorem ck2 (w : World) (os : OsState) : segRun treeTable P0 w 11 (some (.ref 6)) 1 183 (S1 w.params os).abs (piecesOf [stN 7, stN 8, stN 9, stN 10, stN 11, stN 12] envN cN ⟨12, 0, 13, 44⟩ [topFrame q0]) = some (.next, (S2 w.params os).abs, cN, ⟨29, 0, 31, 63⟩) := segRun_of (toF.trans (fk2 w os))
theorem ck3 (w : World) (os : OsState) : segRun treeTable P0 w 11 (some (.ref 6)) 1 179 (S2 w.params os).abs (piecesOf [stN 13, stN 14, stN 15, stN 16, stN 17, stN 18] envN cN ⟨29, 0, 31, 63⟩ [topFrame q0]) = some (.next, (S3 w.params os).abs, cN, ⟨45, 0, 47, 31⟩) := segRun_of (toF.trans (fk3 w os))
theorem ck4 (w : World) (os : OsState) : segRun treeTable P0 w 11 (some (.ref 6)) 1 182 (S3 w.params os).abs (piecesOf [stN 19, stN 20, stN 21, stN 22, stN 23, stN 24] envN cN ⟨45, 0, 47, 31⟩ [topFrame q0]) = some (.next, (S4 w.params os).abs, cN, ⟨62, 0, 65, 59⟩) := segRun_of (toF.trans (fk4 w os))
theorem ck5 (w : World) (os : OsState) : segRun treeTable P0 w 11 (some (.ref 6)) 1 193 (S4 w.params os).abs (piecesOf [stN 25, stN 26, stN 27, stN 28, stN 29, stN 30, stN 31, stN 32, stN 33, stN 34] envN cN ⟨62, 0, 65, 59⟩ [topFrame q0]) = some (.next, (S5 w.params os).abs, cN, ⟨82, 0, 82, 1⟩) := segRun_of (toF.trans (fk5 w os))
theorem ck6 (w : World) (os : OsState) : segRun treeTable P0 w 11 (some (.ref 6)) 1 199 (S5 w.params os).abs (piecesOf [stN 35, stN 36, stN 37, stN 38, stN 39, stN 40, stN 41, stN 42, stN 43, stN 44, stN 45, stN 46, stN 47, stN 48, stN 49, stN 50, stN 51, stN 52, stN 53, stN 54, stN 55, stN 56] envN cN ⟨82, 0, 82, 1⟩ [topFrame q0]) = some (.next, (S6 w.params os).abs, cN, ⟨104, 0, 104, 1⟩) := segRun_of (toF.trans (fk6 w os))
theorem ck7 (w : World) (os : OsState) : segRun treeTable P0 w 11 (some (.ref 6)) 1 49 (S6 w.params os).abs (piecesOf [stN 57, stN 58, stN 59] envN cN ⟨104, 0, 104, 1⟩ [topFrame q0]) = some (.next, (S7 w.params os).abs, cN, ⟨107, 0, 164, 19⟩) := segRun_of (toF.trans (fk7 w os))
theorem ck8 (w : World) (os : OsState) : segRun treeTable P0 w 11 (some (.ref 6)) 1 171 (S7 w.params os).abs (piecesOf [stN 60] envN cN ⟨107, 0, 164, 19⟩ [topFrame q0]) = some (.next, (S8 w.params os).abs, cN, ⟨165, 0, 165, 3⟩) := segRun_of (toF.trans (fk8 w os))
theorem ck9 (w : World) (os : OsState) : segRun treeTable P0 w 11 (some (.ref 6)) 1 201 (S8 w.params os).abs (piecesOf [stN 61] envN cN ⟨165, 0, 165, 3⟩ [topFrame q0]) = some (.next, (S9 w.params os).abs, cN, ⟨166, 0, 166, 3⟩) := segRun_of (toF.trans (fk9 w os))
theorem ck10 (w : World) (os : OsState) : segRun treeTable P0 w 11 (some (.ref 6)) 1 591 (S9 w.params os).abs (piecesOf [stN 62] envN cN ⟨166, 0, 166, 3⟩ [topFrame q0]) = some (.next, (S10 w.params os).abs, cN, ⟨167, 0, 167, 2⟩) := segRun_of (toF.trans (fk10 w os))
theorem ck11 (w : World) (os : OsState) : segRun treeTable P0 w 11 (some (.ref 6)) 1 471 (S10 w.params os).abs (piecesOf [stN 63] envN cN ⟨167, 0, 167, 2⟩ [topFrame q0]) = some (.next, (S11 w.params os).abs, cN, ⟨168, 0, 168, 2⟩) := segRun_of (toF.trans (fk11 w os))
theorem ck12 (w : World) (os : OsState) : segRun treeTable P0 w 11 (some (.ref 6)) 1 1281 (S11 w.params os).abs (piecesOf [stN 64] envN cN ⟨168, 0, 168, 2⟩ [topFrame q0]) = some (.next, (S12 w.params os).abs, cN, ⟨169, 0, 169, 2⟩) := segRun_of (toF.trans (fk12 w os))
theorem ck13 (w : World) (os : OsState) : segRun treeTable P0 w 11 (some (.ref 6)) 1 1251 (S12 w.params os).abs (piecesOf [stN 65] envN cN ⟨169, 0, 169, 2⟩ [topFrame q0]) = some (.next, (S13 w.params os).abs, cN, ⟨170, 0, 170, 2⟩) := segRun_of (toF.trans (fk13 w os))
theorem ck14 (w : World) (os : OsState) : segRun treeTable P0 w 11 (some (.ref 6)) 1 2091 (S13 w.params os).abs (piecesOf [stN 66] envN cN ⟨170, 0, 170, 2⟩ [topFrame q0]) = some (.next, (S14 w.params os).abs, cN, ⟨171, 0, 171, 2⟩) := segRun_of (toF.trans (fk14 w os))
theorem ck15 (w : World) (os : OsState) : segRun treeTable P0 w 11 (some (.ref 6)) 1 1521 (S14 w.params os).abs (piecesOf [stN 67] envN cN ⟨171, 0, 171, 2⟩ [topFrame q0]) = some (.next, (S15 w.params os).abs, cN, ⟨172, 0, 172, 2⟩) := segRun_of (toF.trans (fk15 w os))
theorem ck16 (w : World) (os : OsState) : segRun treeTable P0 w 11 (some (.ref 6)) 1 1251 (S15 w.params os).abs (piecesOf [stN 68] envN cN ⟨172, 0, 172, 2⟩ [topFrame q0]) = some (.next, (S16 w.params os).abs, cN, ⟨173, 0, 173, 2⟩) := segRun_of (toF.trans (fk16 w os))
theorem ck17 (w : World) (os : OsState) : segRun treeTable P0 w 11 (some (.ref 6)) 1 621 (S16 w.params os).abs (piecesOf [stN 69] envN cN ⟨173, 0, 173, 2⟩ [topFrame q0]) = some (.next, (S17 w.params os).abs, cN, ⟨174, 0, 174, 2⟩) := segRun_of (toF.trans (fk17 w os))
theorem ck18 (w : World) (os : OsState) : segRun treeTable P0 w 11 (some (.ref 6)) 1 261 (S17 w.params os).abs (piecesOf [stN 70] envN cN ⟨174, 0, 174, 2⟩ [topFrame q0]) = some (.next, (S18 w.params os).abs, cN, ⟨175, 0, 175, 2⟩) := segRun_of (toF.trans (fk18 w os))
theorem ck19 (w : World) (os : OsState) : segRun treeTable P0 w 11 (some (.ref 6)) 1 67 (S18 w.params os).abs (piecesOf [stN 71, stN 72] envN cN ⟨175, 0, 175, 2⟩ [topFrame q0]) = some (.next, (S19 w.params os).abs, cN, ⟨177, 0, 189, 15⟩) := segRun_of (toF.trans (fk19 w os))
theorem ck20 (w : World) (os : OsState) : segRun treeTable P0 w 11 (some (.ref 6)) 1 191 (S19 w.params os).abs (piecesOf [stN 73, stN 74] envN cN ⟨177, 0, 189, 15⟩ [topFrame q0]) = some (.next, (S20 w.params os).abs, cN, ⟨191, 0, 197, 16⟩) := segRun_of (toF.trans (fk20 w os))
theorem ck21 (w : World) (os : OsState) : segRun treeTable P0 w 11 (some (.ref 6)) 1 5262 (S20 w.params os).abs (piecesOf [stN 75] envN cN ⟨191, 0, 197, 16⟩ [topFrame q0]) = some (.next, (S21 w.params os).abs, cN, ⟨198, 0, 198, 12⟩) := segRun_of (toF.trans (fk21 w os))
theorem ck22 (w : World) (os : OsState) : segRun treeTable P0 w 11 (some (.ref 6)) 1 179 (S21 w.params os).abs (piecesOf [stN 76, stN 77, stN 78, stN 79, stN 80, stN 81, stN 82, stN 83] envN cN ⟨198, 0, 198, 12⟩ [topFrame q0]) = some (.next, (S22 w.params os).abs, cN, ⟨220, 0, 221, 692⟩) := segRun_of (toF.trans (fk22 w os))
theorem ck23 (w : World) (os : OsState) : segRun treeTable P0 w 11 (some (.ref 6)) 1 198 (S22 w.params os).abs (piecesOf [stN 84, stN 85, stN 86, stN 87, stN 88] envN cN ⟨220, 0, 221, 692⟩ [topFrame q0]) = some (.next, (S23 w.params os).abs, cN, ⟨240, 0, 252, 15⟩) := segRun_of (toF.trans (fk23 w os))
theorem ck24 (w : World) (os : OsState) : segRun treeTable P0 w 11 (some (.ref 6)) 1 61 (S23 w.params os).abs (piecesOf [stN 89, stN 90] envN cN ⟨240, 0, 252, 15⟩ [topFrame q0]) = some (.next, (S24 w.params os).abs, cN, ⟨270, 0, 277, 43⟩) := segRun_of (toF.trans (fk24 w os))
theorem hbody : bE = [stN 0, stN 1, stN 2, stN 3, stN 4, stN 5, stN 6] ++ ([stN 7, stN 8, stN 9, stN 10, stN 11, stN 12] ++ ([stN 13, stN 14, stN 15, stN 16, stN 17, stN 18] ++ ([stN 19, stN 20, stN 21, stN 22, stN 23, stN 24] ++ ([stN 25, stN 26, stN 27, stN 28, stN 29, stN 30, stN 31, stN 32, stN 33, stN 34] ++ ([stN 35, stN 36, stN 37, stN 38, stN 39, stN 40, stN 41, stN 42, stN 43, stN 44, stN 45, stN 46, stN 47, stN 48, stN 49, stN 50, stN 51, stN 52, stN 53, stN 54, stN 55, stN 56] ++ ([stN 57, stN 58, stN 59] ++ ([stN 60] ++ ([stN 61] ++ ([stN 62] ++ ([stN 63] ++ ([stN 64] ++ ([stN 65] ++ ([stN 66] ++ ([stN 67] ++ ([stN 68] ++ ([stN 69] ++ ([stN 70] ++ ([stN 71, stN 72] ++ ([stN 73, stN 74] ++ ([stN 75] ++ ([stN 76, stN 77, stN 78, stN 79, stN 80, stN 81, stN 82, stN 83] ++ ([stN 84, stN 85, stN 86, stN 87, stN 88] ++ ([stN 89, stN 90] ++ []))))))))))))))))))))))) := by kernel_rfl
theorem runs (w : World) (os : OsState) : topRun treeTable P0 w 11 (some (.ref 6)) (12 + (1 + (184 + (183 + (179 + (182 + (193 + (199 + (49 + (171 + (201 + (591 + (471 + (1281 + (1251 + (2091 + (1521 + (1251 + (621 + (261 + (67 + (191 + (5262 + (179 + (198 + (61 + 2)))))))))))))))))))))))))) ⟨boot_heap w.params, Array.mk [], boot_drawn, boot_toks, os⟩ (topStub P0) = some ⟨H1f w.params, #[], {}, 1830, os⟩ := go_top (cpre w os) (piece_blockB hbody (cblock w os) (piece_app (ck1 w os) (piece_app (ck2 w os) (piece_app (ck3 w os) (piece_app (ck4 w os) (piece_app (ck5 w os) (piece_app (ck6 w os) (piece_app (ck7 w os) (piece_app (ck8 w os) (piece_app (ck9 w os) (piece_app (ck10 w os) (piece_app (ck11 w os) (piece_app (ck12 w os) (piece_app (ck13 w os) (piece_app (ck14 w os) (piece_app (ck15 w os) (piece_app (ck16 w os) (piece_app (ck17 w os) (piece_app (ck18 w os) (piece_app (ck19 w os) (piece_app (ck20 w os) (piece_app (ck21 w os) (piece_app (ck22 w os) (piece_app (ck23 w os) (piece_app (ck24 w os) (piece_nil (cfin w os)))))))))))))))))))))))))))
/-- the text as its lookers see it: all but its two lines that set its own name -/
noncomputable def hd.view_1 : Program := { P0 with main := { P0.main with body := ((P0.main.body.drop 1).take 78) ++ P0.main.body.drop 80 } }
noncomputable abbrev asK : List Addr := [2, 3, 15, 17, 18, 20, 21, 22, 24, 25, 27, 28, 29, 31, 32, 34, 35, 36, 38, 39, 41, 42, 43, 45, 46, 48, 49, 50, 52, 53, 55, 56, 57, 59, 60, 62, 63, 64, 66, 67, 69, 70, 71, 73, 74, 76, 77, 78, 80, 81, 83, 84, 85, 87, 88, 90, 91, 92, 94, 95, 97, 98, 99, 101, 102, 104, 105, 106, 108, 109, 111, 112, 113, 115, 116, 118, 119, 120, 122, 123, 125, 126, 127, 129, 130, 132, 133, 134, 136, 137, 139, 140, 141, 143, 144, 146, 147, 148, 150, 151, 153, 154, 155, 157, 158, 160, 161, 162, 164, 165, 167, 168, 169, 171, 172, 174, 175, 176, 178, 179, 181, 182, 183, 185, 186, 188, 189, 190, 192, 193, 195, 196, 197, 199, 200, 202, 203, 204, 206, 207, 209, 210, 211, 213, 214, 216, 217, 218, 220, 221, 223, 224, 229, 240, 264, 284, 331, 377, 451, 506, 552, 577, 590, 596, 597, 599, 600, 602, 603, 604, 605, 606, 607, 608, 609, 610, 611, 612, 613, 614, 615, 616, 617, 618, 619, 620, 621, 622, 623, 624, 625, 626, 627, 628, 629, 630, 631, 632, 633, 634, 635, 636, 637, 638, 639, 649, 651, 652, 653, 654, 655, 656, 657, 658, 661, 662, 664, 665, 667, 668, 669, 671, 672, 674, 675, 676, 677, 679, 680, 682, 683, 684, 686, 687, 689, 690, 691, 692, 695, 696, 697, 700, 701, 702, 704, 705, 707, 708, 709, 711, 712, 714, 715, 716, 718, 719, 721, 722, 723, 726, 727]
noncomputable def gK (P : Params) (a : Nat) : Obj := ((hTf P).get a).getD default
noncomputable def hd.heap_1 : Params → Frag := fun P => (nat_lit 2, gK P 2) :: (nat_lit 3, gK P 3) :: (nat_lit 15, gK P 15) :: (nat_lit 17, gK P 17) :: (nat_lit 18, gK P 18) :: (nat_lit 20, gK P 20) :: (nat_lit 21, gK P 21) :: (nat_lit 22, gK P 22) :: (nat_lit 24, gK P 24) :: (nat_lit 25, gK P 25) :: (nat_lit 27, gK P 27) :: (nat_lit 28, gK P 28) :: (nat_lit 29, gK P 29) :: (nat_lit 31, gK P 31) :: (nat_lit 32, gK P 32) :: (nat_lit 34, gK P 34) :: (nat_lit 35, gK P 35) :: (nat_lit 36, gK P 36) :: (nat_lit 38, gK P 38) :: (nat_lit 39, gK P 39) :: (nat_lit 41, gK P 41) :: (nat_lit 42, gK P 42) :: (nat_lit 43, gK P 43) :: (nat_lit 45, gK P 45) :: (nat_lit 46, gK P 46) :: (nat_lit 48, gK P 48) :: (nat_lit 49, gK P 49) :: (nat_lit 50, gK P 50) :: (nat_lit 52, gK P 52) :: (nat_lit 53, gK P 53) :: (nat_lit 55, gK P 55) :: (nat_lit 56, gK P 56) :: (nat_lit 57, gK P 57) :: (nat_lit 59, gK P 59) :: (nat_lit 60, gK P 60) :: (nat_lit 62, gK P 62) :: (nat_lit 63, gK P 63) :: (nat_lit 64, gK P 64) :: (nat_lit 66, gK P 66) :: (nat_lit 67, gK P 67) :: (nat_lit 69, gK P 69) :: (nat_lit 70, gK P 70) :: (nat_lit 71, gK P 71) :: (nat_lit 73, gK P 73) :: (nat_lit 74, gK P 74) :: (nat_lit 76, gK P 76) :: (nat_lit 77, gK P 77) :: (nat_lit 78, gK P 78) :: (nat_lit 80, gK P 80) :: (nat_lit 81, gK P 81) :: (nat_lit 83, gK P 83) :: (nat_lit 84, gK P 84) :: (nat_lit 85, gK P 85) :: (nat_lit 87, gK P 87) :: (nat_lit 88, gK P 88) :: (nat_lit 90, gK P 90) :: (nat_lit 91, gK P 91) :: (nat_lit 92, gK P 92) :: (nat_lit 94, gK P 94) :: (nat_lit 95, gK P 95) :: (nat_lit 97, gK P 97) :: (nat_lit 98, gK P 98) :: (nat_lit 99, gK P 99) :: (nat_lit 101, gK P 101) :: (nat_lit 102, gK P 102) :: (nat_lit 104, gK P 104) :: (nat_lit 105, gK P 105) :: (nat_lit 106, gK P 106) :: (nat_lit 108, gK P 108) :: (nat_lit 109, gK P 109) :: (nat_lit 111, gK P 111) :: (nat_lit 112, gK P 112) :: (nat_lit 113, gK P 113) :: (nat_lit 115, gK P 115) :: (nat_lit 116, gK P 116) :: (nat_lit 118, gK P 118) :: (nat_lit 119, gK P 119) :: (nat_lit 120, gK P 120) :: (nat_lit 122, gK P 122) :: (nat_lit 123, gK P 123) :: (nat_lit 125, gK P 125) :: (nat_lit 126, gK P 126) :: (nat_lit 127, gK P 127) :: (nat_lit 129, gK P 129) :: (nat_lit 130, gK P 130) :: (nat_lit 132, gK P 132) :: (nat_lit 133, gK P 133) :: (nat_lit 134, gK P 134) :: (nat_lit 136, gK P 136) :: (nat_lit 137, gK P 137) :: (nat_lit 139, gK P 139) :: (nat_lit 140, gK P 140) :: (nat_lit 141, gK P 141) :: (nat_lit 143, gK P 143) :: (nat_lit 144, gK P 144) :: (nat_lit 146, gK P 146) :: (nat_lit 147, gK P 147) :: (nat_lit 148, gK P 148) :: (nat_lit 150, gK P 150) :: (nat_lit 151, gK P 151) :: (nat_lit 153, gK P 153) :: (nat_lit 154, gK P 154) :: (nat_lit 155, gK P 155) :: (nat_lit 157, gK P 157) :: (nat_lit 158, gK P 158) :: (nat_lit 160, gK P 160) :: (nat_lit 161, gK P 161) :: (nat_lit 162, gK P 162) :: (nat_lit 164, gK P 164) :: (nat_lit 165, gK P 165) :: (nat_lit 167, gK P 167) :: (nat_lit 168, gK P 168) :: (nat_lit 169, gK P 169) :: (nat_lit 171, gK P 171) :: (nat_lit 172, gK P 172) :: (nat_lit 174, gK P 174) :: (nat_lit 175, gK P 175) :: (nat_lit 176, gK P 176) :: (nat_lit 178, gK P 178) :: (nat_lit 179, gK P 179) :: (nat_lit 181, gK P 181) :: (nat_lit 182, gK P 182) :: (nat_lit 183, gK P 183) :: (nat_lit 185, gK P 185) :: (nat_lit 186, gK P 186) :: (nat_lit 188, gK P 188) :: (nat_lit 189, gK P 189) :: (nat_lit 190, gK P 190) :: (nat_lit 192, gK P 192) :: (nat_lit 193, gK P 193) :: (nat_lit 195, gK P 195) :: (nat_lit 196, gK P 196) :: (nat_lit 197, gK P 197) :: (nat_lit 199, gK P 199) :: (nat_lit 200, gK P 200) :: (nat_lit 202, gK P 202) :: (nat_lit 203, gK P 203) :: (nat_lit 204, gK P 204) :: (nat_lit 206, gK P 206) :: (nat_lit 207, gK P 207) :: (nat_lit 209, gK P 209) :: (nat_lit 210, gK P 210) :: (nat_lit 211, gK P 211) :: (nat_lit 213, gK P 213) :: (nat_lit 214, gK P 214) :: (nat_lit 216, gK P 216) :: (nat_lit 217, gK P 217) :: (nat_lit 218, gK P 218) :: (nat_lit 220, gK P 220) :: (nat_lit 221, gK P 221) :: (nat_lit 223, gK P 223) :: (nat_lit 224, gK P 224) :: (nat_lit 229, gK P 229) :: (nat_lit 240, gK P 240) :: (nat_lit 264, gK P 264) :: (nat_lit 284, gK P 284) :: (nat_lit 331, gK P 331) :: (nat_lit 377, gK P 377) :: (nat_lit 451, gK P 451) :: (nat_lit 506, gK P 506) :: (nat_lit 552, gK P 552) :: (nat_lit 577, gK P 577) :: (nat_lit 590, gK P 590) :: (nat_lit 596, gK P 596) :: (nat_lit 597, gK P 597) :: (nat_lit 599, gK P 599) :: (nat_lit 600, gK P 600) :: (nat_lit 602, gK P 602) :: (nat_lit 603, gK P 603) :: (nat_lit 604, gK P 604) :: (nat_lit 605, gK P 605) :: (nat_lit 606, gK P 606) :: (nat_lit 607, gK P 607) :: (nat_lit 608, gK P 608) :: (nat_lit 609, gK P 609) :: (nat_lit 610, gK P 610) :: (nat_lit 611, gK P 611) :: (nat_lit 612, gK P 612) :: (nat_lit 613, gK P 613) :: (nat_lit 614, gK P 614) :: (nat_lit 615, gK P 615) :: (nat_lit 616, gK P 616) :: (nat_lit 617, gK P 617) :: (nat_lit 618, gK P 618) :: (nat_lit 619, gK P 619) :: (nat_lit 620, gK P 620) :: (nat_lit 621, gK P 621) :: (nat_lit 622, gK P 622) :: (nat_lit 623, gK P 623) :: (nat_lit 624, gK P 624) :: (nat_lit 625, gK P 625) :: (nat_lit 626, gK P 626) :: (nat_lit 627, gK P 627) :: (nat_lit 628, gK P 628) :: (nat_lit 629, gK P 629) :: (nat_lit 630, gK P 630) :: (nat_lit 631, gK P 631) :: (nat_lit 632, gK P 632) :: (nat_lit 633, gK P 633) :: (nat_lit 634, gK P 634) :: (nat_lit 635, gK P 635) :: (nat_lit 636, gK P 636) :: (nat_lit 637, gK P 637) :: (nat_lit 638, gK P 638) :: (nat_lit 639, gK P 639) :: (nat_lit 649, gK P 649) :: (nat_lit 651, gK P 651) :: (nat_lit 652, gK P 652) :: (nat_lit 653, gK P 653) :: (nat_lit 654, gK P 654) :: (nat_lit 655, gK P 655) :: (nat_lit 656, gK P 656) :: (nat_lit 657, gK P 657) :: (nat_lit 658, gK P 658) :: (nat_lit 661, gK P 661) :: (nat_lit 662, gK P 662) :: (nat_lit 664, gK P 664) :: (nat_lit 665, gK P 665) :: (nat_lit 667, gK P 667) :: (nat_lit 668, gK P 668) :: (nat_lit 669, gK P 669) :: (nat_lit 671, gK P 671) :: (nat_lit 672, gK P 672) :: (nat_lit 674, gK P 674) :: (nat_lit 675, gK P 675) :: (nat_lit 676, gK P 676) :: (nat_lit 677, gK P 677) :: (nat_lit 679, gK P 679) :: (nat_lit 680, gK P 680) :: (nat_lit 682, gK P 682) :: (nat_lit 683, gK P 683) :: (nat_lit 684, gK P 684) :: (nat_lit 686, gK P 686) :: (nat_lit 687, gK P 687) :: (nat_lit 689, gK P 689) :: (nat_lit 690, gK P 690) :: (nat_lit 691, gK P 691) :: (nat_lit 692, gK P 692) :: (nat_lit 695, gK P 695) :: (nat_lit 696, gK P 696) :: (nat_lit 697, gK P 697) :: (nat_lit 700, gK P 700) :: (nat_lit 701, gK P 701) :: (nat_lit 702, gK P 702) :: (nat_lit 704, gK P 704) :: (nat_lit 705, gK P 705) :: (nat_lit 707, gK P 707) :: (nat_lit 708, gK P 708) :: (nat_lit 709, gK P 709) :: (nat_lit 711, gK P 711) :: (nat_lit 712, gK P 712) :: (nat_lit 714, gK P 714) :: (nat_lit 715, gK P 715) :: (nat_lit 716, gK P 716) :: (nat_lit 718, gK P 718) :: (nat_lit 719, gK P 719) :: (nat_lit 721, gK P 721) :: (nat_lit 722, gK P 722) :: (nat_lit 723, gK P 723) :: (nat_lit 726, gK P 726) :: (nat_lit 727, gK P 727) :: []
noncomputable abbrev looseK : List Str := [Str.ofString "m11", Str.ofString "m10", Str.ofString "m9", Str.ofString "m8", Str.ofString "m7", Str.ofString "m6", Str.ofString "m5", Str.ofString "m4", Str.ofString "m3", Str.ofString "m2", Str.ofString "m1", Str.ofString "m", Str.ofString "_endingrules", Str.ofString "_law_goes", Str.ofString "_law_tails"]
theorem opn : ∀ w : World, (fencedOpening treeTable P0 w 34000).map (fun s => (s.heap, s.gens, s.drawn, s.toks)) = some (boot_heap w.params, Array.mk [], boot_drawn, boot_toks) :=
  boot_open (by kernel_rfl) (by kernel_rfl) (fun s => by kernel_rfl)
theorem szs (w : World) : ((boot_heap w.params).isNs mainGlobals && (Array.mk [] : Array GenState).size == 0, (boot_heap w.params).objs.size, (boot_heap w.params).nsMap mainGlobals "__annotations__") = (true, 11, some (.ref 6)) := by kernel_rfl
end Mine
end
section
open PySem PySem.W PySem.Calls PyProof.Rows
namespace Mine
theorem eK : ∀ P, asK = (hd.heap_1 P).map (·.1) := fun P => by kernel_rfl
noncomputable abbrev XtK : Shared → Bool := fun s => xlAt hd.view_1 [] s && recOk (RowW.records PySem.Challenge.rw_iv0078_01.row.toRowW) s
theorem looks1 (w : World) (os : OsState) : (staticsOk (importedModules P0.main.body) (boot_heap w.params) (H1f w.params) && namesBound P0 (H1f w.params) && gensDone ⟨H1f w.params, #[], {}, 1830, os⟩ && laidKept (boot_heap w.params) (H1f w.params)) = true := by kernel_rfl
noncomputable abbrev SS (w : World) (os : OsState) : Shared := ⟨H1f w.params, #[], {}, 1830, os⟩
section
open PySem.W.Fast
theorem lo0 (w : World) (os : OsState) : tw5160383126252970620 (R.mapR (fun x => x.name) (tw3399658132070893891 hd.view_1)) (tw5991557255702980513 hd.view_1) [] { SS w os with gens := #[] } = expectedOf hd.view_1 := by kernel_rfl
theorem lo1 (w : World) (os : OsState) : (SS w os).heap.bltView = bltViewBooted := by kernel_rfl
theorem lo2 (w : World) (os : OsState) : tw10880121769531294198 (SS w os).heap (tw821141287760084731 hd.view_1 looseK) (R.mapR (fun x => x.name) (tw3399658132070893891 hd.view_1)) (R.mapR (fun x => x.fst) (tw7409074990110511671 hd.view_1)) (R.mapR (fun x => x.name) (tw13664370479719496447 hd.view_1 (tw821141287760084731 hd.view_1 looseK))) = true := by kernel_rfl
theorem lo3 (w : World) (os : OsState) : tw14722251495701143533 (SS w os).heap (tw5923862056798008813 P0.main.body) = true := by kernel_rfl
theorem lo4 (w : World) (os : OsState) : (SS w os).heap.isNs mainGlobals = true := by kernel_rfl
theorem lo5 (w : World) (os : OsState) : (SS w os).heap.isNs builtinsNs = true := by kernel_rfl
theorem lo6 (w : World) (os : OsState) : tw10994771534591457954 hd.view_1 (SS w os).heap = true := by kernel_rfl
theorem lo7 (w : World) (os : OsState) : XtK (SS w os) = true := by kernel_rfl
theorem lo8 (w : World) (os : OsState) : tw479339242167458305 hd.view_1 (SS w os) = true := by kernel_rfl
theorem lo9 (w : World) (os : OsState) : tw16090120013241838585 hd.view_1 (tw3247288618530077131 hd.view_1) (SS w os) = pinGoodD (drecsOf hd.view_1) := by kernel_rfl
theorem lo10 (w : World) (os : OsState) : tw2386780881361962483 hd.view_1 (tw821141287760084731 hd.view_1 looseK) (SS w os) = plainGoodE hd.view_1 (looseW hd.view_1 looseK) := by kernel_rfl
theorem lo11 (w : World) (os : OsState) : tw11698064438423848299 hd.view_1 looseK (SS w os) = plainGoodD hd.view_1 looseK := by kernel_rfl
theorem lo12 (w : World) (os : OsState) : tw7317090234206586261 hd.view_1 (SS w os) = wideGood hd.view_1 := by kernel_rfl
theorem lo13 (w : World) (os : OsState) : tw7369524293546568484 hd.view_1 looseK (SS w os) = clsGoodW hd.view_1 looseK := by kernel_rfl
theorem and7 {a b c d e f g : Bool} (h1 : a = true) (h2 : b = true) (h3 : c = true) (h4 : d = true) (h5 : e = true) (h6 : f = true) (h7 : g = true) : (a && b && c && d && e && f && g) = true := by rw [h1, h2, h3, h4, h5, h6, h7]; rfl
theorem mk9 {A B C D E F G H I : Type} {a1 b1 : A} {a2 b2 : B} {a3 b3 : C} {a4 b4 : D} {a5 b5 : E} {a6 b6 : F} {a7 b7 : G} {a8 b8 : H} {a9 b9 : I}
    (h1 : a1 = b1) (h2 : a2 = b2) (h3 : a3 = b3) (h4 : a4 = b4) (h5 : a5 = b5) (h6 : a6 = b6) (h7 : a7 = b7) (h8 : a8 = b8) (h9 : a9 = b9) :
    (a1, a2, a3, a4, a5, a6, a7, a8, a9) = (b1, b2, b3, b4, b5, b6, b7, b8, b9) := by rw [h1, h2, h3, h4, h5, h6, h7, h8, h9]
theorem looks2' (w : World) (os : OsState) : tw4187177175401517315 hd.view_1 looseK (tw5923862056798008813 P0.main.body) XtK true (SS w os) = openGood hd.view_1 looseK := by
  unfold tw4187177175401517315 openGood
  exact mk9 (lo0 w os) (lo1 w os) (and7 (lo2 w os) (lo3 w os) (lo4 w os) (lo5 w os) (lo6 w os) (lo7 w os) rfl) (lo8 w os) (lo9 w os) (lo10 w os) (lo11 w os) (lo12 w os) (lo13 w os)
end
open PySem.W.Fast in
theorem looks2 (w : World) (os : OsState) : openSeen hd.view_1 looseK (importedModules P0.main.body) XtK true ⟨H1f w.params, #[], {}, 1830, os⟩ = openGood hd.view_1 looseK := by
  have h := looks2' w os
  rw [← te4187177175401517315, ← te5923862056798008813] at h
  exact h
theorem looks3 (w : World) : asK.map (H1f w.params).get? = (hd.heap_1 w.params).map fun p => some p.2 := by kernel_rfl
noncomputable abbrev HK : Hook := kHook hd.heap_1 asK eK
noncomputable abbrev RL : OpenRow := PySem.Challenge.rw_iv0078_01.row
theorem left : LeftO P0 hd.view_1 looseK XtK HK.obs HK.val 34000 := LeftO.of_pieces opn szs runs (by kernel_rfl) fun w => funext fun os => Prod.ext (looks1 w os) (Prod.ext (looks2 w os) (looks3 w))
/-- the law's own def, as it is written -/
noncomputable def dLaw : DefRec := { name := nmS (stN 90), params := paS (stN 90), body := boS (stN 90), scope := scS (stN 90), pos := ⟨270, 0, 277, 43⟩ }
theorem hwit : PySem.Challenge.rw_iv0078_01.row.toRowW.promised := by w_witness2
theorem hd (walk : WalkO hd.view_1 looseK (XL hd.view_1 []) HK.says RL.toRowW dLaw [] fun f vs => PySem.call f vs) : PySem.Challenge.rw_iv0078_01.Holds :=
  holds_law said fun said' => holds_open (N := 34000) left HK.of HK.keeps (fun s e => xl_of s (Bool.and_eq_true_iff.mp e).1) XL.keeps (by kernel_rfl) (by kernel_rfl) (by kernel_rfl) (fun s e => recFacts_of (Bool.and_eq_true_iff.mp e).2) (by kernel_rfl) said' (by kernel_rfl) ⟨rfl, rfl, rfl, rfl, rfl, by decide +kernel⟩ hwit walk
end Mine
end
section
open PySem PySem.W PyProof.Rows
namespace Mine
noncomputable abbrev lo : List Str := looseW hd.view_1 [Str.ofString "m11", Str.ofString "m10", Str.ofString "m9", Str.ofString "m8", Str.ofString "m7", Str.ofString "m6",
      Str.ofString "m5", Str.ofString "m4", Str.ofString "m3", Str.ofString "m2", Str.ofString "m1", Str.ofString "m",
      Str.ofString "_endingrules", Str.ofString "_law_goes", Str.ofString "_law_tails"]
end Mine
end
section
open PySem PySem.W PyProof.Rows
namespace Mine

noncomputable def cutFrom (x y : Str) : Str := Txt.slice x (some (if (x.length : Int) - (y.length : Int) > 0 then (x.length : Int) - (y.length : Int) else 0)) none
noncomputable def missAt (y part : Str) (i : Nat) : Bool := (Txt.item y (i : Int) != Str.ofString "?") && (Txt.item y (i : Int) != Txt.item part (i : Int))
noncomputable def closesB (x y : Str) : Bool := decide ((cutFrom x y).length = y.length) && ((List.range (cutFrom x y).length).filter (missAt y (cutFrom x y))).isEmpty
section
local macro_rules | `(tactic| walk_at "eval ListComp") => `(tactic| refine Hold.on ?_)
theorem closes_tell (w : World) (mean : ExcName → Option Value) (mg mb : Str → Option Value) (x y : Str) (t u : Tok) (hx : x.length ≤ 64) (hy : y.length ≤ 64) :
    Tells PySem.Challenge.rw_iv0078_01.row.prog w (hd.heap_1 w.params) hd.view_1 lo mean mg mb 1 696 [.str x t, .str y u] (fun _ => True) (fun _ v _ => v = .bool (closesB x y)) := by
  w_on
  k_fill
  intro dp un gd cn cs a ccd cl outer A₀ base h₀ L m s Q E B F X T hk hdp hu hP hret
  refine wpAny_call ?_
  k_dflt (refine' enterC ?k1 ?k2 ?k3 ?k4 ?kA ?kF ?kK ?k6 ?k7 ?k8 ?k9 ?kB ?kD ?_ ?c2 ?c3 ?c4; (case kA => exact rfl); (case kF => exact rfl); (case kK => assumption); (case k1 => assumption); (case k2 => assumption); (case k3 => assumption); (case k4 => assumption); (case k6 => k_is); (case k7 => k_is); (case k8 => ktr_room); (case k9 => exact BindsTo.of_eq rfl); (case kB => exact rfl); (case kD => decide +kernel); (case c2 => exact rfl); (case c3 => exact rfl); (case c4 => exact rfl); k_whole; intro g' L' h' tk' cells' hg FG' F' N' Y' B' X' T'; k_cells Y'; (try dsimp only); (try k_fold))
  (try rw [hg] at hP); rw [hg] at hret
  k_with_none
  k_steps
  · refine Hold.off ?_
    refine' ListComp_R (n := (cutFrom x y).length) (p := missAt y (cutFrom x y)) ?a0 ?a1 ?a5 ?a6 ?a7 ?a8 ?a9 ?b1 ?b2 ?b3
    (case a0 => k_asm)
    (case a1 => exact rfl)
    (case a5 => exact Nat.le_trans (Nat.le_trans (Txt.slice_le _ _ _) hx) (by decide))
    (case a6 => with_unfolding_all rfl)
    (case a7 => decide)
    (case a8 => rfl)
    (case a9 => decide)
    (case b1 => rfl)
    (case b2 => decide)
    k_steps
    refine Hold.off ?_
    refine ⟨_, _, _, _, _, _, rfl, by k_asm, by k_asm, by assumption, rfl, ?_, ?_⟩
    · intro i t I oI C oC D m₂ ys h tk E' hi hC hm F' N' off ne
      have hi2 := hi
      unfold cutFrom at hi2
      have hi3 : i < y.length := by omega
      have hi4 : 0 < y.length := by omega
      k_steps
      all_goals (refine TurnOk.intro (by k_asm) (by k_asm) (fun p hp => hp) ?_; unfold missAt cutFrom; simp_all)
    · intro D h' tk' ys F' N' hy
      k_steps
      refine hret _ _ _ (by assumption) ?_
      show Value.bool _ = Value.bool _
      congr 1
      have e1 : (cutFrom x y).length = y.length := by unfold cutFrom; omega
      unfold closesB
      rw [decide_eq_true e1, Bool.true_and]
      cases (List.range (cutFrom x y).length).filter (missAt y (cutFrom x y)) <;> simp
  · refine hret _ _ _ (by assumption) ?_
    show Value.bool _ = Value.bool _
    congr 1
    have e1 : ¬ (cutFrom x y).length = y.length := by unfold cutFrom; omega
    unfold closesB
    rw [decide_eq_false e1, Bool.false_and, beq_eq_false_iff_ne]
    unfold cutFrom at e1
    omega
end
theorem any_tell (w : World) (mean : ExcName → Option Value) (mg mb : Str → Option Value) (x : Str) (t : Tok) (l : Addr) (vs : List Value) (es : List Str) (hx : x.length ≤ 64) (hv : StrsAre vs es) (hl : vs.length ≤ 64) (he : ∀ e ∈ es, e.length ≤ 64) (hok : ∀ e ∈ es, PyData.strOk e = true) :
    Tells PySem.Challenge.rw_iv0078_01.row.prog w (hd.heap_1 w.params) hd.view_1 lo mean mg mb 2 701 [.str x t, .ref l] (fun h => SeqAt h l vs.toArray) (fun _ v _ => v = .bool (es.any (closesB x))) := by
  w_on
  k_fill
  intro dp un gd cn cs a ccd cl outer A₀ base h₀ L m s Q E B F X T hk hdp hu hP hret
  refine wpAny_call ?_
  k_dflt (refine' enterC ?k1 ?k2 ?k3 ?k4 ?kA ?kF ?kK ?k6 ?k7 ?k8 ?k9 ?kB ?kD ?_ ?c2 ?c3 ?c4; (case kA => exact rfl); (case kF => exact rfl); (case kK => assumption); (case k1 => assumption); (case k2 => assumption); (case k3 => assumption); (case k4 => assumption); (case k6 => k_is); (case k7 => k_is); (case k8 => ktr_room); (case k9 => exact BindsTo.of_eq rfl); (case kB => exact rfl); (case kD => decide +kernel); (case c2 => exact rfl); (case c3 => exact rfl); (case c4 => exact rfl); k_whole; intro g' L' h' tk' cells' hg FG' F' N' Y' B' X' T'; k_cells Y'; (try dsimp only); (try k_fold))
  (try rw [hg] at hP); rw [hg] at hret
  k_with_none
  (k_with "eval ListComp" => refine Hold.on ?_)
  k_steps
  refine Hold.off ?_
  refine' ListComp_S (p := closesB x) (es := es) ?a1 ?a2 ?a3 ?a4 hv ?a5 ?a6 ?a7 ?a8 ?a9 ?b1 ?b2 ?b3 ?b4 ?b5
  (case a1 => exact rfl)
  (case a2 => k_asm)
  (case a3 => k_asm)
  (case a4 => exact hP)
  (case a5 => exact Nat.le_trans hl (by decide))
  (case a6 => with_unfolding_all rfl)
  (case a7 => decide)
  (case a8 => rfl)
  (case a9 => decide)
  (case b1 => rfl)
  (case b2 => decide)
  (case b3 => (intro Q' hQ; k_dflt (refine' nameX_L ?z1 ?z2 ?z3; (case z1 => k_asm); (case z2 => with_unfolding_all rfl); (case z3 => exact hQ))))
  k_with_none
  (k_with "call ref" => (k_here; refine' Tells.use (closes_tell w mean mg mb _ _ _ _ ?kx ?ky) ?k1 ?k2 ?k3 ?k4 ?k5 ?kK ?kd ?ku ?kP ?kR; (case kx => first | assumption | omega); (case ky => first | assumption | omega | exact he _ (by assumption)); (case k1 => k_asm); (case k2 => k_asm); (case k3 => k_asm); (case k4 => k_asm); (case k5 => k_asm); (case kK => first | exact rfl | assumption); (case kd => ktr_room); (case ku => ktr_units); (case kP => trivial); intro v9 h9 tk9 st9 F9 N9 e9; (try dsimp only at e9); subst e9; (try dsimp only); (try k_fold)))
  · intro e t I oI C oC D m₂ ys h tk E' he8 hC hm F' N' off ne
    k_steps
    exact TurnOk.intro (by k_asm) (by k_asm) (fun p hp => hp) rfl
  · intro D h' tk' ys F' N' hy
    (k_with "compareOp NotEq ref ref" => (refine' ne_strs_nil ?z1 ?z2 hy ?z3 ?z4 ?z5; (case z1 => is_list); (case z2 => is_list); (case z3 => exact fun e h => hok e (List.mem_filter.mp h).1); (case z4 => ke_room)))
    k_steps
    refine hret _ _ _ (by assumption) ?_
    show Value.bool _ = Value.bool _
    congr 1
    clear hret hy hv he hok
    induction es with
    | nil => rfl
    | cons e r ih => cases hc : closesB x e <;> simp [List.filter_cons, hc, ih]
end Mine
end
section
open PySem PySem.W PyProof.Rows
namespace Mine

noncomputable def lawTerms : List (Str × Term) := [
  (Str.ofString "A", ⟨2, [], [], []⟩),
  (Str.ofString "B", ⟨3, [], [], []⟩),
  (Str.ofString "C", ⟨4, [], [], []⟩),
  (Str.ofString "D", ⟨5, [], [], []⟩),
  (Str.ofString "E", ⟨2, [], [Str.ofString "e"], []⟩),
  (Str.ofString "F", ⟨3, [], [Str.ofString "e"], []⟩),
  (Str.ofString "G", ⟨3, [Str.ofString "f"], [], []⟩),
  (Str.ofString "H", ⟨2, [Str.ofString "t", Str.ofString "ll"], [], []⟩),
  (Str.ofString "I", ⟨2, [], [Str.ofString "o", Str.ofString "e"], []⟩),
  (Str.ofString "J", ⟨2, [], [Str.ofString "a", Str.ofString "e"], []⟩),
  (Str.ofString "K", ⟨3, [Str.ofString "l", Str.ofString "i", Str.ofString "u?e"], [], []⟩),
  (Str.ofString "L", ⟨2, [], [Str.ofString "u", Str.ofString "x", Str.ofString "s"], [Str.ofString "os"]⟩),
  (Str.ofString "M", ⟨2, [], [Str.ofString "a", Str.ofString "c", Str.ofString "e", Str.ofString "m"], []⟩),
  (Str.ofString "N", ⟨3, [], [], []⟩),
  (Str.ofString "O", ⟨2, [Str.ofString "l", Str.ofString "i"], [], []⟩),
  (Str.ofString "P", ⟨2, [], [Str.ofString "c"], []⟩),
  (Str.ofString "Q", ⟨3, [], [Str.ofString "l", Str.ofString "n"], []⟩),
  (Str.ofString "R", ⟨2, [Str.ofString "n", Str.ofString "r"], [], []⟩),
  (Str.ofString "S", ⟨2, [Str.ofString "dr", Str.ofString "t"], [Str.ofString "tt"], []⟩),
  (Str.ofString "T", ⟨2, [Str.ofString "s", Str.ofString "t"], [Str.ofString "ot"], []⟩),
  (Str.ofString "U", ⟨2, [Str.ofString "l", Str.ofString "m", Str.ofString "n", Str.ofString "r"], [], []⟩),
  (Str.ofString "V", ⟨2, [Str.ofString "c"], [], []⟩),
  (Str.ofString "W", ⟨2, [], [Str.ofString "s", Str.ofString "u"], []⟩),
  (Str.ofString "X", ⟨2, [Str.ofString "l", Str.ofString "i", Str.ofString "u?e"], [], []⟩),
  (Str.ofString "Y", ⟨2, [Str.ofString "in"], [], []⟩),
  (Str.ofString "Z", ⟨2, [], [Str.ofString "f"], []⟩),
  (Str.ofString "a", ⟨2, [Str.ofString "d", Str.ofString "f", Str.ofString "ph", Str.ofString "th", Str.ofString "l", Str.ofString "er", Str.ofString "or", Str.ofString "es", Str.ofString "t"], [], []⟩),
  (Str.ofString "b", ⟨3, [], [Str.ofString "met", Str.ofString "ryst"], []⟩),
  (Str.ofString "c", ⟨2, [Str.ofString "l"], [], []⟩)]
theorem lawTerms_fit : ∀ p ∈ lawTerms, termFits p.2 := by decide +kernel
theorem lawTerms_nodup : (lawTerms.map (·.1)).Nodup := by decide +kernel
theorem sys_lt {w : World} {h : Heap} (X : (hd.heap_1 w.params).In h) : sysModules < h.objs.size := Nat.lt_trans (by decide : sysModules < 722) (Heap.lt_size (X 722 _ rfl))
section
local macro_rules | `(tactic| walk_at "eval Dict") => `(tactic| refine Hold.on ?_)
theorem terms_tell (w : World) (mean : ExcName → Option Value) (mg mb : Str → Option Value) :
    Tells PySem.Challenge.rw_iv0078_01.row.prog w (hd.heap_1 w.params) hd.view_1 lo mean mg mb 1 683 [] (fun _ => True) (fun g v h' => ∃ d kvs', v = .ref d ∧ h'.DictOf (strKind PySem.Challenge.rw_iv0078_01.row.prog w) d kvs' ∧ (g.get? d = none ∧ sysModules < d) ∧ Tab g h' kvs' lawTerms) := by
  w_on
  k_fill
  intro dp un gd cn cs a ccd cl outer A₀ base h₀ L m s Q E B F X T hk hdp hu hP hret
  refine wpAny_call ?_
  k_dflt (refine' enterP ?k1 ?k2 ?k3 ?k4 ?kA ?kF ?kK ?k6 ?k7 ?k8 ?k9 ?kB ?_ ?c2 ?c3 ?c4 ?c5; (case kA => exact rfl); (case kF => exact rfl); (case kK => assumption); (case k1 => assumption); (case k2 => assumption); (case k3 => assumption); (case k4 => assumption); (case k6 => k_is); (case k7 => k_is); (case k8 => ktr_room); (case k9 => exact BindsTo.of_eq rfl); (case c5 => decide); (case kB => exact locs rfl); (case c2 => exact rfl); (case c3 => exact rfl); (case c4 => exact rfl); k_whole; intro g' L' h' hg FG' F' N' B' X' T'; (try dsimp only); (try k_fold))
  (try rw [hg] at hP); rw [hg] at hret
  k_with_none
  k_steps
  refine Hold.off ?_
  refine' dict_display (B := g') (kts := lawTerms) ?q1 ?q2 ?q3 ?z1 ?z2 ?z3 ?z4 ?z5 ?z6 ?q4
  case z1 => exact lawTerms_fit
  case z2 => exact lawTerms_nodup
  case z3 => decide +kernel
  case z4 => decide +kernel
  case z5 => exact sys_lt (X'.keeps F'.keep)
  case z6 => exact F'.keep
  case q1 => kernel_rfl
  case q2 => kernel_rfl
  case q3 => kernel_rfl
  intro d h1 t1 kvs' st hdo hf ht
  have F1 := F'.keeps st
  have N1 := N'.keeps st
  k_steps
  exact hret _ _ _ (by assumption) ⟨d, kvs', rfl, hdo, hf, ht⟩
end
end Mine
end
section
open PySem PySem.W PyProof.Rows
namespace Mine

noncomputable def lawAnew : List (List Str) := [
  [Str.ofString "iev", Str.ofString "ief", Str.ofString ""],
  [Str.ofString "uct", Str.ofString "uc", Str.ofString ""],
  [Str.ofString "umpt", Str.ofString "um", Str.ofString ""],
  [Str.ofString "rpt", Str.ofString "rb", Str.ofString ""],
  [Str.ofString "urs", Str.ofString "ur", Str.ofString ""],
  [Str.ofString "istr", Str.ofString "ister", Str.ofString ""],
  [Str.ofString "metr", Str.ofString "meter", Str.ofString ""],
  [Str.ofString "olv", Str.ofString "olut", Str.ofString ""],
  [Str.ofString "ul", Str.ofString "l", Str.ofString "aoi"],
  [Str.ofString "bex", Str.ofString "bic", Str.ofString ""],
  [Str.ofString "dex", Str.ofString "dic", Str.ofString ""],
  [Str.ofString "pex", Str.ofString "pic", Str.ofString ""],
  [Str.ofString "tex", Str.ofString "tic", Str.ofString ""],
  [Str.ofString "ax", Str.ofString "ac", Str.ofString ""],
  [Str.ofString "ex", Str.ofString "ec", Str.ofString ""],
  [Str.ofString "ix", Str.ofString "ic", Str.ofString ""],
  [Str.ofString "lux", Str.ofString "luc", Str.ofString ""],
  [Str.ofString "uad", Str.ofString "uas", Str.ofString ""],
  [Str.ofString "vad", Str.ofString "vas", Str.ofString ""],
  [Str.ofString "cid", Str.ofString "cis", Str.ofString ""],
  [Str.ofString "lid", Str.ofString "lis", Str.ofString ""],
  [Str.ofString "erid", Str.ofString "eris", Str.ofString ""],
  [Str.ofString "pand", Str.ofString "pans", Str.ofString ""],
  [Str.ofString "end", Str.ofString "ens", Str.ofString "s"],
  [Str.ofString "ond", Str.ofString "ons", Str.ofString ""],
  [Str.ofString "lud", Str.ofString "lus", Str.ofString ""],
  [Str.ofString "rud", Str.ofString "rus", Str.ofString ""],
  [Str.ofString "her", Str.ofString "hes", Str.ofString "pt"],
  [Str.ofString "mit", Str.ofString "mis", Str.ofString ""],
  [Str.ofString "ent", Str.ofString "ens", Str.ofString "m"],
  [Str.ofString "ert", Str.ofString "ers", Str.ofString ""],
  [Str.ofString "et", Str.ofString "es", Str.ofString "n"],
  [Str.ofString "yt", Str.ofString "ys", Str.ofString ""],
  [Str.ofString "yz", Str.ofString "ys", Str.ofString ""]]
theorem lawAnew_fit : ∀ r ∈ lawAnew, r.length ≤ 64 := by decide +kernel
section
local macro_rules | `(tactic| walk_at "eval List") => `(tactic| refine Hold.on ?_)
theorem anew_tell (w : World) (mean : ExcName → Option Value) (mg mb : Str → Option Value) :
    Tells PySem.Challenge.rw_iv0078_01.row.prog w (hd.heap_1 w.params) hd.view_1 lo mean mg mb 1 690 [] (fun _ => True) (fun g v h' => ∃ l vs, v = .ref l ∧ g.get? l = none ∧ h'.IsList l vs.toArray ∧ TupRows g h' vs lawAnew) := by
  w_on
  k_fill
  intro dp un gd cn cs a ccd cl outer A₀ base h₀ L m s Q E B F X T hk hdp hu hP hret
  refine wpAny_call ?_
  k_dflt (refine' enterP ?k1 ?k2 ?k3 ?k4 ?kA ?kF ?kK ?k6 ?k7 ?k8 ?k9 ?kB ?_ ?c2 ?c3 ?c4 ?c5; (case kA => exact rfl); (case kF => exact rfl); (case kK => assumption); (case k1 => assumption); (case k2 => assumption); (case k3 => assumption); (case k4 => assumption); (case k6 => k_is); (case k7 => k_is); (case k8 => ktr_room); (case k9 => exact BindsTo.of_eq rfl); (case c5 => decide); (case kB => exact locs rfl); (case c2 => exact rfl); (case c3 => exact rfl); (case c4 => exact rfl); k_whole; intro g' L' h' hg FG' F' N' B' X' T'; (try dsimp only); (try k_fold))
  (try rw [hg] at hP); rw [hg] at hret
  k_with_none
  k_steps
  refine Hold.off ?_
  refine' rows_list (B := g') (rs := lawAnew) ?q1 ?z1 ?z2 ?z3 ?q4
  case z1 => exact lawAnew_fit
  case z2 => decide +kernel
  case z3 => exact F'.keep
  case q1 => kernel_rfl
  intro l vs h1 t1 st hf hl ht
  have F1 := F'.keeps st
  have N1 := N'.keeps st
  k_steps
  exact hret _ _ _ (by assumption) ⟨l, vs, rfl, hf, hl, ht⟩
end
end Mine
end
section
open PySem PySem.W PySem.Calls PySem.Spec PyProof.Rows
namespace Mine

noncomputable abbrev Pg : Program := PySem.Challenge.rw_iv0078_01.row.prog
noncomputable def Tf (w : World) (mean : ExcName → Option Value) (mg mb : Str → Option Value) (D : Nat) (f : Addr) (F : List PV → Option PV) : Prop :=
  ∀ args r, F args = some r → ∀ vs, Tells Pg w (hd.heap_1 w.params) hd.view_1 lo mean mg mb D f vs (fun h => IsAll Pg w h args vs) (fun _ v h' => Is Pg w h' r v)
noncomputable abbrev St (w : World) (mean : ExcName → Option Value) (mg mb : Str → Option Value) (D : Nat) (gn : List Str) (gv : List PV) (fn : List Str) (ff : List (List PV → Option PV)) : Prop :=
  Std Pg w (hd.heap_1 w.params) hd.view_1 lo mean mg mb D gn gv fn ff
noncomputable def GOk (w : World) (x : Str) (pv : PV) : Prop := ∃ v, nsIn (hd.heap_1 w.params) mainGlobals x = some (some v) ∧ ∀ h, (hd.heap_1 w.params).In h → Is Pg w h pv v
noncomputable def FOk (w : World) (mean : ExcName → Option Value) (mg mb : Str → Option Value) (D : Nat) (x : Str) (F : List PV → Option PV) : Prop :=
  ∃ a, nsIn (hd.heap_1 w.params) mainGlobals x = some (some (.ref a)) ∧ keepIn (hd.heap_1 w.params) (.ref a) = true ∧ Tf w mean mg mb D a F
theorem all2_at {α β : Type} {R : α → β → Prop} : ∀ {l : List α} {r : List β} {i : Nat} {a : α} {b : β}, All2 R l r → l[i]? = some a → r[i]? = some b → R a b
  | _, _, i, a, b, .nil, h, _ => by simp at h
  | _, _, 0, a, b, .cons h _, h1, h2 => by simp at h1 h2; subst h1 h2; exact h
  | _, _, i + 1, a, b, .cons _ h, h1, h2 => all2_at (i := i) h (by simpa using h1) (by simpa using h2)
theorem st_of {w : World} {mean : ExcName → Option Value} {mg mb : Str → Option Value} {D : Nat} {gn : List Str} {gv : List PV} {fn : List Str} {ff : List (List PV → Option PV)} (hG : All2 (GOk w) gn gv) (hF : All2 (FOk w mean mg mb D) fn ff) : St w mean mg mb D gn gv fn ff :=
  ⟨fun _ _ _ h1 h2 => all2_at hG h1 h2, fun _ _ _ h1 h2 => all2_at hF h1 h2, by refine ⟨?_, ?_⟩; exact rfl; exact rfl⟩
theorem Tf.mono {w : World} {mean : ExcName → Option Value} {mg mb : Str → Option Value} {D D' : Nat} {f : Addr} {F : List PV → Option PV} (h : Tf w mean mg mb D f F) (hD : D ≤ D') : Tf w mean mg mb D' f F :=
  fun args r e vs => (h args r e vs).mono hD
noncomputable def psA : PS := (.ret (.const (.bool true)))
noncomputable def FA : List PV → Option PV := runF [] [] 1 [0] psA
theorem tA (w : World) (mean : ExcName → Option Value) (mg mb : Str → Option Value) : Tf w mean mg mb 1 21 FA := by
  refine' tells_def (gn := []) (fn := []) (n := 60) (xs := [Str.ofString "base"]) ?ho ?hcd ?hb ?hx ?hc ?hs ?hl (st_of .nil .nil)
  case ho => exact rfl
  case hcd => kernel_rfl
  case hb => intro s vs hl; match vs, hl with | [v0], _ => exact BindsTo.of_eq rfl
  case hx => exact rfl
  case hc => kernel_rfl
  case hs => exact rfl
  case hl => decide
theorem okA (w : World) (mean : ExcName → Option Value) (mg mb : Str → Option Value) : FOk w mean mg mb 1 (Str.ofString "_A") FA := ⟨21, by kernel_rfl, by kernel_rfl, (tA w mean mg mb).mono (by decide)⟩
noncomputable def psB : PS := (.ret (.cmp .Gt (.len (.loc 0)) (.const (.int (2)))))
noncomputable def FB : List PV → Option PV := runF [] [] 1 [0] psB
theorem tB (w : World) (mean : ExcName → Option Value) (mg mb : Str → Option Value) : Tf w mean mg mb 1 28 FB := by
  refine' tells_def (gn := []) (fn := []) (n := 60) (xs := [Str.ofString "base"]) ?ho ?hcd ?hb ?hx ?hc ?hs ?hl (st_of .nil .nil)
  case ho => exact rfl
  case hcd => kernel_rfl
  case hb => intro s vs hl; match vs, hl with | [v0], _ => exact BindsTo.of_eq rfl
  case hx => exact rfl
  case hc => kernel_rfl
  case hs => exact rfl
  case hl => decide
theorem okB (w : World) (mean : ExcName → Option Value) (mg mb : Str → Option Value) : FOk w mean mg mb 1 (Str.ofString "_B") FB := ⟨28, by kernel_rfl, by kernel_rfl, (tB w mean mg mb).mono (by decide)⟩
noncomputable def psC : PS := (.ret (.cmp .Gt (.len (.loc 0)) (.const (.int (3)))))
noncomputable def FC : List PV → Option PV := runF [] [] 1 [0] psC
theorem tC (w : World) (mean : ExcName → Option Value) (mg mb : Str → Option Value) : Tf w mean mg mb 1 35 FC := by
  refine' tells_def (gn := []) (fn := []) (n := 60) (xs := [Str.ofString "base"]) ?ho ?hcd ?hb ?hx ?hc ?hs ?hl (st_of .nil .nil)
  case ho => exact rfl
  case hcd => kernel_rfl
  case hb => intro s vs hl; match vs, hl with | [v0], _ => exact BindsTo.of_eq rfl
  case hx => exact rfl
  case hc => kernel_rfl
  case hs => exact rfl
  case hl => decide
theorem okC (w : World) (mean : ExcName → Option Value) (mg mb : Str → Option Value) : FOk w mean mg mb 1 (Str.ofString "_C") FC := ⟨35, by kernel_rfl, by kernel_rfl, (tC w mean mg mb).mono (by decide)⟩
noncomputable def psD : PS := (.ret (.cmp .Gt (.len (.loc 0)) (.const (.int (4)))))
noncomputable def FD : List PV → Option PV := runF [] [] 1 [0] psD
theorem tD (w : World) (mean : ExcName → Option Value) (mg mb : Str → Option Value) : Tf w mean mg mb 1 42 FD := by
  refine' tells_def (gn := []) (fn := []) (n := 60) (xs := [Str.ofString "base"]) ?ho ?hcd ?hb ?hx ?hc ?hs ?hl (st_of .nil .nil)
  case ho => exact rfl
  case hcd => kernel_rfl
  case hb => intro s vs hl; match vs, hl with | [v0], _ => exact BindsTo.of_eq rfl
  case hx => exact rfl
  case hc => kernel_rfl
  case hs => exact rfl
  case hl => decide
theorem okD (w : World) (mean : ExcName → Option Value) (mg mb : Str → Option Value) : FOk w mean mg mb 1 (Str.ofString "_D") FD := ⟨42, by kernel_rfl, by kernel_rfl, (tD w mean mg mb).mono (by decide)⟩
noncomputable def psE : PS := (.ret (.cmp .NotEq (.idx (.loc 0) (.neg (.const (.int (1))))) (.const (.str (Str.ofString "e")))))
noncomputable def FE : List PV → Option PV := runF [] [] 1 [0] psE
theorem tE (w : World) (mean : ExcName → Option Value) (mg mb : Str → Option Value) : Tf w mean mg mb 1 49 FE := by
  refine' tells_def (gn := []) (fn := []) (n := 60) (xs := [Str.ofString "base"]) ?ho ?hcd ?hb ?hx ?hc ?hs ?hl (st_of .nil .nil)
  case ho => exact rfl
  case hcd => kernel_rfl
  case hb => intro s vs hl; match vs, hl with | [v0], _ => exact BindsTo.of_eq rfl
  case hx => exact rfl
  case hc => kernel_rfl
  case hs => exact rfl
  case hl => decide
theorem okE (w : World) (mean : ExcName → Option Value) (mg mb : Str → Option Value) : FOk w mean mg mb 1 (Str.ofString "_E") FE := ⟨49, by kernel_rfl, by kernel_rfl, (tE w mean mg mb).mono (by decide)⟩
noncomputable def psF : PS := (.ret (.and (.cmp .Gt (.len (.loc 0)) (.const (.int (2)))) (.cmp .NotEq (.idx (.loc 0) (.neg (.const (.int (1))))) (.const (.str (Str.ofString "e"))))))
noncomputable def FF : List PV → Option PV := runF [] [] 1 [0] psF
theorem tF (w : World) (mean : ExcName → Option Value) (mg mb : Str → Option Value) : Tf w mean mg mb 1 56 FF := by
  refine' tells_def (gn := []) (fn := []) (n := 60) (xs := [Str.ofString "base"]) ?ho ?hcd ?hb ?hx ?hc ?hs ?hl (st_of .nil .nil)
  case ho => exact rfl
  case hcd => kernel_rfl
  case hb => intro s vs hl; match vs, hl with | [v0], _ => exact BindsTo.of_eq rfl
  case hx => exact rfl
  case hc => kernel_rfl
  case hs => exact rfl
  case hl => decide
theorem okF (w : World) (mean : ExcName → Option Value) (mg mb : Str → Option Value) : FOk w mean mg mb 1 (Str.ofString "_F") FF := ⟨56, by kernel_rfl, by kernel_rfl, (tF w mean mg mb).mono (by decide)⟩
noncomputable def psG : PS := (.ret (.and (.cmp .Gt (.len (.loc 0)) (.const (.int (2)))) (.cmp .Eq (.idx (.loc 0) (.neg (.const (.int (1))))) (.const (.str (Str.ofString "f"))))))
noncomputable def FG : List PV → Option PV := runF [] [] 1 [0] psG
theorem tG (w : World) (mean : ExcName → Option Value) (mg mb : Str → Option Value) : Tf w mean mg mb 1 63 FG := by
  refine' tells_def (gn := []) (fn := []) (n := 60) (xs := [Str.ofString "base"]) ?ho ?hcd ?hb ?hx ?hc ?hs ?hl (st_of .nil .nil)
  case ho => exact rfl
  case hcd => kernel_rfl
  case hb => intro s vs hl; match vs, hl with | [v0], _ => exact BindsTo.of_eq rfl
  case hx => exact rfl
  case hc => kernel_rfl
  case hs => exact rfl
  case hl => decide
theorem okG (w : World) (mean : ExcName → Option Value) (mg mb : Str → Option Value) : FOk w mean mg mb 1 (Str.ofString "_G") FG := ⟨63, by kernel_rfl, by kernel_rfl, (tG w mean mg mb).mono (by decide)⟩
noncomputable def psH : PS := (.unpack [1, 2] (.sliceFrom (.loc 0) (.neg (.const (.int (2))))) (.ret (.or (.cmp .Eq (.loc 2) (.const (.str (Str.ofString "t")))) (.and (.cmp .Eq (.loc 2) (.const (.str (Str.ofString "l")))) (.cmp .Eq (.loc 1) (.const (.str (Str.ofString "l"))))))))
noncomputable def FH : List PV → Option PV := runF [] [] 1 [0] psH
theorem tH (w : World) (mean : ExcName → Option Value) (mg mb : Str → Option Value) : Tf w mean mg mb 1 70 FH := by
  refine' tells_def (gn := []) (fn := []) (n := 60) (xs := [Str.ofString "base"]) ?ho ?hcd ?hb ?hx ?hc ?hs ?hl (st_of .nil .nil)
  case ho => exact rfl
  case hcd => kernel_rfl
  case hb => intro s vs hl; match vs, hl with | [v0], _ => exact BindsTo.of_eq rfl
  case hx => exact rfl
  case hc => kernel_rfl
  case hs => exact rfl
  case hl => decide
theorem okH (w : World) (mean : ExcName → Option Value) (mg mb : Str → Option Value) : FOk w mean mg mb 1 (Str.ofString "_H") FH := ⟨70, by kernel_rfl, by kernel_rfl, (tH w mean mg mb).mono (by decide)⟩
noncomputable def psI : PS := (.assign 1 (.idx (.loc 0) (.neg (.const (.int (1))))) (.ret (.and (.cmp .NotEq (.loc 1) (.const (.str (Str.ofString "o")))) (.cmp .NotEq (.loc 1) (.const (.str (Str.ofString "e")))))))
noncomputable def FI : List PV → Option PV := runF [] [] 1 [0] psI
theorem tI (w : World) (mean : ExcName → Option Value) (mg mb : Str → Option Value) : Tf w mean mg mb 1 77 FI := by
  refine' tells_def (gn := []) (fn := []) (n := 60) (xs := [Str.ofString "base"]) ?ho ?hcd ?hb ?hx ?hc ?hs ?hl (st_of .nil .nil)
  case ho => exact rfl
  case hcd => kernel_rfl
  case hb => intro s vs hl; match vs, hl with | [v0], _ => exact BindsTo.of_eq rfl
  case hx => exact rfl
  case hc => kernel_rfl
  case hs => exact rfl
  case hl => decide
theorem okI (w : World) (mean : ExcName → Option Value) (mg mb : Str → Option Value) : FOk w mean mg mb 1 (Str.ofString "_I") FI := ⟨77, by kernel_rfl, by kernel_rfl, (tI w mean mg mb).mono (by decide)⟩
noncomputable def psJ : PS := (.assign 1 (.idx (.loc 0) (.neg (.const (.int (1))))) (.ret (.and (.cmp .NotEq (.loc 1) (.const (.str (Str.ofString "a")))) (.cmp .NotEq (.loc 1) (.const (.str (Str.ofString "e")))))))
noncomputable def FJ : List PV → Option PV := runF [] [] 1 [0] psJ
theorem tJ (w : World) (mean : ExcName → Option Value) (mg mb : Str → Option Value) : Tf w mean mg mb 1 84 FJ := by
  refine' tells_def (gn := []) (fn := []) (n := 60) (xs := [Str.ofString "base"]) ?ho ?hcd ?hb ?hx ?hc ?hs ?hl (st_of .nil .nil)
  case ho => exact rfl
  case hcd => kernel_rfl
  case hb => intro s vs hl; match vs, hl with | [v0], _ => exact BindsTo.of_eq rfl
  case hx => exact rfl
  case hc => kernel_rfl
  case hs => exact rfl
  case hl => decide
theorem okJ (w : World) (mean : ExcName → Option Value) (mg mb : Str → Option Value) : FOk w mean mg mb 1 (Str.ofString "_J") FJ := ⟨84, by kernel_rfl, by kernel_rfl, (tJ w mean mg mb).mono (by decide)⟩
noncomputable def psK : PS := (.assign 1 (.idx (.loc 0) (.neg (.const (.int (1))))) (.assign 2 (.idx (.loc 0) (.neg (.const (.int (3))))) (.ret (.and (.cmp .Gt (.len (.loc 0)) (.const (.int (2)))) (.or (.cmp .Eq (.loc 1) (.const (.str (Str.ofString "l")))) (.or (.cmp .Eq (.loc 1) (.const (.str (Str.ofString "i")))) (.and (.cmp .Eq (.loc 1) (.const (.str (Str.ofString "e")))) (.cmp .Eq (.loc 2) (.const (.str (Str.ofString "u")))))))))))
noncomputable def FK : List PV → Option PV := runF [] [] 1 [0] psK
theorem tK (w : World) (mean : ExcName → Option Value) (mg mb : Str → Option Value) : Tf w mean mg mb 1 91 FK := by
  refine' tells_def (gn := []) (fn := []) (n := 60) (xs := [Str.ofString "base"]) ?ho ?hcd ?hb ?hx ?hc ?hs ?hl (st_of .nil .nil)
  case ho => exact rfl
  case hcd => kernel_rfl
  case hb => intro s vs hl; match vs, hl with | [v0], _ => exact BindsTo.of_eq rfl
  case hx => exact rfl
  case hc => kernel_rfl
  case hs => exact rfl
  case hl => decide
theorem okK (w : World) (mean : ExcName → Option Value) (mg mb : Str → Option Value) : FOk w mean mg mb 1 (Str.ofString "_K") FK := ⟨91, by kernel_rfl, by kernel_rfl, (tK w mean mg mb).mono (by decide)⟩
noncomputable def psL : PS := (.unpack [1, 2] (.sliceFrom (.loc 0) (.neg (.const (.int (2))))) (.ret (.and (.cmp .NotEq (.loc 2) (.const (.str (Str.ofString "u")))) (.and (.cmp .NotEq (.loc 2) (.const (.str (Str.ofString "x")))) (.or (.cmp .NotEq (.loc 2) (.const (.str (Str.ofString "s")))) (.cmp .Eq (.loc 1) (.const (.str (Str.ofString "o")))))))))
noncomputable def FL : List PV → Option PV := runF [] [] 1 [0] psL
theorem tL (w : World) (mean : ExcName → Option Value) (mg mb : Str → Option Value) : Tf w mean mg mb 1 98 FL := by
  refine' tells_def (gn := []) (fn := []) (n := 60) (xs := [Str.ofString "base"]) ?ho ?hcd ?hb ?hx ?hc ?hs ?hl (st_of .nil .nil)
  case ho => exact rfl
  case hcd => kernel_rfl
  case hb => intro s vs hl; match vs, hl with | [v0], _ => exact BindsTo.of_eq rfl
  case hx => exact rfl
  case hc => kernel_rfl
  case hs => exact rfl
  case hl => decide
theorem okL (w : World) (mean : ExcName → Option Value) (mg mb : Str → Option Value) : FOk w mean mg mb 1 (Str.ofString "_L") FL := ⟨98, by kernel_rfl, by kernel_rfl, (tL w mean mg mb).mono (by decide)⟩
noncomputable def psM : PS := (.assign 1 (.idx (.loc 0) (.neg (.const (.int (1))))) (.ret (.and (.cmp .NotEq (.loc 1) (.const (.str (Str.ofString "a")))) (.and (.cmp .NotEq (.loc 1) (.const (.str (Str.ofString "c")))) (.and (.cmp .NotEq (.loc 1) (.const (.str (Str.ofString "e")))) (.cmp .NotEq (.loc 1) (.const (.str (Str.ofString "m")))))))))
noncomputable def FM : List PV → Option PV := runF [] [] 1 [0] psM
theorem tM (w : World) (mean : ExcName → Option Value) (mg mb : Str → Option Value) : Tf w mean mg mb 1 105 FM := by
  refine' tells_def (gn := []) (fn := []) (n := 60) (xs := [Str.ofString "base"]) ?ho ?hcd ?hb ?hx ?hc ?hs ?hl (st_of .nil .nil)
  case ho => exact rfl
  case hcd => kernel_rfl
  case hb => intro s vs hl; match vs, hl with | [v0], _ => exact BindsTo.of_eq rfl
  case hx => exact rfl
  case hc => kernel_rfl
  case hs => exact rfl
  case hl => decide
theorem okM (w : World) (mean : ExcName → Option Value) (mg mb : Str → Option Value) : FOk w mean mg mb 1 (Str.ofString "_M") FM := ⟨105, by kernel_rfl, by kernel_rfl, (tM w mean mg mb).mono (by decide)⟩
noncomputable def psN : PS := (.ret (.or (.cmp .Gt (.len (.loc 0)) (.const (.int (3)))) (.and (.cmp .Eq (.len (.loc 0)) (.const (.int (3)))) (.cmp .NotEq (.idx (.loc 0) (.neg (.const (.int (1))))) (.const (.str (Str.ofString "s")))))))
noncomputable def FN : List PV → Option PV := runF [] [] 1 [0] psN
theorem tN (w : World) (mean : ExcName → Option Value) (mg mb : Str → Option Value) : Tf w mean mg mb 1 112 FN := by
  refine' tells_def (gn := []) (fn := []) (n := 60) (xs := [Str.ofString "base"]) ?ho ?hcd ?hb ?hx ?hc ?hs ?hl (st_of .nil .nil)
  case ho => exact rfl
  case hcd => kernel_rfl
  case hb => intro s vs hl; match vs, hl with | [v0], _ => exact BindsTo.of_eq rfl
  case hx => exact rfl
  case hc => kernel_rfl
  case hs => exact rfl
  case hl => decide
theorem okN (w : World) (mean : ExcName → Option Value) (mg mb : Str → Option Value) : FOk w mean mg mb 1 (Str.ofString "_N") FN := ⟨112, by kernel_rfl, by kernel_rfl, (tN w mean mg mb).mono (by decide)⟩
noncomputable def psO : PS := (.assign 1 (.idx (.loc 0) (.neg (.const (.int (1))))) (.ret (.or (.cmp .Eq (.loc 1) (.const (.str (Str.ofString "l")))) (.cmp .Eq (.loc 1) (.const (.str (Str.ofString "i")))))))
noncomputable def FO : List PV → Option PV := runF [] [] 1 [0] psO
theorem tO (w : World) (mean : ExcName → Option Value) (mg mb : Str → Option Value) : Tf w mean mg mb 1 119 FO := by
  refine' tells_def (gn := []) (fn := []) (n := 60) (xs := [Str.ofString "base"]) ?ho ?hcd ?hb ?hx ?hc ?hs ?hl (st_of .nil .nil)
  case ho => exact rfl
  case hcd => kernel_rfl
  case hb => intro s vs hl; match vs, hl with | [v0], _ => exact BindsTo.of_eq rfl
  case hx => exact rfl
  case hc => kernel_rfl
  case hs => exact rfl
  case hl => decide
theorem okO (w : World) (mean : ExcName → Option Value) (mg mb : Str → Option Value) : FOk w mean mg mb 1 (Str.ofString "_O") FO := ⟨119, by kernel_rfl, by kernel_rfl, (tO w mean mg mb).mono (by decide)⟩
noncomputable def psP : PS := (.ret (.cmp .NotEq (.idx (.loc 0) (.neg (.const (.int (1))))) (.const (.str (Str.ofString "c")))))
noncomputable def FP : List PV → Option PV := runF [] [] 1 [0] psP
theorem tP (w : World) (mean : ExcName → Option Value) (mg mb : Str → Option Value) : Tf w mean mg mb 1 126 FP := by
  refine' tells_def (gn := []) (fn := []) (n := 60) (xs := [Str.ofString "base"]) ?ho ?hcd ?hb ?hx ?hc ?hs ?hl (st_of .nil .nil)
  case ho => exact rfl
  case hcd => kernel_rfl
  case hb => intro s vs hl; match vs, hl with | [v0], _ => exact BindsTo.of_eq rfl
  case hx => exact rfl
  case hc => kernel_rfl
  case hs => exact rfl
  case hl => decide
theorem okP (w : World) (mean : ExcName → Option Value) (mg mb : Str → Option Value) : FOk w mean mg mb 1 (Str.ofString "_P") FP := ⟨126, by kernel_rfl, by kernel_rfl, (tP w mean mg mb).mono (by decide)⟩
noncomputable def psQ : PS := (.assign 1 (.idx (.loc 0) (.neg (.const (.int (1))))) (.ret (.and (.cmp .Gt (.len (.loc 0)) (.const (.int (2)))) (.and (.cmp .NotEq (.loc 1) (.const (.str (Str.ofString "l")))) (.cmp .NotEq (.loc 1) (.const (.str (Str.ofString "n"))))))))
noncomputable def FQ : List PV → Option PV := runF [] [] 1 [0] psQ
theorem tQ (w : World) (mean : ExcName → Option Value) (mg mb : Str → Option Value) : Tf w mean mg mb 1 133 FQ := by
  refine' tells_def (gn := []) (fn := []) (n := 60) (xs := [Str.ofString "base"]) ?ho ?hcd ?hb ?hx ?hc ?hs ?hl (st_of .nil .nil)
  case ho => exact rfl
  case hcd => kernel_rfl
  case hb => intro s vs hl; match vs, hl with | [v0], _ => exact BindsTo.of_eq rfl
  case hx => exact rfl
  case hc => kernel_rfl
  case hs => exact rfl
  case hl => decide
theorem okQ (w : World) (mean : ExcName → Option Value) (mg mb : Str → Option Value) : FOk w mean mg mb 1 (Str.ofString "_Q") FQ := ⟨133, by kernel_rfl, by kernel_rfl, (tQ w mean mg mb).mono (by decide)⟩
noncomputable def psR : PS := (.assign 1 (.idx (.loc 0) (.neg (.const (.int (1))))) (.ret (.or (.cmp .Eq (.loc 1) (.const (.str (Str.ofString "n")))) (.cmp .Eq (.loc 1) (.const (.str (Str.ofString "r")))))))
noncomputable def FR : List PV → Option PV := runF [] [] 1 [0] psR
theorem tR (w : World) (mean : ExcName → Option Value) (mg mb : Str → Option Value) : Tf w mean mg mb 1 140 FR := by
  refine' tells_def (gn := []) (fn := []) (n := 60) (xs := [Str.ofString "base"]) ?ho ?hcd ?hb ?hx ?hc ?hs ?hl (st_of .nil .nil)
  case ho => exact rfl
  case hcd => kernel_rfl
  case hb => intro s vs hl; match vs, hl with | [v0], _ => exact BindsTo.of_eq rfl
  case hx => exact rfl
  case hc => kernel_rfl
  case hs => exact rfl
  case hl => decide
theorem okR (w : World) (mean : ExcName → Option Value) (mg mb : Str → Option Value) : FOk w mean mg mb 1 (Str.ofString "_R") FR := ⟨140, by kernel_rfl, by kernel_rfl, (tR w mean mg mb).mono (by decide)⟩
noncomputable def psS : PS := (.assign 1 (.idx (.loc 0) (.neg (.const (.int (2))))) (.ret (.or (.cmp .Eq (.loc 1) (.const (.str (Str.ofString "rd")))) (.and (.cmp .Eq (.idx (.loc 0) (.neg (.const (.int (1))))) (.const (.str (Str.ofString "t")))) (.cmp .NotEq (.loc 1) (.const (.str (Str.ofString "tt"))))))))
noncomputable def FS : List PV → Option PV := runF [] [] 1 [0] psS
theorem tS (w : World) (mean : ExcName → Option Value) (mg mb : Str → Option Value) : Tf w mean mg mb 1 147 FS := by
  refine' tells_def (gn := []) (fn := []) (n := 60) (xs := [Str.ofString "base"]) ?ho ?hcd ?hb ?hx ?hc ?hs ?hl (st_of .nil .nil)
  case ho => exact rfl
  case hcd => kernel_rfl
  case hb => intro s vs hl; match vs, hl with | [v0], _ => exact BindsTo.of_eq rfl
  case hx => exact rfl
  case hc => kernel_rfl
  case hs => exact rfl
  case hl => decide
theorem okS (w : World) (mean : ExcName → Option Value) (mg mb : Str → Option Value) : FOk w mean mg mb 1 (Str.ofString "_S") FS := ⟨147, by kernel_rfl, by kernel_rfl, (tS w mean mg mb).mono (by decide)⟩
noncomputable def psT : PS := (.unpack [1, 2] (.sliceFrom (.loc 0) (.neg (.const (.int (2))))) (.ret (.or (.cmp .Eq (.loc 2) (.const (.str (Str.ofString "s")))) (.and (.cmp .Eq (.loc 2) (.const (.str (Str.ofString "t")))) (.cmp .NotEq (.loc 1) (.const (.str (Str.ofString "o"))))))))
noncomputable def FT : List PV → Option PV := runF [] [] 1 [0] psT
theorem tT (w : World) (mean : ExcName → Option Value) (mg mb : Str → Option Value) : Tf w mean mg mb 1 154 FT := by
  refine' tells_def (gn := []) (fn := []) (n := 60) (xs := [Str.ofString "base"]) ?ho ?hcd ?hb ?hx ?hc ?hs ?hl (st_of .nil .nil)
  case ho => exact rfl
  case hcd => kernel_rfl
  case hb => intro s vs hl; match vs, hl with | [v0], _ => exact BindsTo.of_eq rfl
  case hx => exact rfl
  case hc => kernel_rfl
  case hs => exact rfl
  case hl => decide
theorem okT (w : World) (mean : ExcName → Option Value) (mg mb : Str → Option Value) : FOk w mean mg mb 1 (Str.ofString "_T") FT := ⟨154, by kernel_rfl, by kernel_rfl, (tT w mean mg mb).mono (by decide)⟩
noncomputable def psU : PS := (.assign 1 (.idx (.loc 0) (.neg (.const (.int (1))))) (.ret (.or (.cmp .Eq (.loc 1) (.const (.str (Str.ofString "l")))) (.or (.cmp .Eq (.loc 1) (.const (.str (Str.ofString "m")))) (.or (.cmp .Eq (.loc 1) (.const (.str (Str.ofString "n")))) (.cmp .Eq (.loc 1) (.const (.str (Str.ofString "r")))))))))
noncomputable def FU : List PV → Option PV := runF [] [] 1 [0] psU
theorem tU (w : World) (mean : ExcName → Option Value) (mg mb : Str → Option Value) : Tf w mean mg mb 1 161 FU := by
  refine' tells_def (gn := []) (fn := []) (n := 60) (xs := [Str.ofString "base"]) ?ho ?hcd ?hb ?hx ?hc ?hs ?hl (st_of .nil .nil)
  case ho => exact rfl
  case hcd => kernel_rfl
  case hb => intro s vs hl; match vs, hl with | [v0], _ => exact BindsTo.of_eq rfl
  case hx => exact rfl
  case hc => kernel_rfl
  case hs => exact rfl
  case hl => decide
theorem okU (w : World) (mean : ExcName → Option Value) (mg mb : Str → Option Value) : FOk w mean mg mb 1 (Str.ofString "_U") FU := ⟨161, by kernel_rfl, by kernel_rfl, (tU w mean mg mb).mono (by decide)⟩
noncomputable def psV : PS := (.ret (.cmp .Eq (.idx (.loc 0) (.neg (.const (.int (1))))) (.const (.str (Str.ofString "c")))))
noncomputable def FV : List PV → Option PV := runF [] [] 1 [0] psV
theorem tV (w : World) (mean : ExcName → Option Value) (mg mb : Str → Option Value) : Tf w mean mg mb 1 168 FV := by
  refine' tells_def (gn := []) (fn := []) (n := 60) (xs := [Str.ofString "base"]) ?ho ?hcd ?hb ?hx ?hc ?hs ?hl (st_of .nil .nil)
  case ho => exact rfl
  case hcd => kernel_rfl
  case hb => intro s vs hl; match vs, hl with | [v0], _ => exact BindsTo.of_eq rfl
  case hx => exact rfl
  case hc => kernel_rfl
  case hs => exact rfl
  case hl => decide
theorem okV (w : World) (mean : ExcName → Option Value) (mg mb : Str → Option Value) : FOk w mean mg mb 1 (Str.ofString "_V") FV := ⟨168, by kernel_rfl, by kernel_rfl, (tV w mean mg mb).mono (by decide)⟩
noncomputable def psW : PS := (.assign 1 (.idx (.loc 0) (.neg (.const (.int (1))))) (.ret (.and (.cmp .NotEq (.loc 1) (.const (.str (Str.ofString "s")))) (.cmp .NotEq (.loc 1) (.const (.str (Str.ofString "u")))))))
noncomputable def FW : List PV → Option PV := runF [] [] 1 [0] psW
theorem tW (w : World) (mean : ExcName → Option Value) (mg mb : Str → Option Value) : Tf w mean mg mb 1 175 FW := by
  refine' tells_def (gn := []) (fn := []) (n := 60) (xs := [Str.ofString "base"]) ?ho ?hcd ?hb ?hx ?hc ?hs ?hl (st_of .nil .nil)
  case ho => exact rfl
  case hcd => kernel_rfl
  case hb => intro s vs hl; match vs, hl with | [v0], _ => exact BindsTo.of_eq rfl
  case hx => exact rfl
  case hc => kernel_rfl
  case hs => exact rfl
  case hl => decide
theorem okW (w : World) (mean : ExcName → Option Value) (mg mb : Str → Option Value) : FOk w mean mg mb 1 (Str.ofString "_W") FW := ⟨175, by kernel_rfl, by kernel_rfl, (tW w mean mg mb).mono (by decide)⟩
noncomputable def psX : PS := (.assign 1 (.idx (.loc 0) (.neg (.const (.int (1))))) (.assign 2 (.idx (.loc 0) (.neg (.const (.int (3))))) (.ret (.or (.cmp .Eq (.loc 1) (.const (.str (Str.ofString "l")))) (.or (.cmp .Eq (.loc 1) (.const (.str (Str.ofString "i")))) (.and (.cmp .Eq (.loc 1) (.const (.str (Str.ofString "e")))) (.cmp .Eq (.loc 2) (.const (.str (Str.ofString "u"))))))))))
noncomputable def FX : List PV → Option PV := runF [] [] 1 [0] psX
theorem tX (w : World) (mean : ExcName → Option Value) (mg mb : Str → Option Value) : Tf w mean mg mb 1 182 FX := by
  refine' tells_def (gn := []) (fn := []) (n := 60) (xs := [Str.ofString "base"]) ?ho ?hcd ?hb ?hx ?hc ?hs ?hl (st_of .nil .nil)
  case ho => exact rfl
  case hcd => kernel_rfl
  case hb => intro s vs hl; match vs, hl with | [v0], _ => exact BindsTo.of_eq rfl
  case hx => exact rfl
  case hc => kernel_rfl
  case hs => exact rfl
  case hl => decide
theorem okX (w : World) (mean : ExcName → Option Value) (mg mb : Str → Option Value) : FOk w mean mg mb 1 (Str.ofString "_X") FX := ⟨182, by kernel_rfl, by kernel_rfl, (tX w mean mg mb).mono (by decide)⟩
noncomputable def psY : PS := (.ret (.cmp .Eq (.sliceFrom (.loc 0) (.neg (.const (.int (2))))) (.const (.str (Str.ofString "in")))))
noncomputable def FY : List PV → Option PV := runF [] [] 1 [0] psY
theorem tY (w : World) (mean : ExcName → Option Value) (mg mb : Str → Option Value) : Tf w mean mg mb 1 189 FY := by
  refine' tells_def (gn := []) (fn := []) (n := 60) (xs := [Str.ofString "base"]) ?ho ?hcd ?hb ?hx ?hc ?hs ?hl (st_of .nil .nil)
  case ho => exact rfl
  case hcd => kernel_rfl
  case hb => intro s vs hl; match vs, hl with | [v0], _ => exact BindsTo.of_eq rfl
  case hx => exact rfl
  case hc => kernel_rfl
  case hs => exact rfl
  case hl => decide
theorem okY (w : World) (mean : ExcName → Option Value) (mg mb : Str → Option Value) : FOk w mean mg mb 1 (Str.ofString "_Y") FY := ⟨189, by kernel_rfl, by kernel_rfl, (tY w mean mg mb).mono (by decide)⟩
noncomputable def psZ : PS := (.ret (.cmp .NotEq (.idx (.loc 0) (.neg (.const (.int (1))))) (.const (.str (Str.ofString "f")))))
noncomputable def FZ : List PV → Option PV := runF [] [] 1 [0] psZ
theorem tZ (w : World) (mean : ExcName → Option Value) (mg mb : Str → Option Value) : Tf w mean mg mb 1 196 FZ := by
  refine' tells_def (gn := []) (fn := []) (n := 60) (xs := [Str.ofString "base"]) ?ho ?hcd ?hb ?hx ?hc ?hs ?hl (st_of .nil .nil)
  case ho => exact rfl
  case hcd => kernel_rfl
  case hb => intro s vs hl; match vs, hl with | [v0], _ => exact BindsTo.of_eq rfl
  case hx => exact rfl
  case hc => kernel_rfl
  case hs => exact rfl
  case hl => decide
theorem okZ (w : World) (mean : ExcName → Option Value) (mg mb : Str → Option Value) : FOk w mean mg mb 1 (Str.ofString "_Z") FZ := ⟨196, by kernel_rfl, by kernel_rfl, (tZ w mean mg mb).mono (by decide)⟩
noncomputable def psSmA : PS := (.assign 1 (.idx (.loc 0) (.neg (.const (.int (1))))) (.assign 2 (.sliceFrom (.loc 0) (.neg (.const (.int (2))))) (.ret (.or (.cmp .Eq (.loc 1) (.const (.str (Str.ofString "d")))) (.or (.cmp .Eq (.loc 1) (.const (.str (Str.ofString "f")))) (.or (.cmp .Eq (.loc 2) (.const (.str (Str.ofString "ph")))) (.or (.cmp .Eq (.loc 2) (.const (.str (Str.ofString "th")))) (.or (.cmp .Eq (.loc 1) (.const (.str (Str.ofString "l")))) (.or (.cmp .Eq (.loc 2) (.const (.str (Str.ofString "er")))) (.or (.cmp .Eq (.loc 2) (.const (.str (Str.ofString "or")))) (.or (.cmp .Eq (.loc 2) (.const (.str (Str.ofString "es")))) (.cmp .Eq (.loc 1) (.const (.str (Str.ofString "t")))))))))))))))
noncomputable def FSmA : List PV → Option PV := runF [] [] 1 [0] psSmA
theorem tSmA (w : World) (mean : ExcName → Option Value) (mg mb : Str → Option Value) : Tf w mean mg mb 1 203 FSmA := by
  refine' tells_def (gn := []) (fn := []) (n := 60) (xs := [Str.ofString "base"]) ?ho ?hcd ?hb ?hx ?hc ?hs ?hl (st_of .nil .nil)
  case ho => exact rfl
  case hcd => kernel_rfl
  case hb => intro s vs hl; match vs, hl with | [v0], _ => exact BindsTo.of_eq rfl
  case hx => exact rfl
  case hc => kernel_rfl
  case hs => exact rfl
  case hl => decide
theorem okSmA (w : World) (mean : ExcName → Option Value) (mg mb : Str → Option Value) : FOk w mean mg mb 1 (Str.ofString "_a") FSmA := ⟨203, by kernel_rfl, by kernel_rfl, (tSmA w mean mg mb).mono (by decide)⟩
noncomputable def psSmB : PS := (.ret (.and (.cmp .Gt (.len (.loc 0)) (.const (.int (2)))) (.not (.or (.endswith (.loc 0) (.const (.str (Str.ofString "met")))) (.endswith (.loc 0) (.const (.str (Str.ofString "ryst"))))))))
noncomputable def FSmB : List PV → Option PV := runF [] [] 1 [0] psSmB
theorem tSmB (w : World) (mean : ExcName → Option Value) (mg mb : Str → Option Value) : Tf w mean mg mb 1 210 FSmB := by
  refine' tells_def (gn := []) (fn := []) (n := 60) (xs := [Str.ofString "base"]) ?ho ?hcd ?hb ?hx ?hc ?hs ?hl (st_of .nil .nil)
  case ho => exact rfl
  case hcd => kernel_rfl
  case hb => intro s vs hl; match vs, hl with | [v0], _ => exact BindsTo.of_eq rfl
  case hx => exact rfl
  case hc => kernel_rfl
  case hs => exact rfl
  case hl => decide
theorem okSmB (w : World) (mean : ExcName → Option Value) (mg mb : Str → Option Value) : FOk w mean mg mb 1 (Str.ofString "_b") FSmB := ⟨210, by kernel_rfl, by kernel_rfl, (tSmB w mean mg mb).mono (by decide)⟩
noncomputable def psSmC : PS := (.ret (.cmp .Eq (.idx (.loc 0) (.neg (.const (.int (1))))) (.const (.str (Str.ofString "l")))))
noncomputable def FSmC : List PV → Option PV := runF [] [] 1 [0] psSmC
theorem tSmC (w : World) (mean : ExcName → Option Value) (mg mb : Str → Option Value) : Tf w mean mg mb 1 217 FSmC := by
  refine' tells_def (gn := []) (fn := []) (n := 60) (xs := [Str.ofString "base"]) ?ho ?hcd ?hb ?hx ?hc ?hs ?hl (st_of .nil .nil)
  case ho => exact rfl
  case hcd => kernel_rfl
  case hb => intro s vs hl; match vs, hl with | [v0], _ => exact BindsTo.of_eq rfl
  case hx => exact rfl
  case hc => kernel_rfl
  case hs => exact rfl
  case hl => decide
theorem okSmC (w : World) (mean : ExcName → Option Value) (mg mb : Str → Option Value) : FOk w mean mg mb 1 (Str.ofString "_c") FSmC := ⟨217, by kernel_rfl, by kernel_rfl, (tSmC w mean mg mb).mono (by decide)⟩
noncomputable def condF : List (List PV → Option PV) := [FA, FB, FC, FD, FE, FF, FG, FH, FI, FJ, FK, FL, FM, FN, FO, FP, FQ, FR, FS, FT, FU, FV, FW, FX, FY, FZ, FSmA, FSmB, FSmC]
noncomputable def psholds : PS := (.ite (.cmp .Eq (.loc 0) (.const (.str (Str.ofString "A")))) (.ret (.call1 0 (.loc 1))) .nil (.ite (.cmp .Eq (.loc 0) (.const (.str (Str.ofString "B")))) (.ret (.call1 1 (.loc 1))) .nil (.ite (.cmp .Eq (.loc 0) (.const (.str (Str.ofString "C")))) (.ret (.call1 2 (.loc 1))) .nil (.ite (.cmp .Eq (.loc 0) (.const (.str (Str.ofString "D")))) (.ret (.call1 3 (.loc 1))) .nil (.ite (.cmp .Eq (.loc 0) (.const (.str (Str.ofString "E")))) (.ret (.call1 4 (.loc 1))) .nil (.ite (.cmp .Eq (.loc 0) (.const (.str (Str.ofString "F")))) (.ret (.call1 5 (.loc 1))) .nil (.ite (.cmp .Eq (.loc 0) (.const (.str (Str.ofString "G")))) (.ret (.call1 6 (.loc 1))) .nil (.ite (.cmp .Eq (.loc 0) (.const (.str (Str.ofString "H")))) (.ret (.call1 7 (.loc 1))) .nil (.ite (.cmp .Eq (.loc 0) (.const (.str (Str.ofString "I")))) (.ret (.call1 8 (.loc 1))) .nil (.ite (.cmp .Eq (.loc 0) (.const (.str (Str.ofString "J")))) (.ret (.call1 9 (.loc 1))) .nil (.ite (.cmp .Eq (.loc 0) (.const (.str (Str.ofString "K")))) (.ret (.call1 10 (.loc 1))) .nil (.ite (.cmp .Eq (.loc 0) (.const (.str (Str.ofString "L")))) (.ret (.call1 11 (.loc 1))) .nil (.ite (.cmp .Eq (.loc 0) (.const (.str (Str.ofString "M")))) (.ret (.call1 12 (.loc 1))) .nil (.ite (.cmp .Eq (.loc 0) (.const (.str (Str.ofString "N")))) (.ret (.call1 13 (.loc 1))) .nil (.ite (.cmp .Eq (.loc 0) (.const (.str (Str.ofString "O")))) (.ret (.call1 14 (.loc 1))) .nil (.ite (.cmp .Eq (.loc 0) (.const (.str (Str.ofString "P")))) (.ret (.call1 15 (.loc 1))) .nil (.ite (.cmp .Eq (.loc 0) (.const (.str (Str.ofString "Q")))) (.ret (.call1 16 (.loc 1))) .nil (.ite (.cmp .Eq (.loc 0) (.const (.str (Str.ofString "R")))) (.ret (.call1 17 (.loc 1))) .nil (.ite (.cmp .Eq (.loc 0) (.const (.str (Str.ofString "S")))) (.ret (.call1 18 (.loc 1))) .nil (.ite (.cmp .Eq (.loc 0) (.const (.str (Str.ofString "T")))) (.ret (.call1 19 (.loc 1))) .nil (.ite (.cmp .Eq (.loc 0) (.const (.str (Str.ofString "U")))) (.ret (.call1 20 (.loc 1))) .nil (.ite (.cmp .Eq (.loc 0) (.const (.str (Str.ofString "V")))) (.ret (.call1 21 (.loc 1))) .nil (.ite (.cmp .Eq (.loc 0) (.const (.str (Str.ofString "W")))) (.ret (.call1 22 (.loc 1))) .nil (.ite (.cmp .Eq (.loc 0) (.const (.str (Str.ofString "X")))) (.ret (.call1 23 (.loc 1))) .nil (.ite (.cmp .Eq (.loc 0) (.const (.str (Str.ofString "Y")))) (.ret (.call1 24 (.loc 1))) .nil (.ite (.cmp .Eq (.loc 0) (.const (.str (Str.ofString "Z")))) (.ret (.call1 25 (.loc 1))) .nil (.ite (.cmp .Eq (.loc 0) (.const (.str (Str.ofString "a")))) (.ret (.call1 26 (.loc 1))) .nil (.ite (.cmp .Eq (.loc 0) (.const (.str (Str.ofString "b")))) (.ret (.call1 27 (.loc 1))) .nil (.ret (.call1 28 (.loc 1)))))))))))))))))))))))))))))))
noncomputable def Fholds : List PV → Option PV := runF [] condF 1 [0, 1] psholds
theorem tholds (w : World) (mean : ExcName → Option Value) (mg mb : Str → Option Value) : Tf w mean mg mb 2 224 Fholds := by
  refine' tells_def (gn := []) (fn := [Str.ofString "_A", Str.ofString "_B", Str.ofString "_C", Str.ofString "_D", Str.ofString "_E", Str.ofString "_F", Str.ofString "_G", Str.ofString "_H", Str.ofString "_I", Str.ofString "_J", Str.ofString "_K", Str.ofString "_L", Str.ofString "_M", Str.ofString "_N", Str.ofString "_O", Str.ofString "_P", Str.ofString "_Q", Str.ofString "_R", Str.ofString "_S", Str.ofString "_T", Str.ofString "_U", Str.ofString "_V", Str.ofString "_W", Str.ofString "_X", Str.ofString "_Y", Str.ofString "_Z", Str.ofString "_a", Str.ofString "_b", Str.ofString "_c"]) (n := 60) (xs := [Str.ofString "cond", Str.ofString "base"]) ?ho ?hcd ?hb ?hx ?hc ?hs ?hl (st_of .nil (.cons (okA w mean mg mb) (.cons (okB w mean mg mb) (.cons (okC w mean mg mb) (.cons (okD w mean mg mb) (.cons (okE w mean mg mb) (.cons (okF w mean mg mb) (.cons (okG w mean mg mb) (.cons (okH w mean mg mb) (.cons (okI w mean mg mb) (.cons (okJ w mean mg mb) (.cons (okK w mean mg mb) (.cons (okL w mean mg mb) (.cons (okM w mean mg mb) (.cons (okN w mean mg mb) (.cons (okO w mean mg mb) (.cons (okP w mean mg mb) (.cons (okQ w mean mg mb) (.cons (okR w mean mg mb) (.cons (okS w mean mg mb) (.cons (okT w mean mg mb) (.cons (okU w mean mg mb) (.cons (okV w mean mg mb) (.cons (okW w mean mg mb) (.cons (okX w mean mg mb) (.cons (okY w mean mg mb) (.cons (okZ w mean mg mb) (.cons (okSmA w mean mg mb) (.cons (okSmB w mean mg mb) (.cons (okSmC w mean mg mb) .nil))))))))))))))))))))))))))))))
  case ho => exact rfl
  case hcd => kernel_rfl
  case hb => intro s vs hl; match vs, hl with | [v0, v1], _ => exact BindsTo.of_eq rfl
  case hx => exact rfl
  case hc => kernel_rfl
  case hs => exact rfl
  case hl => decide
theorem okholds (w : World) (mean : ExcName → Option Value) (mg mb : Str → Option Value) : FOk w mean mg mb 2 (Str.ofString "_holds") Fholds := ⟨224, by kernel_rfl, by kernel_rfl, (tholds w mean mg mb).mono (by decide)⟩
noncomputable def tab1 : List (Str × Str) := [(Str.ofString "a", Str.ofString "A"), (Str.ofString "e", Str.ofString "A"), (Str.ofString "i", Str.ofString "A"), (Str.ofString "o", Str.ofString "A"), (Str.ofString "s", Str.ofString "W"), (Str.ofString "y", Str.ofString "B")]
noncomputable def tab2 : List (Str × Str) := [(Str.ofString "ae", Str.ofString "A"), (Str.ofString "al", Str.ofString "b"), (Str.ofString "ar", Str.ofString "X"), (Str.ofString "as", Str.ofString "B"), (Str.ofString "ed", Str.ofString "E"), (Str.ofString "en", Str.ofString "F"), (Str.ofString "es", Str.ofString "E"), (Str.ofString "ia", Str.ofString "A"), (Str.ofString "ic", Str.ofString "A"), (Str.ofString "is", Str.ofString "A"), (Str.ofString "ly", Str.ofString "B"), (Str.ofString "on", Str.ofString "S"), (Str.ofString "or", Str.ofString "T"), (Str.ofString "um", Str.ofString "U"), (Str.ofString "us", Str.ofString "V"), (Str.ofString "yl", Str.ofString "R"), (Str.ofString "s'", Str.ofString "A"), (Str.ofString "'s", Str.ofString "A")]
noncomputable def tab3 : List (Str × Str) := [(Str.ofString "acy", Str.ofString "A"), (Str.ofString "age", Str.ofString "B"), (Str.ofString "aic", Str.ofString "A"), (Str.ofString "als", Str.ofString "b"), (Str.ofString "ant", Str.ofString "B"), (Str.ofString "ars", Str.ofString "O"), (Str.ofString "ary", Str.ofString "F"), (Str.ofString "ata", Str.ofString "A"), (Str.ofString "ate", Str.ofString "A"), (Str.ofString "eal", Str.ofString "Y"), (Str.ofString "ear", Str.ofString "Y"), (Str.ofString "ely", Str.ofString "E"), (Str.ofString "ene", Str.ofString "E"), (Str.ofString "ent", Str.ofString "C"), (Str.ofString "ery", Str.ofString "E"), (Str.ofString "ese", Str.ofString "A"), (Str.ofString "ful", Str.ofString "A"), (Str.ofString "ial", Str.ofString "A"), (Str.ofString "ian", Str.ofString "A"), (Str.ofString "ics", Str.ofString "A"), (Str.ofString "ide", Str.ofString "L"), (Str.ofString "ied", Str.ofString "A"), (Str.ofString "ier", Str.ofString "A"), (Str.ofString "ies", Str.ofString "P"), (Str.ofString "ily", Str.ofString "A"), (Str.ofString "ine", Str.ofString "M"), (Str.ofString "ing", Str.ofString "N"), (Str.ofString "ion", Str.ofString "Q"), (Str.ofString "ish", Str.ofString "C"), (Str.ofString "ism", Str.ofString "B"), (Str.ofString "ist", Str.ofString "A"), (Str.ofString "ite", Str.ofString "a"), (Str.ofString "ity", Str.ofString "A"), (Str.ofString "ium", Str.ofString "A"), (Str.ofString "ive", Str.ofString "A"), (Str.ofString "ize", Str.ofString "F"), (Str.ofString "oid", Str.ofString "A"), (Str.ofString "one", Str.ofString "R"), (Str.ofString "ous", Str.ofString "A")]
noncomputable def tab4 : List (Str × Str) := [(Str.ofString "able", Str.ofString "A"), (Str.ofString "ably", Str.ofString "A"), (Str.ofString "ages", Str.ofString "B"), (Str.ofString "ally", Str.ofString "B"), (Str.ofString "ance", Str.ofString "B"), (Str.ofString "ancy", Str.ofString "B"), (Str.ofString "ants", Str.ofString "B"), (Str.ofString "aric", Str.ofString "A"), (Str.ofString "arly", Str.ofString "K"), (Str.ofString "ated", Str.ofString "I"), (Str.ofString "ates", Str.ofString "A"), (Str.ofString "atic", Str.ofString "B"), (Str.ofString "ator", Str.ofString "A"), (Str.ofString "ealy", Str.ofString "Y"), (Str.ofString "edly", Str.ofString "E"), (Str.ofString "eful", Str.ofString "A"), (Str.ofString "eity", Str.ofString "A"), (Str.ofString "ence", Str.ofString "A"), (Str.ofString "ency", Str.ofString "A"), (Str.ofString "ened", Str.ofString "E"), (Str.ofString "enly", Str.ofString "E"), (Str.ofString "eous", Str.ofString "A"), (Str.ofString "hood", Str.ofString "A"), (Str.ofString "ials", Str.ofString "A"), (Str.ofString "ians", Str.ofString "A"), (Str.ofString "ible", Str.ofString "A"), (Str.ofString "ibly", Str.ofString "A"), (Str.ofString "ical", Str.ofString "A"), (Str.ofString "ides", Str.ofString "L"), (Str.ofString "iers", Str.ofString "A"), (Str.ofString "iful", Str.ofString "A"), (Str.ofString "ines", Str.ofString "M"), (Str.ofString "ings", Str.ofString "N"), (Str.ofString "ions", Str.ofString "B"), (Str.ofString "ious", Str.ofString "A"), (Str.ofString "isms", Str.ofString "B"), (Str.ofString "ists", Str.ofString "A"), (Str.ofString "itic", Str.ofString "H"), (Str.ofString "ized", Str.ofString "F"), (Str.ofString "izer", Str.ofString "F"), (Str.ofString "less", Str.ofString "A"), (Str.ofString "lily", Str.ofString "A"), (Str.ofString "ness", Str.ofString "A"), (Str.ofString "ogen", Str.ofString "A"), (Str.ofString "ward", Str.ofString "A"), (Str.ofString "wise", Str.ofString "A"), (Str.ofString "ying", Str.ofString "B"), (Str.ofString "yish", Str.ofString "A")]
noncomputable def tab5 : List (Str × Str) := [(Str.ofString "acies", Str.ofString "A"), (Str.ofString "acity", Str.ofString "A"), (Str.ofString "aging", Str.ofString "B"), (Str.ofString "aical", Str.ofString "A"), (Str.ofString "alist", Str.ofString "A"), (Str.ofString "alism", Str.ofString "B"), (Str.ofString "ality", Str.ofString "A"), (Str.ofString "alize", Str.ofString "A"), (Str.ofString "allic", Str.ofString "b"), (Str.ofString "anced", Str.ofString "B"), (Str.ofString "ances", Str.ofString "B"), (Str.ofString "antic", Str.ofString "C"), (Str.ofString "arial", Str.ofString "A"), (Str.ofString "aries", Str.ofString "A"), (Str.ofString "arily", Str.ofString "A"), (Str.ofString "arity", Str.ofString "B"), (Str.ofString "arize", Str.ofString "A"), (Str.ofString "aroid", Str.ofString "A"), (Str.ofString "ately", Str.ofString "A"), (Str.ofString "ating", Str.ofString "I"), (Str.ofString "ation", Str.ofString "B"), (Str.ofString "ative", Str.ofString "A"), (Str.ofString "ators", Str.ofString "A"), (Str.ofString "atory", Str.ofString "A"), (Str.ofString "ature", Str.ofString "E"), (Str.ofString "early", Str.ofString "Y"), (Str.ofString "ehood", Str.ofString "A"), (Str.ofString "eless", Str.ofString "A"), (Str.ofString "elily", Str.ofString "A"), (Str.ofString "ement", Str.ofString "A"), (Str.ofString "enced", Str.ofString "A"), (Str.ofString "ences", Str.ofString "A"), (Str.ofString "eness", Str.ofString "E"), (Str.ofString "ening", Str.ofString "E"), (Str.ofString "ental", Str.ofString "A"), (Str.ofString "ented", Str.ofString "C"), (Str.ofString "ently", Str.ofString "A"), (Str.ofString "fully", Str.ofString "A"), (Str.ofString "ially", Str.ofString "A"), (Str.ofString "icant", Str.ofString "A"), (Str.ofString "ician", Str.ofString "A"), (Str.ofString "icide", Str.ofString "A"), (Str.ofString "icism", Str.ofString "A"), (Str.ofString "icist", Str.ofString "A"), (Str.ofString "icity", Str.ofString "A"), (Str.ofString "idine", Str.ofString "I"), (Str.ofString "iedly", Str.ofString "A"), (Str.ofString "ihood", Str.ofString "A"), (Str.ofString "inate", Str.ofString "A"), (Str.ofString "iness", Str.ofString "A"), (Str.ofString "ingly", Str.ofString "B"), (Str.ofString "inism", Str.ofString "J"), (Str.ofString "inity", Str.ofString "c"), (Str.ofString "ional", Str.ofString "A"), (Str.ofString "ioned", Str.ofString "A"), (Str.ofString "ished", Str.ofString "A"), (Str.ofString "istic", Str.ofString "A"), (Str.ofString "ities", Str.ofString "A"), (Str.ofString "itous", Str.ofString "A"), (Str.ofString "ively", Str.ofString "A"), (Str.ofString "ivity", Str.ofString "A"), (Str.ofString "izers", Str.ofString "F"), (Str.ofString "izing", Str.ofString "F"), (Str.ofString "oidal", Str.ofString "A"), (Str.ofString "oides", Str.ofString "A"), (Str.ofString "otide", Str.ofString "A"), (Str.ofString "ously", Str.ofString "A")]
noncomputable def tab6 : List (Str × Str) := [(Str.ofString "aceous", Str.ofString "A"), (Str.ofString "acious", Str.ofString "B"), (Str.ofString "action", Str.ofString "G"), (Str.ofString "alness", Str.ofString "A"), (Str.ofString "ancial", Str.ofString "A"), (Str.ofString "ancies", Str.ofString "A"), (Str.ofString "ancing", Str.ofString "B"), (Str.ofString "ariser", Str.ofString "A"), (Str.ofString "arized", Str.ofString "A"), (Str.ofString "arizer", Str.ofString "A"), (Str.ofString "atable", Str.ofString "A"), (Str.ofString "ations", Str.ofString "B"), (Str.ofString "atives", Str.ofString "A"), (Str.ofString "eature", Str.ofString "Z"), (Str.ofString "efully", Str.ofString "A"), (Str.ofString "encies", Str.ofString "A"), (Str.ofString "encing", Str.ofString "A"), (Str.ofString "ential", Str.ofString "A"), (Str.ofString "enting", Str.ofString "C"), (Str.ofString "entist", Str.ofString "A"), (Str.ofString "eously", Str.ofString "A"), (Str.ofString "ialist", Str.ofString "A"), (Str.ofString "iality", Str.ofString "A"), (Str.ofString "ialize", Str.ofString "A"), (Str.ofString "ically", Str.ofString "A"), (Str.ofString "icance", Str.ofString "A"), (Str.ofString "icians", Str.ofString "A"), (Str.ofString "icists", Str.ofString "A"), (Str.ofString "ifully", Str.ofString "A"), (Str.ofString "ionals", Str.ofString "A"), (Str.ofString "ionate", Str.ofString "D"), (Str.ofString "ioning", Str.ofString "A"), (Str.ofString "ionist", Str.ofString "A"), (Str.ofString "iously", Str.ofString "A"), (Str.ofString "istics", Str.ofString "A"), (Str.ofString "izable", Str.ofString "E"), (Str.ofString "lessly", Str.ofString "A"), (Str.ofString "nesses", Str.ofString "A"), (Str.ofString "oidism", Str.ofString "A")]
noncomputable def tab7 : List (Str × Str) := [(Str.ofString "ability", Str.ofString "A"), (Str.ofString "aically", Str.ofString "A"), (Str.ofString "alistic", Str.ofString "B"), (Str.ofString "alities", Str.ofString "A"), (Str.ofString "ariness", Str.ofString "E"), (Str.ofString "aristic", Str.ofString "A"), (Str.ofString "arizing", Str.ofString "A"), (Str.ofString "ateness", Str.ofString "A"), (Str.ofString "atingly", Str.ofString "A"), (Str.ofString "ational", Str.ofString "B"), (Str.ofString "atively", Str.ofString "A"), (Str.ofString "ativism", Str.ofString "A"), (Str.ofString "elihood", Str.ofString "E"), (Str.ofString "encible", Str.ofString "A"), (Str.ofString "entally", Str.ofString "A"), (Str.ofString "entials", Str.ofString "A"), (Str.ofString "entiate", Str.ofString "A"), (Str.ofString "entness", Str.ofString "A"), (Str.ofString "fulness", Str.ofString "A"), (Str.ofString "ibility", Str.ofString "A"), (Str.ofString "icalism", Str.ofString "A"), (Str.ofString "icalist", Str.ofString "A"), (Str.ofString "icality", Str.ofString "A"), (Str.ofString "icalize", Str.ofString "A"), (Str.ofString "ication", Str.ofString "G"), (Str.ofString "icianry", Str.ofString "A"), (Str.ofString "ination", Str.ofString "A"), (Str.ofString "ingness", Str.ofString "A"), (Str.ofString "ionally", Str.ofString "A"), (Str.ofString "isation", Str.ofString "A"), (Str.ofString "ishness", Str.ofString "A"), (Str.ofString "istical", Str.ofString "A"), (Str.ofString "iteness", Str.ofString "A"), (Str.ofString "iveness", Str.ofString "A"), (Str.ofString "ivistic", Str.ofString "A"), (Str.ofString "ivities", Str.ofString "A"), (Str.ofString "ization", Str.ofString "F"), (Str.ofString "izement", Str.ofString "A"), (Str.ofString "oidally", Str.ofString "A"), (Str.ofString "ousness", Str.ofString "A")]
noncomputable def tab8 : List (Str × Str) := [(Str.ofString "ableness", Str.ofString "A"), (Str.ofString "arizable", Str.ofString "A"), (Str.ofString "entation", Str.ofString "A"), (Str.ofString "entially", Str.ofString "A"), (Str.ofString "eousness", Str.ofString "A"), (Str.ofString "ibleness", Str.ofString "A"), (Str.ofString "icalness", Str.ofString "A"), (Str.ofString "ionalism", Str.ofString "A"), (Str.ofString "ionality", Str.ofString "A"), (Str.ofString "ionalize", Str.ofString "A"), (Str.ofString "iousness", Str.ofString "A"), (Str.ofString "izations", Str.ofString "A"), (Str.ofString "lessness", Str.ofString "A")]
noncomputable def tab9 : List (Str × Str) := [(Str.ofString "allically", Str.ofString "C"), (Str.ofString "antaneous", Str.ofString "A"), (Str.ofString "antiality", Str.ofString "A"), (Str.ofString "arisation", Str.ofString "A"), (Str.ofString "arization", Str.ofString "A"), (Str.ofString "ationally", Str.ofString "B"), (Str.ofString "ativeness", Str.ofString "A"), (Str.ofString "eableness", Str.ofString "E"), (Str.ofString "entations", Str.ofString "A"), (Str.ofString "entiality", Str.ofString "A"), (Str.ofString "entialize", Str.ofString "A"), (Str.ofString "entiation", Str.ofString "A"), (Str.ofString "ionalness", Str.ofString "A"), (Str.ofString "istically", Str.ofString "A"), (Str.ofString "itousness", Str.ofString "A"), (Str.ofString "izability", Str.ofString "A"), (Str.ofString "izational", Str.ofString "A")]
noncomputable def tab10 : List (Str × Str) := [(Str.ofString "antialness", Str.ofString "A"), (Str.ofString "arisations", Str.ofString "A"), (Str.ofString "arizations", Str.ofString "A"), (Str.ofString "entialness", Str.ofString "A")]
noncomputable def tab11 : List (Str × Str) := [(Str.ofString "alistically", Str.ofString "B"), (Str.ofString "arizability", Str.ofString "A"), (Str.ofString "izationally", Str.ofString "B")]
noncomputable def dictP (l : List (Str × Str)) : PV := .dict (l.map (·.1)) (l.map fun p => .str p.2)
noncomputable def tabs : List (List (Str × Str)) := [tab1, tab2, tab3, tab4, tab5, tab6, tab7, tab8, tab9, tab10, tab11]
noncomputable def mP : PV := .seq true (.none :: tabs.map dictP)
noncomputable def endRules : List (Str × List (List Str)) := [(Str.ofString "v", [[Str.ofString "iev", Str.ofString "ief"], [Str.ofString "iev", Str.ofString "ief"], [Str.ofString "olv", Str.ofString "olut"]]),
  (Str.ofString "t", [[Str.ofString "uct", Str.ofString "uc"], [Str.ofString "uct", Str.ofString "uc"], [Str.ofString "umpt", Str.ofString "um"], [Str.ofString "rpt", Str.ofString "rb"], [Str.ofString "mit", Str.ofString "mis"], [Str.ofString "ent", Str.ofString "ens", Str.ofString "m"], [Str.ofString "ert", Str.ofString "ers"], [Str.ofString "et", Str.ofString "es", Str.ofString "n"], [Str.ofString "yt", Str.ofString "ys"]]),
  (Str.ofString "s", [[Str.ofString "urs", Str.ofString "ur"]]),
  (Str.ofString "r", [[Str.ofString "istr", Str.ofString "ister"], [Str.ofString "metr", Str.ofString "meter"], [Str.ofString "her", Str.ofString "hes", Str.ofString "pt"]]),
  (Str.ofString "l", [[Str.ofString "ul", Str.ofString "l", Str.ofString "aoi"]]),
  (Str.ofString "x", [[Str.ofString "bex", Str.ofString "bic"], [Str.ofString "dex", Str.ofString "dic"], [Str.ofString "pex", Str.ofString "pic"], [Str.ofString "tex", Str.ofString "tic"], [Str.ofString "ax", Str.ofString "ac"], [Str.ofString "ex", Str.ofString "ec"], [Str.ofString "ix", Str.ofString "ic"], [Str.ofString "lux", Str.ofString "luc"]]),
  (Str.ofString "d", [[Str.ofString "uad", Str.ofString "uas"], [Str.ofString "vad", Str.ofString "vas"], [Str.ofString "cid", Str.ofString "cis"], [Str.ofString "lid", Str.ofString "lis"], [Str.ofString "erid", Str.ofString "eris"], [Str.ofString "pand", Str.ofString "pans"], [Str.ofString "end", Str.ofString "ens", Str.ofString "s"], [Str.ofString "ond", Str.ofString "ons"], [Str.ofString "lud", Str.ofString "lus"], [Str.ofString "rud", Str.ofString "rus"]]),
  (Str.ofString "z", [[Str.ofString "yz", Str.ofString "ys"]])]
noncomputable def rowP (r : List Str) : PV := .seq false (r.map .str)
noncomputable def endP : PV := .dict (endRules.map (·.1)) (endRules.map fun p => .seq true (p.2.map rowP))
noncomputable def doubles : List Str := [Str.ofString "dd", Str.ofString "gg", Str.ofString "ll", Str.ofString "mm", Str.ofString "nn", Str.ofString "pp", Str.ofString "rr", Str.ofString "ss", Str.ofString "tt"]
noncomputable def doublesP : PV := .seq false (doubles.map .str)
noncomputable def goesL : List Str := [Str.ofString " ",
  Str.ofString " a:A e:A i:A o:A s:W y:B ",
  Str.ofString " ae:A al:b ar:X as:B ed:E en:F es:E ia:A ic:A is:A ly:B on:S or:T um:U us:V yl:R s':A 's:A ",
  Str.ofString " acy:A age:B aic:A als:b ant:B ars:O ary:F ata:A ate:A eal:Y ear:Y ely:E ene:E ent:C ery:E ese:A ful:A ial:A ian:A ics:A ide:L ied:A ier:A ies:P ily:A ine:M ing:N ion:Q ish:C ism:B ist:A ite:a ity:A ium:A ive:A ize:F oid:A one:R ous:A ",
  Str.ofString " able:A ably:A ages:B ally:B ance:B ancy:B ants:B aric:A arly:K ated:I ates:A atic:B ator:A ealy:Y edly:E eful:A eity:A ence:A ency:A ened:E enly:E eous:A hood:A ials:A ians:A ible:A ibly:A ical:A ides:L iers:A iful:A ines:M ings:N ions:B ious:A isms:B ists:A itic:H ized:F izer:F less:A lily:A ness:A ogen:A ward:A wise:A ying:B yish:A ",
  Str.ofString " acies:A acity:A aging:B aical:A alist:A alism:B ality:A alize:A allic:b anced:B ances:B antic:C arial:A aries:A arily:A arity:B arize:A aroid:A ately:A ating:I ation:B ative:A ators:A atory:A ature:E early:Y ehood:A eless:A ement:A enced:A ences:A eness:E ening:E ental:A ented:C ently:A fully:A ially:A icant:A ician:A icide:A icism:A icist:A icity:A idine:I iedly:A ihood:A inate:A iness:A ingly:B inism:J inity:c ional:A ioned:A ished:A istic:A ities:A itous:A ively:A ivity:A izers:F izing:F oidal:A oides:A otide:A ously:A ",
  Str.ofString " aceous:A acious:B action:G alness:A ancial:A ancies:A ancing:B ariser:A arized:A arizer:A atable:A ations:B atives:A eature:Z efully:A encies:A encing:A ential:A enting:C entist:A eously:A ialist:A iality:A ialize:A ically:A icance:A icians:A icists:A ifully:A ionals:A ionate:D ioning:A ionist:A iously:A istics:A izable:E lessly:A nesses:A oidism:A ",
  Str.ofString " ability:A aically:A alistic:B alities:A ariness:E aristic:A arizing:A ateness:A atingly:A ational:B atively:A ativism:A elihood:E encible:A entally:A entials:A entiate:A entness:A fulness:A ibility:A icalism:A icalist:A icality:A icalize:A ication:G icianry:A ination:A ingness:A ionally:A isation:A ishness:A istical:A iteness:A iveness:A ivistic:A ivities:A ization:F izement:A oidally:A ousness:A ",
  Str.ofString " ableness:A arizable:A entation:A entially:A eousness:A ibleness:A icalness:A ionalism:A ionality:A ionalize:A iousness:A izations:A lessness:A ",
  Str.ofString " allically:C antaneous:A antiality:A arisation:A arization:A ationally:B ativeness:A eableness:E entations:A entiality:A entialize:A entiation:A ionalness:A istically:A itousness:A izability:A izational:A ",
  Str.ofString " antialness:A arisations:A arizations:A entialness:A ",
  Str.ofString " alistically:B arizability:A izationally:B "]
noncomputable def goesP : PV := .seq true (goesL.map .str)
theorem go_doubles (w : World) : GOk w (Str.ofString "_doubles") doublesP := ⟨.ref 661, by kernel_rfl, fun _ X => chk_sound (Ds := []) (by intro d ks h; cases h) X (by kernel_rfl)⟩
theorem ofString_list (s : String) (l : List Char) (h : s = String.ofList l) : Str.ofString s = ⟨(l.map Char.toNat).toArray⟩ := by
  subst h
  unfold Str.ofString
  rw [cpsOfBytes_string, String.toList_ofList]
theorem isAll_str {prog : Program} {w : World} {h : Heap} {x : Str} {t : Tok} {ps : List PV} {vs : List Value} (hx : x.length ≤ lenLid) (r : IsAll prog w h ps vs) : IsAll prog w h (.str x :: ps) (.str x t :: vs) := by
  simp only [IsAll]
  exact ⟨_, _, rfl, mk_str hx, r⟩
theorem goesEq0 : Str.ofString " " = ⟨#[32]⟩ := ofString_list _ [' '] (by kernel_rfl)
theorem goesLe0 : (Str.ofString " ").length ≤ lenLid := by rw [goesEq0]; exact Nat.le_of_ble_eq_true rfl
theorem goesEq1 : Str.ofString " a:A e:A i:A o:A s:W y:B " = ⟨#[32, 97, 58, 65, 32, 101, 58, 65, 32, 105, 58, 65, 32, 111, 58, 65, 32, 115, 58, 87, 32, 121, 58, 66, 32]⟩ := ofString_list _ [' ', 'a', ':', 'A', ' ', 'e', ':', 'A', ' ', 'i', ':', 'A', ' ', 'o', ':', 'A', ' ', 's', ':', 'W', ' ', 'y', ':', 'B', ' '] (by kernel_rfl)
theorem goesLe1 : (Str.ofString " a:A e:A i:A o:A s:W y:B ").length ≤ lenLid := by rw [goesEq1]; exact Nat.le_of_ble_eq_true rfl
theorem goesEq2 : Str.ofString " ae:A al:b ar:X as:B ed:E en:F es:E ia:A ic:A is:A ly:B on:S or:T um:U us:V yl:R s':A 's:A " = ⟨#[32, 97, 101, 58, 65, 32, 97, 108, 58, 98, 32, 97, 114, 58, 88, 32, 97, 115, 58, 66, 32, 101, 100, 58, 69, 32, 101, 110, 58, 70, 32, 101, 115, 58, 69, 32, 105, 97, 58, 65, 32, 105, 99, 58, 65, 32, 105, 115, 58, 65, 32, 108, 121, 58, 66, 32, 111, 110, 58, 83, 32, 111, 114, 58, 84, 32, 117, 109, 58, 85, 32, 117, 115, 58, 86, 32, 121, 108, 58, 82, 32, 115, 39, 58, 65, 32, 39, 115, 58, 65, 32]⟩ := ofString_list _ [' ', 'a', 'e', ':', 'A', ' ', 'a', 'l', ':', 'b', ' ', 'a', 'r', ':', 'X', ' ', 'a', 's', ':', 'B', ' ', 'e', 'd', ':', 'E', ' ', 'e', 'n', ':', 'F', ' ', 'e', 's', ':', 'E', ' ', 'i', 'a', ':', 'A', ' ', 'i', 'c', ':', 'A', ' ', 'i', 's', ':', 'A', ' ', 'l', 'y', ':', 'B', ' ', 'o', 'n', ':', 'S', ' ', 'o', 'r', ':', 'T', ' ', 'u', 'm', ':', 'U', ' ', 'u', 's', ':', 'V', ' ', 'y', 'l', ':', 'R', ' ', 's', '\'', ':', 'A', ' ', '\'', 's', ':', 'A', ' '] (by kernel_rfl)
theorem goesLe2 : (Str.ofString " ae:A al:b ar:X as:B ed:E en:F es:E ia:A ic:A is:A ly:B on:S or:T um:U us:V yl:R s':A 's:A ").length ≤ lenLid := by rw [goesEq2]; exact Nat.le_of_ble_eq_true rfl
theorem goesEq3 : Str.ofString " acy:A age:B aic:A als:b ant:B ars:O ary:F ata:A ate:A eal:Y ear:Y ely:E ene:E ent:C ery:E ese:A ful:A ial:A ian:A ics:A ide:L ied:A ier:A ies:P ily:A ine:M ing:N ion:Q ish:C ism:B ist:A ite:a ity:A ium:A ive:A ize:F oid:A one:R ous:A " = ⟨#[32, 97, 99, 121, 58, 65, 32, 97, 103, 101, 58, 66, 32, 97, 105, 99, 58, 65, 32, 97, 108, 115, 58, 98, 32, 97, 110, 116, 58, 66, 32, 97, 114, 115, 58, 79, 32, 97, 114, 121, 58, 70, 32, 97, 116, 97, 58, 65, 32, 97, 116, 101, 58, 65, 32, 101, 97, 108, 58, 89, 32, 101, 97, 114, 58, 89, 32, 101, 108, 121, 58, 69, 32, 101, 110, 101, 58, 69, 32, 101, 110, 116, 58, 67, 32, 101, 114, 121, 58, 69, 32, 101, 115, 101, 58, 65, 32, 102, 117, 108, 58, 65, 32, 105, 97, 108, 58, 65, 32, 105, 97, 110, 58, 65, 32, 105, 99, 115, 58, 65, 32, 105, 100, 101, 58, 76, 32, 105, 101, 100, 58, 65, 32, 105, 101, 114, 58, 65, 32, 105, 101, 115, 58, 80, 32, 105, 108, 121, 58, 65, 32, 105, 110, 101, 58, 77, 32, 105, 110, 103, 58, 78, 32, 105, 111, 110, 58, 81, 32, 105, 115, 104, 58, 67, 32, 105, 115, 109, 58, 66, 32, 105, 115, 116, 58, 65, 32, 105, 116, 101, 58, 97, 32, 105, 116, 121, 58, 65, 32, 105, 117, 109, 58, 65, 32, 105, 118, 101, 58, 65, 32, 105, 122, 101, 58, 70, 32, 111, 105, 100, 58, 65, 32, 111, 110, 101, 58, 82, 32, 111, 117, 115, 58, 65, 32]⟩ := ofString_list _ [' ', 'a', 'c', 'y', ':', 'A', ' ', 'a', 'g', 'e', ':', 'B', ' ', 'a', 'i', 'c', ':', 'A', ' ', 'a', 'l', 's', ':', 'b', ' ', 'a', 'n', 't', ':', 'B', ' ', 'a', 'r', 's', ':', 'O', ' ', 'a', 'r', 'y', ':', 'F', ' ', 'a', 't', 'a', ':', 'A', ' ', 'a', 't', 'e', ':', 'A', ' ', 'e', 'a', 'l', ':', 'Y', ' ', 'e', 'a', 'r', ':', 'Y', ' ', 'e', 'l', 'y', ':', 'E', ' ', 'e', 'n', 'e', ':', 'E', ' ', 'e', 'n', 't', ':', 'C', ' ', 'e', 'r', 'y', ':', 'E', ' ', 'e', 's', 'e', ':', 'A', ' ', 'f', 'u', 'l', ':', 'A', ' ', 'i', 'a', 'l', ':', 'A', ' ', 'i', 'a', 'n', ':', 'A', ' ', 'i', 'c', 's', ':', 'A', ' ', 'i', 'd', 'e', ':', 'L', ' ', 'i', 'e', 'd', ':', 'A', ' ', 'i', 'e', 'r', ':', 'A', ' ', 'i', 'e', 's', ':', 'P', ' ', 'i', 'l', 'y', ':', 'A', ' ', 'i', 'n', 'e', ':', 'M', ' ', 'i', 'n', 'g', ':', 'N', ' ', 'i', 'o', 'n', ':', 'Q', ' ', 'i', 's', 'h', ':', 'C', ' ', 'i', 's', 'm', ':', 'B', ' ', 'i', 's', 't', ':', 'A', ' ', 'i', 't', 'e', ':', 'a', ' ', 'i', 't', 'y', ':', 'A', ' ', 'i', 'u', 'm', ':', 'A', ' ', 'i', 'v', 'e', ':', 'A', ' ', 'i', 'z', 'e', ':', 'F', ' ', 'o', 'i', 'd', ':', 'A', ' ', 'o', 'n', 'e', ':', 'R', ' ', 'o', 'u', 's', ':', 'A', ' '] (by kernel_rfl)
theorem goesLe3 : (Str.ofString " acy:A age:B aic:A als:b ant:B ars:O ary:F ata:A ate:A eal:Y ear:Y ely:E ene:E ent:C ery:E ese:A ful:A ial:A ian:A ics:A ide:L ied:A ier:A ies:P ily:A ine:M ing:N ion:Q ish:C ism:B ist:A ite:a ity:A ium:A ive:A ize:F oid:A one:R ous:A ").length ≤ lenLid := by rw [goesEq3]; exact Nat.le_of_ble_eq_true rfl
theorem goesEq4 : Str.ofString " able:A ably:A ages:B ally:B ance:B ancy:B ants:B aric:A arly:K ated:I ates:A atic:B ator:A ealy:Y edly:E eful:A eity:A ence:A ency:A ened:E enly:E eous:A hood:A ials:A ians:A ible:A ibly:A ical:A ides:L iers:A iful:A ines:M ings:N ions:B ious:A isms:B ists:A itic:H ized:F izer:F less:A lily:A ness:A ogen:A ward:A wise:A ying:B yish:A " = ⟨#[32, 97, 98, 108, 101, 58, 65, 32, 97, 98, 108, 121, 58, 65, 32, 97, 103, 101, 115, 58, 66, 32, 97, 108, 108, 121, 58, 66, 32, 97, 110, 99, 101, 58, 66, 32, 97, 110, 99, 121, 58, 66, 32, 97, 110, 116, 115, 58, 66, 32, 97, 114, 105, 99, 58, 65, 32, 97, 114, 108, 121, 58, 75, 32, 97, 116, 101, 100, 58, 73, 32, 97, 116, 101, 115, 58, 65, 32, 97, 116, 105, 99, 58, 66, 32, 97, 116, 111, 114, 58, 65, 32, 101, 97, 108, 121, 58, 89, 32, 101, 100, 108, 121, 58, 69, 32, 101, 102, 117, 108, 58, 65, 32, 101, 105, 116, 121, 58, 65, 32, 101, 110, 99, 101, 58, 65, 32, 101, 110, 99, 121, 58, 65, 32, 101, 110, 101, 100, 58, 69, 32, 101, 110, 108, 121, 58, 69, 32, 101, 111, 117, 115, 58, 65, 32, 104, 111, 111, 100, 58, 65, 32, 105, 97, 108, 115, 58, 65, 32, 105, 97, 110, 115, 58, 65, 32, 105, 98, 108, 101, 58, 65, 32, 105, 98, 108, 121, 58, 65, 32, 105, 99, 97, 108, 58, 65, 32, 105, 100, 101, 115, 58, 76, 32, 105, 101, 114, 115, 58, 65, 32, 105, 102, 117, 108, 58, 65, 32, 105, 110, 101, 115, 58, 77, 32, 105, 110, 103, 115, 58, 78, 32, 105, 111, 110, 115, 58, 66, 32, 105, 111, 117, 115, 58, 65, 32, 105, 115, 109, 115, 58, 66, 32, 105, 115, 116, 115, 58, 65, 32, 105, 116, 105, 99, 58, 72, 32, 105, 122, 101, 100, 58, 70, 32, 105, 122, 101, 114, 58, 70, 32, 108, 101, 115, 115, 58, 65, 32, 108, 105, 108, 121, 58, 65, 32, 110, 101, 115, 115, 58, 65, 32, 111, 103, 101, 110, 58, 65, 32, 119, 97, 114, 100, 58, 65, 32, 119, 105, 115, 101, 58, 65, 32, 121, 105, 110, 103, 58, 66, 32, 121, 105, 115, 104, 58, 65, 32]⟩ := ofString_list _ [' ', 'a', 'b', 'l', 'e', ':', 'A', ' ', 'a', 'b', 'l', 'y', ':', 'A', ' ', 'a', 'g', 'e', 's', ':', 'B', ' ', 'a', 'l', 'l', 'y', ':', 'B', ' ', 'a', 'n', 'c', 'e', ':', 'B', ' ', 'a', 'n', 'c', 'y', ':', 'B', ' ', 'a', 'n', 't', 's', ':', 'B', ' ', 'a', 'r', 'i', 'c', ':', 'A', ' ', 'a', 'r', 'l', 'y', ':', 'K', ' ', 'a', 't', 'e', 'd', ':', 'I', ' ', 'a', 't', 'e', 's', ':', 'A', ' ', 'a', 't', 'i', 'c', ':', 'B', ' ', 'a', 't', 'o', 'r', ':', 'A', ' ', 'e', 'a', 'l', 'y', ':', 'Y', ' ', 'e', 'd', 'l', 'y', ':', 'E', ' ', 'e', 'f', 'u', 'l', ':', 'A', ' ', 'e', 'i', 't', 'y', ':', 'A', ' ', 'e', 'n', 'c', 'e', ':', 'A', ' ', 'e', 'n', 'c', 'y', ':', 'A', ' ', 'e', 'n', 'e', 'd', ':', 'E', ' ', 'e', 'n', 'l', 'y', ':', 'E', ' ', 'e', 'o', 'u', 's', ':', 'A', ' ', 'h', 'o', 'o', 'd', ':', 'A', ' ', 'i', 'a', 'l', 's', ':', 'A', ' ', 'i', 'a', 'n', 's', ':', 'A', ' ', 'i', 'b', 'l', 'e', ':', 'A', ' ', 'i', 'b', 'l', 'y', ':', 'A', ' ', 'i', 'c', 'a', 'l', ':', 'A', ' ', 'i', 'd', 'e', 's', ':', 'L', ' ', 'i', 'e', 'r', 's', ':', 'A', ' ', 'i', 'f', 'u', 'l', ':', 'A', ' ', 'i', 'n', 'e', 's', ':', 'M', ' ', 'i', 'n', 'g', 's', ':', 'N', ' ', 'i', 'o', 'n', 's', ':', 'B', ' ', 'i', 'o', 'u', 's', ':', 'A', ' ', 'i', 's', 'm', 's', ':', 'B', ' ', 'i', 's', 't', 's', ':', 'A', ' ', 'i', 't', 'i', 'c', ':', 'H', ' ', 'i', 'z', 'e', 'd', ':', 'F', ' ', 'i', 'z', 'e', 'r', ':', 'F', ' ', 'l', 'e', 's', 's', ':', 'A', ' ', 'l', 'i', 'l', 'y', ':', 'A', ' ', 'n', 'e', 's', 's', ':', 'A', ' ', 'o', 'g', 'e', 'n', ':', 'A', ' ', 'w', 'a', 'r', 'd', ':', 'A', ' ', 'w', 'i', 's', 'e', ':', 'A', ' ', 'y', 'i', 'n', 'g', ':', 'B', ' ', 'y', 'i', 's', 'h', ':', 'A', ' '] (by kernel_rfl)
theorem goesLe4 : (Str.ofString " able:A ably:A ages:B ally:B ance:B ancy:B ants:B aric:A arly:K ated:I ates:A atic:B ator:A ealy:Y edly:E eful:A eity:A ence:A ency:A ened:E enly:E eous:A hood:A ials:A ians:A ible:A ibly:A ical:A ides:L iers:A iful:A ines:M ings:N ions:B ious:A isms:B ists:A itic:H ized:F izer:F less:A lily:A ness:A ogen:A ward:A wise:A ying:B yish:A ").length ≤ lenLid := by rw [goesEq4]; exact Nat.le_of_ble_eq_true rfl
theorem goesEq5 : Str.ofString " acies:A acity:A aging:B aical:A alist:A alism:B ality:A alize:A allic:b anced:B ances:B antic:C arial:A aries:A arily:A arity:B arize:A aroid:A ately:A ating:I ation:B ative:A ators:A atory:A ature:E early:Y ehood:A eless:A ement:A enced:A ences:A eness:E ening:E ental:A ented:C ently:A fully:A ially:A icant:A ician:A icide:A icism:A icist:A icity:A idine:I iedly:A ihood:A inate:A iness:A ingly:B inism:J inity:c ional:A ioned:A ished:A istic:A ities:A itous:A ively:A ivity:A izers:F izing:F oidal:A oides:A otide:A ously:A " = ⟨#[32, 97, 99, 105, 101, 115, 58, 65, 32, 97, 99, 105, 116, 121, 58, 65, 32, 97, 103, 105, 110, 103, 58, 66, 32, 97, 105, 99, 97, 108, 58, 65, 32, 97, 108, 105, 115, 116, 58, 65, 32, 97, 108, 105, 115, 109, 58, 66, 32, 97, 108, 105, 116, 121, 58, 65, 32, 97, 108, 105, 122, 101, 58, 65, 32, 97, 108, 108, 105, 99, 58, 98, 32, 97, 110, 99, 101, 100, 58, 66, 32, 97, 110, 99, 101, 115, 58, 66, 32, 97, 110, 116, 105, 99, 58, 67, 32, 97, 114, 105, 97, 108, 58, 65, 32, 97, 114, 105, 101, 115, 58, 65, 32, 97, 114, 105, 108, 121, 58, 65, 32, 97, 114, 105, 116, 121, 58, 66, 32, 97, 114, 105, 122, 101, 58, 65, 32, 97, 114, 111, 105, 100, 58, 65, 32, 97, 116, 101, 108, 121, 58, 65, 32, 97, 116, 105, 110, 103, 58, 73, 32, 97, 116, 105, 111, 110, 58, 66, 32, 97, 116, 105, 118, 101, 58, 65, 32, 97, 116, 111, 114, 115, 58, 65, 32, 97, 116, 111, 114, 121, 58, 65, 32, 97, 116, 117, 114, 101, 58, 69, 32, 101, 97, 114, 108, 121, 58, 89, 32, 101, 104, 111, 111, 100, 58, 65, 32, 101, 108, 101, 115, 115, 58, 65, 32, 101, 109, 101, 110, 116, 58, 65, 32, 101, 110, 99, 101, 100, 58, 65, 32, 101, 110, 99, 101, 115, 58, 65, 32, 101, 110, 101, 115, 115, 58, 69, 32, 101, 110, 105, 110, 103, 58, 69, 32, 101, 110, 116, 97, 108, 58, 65, 32, 101, 110, 116, 101, 100, 58, 67, 32, 101, 110, 116, 108, 121, 58, 65, 32, 102, 117, 108, 108, 121, 58, 65, 32, 105, 97, 108, 108, 121, 58, 65, 32, 105, 99, 97, 110, 116, 58, 65, 32, 105, 99, 105, 97, 110, 58, 65, 32, 105, 99, 105, 100, 101, 58, 65, 32, 105, 99, 105, 115, 109, 58, 65, 32, 105, 99, 105, 115, 116, 58, 65, 32, 105, 99, 105, 116, 121, 58, 65, 32, 105, 100, 105, 110, 101, 58, 73, 32, 105, 101, 100, 108, 121, 58, 65, 32, 105, 104, 111, 111, 100, 58, 65, 32, 105, 110, 97, 116, 101, 58, 65, 32, 105, 110, 101, 115, 115, 58, 65, 32, 105, 110, 103, 108, 121, 58, 66, 32, 105, 110, 105, 115, 109, 58, 74, 32, 105, 110, 105, 116, 121, 58, 99, 32, 105, 111, 110, 97, 108, 58, 65, 32, 105, 111, 110, 101, 100, 58, 65, 32, 105, 115, 104, 101, 100, 58, 65, 32, 105, 115, 116, 105, 99, 58, 65, 32, 105, 116, 105, 101, 115, 58, 65, 32, 105, 116, 111, 117, 115, 58, 65, 32, 105, 118, 101, 108, 121, 58, 65, 32, 105, 118, 105, 116, 121, 58, 65, 32, 105, 122, 101, 114, 115, 58, 70, 32, 105, 122, 105, 110, 103, 58, 70, 32, 111, 105, 100, 97, 108, 58, 65, 32, 111, 105, 100, 101, 115, 58, 65, 32, 111, 116, 105, 100, 101, 58, 65, 32, 111, 117, 115, 108, 121, 58, 65, 32]⟩ := ofString_list _ [' ', 'a', 'c', 'i', 'e', 's', ':', 'A', ' ', 'a', 'c', 'i', 't', 'y', ':', 'A', ' ', 'a', 'g', 'i', 'n', 'g', ':', 'B', ' ', 'a', 'i', 'c', 'a', 'l', ':', 'A', ' ', 'a', 'l', 'i', 's', 't', ':', 'A', ' ', 'a', 'l', 'i', 's', 'm', ':', 'B', ' ', 'a', 'l', 'i', 't', 'y', ':', 'A', ' ', 'a', 'l', 'i', 'z', 'e', ':', 'A', ' ', 'a', 'l', 'l', 'i', 'c', ':', 'b', ' ', 'a', 'n', 'c', 'e', 'd', ':', 'B', ' ', 'a', 'n', 'c', 'e', 's', ':', 'B', ' ', 'a', 'n', 't', 'i', 'c', ':', 'C', ' ', 'a', 'r', 'i', 'a', 'l', ':', 'A', ' ', 'a', 'r', 'i', 'e', 's', ':', 'A', ' ', 'a', 'r', 'i', 'l', 'y', ':', 'A', ' ', 'a', 'r', 'i', 't', 'y', ':', 'B', ' ', 'a', 'r', 'i', 'z', 'e', ':', 'A', ' ', 'a', 'r', 'o', 'i', 'd', ':', 'A', ' ', 'a', 't', 'e', 'l', 'y', ':', 'A', ' ', 'a', 't', 'i', 'n', 'g', ':', 'I', ' ', 'a', 't', 'i', 'o', 'n', ':', 'B', ' ', 'a', 't', 'i', 'v', 'e', ':', 'A', ' ', 'a', 't', 'o', 'r', 's', ':', 'A', ' ', 'a', 't', 'o', 'r', 'y', ':', 'A', ' ', 'a', 't', 'u', 'r', 'e', ':', 'E', ' ', 'e', 'a', 'r', 'l', 'y', ':', 'Y', ' ', 'e', 'h', 'o', 'o', 'd', ':', 'A', ' ', 'e', 'l', 'e', 's', 's', ':', 'A', ' ', 'e', 'm', 'e', 'n', 't', ':', 'A', ' ', 'e', 'n', 'c', 'e', 'd', ':', 'A', ' ', 'e', 'n', 'c', 'e', 's', ':', 'A', ' ', 'e', 'n', 'e', 's', 's', ':', 'E', ' ', 'e', 'n', 'i', 'n', 'g', ':', 'E', ' ', 'e', 'n', 't', 'a', 'l', ':', 'A', ' ', 'e', 'n', 't', 'e', 'd', ':', 'C', ' ', 'e', 'n', 't', 'l', 'y', ':', 'A', ' ', 'f', 'u', 'l', 'l', 'y', ':', 'A', ' ', 'i', 'a', 'l', 'l', 'y', ':', 'A', ' ', 'i', 'c', 'a', 'n', 't', ':', 'A', ' ', 'i', 'c', 'i', 'a', 'n', ':', 'A', ' ', 'i', 'c', 'i', 'd', 'e', ':', 'A', ' ', 'i', 'c', 'i', 's', 'm', ':', 'A', ' ', 'i', 'c', 'i', 's', 't', ':', 'A', ' ', 'i', 'c', 'i', 't', 'y', ':', 'A', ' ', 'i', 'd', 'i', 'n', 'e', ':', 'I', ' ', 'i', 'e', 'd', 'l', 'y', ':', 'A', ' ', 'i', 'h', 'o', 'o', 'd', ':', 'A', ' ', 'i', 'n', 'a', 't', 'e', ':', 'A', ' ', 'i', 'n', 'e', 's', 's', ':', 'A', ' ', 'i', 'n', 'g', 'l', 'y', ':', 'B', ' ', 'i', 'n', 'i', 's', 'm', ':', 'J', ' ', 'i', 'n', 'i', 't', 'y', ':', 'c', ' ', 'i', 'o', 'n', 'a', 'l', ':', 'A', ' ', 'i', 'o', 'n', 'e', 'd', ':', 'A', ' ', 'i', 's', 'h', 'e', 'd', ':', 'A', ' ', 'i', 's', 't', 'i', 'c', ':', 'A', ' ', 'i', 't', 'i', 'e', 's', ':', 'A', ' ', 'i', 't', 'o', 'u', 's', ':', 'A', ' ', 'i', 'v', 'e', 'l', 'y', ':', 'A', ' ', 'i', 'v', 'i', 't', 'y', ':', 'A', ' ', 'i', 'z', 'e', 'r', 's', ':', 'F', ' ', 'i', 'z', 'i', 'n', 'g', ':', 'F', ' ', 'o', 'i', 'd', 'a', 'l', ':', 'A', ' ', 'o', 'i', 'd', 'e', 's', ':', 'A', ' ', 'o', 't', 'i', 'd', 'e', ':', 'A', ' ', 'o', 'u', 's', 'l', 'y', ':', 'A', ' '] (by kernel_rfl)
theorem goesLe5 : (Str.ofString " acies:A acity:A aging:B aical:A alist:A alism:B ality:A alize:A allic:b anced:B ances:B antic:C arial:A aries:A arily:A arity:B arize:A aroid:A ately:A ating:I ation:B ative:A ators:A atory:A ature:E early:Y ehood:A eless:A ement:A enced:A ences:A eness:E ening:E ental:A ented:C ently:A fully:A ially:A icant:A ician:A icide:A icism:A icist:A icity:A idine:I iedly:A ihood:A inate:A iness:A ingly:B inism:J inity:c ional:A ioned:A ished:A istic:A ities:A itous:A ively:A ivity:A izers:F izing:F oidal:A oides:A otide:A ously:A ").length ≤ lenLid := by rw [goesEq5]; exact Nat.le_of_ble_eq_true rfl
theorem goesEq6 : Str.ofString " aceous:A acious:B action:G alness:A ancial:A ancies:A ancing:B ariser:A arized:A arizer:A atable:A ations:B atives:A eature:Z efully:A encies:A encing:A ential:A enting:C entist:A eously:A ialist:A iality:A ialize:A ically:A icance:A icians:A icists:A ifully:A ionals:A ionate:D ioning:A ionist:A iously:A istics:A izable:E lessly:A nesses:A oidism:A " = ⟨#[32, 97, 99, 101, 111, 117, 115, 58, 65, 32, 97, 99, 105, 111, 117, 115, 58, 66, 32, 97, 99, 116, 105, 111, 110, 58, 71, 32, 97, 108, 110, 101, 115, 115, 58, 65, 32, 97, 110, 99, 105, 97, 108, 58, 65, 32, 97, 110, 99, 105, 101, 115, 58, 65, 32, 97, 110, 99, 105, 110, 103, 58, 66, 32, 97, 114, 105, 115, 101, 114, 58, 65, 32, 97, 114, 105, 122, 101, 100, 58, 65, 32, 97, 114, 105, 122, 101, 114, 58, 65, 32, 97, 116, 97, 98, 108, 101, 58, 65, 32, 97, 116, 105, 111, 110, 115, 58, 66, 32, 97, 116, 105, 118, 101, 115, 58, 65, 32, 101, 97, 116, 117, 114, 101, 58, 90, 32, 101, 102, 117, 108, 108, 121, 58, 65, 32, 101, 110, 99, 105, 101, 115, 58, 65, 32, 101, 110, 99, 105, 110, 103, 58, 65, 32, 101, 110, 116, 105, 97, 108, 58, 65, 32, 101, 110, 116, 105, 110, 103, 58, 67, 32, 101, 110, 116, 105, 115, 116, 58, 65, 32, 101, 111, 117, 115, 108, 121, 58, 65, 32, 105, 97, 108, 105, 115, 116, 58, 65, 32, 105, 97, 108, 105, 116, 121, 58, 65, 32, 105, 97, 108, 105, 122, 101, 58, 65, 32, 105, 99, 97, 108, 108, 121, 58, 65, 32, 105, 99, 97, 110, 99, 101, 58, 65, 32, 105, 99, 105, 97, 110, 115, 58, 65, 32, 105, 99, 105, 115, 116, 115, 58, 65, 32, 105, 102, 117, 108, 108, 121, 58, 65, 32, 105, 111, 110, 97, 108, 115, 58, 65, 32, 105, 111, 110, 97, 116, 101, 58, 68, 32, 105, 111, 110, 105, 110, 103, 58, 65, 32, 105, 111, 110, 105, 115, 116, 58, 65, 32, 105, 111, 117, 115, 108, 121, 58, 65, 32, 105, 115, 116, 105, 99, 115, 58, 65, 32, 105, 122, 97, 98, 108, 101, 58, 69, 32, 108, 101, 115, 115, 108, 121, 58, 65, 32, 110, 101, 115, 115, 101, 115, 58, 65, 32, 111, 105, 100, 105, 115, 109, 58, 65, 32]⟩ := ofString_list _ [' ', 'a', 'c', 'e', 'o', 'u', 's', ':', 'A', ' ', 'a', 'c', 'i', 'o', 'u', 's', ':', 'B', ' ', 'a', 'c', 't', 'i', 'o', 'n', ':', 'G', ' ', 'a', 'l', 'n', 'e', 's', 's', ':', 'A', ' ', 'a', 'n', 'c', 'i', 'a', 'l', ':', 'A', ' ', 'a', 'n', 'c', 'i', 'e', 's', ':', 'A', ' ', 'a', 'n', 'c', 'i', 'n', 'g', ':', 'B', ' ', 'a', 'r', 'i', 's', 'e', 'r', ':', 'A', ' ', 'a', 'r', 'i', 'z', 'e', 'd', ':', 'A', ' ', 'a', 'r', 'i', 'z', 'e', 'r', ':', 'A', ' ', 'a', 't', 'a', 'b', 'l', 'e', ':', 'A', ' ', 'a', 't', 'i', 'o', 'n', 's', ':', 'B', ' ', 'a', 't', 'i', 'v', 'e', 's', ':', 'A', ' ', 'e', 'a', 't', 'u', 'r', 'e', ':', 'Z', ' ', 'e', 'f', 'u', 'l', 'l', 'y', ':', 'A', ' ', 'e', 'n', 'c', 'i', 'e', 's', ':', 'A', ' ', 'e', 'n', 'c', 'i', 'n', 'g', ':', 'A', ' ', 'e', 'n', 't', 'i', 'a', 'l', ':', 'A', ' ', 'e', 'n', 't', 'i', 'n', 'g', ':', 'C', ' ', 'e', 'n', 't', 'i', 's', 't', ':', 'A', ' ', 'e', 'o', 'u', 's', 'l', 'y', ':', 'A', ' ', 'i', 'a', 'l', 'i', 's', 't', ':', 'A', ' ', 'i', 'a', 'l', 'i', 't', 'y', ':', 'A', ' ', 'i', 'a', 'l', 'i', 'z', 'e', ':', 'A', ' ', 'i', 'c', 'a', 'l', 'l', 'y', ':', 'A', ' ', 'i', 'c', 'a', 'n', 'c', 'e', ':', 'A', ' ', 'i', 'c', 'i', 'a', 'n', 's', ':', 'A', ' ', 'i', 'c', 'i', 's', 't', 's', ':', 'A', ' ', 'i', 'f', 'u', 'l', 'l', 'y', ':', 'A', ' ', 'i', 'o', 'n', 'a', 'l', 's', ':', 'A', ' ', 'i', 'o', 'n', 'a', 't', 'e', ':', 'D', ' ', 'i', 'o', 'n', 'i', 'n', 'g', ':', 'A', ' ', 'i', 'o', 'n', 'i', 's', 't', ':', 'A', ' ', 'i', 'o', 'u', 's', 'l', 'y', ':', 'A', ' ', 'i', 's', 't', 'i', 'c', 's', ':', 'A', ' ', 'i', 'z', 'a', 'b', 'l', 'e', ':', 'E', ' ', 'l', 'e', 's', 's', 'l', 'y', ':', 'A', ' ', 'n', 'e', 's', 's', 'e', 's', ':', 'A', ' ', 'o', 'i', 'd', 'i', 's', 'm', ':', 'A', ' '] (by kernel_rfl)
theorem goesLe6 : (Str.ofString " aceous:A acious:B action:G alness:A ancial:A ancies:A ancing:B ariser:A arized:A arizer:A atable:A ations:B atives:A eature:Z efully:A encies:A encing:A ential:A enting:C entist:A eously:A ialist:A iality:A ialize:A ically:A icance:A icians:A icists:A ifully:A ionals:A ionate:D ioning:A ionist:A iously:A istics:A izable:E lessly:A nesses:A oidism:A ").length ≤ lenLid := by rw [goesEq6]; exact Nat.le_of_ble_eq_true rfl
theorem goesEq7 : Str.ofString " ability:A aically:A alistic:B alities:A ariness:E aristic:A arizing:A ateness:A atingly:A ational:B atively:A ativism:A elihood:E encible:A entally:A entials:A entiate:A entness:A fulness:A ibility:A icalism:A icalist:A icality:A icalize:A ication:G icianry:A ination:A ingness:A ionally:A isation:A ishness:A istical:A iteness:A iveness:A ivistic:A ivities:A ization:F izement:A oidally:A ousness:A " = ⟨#[32, 97, 98, 105, 108, 105, 116, 121, 58, 65, 32, 97, 105, 99, 97, 108, 108, 121, 58, 65, 32, 97, 108, 105, 115, 116, 105, 99, 58, 66, 32, 97, 108, 105, 116, 105, 101, 115, 58, 65, 32, 97, 114, 105, 110, 101, 115, 115, 58, 69, 32, 97, 114, 105, 115, 116, 105, 99, 58, 65, 32, 97, 114, 105, 122, 105, 110, 103, 58, 65, 32, 97, 116, 101, 110, 101, 115, 115, 58, 65, 32, 97, 116, 105, 110, 103, 108, 121, 58, 65, 32, 97, 116, 105, 111, 110, 97, 108, 58, 66, 32, 97, 116, 105, 118, 101, 108, 121, 58, 65, 32, 97, 116, 105, 118, 105, 115, 109, 58, 65, 32, 101, 108, 105, 104, 111, 111, 100, 58, 69, 32, 101, 110, 99, 105, 98, 108, 101, 58, 65, 32, 101, 110, 116, 97, 108, 108, 121, 58, 65, 32, 101, 110, 116, 105, 97, 108, 115, 58, 65, 32, 101, 110, 116, 105, 97, 116, 101, 58, 65, 32, 101, 110, 116, 110, 101, 115, 115, 58, 65, 32, 102, 117, 108, 110, 101, 115, 115, 58, 65, 32, 105, 98, 105, 108, 105, 116, 121, 58, 65, 32, 105, 99, 97, 108, 105, 115, 109, 58, 65, 32, 105, 99, 97, 108, 105, 115, 116, 58, 65, 32, 105, 99, 97, 108, 105, 116, 121, 58, 65, 32, 105, 99, 97, 108, 105, 122, 101, 58, 65, 32, 105, 99, 97, 116, 105, 111, 110, 58, 71, 32, 105, 99, 105, 97, 110, 114, 121, 58, 65, 32, 105, 110, 97, 116, 105, 111, 110, 58, 65, 32, 105, 110, 103, 110, 101, 115, 115, 58, 65, 32, 105, 111, 110, 97, 108, 108, 121, 58, 65, 32, 105, 115, 97, 116, 105, 111, 110, 58, 65, 32, 105, 115, 104, 110, 101, 115, 115, 58, 65, 32, 105, 115, 116, 105, 99, 97, 108, 58, 65, 32, 105, 116, 101, 110, 101, 115, 115, 58, 65, 32, 105, 118, 101, 110, 101, 115, 115, 58, 65, 32, 105, 118, 105, 115, 116, 105, 99, 58, 65, 32, 105, 118, 105, 116, 105, 101, 115, 58, 65, 32, 105, 122, 97, 116, 105, 111, 110, 58, 70, 32, 105, 122, 101, 109, 101, 110, 116, 58, 65, 32, 111, 105, 100, 97, 108, 108, 121, 58, 65, 32, 111, 117, 115, 110, 101, 115, 115, 58, 65, 32]⟩ := ofString_list _ [' ', 'a', 'b', 'i', 'l', 'i', 't', 'y', ':', 'A', ' ', 'a', 'i', 'c', 'a', 'l', 'l', 'y', ':', 'A', ' ', 'a', 'l', 'i', 's', 't', 'i', 'c', ':', 'B', ' ', 'a', 'l', 'i', 't', 'i', 'e', 's', ':', 'A', ' ', 'a', 'r', 'i', 'n', 'e', 's', 's', ':', 'E', ' ', 'a', 'r', 'i', 's', 't', 'i', 'c', ':', 'A', ' ', 'a', 'r', 'i', 'z', 'i', 'n', 'g', ':', 'A', ' ', 'a', 't', 'e', 'n', 'e', 's', 's', ':', 'A', ' ', 'a', 't', 'i', 'n', 'g', 'l', 'y', ':', 'A', ' ', 'a', 't', 'i', 'o', 'n', 'a', 'l', ':', 'B', ' ', 'a', 't', 'i', 'v', 'e', 'l', 'y', ':', 'A', ' ', 'a', 't', 'i', 'v', 'i', 's', 'm', ':', 'A', ' ', 'e', 'l', 'i', 'h', 'o', 'o', 'd', ':', 'E', ' ', 'e', 'n', 'c', 'i', 'b', 'l', 'e', ':', 'A', ' ', 'e', 'n', 't', 'a', 'l', 'l', 'y', ':', 'A', ' ', 'e', 'n', 't', 'i', 'a', 'l', 's', ':', 'A', ' ', 'e', 'n', 't', 'i', 'a', 't', 'e', ':', 'A', ' ', 'e', 'n', 't', 'n', 'e', 's', 's', ':', 'A', ' ', 'f', 'u', 'l', 'n', 'e', 's', 's', ':', 'A', ' ', 'i', 'b', 'i', 'l', 'i', 't', 'y', ':', 'A', ' ', 'i', 'c', 'a', 'l', 'i', 's', 'm', ':', 'A', ' ', 'i', 'c', 'a', 'l', 'i', 's', 't', ':', 'A', ' ', 'i', 'c', 'a', 'l', 'i', 't', 'y', ':', 'A', ' ', 'i', 'c', 'a', 'l', 'i', 'z', 'e', ':', 'A', ' ', 'i', 'c', 'a', 't', 'i', 'o', 'n', ':', 'G', ' ', 'i', 'c', 'i', 'a', 'n', 'r', 'y', ':', 'A', ' ', 'i', 'n', 'a', 't', 'i', 'o', 'n', ':', 'A', ' ', 'i', 'n', 'g', 'n', 'e', 's', 's', ':', 'A', ' ', 'i', 'o', 'n', 'a', 'l', 'l', 'y', ':', 'A', ' ', 'i', 's', 'a', 't', 'i', 'o', 'n', ':', 'A', ' ', 'i', 's', 'h', 'n', 'e', 's', 's', ':', 'A', ' ', 'i', 's', 't', 'i', 'c', 'a', 'l', ':', 'A', ' ', 'i', 't', 'e', 'n', 'e', 's', 's', ':', 'A', ' ', 'i', 'v', 'e', 'n', 'e', 's', 's', ':', 'A', ' ', 'i', 'v', 'i', 's', 't', 'i', 'c', ':', 'A', ' ', 'i', 'v', 'i', 't', 'i', 'e', 's', ':', 'A', ' ', 'i', 'z', 'a', 't', 'i', 'o', 'n', ':', 'F', ' ', 'i', 'z', 'e', 'm', 'e', 'n', 't', ':', 'A', ' ', 'o', 'i', 'd', 'a', 'l', 'l', 'y', ':', 'A', ' ', 'o', 'u', 's', 'n', 'e', 's', 's', ':', 'A', ' '] (by kernel_rfl)
theorem goesLe7 : (Str.ofString " ability:A aically:A alistic:B alities:A ariness:E aristic:A arizing:A ateness:A atingly:A ational:B atively:A ativism:A elihood:E encible:A entally:A entials:A entiate:A entness:A fulness:A ibility:A icalism:A icalist:A icality:A icalize:A ication:G icianry:A ination:A ingness:A ionally:A isation:A ishness:A istical:A iteness:A iveness:A ivistic:A ivities:A ization:F izement:A oidally:A ousness:A ").length ≤ lenLid := by rw [goesEq7]; exact Nat.le_of_ble_eq_true rfl
theorem goesEq8 : Str.ofString " ableness:A arizable:A entation:A entially:A eousness:A ibleness:A icalness:A ionalism:A ionality:A ionalize:A iousness:A izations:A lessness:A " = ⟨#[32, 97, 98, 108, 101, 110, 101, 115, 115, 58, 65, 32, 97, 114, 105, 122, 97, 98, 108, 101, 58, 65, 32, 101, 110, 116, 97, 116, 105, 111, 110, 58, 65, 32, 101, 110, 116, 105, 97, 108, 108, 121, 58, 65, 32, 101, 111, 117, 115, 110, 101, 115, 115, 58, 65, 32, 105, 98, 108, 101, 110, 101, 115, 115, 58, 65, 32, 105, 99, 97, 108, 110, 101, 115, 115, 58, 65, 32, 105, 111, 110, 97, 108, 105, 115, 109, 58, 65, 32, 105, 111, 110, 97, 108, 105, 116, 121, 58, 65, 32, 105, 111, 110, 97, 108, 105, 122, 101, 58, 65, 32, 105, 111, 117, 115, 110, 101, 115, 115, 58, 65, 32, 105, 122, 97, 116, 105, 111, 110, 115, 58, 65, 32, 108, 101, 115, 115, 110, 101, 115, 115, 58, 65, 32]⟩ := ofString_list _ [' ', 'a', 'b', 'l', 'e', 'n', 'e', 's', 's', ':', 'A', ' ', 'a', 'r', 'i', 'z', 'a', 'b', 'l', 'e', ':', 'A', ' ', 'e', 'n', 't', 'a', 't', 'i', 'o', 'n', ':', 'A', ' ', 'e', 'n', 't', 'i', 'a', 'l', 'l', 'y', ':', 'A', ' ', 'e', 'o', 'u', 's', 'n', 'e', 's', 's', ':', 'A', ' ', 'i', 'b', 'l', 'e', 'n', 'e', 's', 's', ':', 'A', ' ', 'i', 'c', 'a', 'l', 'n', 'e', 's', 's', ':', 'A', ' ', 'i', 'o', 'n', 'a', 'l', 'i', 's', 'm', ':', 'A', ' ', 'i', 'o', 'n', 'a', 'l', 'i', 't', 'y', ':', 'A', ' ', 'i', 'o', 'n', 'a', 'l', 'i', 'z', 'e', ':', 'A', ' ', 'i', 'o', 'u', 's', 'n', 'e', 's', 's', ':', 'A', ' ', 'i', 'z', 'a', 't', 'i', 'o', 'n', 's', ':', 'A', ' ', 'l', 'e', 's', 's', 'n', 'e', 's', 's', ':', 'A', ' '] (by kernel_rfl)
theorem goesLe8 : (Str.ofString " ableness:A arizable:A entation:A entially:A eousness:A ibleness:A icalness:A ionalism:A ionality:A ionalize:A iousness:A izations:A lessness:A ").length ≤ lenLid := by rw [goesEq8]; exact Nat.le_of_ble_eq_true rfl
theorem goesEq9 : Str.ofString " allically:C antaneous:A antiality:A arisation:A arization:A ationally:B ativeness:A eableness:E entations:A entiality:A entialize:A entiation:A ionalness:A istically:A itousness:A izability:A izational:A " = ⟨#[32, 97, 108, 108, 105, 99, 97, 108, 108, 121, 58, 67, 32, 97, 110, 116, 97, 110, 101, 111, 117, 115, 58, 65, 32, 97, 110, 116, 105, 97, 108, 105, 116, 121, 58, 65, 32, 97, 114, 105, 115, 97, 116, 105, 111, 110, 58, 65, 32, 97, 114, 105, 122, 97, 116, 105, 111, 110, 58, 65, 32, 97, 116, 105, 111, 110, 97, 108, 108, 121, 58, 66, 32, 97, 116, 105, 118, 101, 110, 101, 115, 115, 58, 65, 32, 101, 97, 98, 108, 101, 110, 101, 115, 115, 58, 69, 32, 101, 110, 116, 97, 116, 105, 111, 110, 115, 58, 65, 32, 101, 110, 116, 105, 97, 108, 105, 116, 121, 58, 65, 32, 101, 110, 116, 105, 97, 108, 105, 122, 101, 58, 65, 32, 101, 110, 116, 105, 97, 116, 105, 111, 110, 58, 65, 32, 105, 111, 110, 97, 108, 110, 101, 115, 115, 58, 65, 32, 105, 115, 116, 105, 99, 97, 108, 108, 121, 58, 65, 32, 105, 116, 111, 117, 115, 110, 101, 115, 115, 58, 65, 32, 105, 122, 97, 98, 105, 108, 105, 116, 121, 58, 65, 32, 105, 122, 97, 116, 105, 111, 110, 97, 108, 58, 65, 32]⟩ := ofString_list _ [' ', 'a', 'l', 'l', 'i', 'c', 'a', 'l', 'l', 'y', ':', 'C', ' ', 'a', 'n', 't', 'a', 'n', 'e', 'o', 'u', 's', ':', 'A', ' ', 'a', 'n', 't', 'i', 'a', 'l', 'i', 't', 'y', ':', 'A', ' ', 'a', 'r', 'i', 's', 'a', 't', 'i', 'o', 'n', ':', 'A', ' ', 'a', 'r', 'i', 'z', 'a', 't', 'i', 'o', 'n', ':', 'A', ' ', 'a', 't', 'i', 'o', 'n', 'a', 'l', 'l', 'y', ':', 'B', ' ', 'a', 't', 'i', 'v', 'e', 'n', 'e', 's', 's', ':', 'A', ' ', 'e', 'a', 'b', 'l', 'e', 'n', 'e', 's', 's', ':', 'E', ' ', 'e', 'n', 't', 'a', 't', 'i', 'o', 'n', 's', ':', 'A', ' ', 'e', 'n', 't', 'i', 'a', 'l', 'i', 't', 'y', ':', 'A', ' ', 'e', 'n', 't', 'i', 'a', 'l', 'i', 'z', 'e', ':', 'A', ' ', 'e', 'n', 't', 'i', 'a', 't', 'i', 'o', 'n', ':', 'A', ' ', 'i', 'o', 'n', 'a', 'l', 'n', 'e', 's', 's', ':', 'A', ' ', 'i', 's', 't', 'i', 'c', 'a', 'l', 'l', 'y', ':', 'A', ' ', 'i', 't', 'o', 'u', 's', 'n', 'e', 's', 's', ':', 'A', ' ', 'i', 'z', 'a', 'b', 'i', 'l', 'i', 't', 'y', ':', 'A', ' ', 'i', 'z', 'a', 't', 'i', 'o', 'n', 'a', 'l', ':', 'A', ' '] (by kernel_rfl)
theorem goesLe9 : (Str.ofString " allically:C antaneous:A antiality:A arisation:A arization:A ationally:B ativeness:A eableness:E entations:A entiality:A entialize:A entiation:A ionalness:A istically:A itousness:A izability:A izational:A ").length ≤ lenLid := by rw [goesEq9]; exact Nat.le_of_ble_eq_true rfl
theorem goesEq10 : Str.ofString " antialness:A arisations:A arizations:A entialness:A " = ⟨#[32, 97, 110, 116, 105, 97, 108, 110, 101, 115, 115, 58, 65, 32, 97, 114, 105, 115, 97, 116, 105, 111, 110, 115, 58, 65, 32, 97, 114, 105, 122, 97, 116, 105, 111, 110, 115, 58, 65, 32, 101, 110, 116, 105, 97, 108, 110, 101, 115, 115, 58, 65, 32]⟩ := ofString_list _ [' ', 'a', 'n', 't', 'i', 'a', 'l', 'n', 'e', 's', 's', ':', 'A', ' ', 'a', 'r', 'i', 's', 'a', 't', 'i', 'o', 'n', 's', ':', 'A', ' ', 'a', 'r', 'i', 'z', 'a', 't', 'i', 'o', 'n', 's', ':', 'A', ' ', 'e', 'n', 't', 'i', 'a', 'l', 'n', 'e', 's', 's', ':', 'A', ' '] (by kernel_rfl)
theorem goesLe10 : (Str.ofString " antialness:A arisations:A arizations:A entialness:A ").length ≤ lenLid := by rw [goesEq10]; exact Nat.le_of_ble_eq_true rfl
theorem goesEq11 : Str.ofString " alistically:B arizability:A izationally:B " = ⟨#[32, 97, 108, 105, 115, 116, 105, 99, 97, 108, 108, 121, 58, 66, 32, 97, 114, 105, 122, 97, 98, 105, 108, 105, 116, 121, 58, 65, 32, 105, 122, 97, 116, 105, 111, 110, 97, 108, 108, 121, 58, 66, 32]⟩ := ofString_list _ [' ', 'a', 'l', 'i', 's', 't', 'i', 'c', 'a', 'l', 'l', 'y', ':', 'B', ' ', 'a', 'r', 'i', 'z', 'a', 'b', 'i', 'l', 'i', 't', 'y', ':', 'A', ' ', 'i', 'z', 'a', 't', 'i', 'o', 'n', 'a', 'l', 'l', 'y', ':', 'B', ' '] (by kernel_rfl)
theorem goesLe11 : (Str.ofString " alistically:B arizability:A izationally:B ").length ≤ lenLid := by rw [goesEq11]; exact Nat.le_of_ble_eq_true rfl
theorem goesK (w : World) : (hd.heap_1 w.params).lookup 676 = some ⟨.type "list", none, .seq #[.str (Str.ofString " ") 1683, .str (Str.ofString " a:A e:A i:A o:A s:W y:B ") 1684, .str (Str.ofString " ae:A al:b ar:X as:B ed:E en:F es:E ia:A ic:A is:A ly:B on:S or:T um:U us:V yl:R s':A 's:A ") 1685, .str (Str.ofString " acy:A age:B aic:A als:b ant:B ars:O ary:F ata:A ate:A eal:Y ear:Y ely:E ene:E ent:C ery:E ese:A ful:A ial:A ian:A ics:A ide:L ied:A ier:A ies:P ily:A ine:M ing:N ion:Q ish:C ism:B ist:A ite:a ity:A ium:A ive:A ize:F oid:A one:R ous:A ") 1686, .str (Str.ofString " able:A ably:A ages:B ally:B ance:B ancy:B ants:B aric:A arly:K ated:I ates:A atic:B ator:A ealy:Y edly:E eful:A eity:A ence:A ency:A ened:E enly:E eous:A hood:A ials:A ians:A ible:A ibly:A ical:A ides:L iers:A iful:A ines:M ings:N ions:B ious:A isms:B ists:A itic:H ized:F izer:F less:A lily:A ness:A ogen:A ward:A wise:A ying:B yish:A ") 1687, .str (Str.ofString " acies:A acity:A aging:B aical:A alist:A alism:B ality:A alize:A allic:b anced:B ances:B antic:C arial:A aries:A arily:A arity:B arize:A aroid:A ately:A ating:I ation:B ative:A ators:A atory:A ature:E early:Y ehood:A eless:A ement:A enced:A ences:A eness:E ening:E ental:A ented:C ently:A fully:A ially:A icant:A ician:A icide:A icism:A icist:A icity:A idine:I iedly:A ihood:A inate:A iness:A ingly:B inism:J inity:c ional:A ioned:A ished:A istic:A ities:A itous:A ively:A ivity:A izers:F izing:F oidal:A oides:A otide:A ously:A ") 1688, .str (Str.ofString " aceous:A acious:B action:G alness:A ancial:A ancies:A ancing:B ariser:A arized:A arizer:A atable:A ations:B atives:A eature:Z efully:A encies:A encing:A ential:A enting:C entist:A eously:A ialist:A iality:A ialize:A ically:A icance:A icians:A icists:A ifully:A ionals:A ionate:D ioning:A ionist:A iously:A istics:A izable:E lessly:A nesses:A oidism:A ") 1689, .str (Str.ofString " ability:A aically:A alistic:B alities:A ariness:E aristic:A arizing:A ateness:A atingly:A ational:B atively:A ativism:A elihood:E encible:A entally:A entials:A entiate:A entness:A fulness:A ibility:A icalism:A icalist:A icality:A icalize:A ication:G icianry:A ination:A ingness:A ionally:A isation:A ishness:A istical:A iteness:A iveness:A ivistic:A ivities:A ization:F izement:A oidally:A ousness:A ") 1690, .str (Str.ofString " ableness:A arizable:A entation:A entially:A eousness:A ibleness:A icalness:A ionalism:A ionality:A ionalize:A iousness:A izations:A lessness:A ") 1691, .str (Str.ofString " allically:C antaneous:A antiality:A arisation:A arization:A ationally:B ativeness:A eableness:E entations:A entiality:A entialize:A entiation:A ionalness:A istically:A itousness:A izability:A izational:A ") 1692, .str (Str.ofString " antialness:A arisations:A arizations:A entialness:A ") 1693, .str (Str.ofString " alistically:B arizability:A izationally:B ") 1694] 0, #[]⟩ := by kernel_rfl
theorem go_goes (w : World) : GOk w (Str.ofString "_law_goes") goesP := by
  refine ⟨.ref 676, by kernel_rfl, fun h X => ?_⟩
  exact mk_list (vs := [.str (Str.ofString " ") 1683, .str (Str.ofString " a:A e:A i:A o:A s:W y:B ") 1684, .str (Str.ofString " ae:A al:b ar:X as:B ed:E en:F es:E ia:A ic:A is:A ly:B on:S or:T um:U us:V yl:R s':A 's:A ") 1685, .str (Str.ofString " acy:A age:B aic:A als:b ant:B ars:O ary:F ata:A ate:A eal:Y ear:Y ely:E ene:E ent:C ery:E ese:A ful:A ial:A ian:A ics:A ide:L ied:A ier:A ies:P ily:A ine:M ing:N ion:Q ish:C ism:B ist:A ite:a ity:A ium:A ive:A ize:F oid:A one:R ous:A ") 1686, .str (Str.ofString " able:A ably:A ages:B ally:B ance:B ancy:B ants:B aric:A arly:K ated:I ates:A atic:B ator:A ealy:Y edly:E eful:A eity:A ence:A ency:A ened:E enly:E eous:A hood:A ials:A ians:A ible:A ibly:A ical:A ides:L iers:A iful:A ines:M ings:N ions:B ious:A isms:B ists:A itic:H ized:F izer:F less:A lily:A ness:A ogen:A ward:A wise:A ying:B yish:A ") 1687, .str (Str.ofString " acies:A acity:A aging:B aical:A alist:A alism:B ality:A alize:A allic:b anced:B ances:B antic:C arial:A aries:A arily:A arity:B arize:A aroid:A ately:A ating:I ation:B ative:A ators:A atory:A ature:E early:Y ehood:A eless:A ement:A enced:A ences:A eness:E ening:E ental:A ented:C ently:A fully:A ially:A icant:A ician:A icide:A icism:A icist:A icity:A idine:I iedly:A ihood:A inate:A iness:A ingly:B inism:J inity:c ional:A ioned:A ished:A istic:A ities:A itous:A ively:A ivity:A izers:F izing:F oidal:A oides:A otide:A ously:A ") 1688, .str (Str.ofString " aceous:A acious:B action:G alness:A ancial:A ancies:A ancing:B ariser:A arized:A arizer:A atable:A ations:B atives:A eature:Z efully:A encies:A encing:A ential:A enting:C entist:A eously:A ialist:A iality:A ialize:A ically:A icance:A icians:A icists:A ifully:A ionals:A ionate:D ioning:A ionist:A iously:A istics:A izable:E lessly:A nesses:A oidism:A ") 1689, .str (Str.ofString " ability:A aically:A alistic:B alities:A ariness:E aristic:A arizing:A ateness:A atingly:A ational:B atively:A ativism:A elihood:E encible:A entally:A entials:A entiate:A entness:A fulness:A ibility:A icalism:A icalist:A icality:A icalize:A ication:G icianry:A ination:A ingness:A ionally:A isation:A ishness:A istical:A iteness:A iveness:A ivistic:A ivities:A ization:F izement:A oidally:A ousness:A ") 1690, .str (Str.ofString " ableness:A arizable:A entation:A entially:A eousness:A ibleness:A icalness:A ionalism:A ionality:A ionalize:A iousness:A izations:A lessness:A ") 1691, .str (Str.ofString " allically:C antaneous:A antiality:A arisation:A arization:A ationally:B ativeness:A eableness:E entations:A entiality:A entialize:A entiation:A ionalness:A istically:A itousness:A izability:A izational:A ") 1692, .str (Str.ofString " antialness:A arisations:A arizations:A entialness:A ") 1693, .str (Str.ofString " alistically:B arizability:A izationally:B ") 1694]) (show 12 ≤ lenLid by decide) ⟨_, X 676 _ (goesK w), rfl, 0, rfl⟩ (isAll_str goesLe0 (isAll_str goesLe1 (isAll_str goesLe2 (isAll_str goesLe3 (isAll_str goesLe4 (isAll_str goesLe5 (isAll_str goesLe6 (isAll_str goesLe7 (isAll_str goesLe8 (isAll_str goesLe9 (isAll_str goesLe10 (isAll_str goesLe11 (by simp [IsAll])))))))))))))
inductive AllD (K : Frag) (P : Params) : List (Addr × List Str) → Prop
  | nil : AllD K P []
  | cons {d : Addr} {ks : List Str} {r : List (Addr × List Str)} : hashParts K P d ks → AllD K P r → AllD K P ((d, ks) :: r)
theorem AllD.at {K : Frag} {P : Params} : ∀ {Ds : List (Addr × List Str)}, AllD K P Ds → ∀ d ks, Ds.lookup d = some ks → hashParts K P d ks
  | _, .nil, d, ks, h => by cases h
  | _, .cons (d := d') (ks := ks') h r, d, ks, e => by
    rw [List.lookup_cons] at e
    cases hd : d == d' with
    | true => rw [hd] at e; cases e; rw [eq_of_beq hd]; exact h
    | false => rw [hd] at e; exact r.at d ks e
noncomputable def Dm : List (Addr × List Str) := [(590, tab1.map (·.1)), (577, tab2.map (·.1)), (552, tab3.map (·.1)), (506, tab4.map (·.1)), (451, tab5.map (·.1)), (377, tab6.map (·.1)), (331, tab7.map (·.1)), (284, tab8.map (·.1)), (264, tab9.map (·.1)), (240, tab10.map (·.1)), (229, tab11.map (·.1))]
theorem dm_ok (w : World) : AllD (hd.heap_1 w.params) w.params Dm := (.cons (by unfold hashParts; kernel_rfl) (.cons (by unfold hashParts; kernel_rfl) (.cons (by unfold hashParts; kernel_rfl) (.cons (by unfold hashParts; kernel_rfl) (.cons (by unfold hashParts; kernel_rfl) (.cons (by unfold hashParts; kernel_rfl) (.cons (by unfold hashParts; kernel_rfl) (.cons (by unfold hashParts; kernel_rfl) (.cons (by unfold hashParts; kernel_rfl) (.cons (by unfold hashParts; kernel_rfl) (.cons (by unfold hashParts; kernel_rfl) .nil)))))))))))
theorem go_m (w : World) : GOk w (Str.ofString "m") mP := ⟨.ref 596, by kernel_rfl, fun _ X => chk_sound (Ds := Dm) (dm_ok w).at X (by kernel_rfl)⟩
noncomputable def De : List (Addr × List Str) := [(649, endRules.map (·.1))]
theorem de_ok (w : World) : AllD (hd.heap_1 w.params) w.params De := .cons (by unfold hashParts; kernel_rfl) .nil
theorem go_end (w : World) : GOk w (Str.ofString "_endingrules") endP := ⟨.ref 649, by kernel_rfl, fun _ X => chk_sound (Ds := De) (de_ok w).at X (by kernel_rfl)⟩
noncomputable def psremoveending : PS := (.assign 1 (.len (.loc 0)) (.assign 2 (.const (.int (11))) (.whil (.cmp .Gt (.loc 2) (.const (.int (0)))) (.ite (.cmp .Gt (.bin .Sub (.loc 1) (.loc 2)) (.const (.int (1)))) (.assign 3 (.sliceFrom (.loc 0) (.bin .Sub (.loc 1) (.loc 2))) (.assign 4 (.get1 (.idx (.glob 0) (.loc 2)) (.loc 3)) (.ite (.loc 4) (.assign 5 (.sliceTo (.loc 0) (.bin .Sub (.loc 1) (.loc 2))) (.ite (.call2 0 (.loc 4) (.loc 5)) (.ret (.loc 5)) .nil .nil)) .nil .nil))) .nil (.aug 2 (.const (.int (1))) .nil)) (.ret (.loc 0)))))
noncomputable def Fremoveending : List PV → Option PV := runF [mP] [Fholds] 30 [0] psremoveending
theorem tremoveending (w : World) (mean : ExcName → Option Value) (mg mb : Str → Option Value) : Tf w mean mg mb 3 603 Fremoveending := by
  refine' tells_def (gn := [Str.ofString "m"]) (fn := [Str.ofString "_holds"]) (n := 60) (xs := [Str.ofString "word"]) ?ho ?hcd ?hb ?hx ?hc ?hs ?hl (st_of (.cons (go_m w) .nil) (.cons (okholds w mean mg mb) .nil))
  case ho => exact rfl
  case hcd => kernel_rfl
  case hb => intro s vs hl; match vs, hl with | [v0], _ => exact BindsTo.of_eq rfl
  case hx => exact rfl
  case hc => kernel_rfl
  case hs => exact rfl
  case hl => decide
theorem okremoveending (w : World) (mean : ExcName → Option Value) (mg mb : Str → Option Value) : FOk w mean mg mb 3 (Str.ofString "remove_ending") Fremoveending := ⟨603, by kernel_rfl, by kernel_rfl, (tremoveending w mean mg mb).mono (by decide)⟩
noncomputable def psfixending : PS := (.ite (.cmp .In (.sliceFrom (.loc 0) (.neg (.const (.int (2))))) (.glob 1)) (.assign 0 (.sliceTo (.loc 0) (.neg (.const (.int (1))))) .nil) .nil (.for1 1 (.get2 (.glob 0) (.idx (.loc 0) (.neg (.const (.int (1))))) (.lit true [])) (.unpack [2, 3] (.sliceTo (.loc 1) (.const (.int (2)))) (.ite (.endswith (.loc 0) (.loc 2)) (.ite (.cmp .Gt (.len (.loc 1)) (.const (.int (2)))) (.assign 4 (.idx (.loc 1) (.const (.int (2)))) (.assign 5 (.idx (.loc 0) (.bin .Sub (.const (.int (0))) (.bin .Add (.len (.loc 2)) (.const (.int (1)))))) (.ite (.cmp .In (.loc 5) (.loc 4)) (.ret (.loc 0)) .nil .nil))) .nil (.ret (.bin .Add (.sliceTo (.loc 0) (.bin .Sub (.const (.int (0))) (.len (.loc 2)))) (.loc 3)))) .nil .nil)) (.ret (.loc 0))))
noncomputable def Ffixending : List PV → Option PV := runF [endP, doublesP] [] 1 [0] psfixending
theorem tfixending (w : World) (mean : ExcName → Option Value) (mg mb : Str → Option Value) : Tf w mean mg mb 1 668 Ffixending := by
  refine' tells_def (gn := [Str.ofString "_endingrules", Str.ofString "_doubles"]) (fn := []) (n := 60) (xs := [Str.ofString "word"]) ?ho ?hcd ?hb ?hx ?hc ?hs ?hl (st_of (.cons (go_end w) (.cons (go_doubles w) .nil)) .nil)
  case ho => exact rfl
  case hcd => kernel_rfl
  case hb => intro s vs hl; match vs, hl with | [v0], _ => exact BindsTo.of_eq rfl
  case hx => exact rfl
  case hc => kernel_rfl
  case hs => exact rfl
  case hl => decide
theorem okfixending (w : World) (mean : ExcName → Option Value) (mg mb : Str → Option Value) : FOk w mean mg mb 3 (Str.ofString "fix_ending") Ffixending := ⟨668, by kernel_rfl, by kernel_rfl, (tfixending w mean mg mb).mono (by decide)⟩
noncomputable def psstem : PS := (.ret (.call1 0 (.call1 1 (.loc 0))))
noncomputable def Fstem : List PV → Option PV := runF [] [Ffixending, Fremoveending] 1 [0] psstem
theorem tstem (w : World) (mean : ExcName → Option Value) (mg mb : Str → Option Value) : Tf w mean mg mb 4 675 Fstem := by
  refine' tells_def (gn := []) (fn := [Str.ofString "fix_ending", Str.ofString "remove_ending"]) (n := 60) (xs := [Str.ofString "word"]) ?ho ?hcd ?hb ?hx ?hc ?hs ?hl (st_of .nil (.cons (okfixending w mean mg mb) (.cons (okremoveending w mean mg mb) .nil)))
  case ho => exact rfl
  case hcd => kernel_rfl
  case hb => intro s vs hl; match vs, hl with | [v0], _ => exact BindsTo.of_eq rfl
  case hx => exact rfl
  case hc => kernel_rfl
  case hs => exact rfl
  case hl => decide
theorem okstem (w : World) (mean : ExcName → Option Value) (mg mb : Str → Option Value) : FOk w mean mg mb 5 (Str.ofString "stem") Fstem := ⟨675, by kernel_rfl, by kernel_rfl, (tstem w mean mg mb).mono (by decide)⟩
end Mine
end
section
open PySem PySem.W PySem.Calls PySem.Spec PyProof.Rows
namespace Mine

noncomputable def fineS (e : Str) : Bool := decide (e.length ≤ 64) && PyData.strOk e
noncomputable def Fcloses : List PV → Option PV
  | [.str x, .str y] => if x.length ≤ 64 ∧ y.length ≤ 64 then some (.bool (closesB x y)) else none
  | _ => none
noncomputable def Fany : List PV → Option PV
  | [.str x, .seq _ ps] => (strsOf ps).bind fun es => if x.length ≤ 64 ∧ es.length ≤ 64 ∧ es.all fineS = true then some (.bool (es.any (closesB x))) else none
  | _ => none
noncomputable def termP (T : Term) : PV := .seq false [.int T.least, .seq false (T.wanted.map .str), .seq false (T.refused.map .str), .seq false (T.spared.map .str)]
noncomputable def termsP : PV := .dict (lawTerms.map (·.1)) (lawTerms.map fun p => termP p.2)
noncomputable def Fterms : List PV → Option PV
  | [] => some termsP
  | _ => none
noncomputable def anewP : PV := .seq true (lawAnew.map rowP)
noncomputable def Fanew : List PV → Option PV
  | [] => some anewP
  | _ => none
theorem tcloses (w : World) (mean : ExcName → Option Value) (mg mb : Str → Option Value) : Tf w mean mg mb 1 696 Fcloses := by
  intro args r e vs dp un gd cn cs a ccd cl outer A₀ base h₀ L m s Q E B F X T hk hd hu hP hQ
  unfold Fcloses at e
  split at e
  · split at e
    · rename_i x y hl
      cases e
      simp only [IsAll] at hP
      obtain ⟨v, r, rfl, h1, u, r2, rfl, h2, rfl⟩ := hP
      obtain ⟨_, t, rfl⟩ := is_str h1
      obtain ⟨_, t2, rfl⟩ := is_str h2
      exact closes_tell w mean mg mb x y t t2 hl.1 hl.2 dp un gd cn cs a ccd cl outer A₀ base h₀ L m s Q E B F X T hk hd hu trivial fun v h' tk' st hv => hQ v h' tk' st (by simpa [Is] using hv)
    · cases e
  · cases e
theorem tany (w : World) (mean : ExcName → Option Value) (mg mb : Str → Option Value) : Tf w mean mg mb 2 701 Fany := by
  intro args r e vs dp un gd cn cs a ccd cl outer A₀ base h₀ L m s Q E B F X T hk hd hu hP hQ
  unfold Fany at e
  split at e
  · rename_i x l ps
    simp only [Option.bind_eq_some_iff] at e
    obtain ⟨es, hes, e⟩ := e
    split at e
    · rename_i hl
      cases e
      simp only [IsAll] at hP
      obtain ⟨v, r, rfl, h1, u, r2, rfl, h2, rfl⟩ := hP
      obtain ⟨_, t, rfl⟩ := is_str h1
      have hok : ∀ e ∈ es, e.length ≤ 64 ∧ PyData.strOk e = true := fun e he => by
        have := List.all_eq_true.mp hl.2.2 e he
        simpa [fineS] using this
      have go : ∀ (b : Addr) (us : List Value), StrsAre us es → SeqAt s.heap b us.toArray → wpAny (model Pg w) (ktrTop dp un gd cn cs L a ccd cl outer) (call (.ref 701) [.str x t, .ref b]) Q E s := fun b us hs hsq =>
        any_tell w mean mg mb x t b us es hl.1 hs (by rw [strsLen hs]; exact hl.2.1) (fun e he => (hok e he).1) (fun e he => (hok e he).2) dp un gd cn cs a ccd cl outer A₀ base h₀ L m s Q E B F X T hk hd hu hsq fun v h' tk' st hv => hQ v h' tk' st (by simpa [Is] using hv)
      cases l with
      | true =>
        obtain ⟨b, us, rfl, _, hb, hbv⟩ := is_list h2
        exact go b us (strsOf_spec hes hbv) (.inl hb)
      | false =>
        obtain ⟨b, us, rfl, _, hb, hbv⟩ := is_tup h2
        exact go b us (strsOf_spec hes hbv) (.inr hb)
    · cases e
  · cases e
theorem strs_is {prog : Program} {w : World} {h : Heap} : ∀ {vs : List Value} {es : List Str}, StrsAre vs es → (es.all fun e => decide (e.length ≤ lenLid)) = true → IsAll prog w h (es.map .str) vs
  | _, _, .nil, _ => by simp [IsAll]
  | _, _, .cons y t r, h => by
    simp only [List.all_cons, Bool.and_eq_true, decide_eq_true_eq] at h
    simp only [List.map_cons, IsAll]
    exact ⟨_, _, rfl, mk_str h.1, strs_is r h.2⟩
noncomputable def shortS (es : List Str) : Bool := decide (es.length ≤ lenLid) && es.all fun e => decide (e.length ≤ lenLid)
theorem strTup_is {prog : Program} {w : World} {B h : Heap} {v : Value} {es : List Str} (x : StrTup B h v es) (hs : shortS es = true) : Is prog w h (.seq false (es.map .str)) v := by
  obtain ⟨a, vs, rfl, _, ht, hv⟩ := x
  simp only [shortS, Bool.and_eq_true, decide_eq_true_eq] at hs
  exact mk_tup (by rw [List.length_map]; exact hs.1) ht (strs_is hv hs.2)
noncomputable def shortT (T : Term) : Bool := shortS T.wanted && shortS T.refused && shortS T.spared
theorem term_is {prog : Program} {w : World} {B h : Heap} {v : Value} {T : Term} (x : TermAt B h v T) (hs : shortT T = true) : Is prog w h (termP T) v := by
  obtain ⟨a, t, b, c, d, rfl, _, ht, h1, h2, h3⟩ := x
  simp only [shortT, Bool.and_eq_true] at hs
  refine mk_tup (vs := [.int T.least t, b, c, d]) (show 4 ≤ lenLid by decide) ht ?_
  simp only [IsAll]
  exact ⟨_, _, rfl, mk_int, _, _, rfl, strTup_is h1 hs.1.1, _, _, rfl, strTup_is h2 hs.1.2, _, _, rfl, strTup_is h3 hs.2, rfl⟩
theorem tab_is {prog : Program} {w : World} {B h : Heap} : ∀ {kvs : List (Str × Value)} {kts : List (Str × Term)}, Tab B h kvs kts → (kts.all fun p => shortT p.2) = true → IsAll prog w h (kts.map fun p => termP p.2) (kvs.map (·.2))
  | _, _, .nil, _ => by simp [IsAll]
  | _, _, .cons x r, hs => by
    simp only [List.all_cons, Bool.and_eq_true] at hs
    simp only [List.map_cons, IsAll]
    exact ⟨_, _, rfl, term_is x hs.1, tab_is r hs.2⟩
theorem rows_is {prog : Program} {w : World} {B h : Heap} : ∀ {vs : List Value} {rs : List (List Str)}, TupRows B h vs rs → (rs.all shortS) = true → IsAll prog w h (rs.map rowP) vs
  | _, _, .nil, _ => by simp [IsAll]
  | _, _, .cons x r, hs => by
    simp only [List.all_cons, Bool.and_eq_true] at hs
    simp only [List.map_cons, IsAll]
    exact ⟨_, _, rfl, strTup_is x hs.1, rows_is r hs.2⟩
theorem valueAt_zip : ∀ (kvs : List (Str × Value)) (k : Str), valueAt kvs k = ((kvs.map (·.1)).zip (kvs.map (·.2))).lookup k
  | [], k => rfl
  | (a, b) :: r, k => by
    have ih := valueAt_zip r k
    simp only [valueAt, List.map_cons, List.zip_cons_cons, List.lookup_cons, List.find?_cons] at ih ⊢
    by_cases h : a = k
    · subst h; simp
    · have h1 : (k == a) = false := beq_eq_false_iff_ne.mpr (fun e => h e.symm)
      simp only [h, decide_false, h1]
      exact ih
theorem tterms (w : World) (mean : ExcName → Option Value) (mg mb : Str → Option Value) : Tf w mean mg mb 1 683 Fterms := by
  intro args r e vs dp un gd cn cs a ccd cl outer A₀ base h₀ L m s Q E B F X T hk hd hu hP hQ
  unfold Fterms at e
  split at e
  · cases e
    simp only [IsAll] at hP
    subst hP
    refine terms_tell w mean mg mb dp un gd cn cs a ccd cl outer A₀ base h₀ L m s Q E B F X T hk hd hu trivial fun v h' tk' st hv => hQ v h' tk' st ?_
    obtain ⟨d, kvs, rfl, hdo, ⟨_, hsys⟩, ht⟩ := hv
    unfold termsP
    simp only [Is]
    have hm := hdo.mapOf
    have hkeys := ht.keys
    have hfun : valueAt kvs = fun k => ((lawTerms.map (·.1)).zip (kvs.map (·.2))).lookup k := by
      funext k; rw [valueAt_zip, hkeys]
    obtain ⟨o, es, ep, ho, hex, rest⟩ := hdo
    exact ⟨d, kvs.map (·.2), rfl, hfun ▸ hm, ⟨o, ho, hex.2.1, by simpa using Nat.ne_of_gt hsys⟩, by simp, tab_is ht (by decide +kernel)⟩
  · cases e
theorem tanew (w : World) (mean : ExcName → Option Value) (mg mb : Str → Option Value) : Tf w mean mg mb 1 690 Fanew := by
  intro args r e vs dp un gd cn cs a ccd cl outer A₀ base h₀ L m s Q E B F X T hk hd hu hP hQ
  unfold Fanew at e
  split at e
  · cases e
    simp only [IsAll] at hP
    subst hP
    refine anew_tell w mean mg mb dp un gd cn cs a ccd cl outer A₀ base h₀ L m s Q E B F X T hk hd hu trivial fun v h' tk' st hv => hQ v h' tk' st ?_
    obtain ⟨l, us, rfl, _, hl, ht⟩ := hv
    exact mk_list (by decide +kernel) hl (rows_is ht (by decide +kernel))
  · cases e
theorem FOk.up {w : World} {mean : ExcName → Option Value} {mg mb : Str → Option Value} {D D' : Nat} {x : Str} {F : List PV → Option PV} (h : FOk w mean mg mb D x F) (hD : D ≤ D') : FOk w mean mg mb D' x F :=
  let ⟨a, h1, h2, h3⟩ := h; ⟨a, h1, h2, h3.mono hD⟩
theorem okcloses (w : World) (mean : ExcName → Option Value) (mg mb : Str → Option Value) : FOk w mean mg mb 2 (Str.ofString "_law_closes") Fcloses := ⟨696, by kernel_rfl, by kernel_rfl, (tcloses w mean mg mb).mono (by decide)⟩
theorem okany (w : World) (mean : ExcName → Option Value) (mg mb : Str → Option Value) : FOk w mean mg mb 2 (Str.ofString "_law_any") Fany := ⟨701, by kernel_rfl, by kernel_rfl, (tany w mean mg mb).mono (by decide)⟩
theorem okterms (w : World) (mean : ExcName → Option Value) (mg mb : Str → Option Value) : FOk w mean mg mb 2 (Str.ofString "_law_terms") Fterms := ⟨683, by kernel_rfl, by kernel_rfl, (tterms w mean mg mb).mono (by decide)⟩
theorem okanew (w : World) (mean : ExcName → Option Value) (mg mb : Str → Option Value) : FOk w mean mg mb 2 (Str.ofString "_law_anew") Fanew := ⟨690, by kernel_rfl, by kernel_rfl, (tanew w mean mg mb).mono (by decide)⟩
noncomputable def pslawholds : PS := (.assign 2 (.len (.loc 1)) (.ite (.and (.cmp .In (.loc 0) (.lit true [(.str (Str.ofString "K")), (.str (Str.ofString "X"))])) (.cmp .Eq (.loc 2) (.const (.int (2))))) (.ret (.const .none)) .nil (.ite (.and (.cmp .Eq (.loc 0) (.const (.str (Str.ofString "S")))) (.call2 1 (.loc 1) (.lit true [(.str (Str.ofString "dr")), (.str (Str.ofString "tt"))]))) (.ret (.const .none)) .nil (.ite (.and (.cmp .Eq (.loc 0) (.const (.str (Str.ofString "N")))) (.and (.cmp .Eq (.loc 2) (.const (.int (3)))) (.cmp .NotEq (.cmp .Eq (.idx (.loc 1) (.const (.int (0)))) (.const (.str (Str.ofString "s")))) (.cmp .Eq (.idx (.loc 1) (.const (.int (2)))) (.const (.str (Str.ofString "s"))))))) (.ret (.const .none)) .nil (.unpack [3, 4, 5, 6] (.idx (.call0 2) (.loc 0)) (.ite (.and (.cmp .Eq (.loc 0) (.const (.str (Str.ofString "N")))) (.call2 0 (.loc 1) (.const (.str (Str.ofString "s??"))))) (.assign 3 (.const (.int (4))) .nil) .nil (.ret (.and (.cmp .GtE (.loc 2) (.loc 3)) (.and (.or (.cmp .Eq (.loc 4) (.lit false [])) (.call2 1 (.loc 1) (.loc 4))) (.or (.not (.call2 1 (.loc 1) (.loc 5))) (.call2 1 (.loc 1) (.loc 6))))))))))))
noncomputable def Flawholds : List PV → Option PV := runF [] [Fcloses, Fany, Fterms] 1 [0, 1] pslawholds
theorem tlawholds (w : World) (mean : ExcName → Option Value) (mg mb : Str → Option Value) : Tf w mean mg mb 3 708 Flawholds := by
  refine' tells_def (gn := []) (fn := [Str.ofString "_law_closes", Str.ofString "_law_any", Str.ofString "_law_terms"]) (n := 60) (xs := [Str.ofString "letter", Str.ofString "left"]) ?ho ?hcd ?hb ?hx ?hc ?hs ?hl (st_of .nil (.cons ((okcloses w mean mg mb).up (by decide : _ ≤ 2)) (.cons ((okany w mean mg mb).up (by decide : _ ≤ 2)) (.cons ((okterms w mean mg mb).up (by decide : _ ≤ 2)) .nil))))
  case ho => exact rfl
  case hcd => kernel_rfl
  case hb => intro s vs hl; match vs, hl with | [v0, v1], _ => exact BindsTo.of_eq rfl
  case hx => exact rfl
  case hc => kernel_rfl
  case hs => exact rfl
  case hl => decide
theorem oklawholds (w : World) (mean : ExcName → Option Value) (mg mb : Str → Option Value) : FOk w mean mg mb 3 (Str.ofString "_law_holds") Flawholds := ⟨708, by kernel_rfl, by kernel_rfl, (tlawholds w mean mg mb).mono (by decide)⟩
noncomputable def pslawbare : PS := (.for1 1 (.lit true [(.int (11)), (.int (10)), (.int (9)), (.int (8)), (.int (7)), (.int (6)), (.int (5)), (.int (4)), (.int (3)), (.int (2)), (.int (1))]) (.ite (.cmp .Gt (.bin .Sub (.len (.loc 0)) (.loc 1)) (.const (.int (1)))) (.assign 2 (.sliceTo (.loc 0) (.bin .Sub (.len (.loc 0)) (.loc 1))) (.assign 3 (.sliceFrom (.loc 0) (.bin .Sub (.len (.loc 0)) (.loc 1))) (.assign 4 (.find (.idx (.glob 0) (.loc 1)) (.bin .Add (.bin .Add (.const (.str (Str.ofString " "))) (.loc 3)) (.const (.str (Str.ofString ":"))))) (.ite (.cmp .GtE (.loc 4) (.const (.int (0)))) (.assign 5 (.call2 0 (.idx (.idx (.glob 0) (.loc 1)) (.bin .Add (.bin .Add (.loc 4) (.loc 1)) (.const (.int (2))))) (.loc 2)) (.ite (.cmp .Is (.loc 5) (.const .none)) (.ret (.const .none)) .nil (.ite (.loc 5) (.ret (.loc 2)) .nil .nil))) .nil .nil)))) .nil .nil) (.ret (.loc 0)))
noncomputable def Flawbare : List PV → Option PV := runF [goesP] [Flawholds] 1 [0] pslawbare
theorem tlawbare (w : World) (mean : ExcName → Option Value) (mg mb : Str → Option Value) : Tf w mean mg mb 4 715 Flawbare := by
  refine' tells_def (gn := [Str.ofString "_law_goes"]) (fn := [Str.ofString "_law_holds"]) (n := 60) (xs := [Str.ofString "word"]) ?ho ?hcd ?hb ?hx ?hc ?hs ?hl (st_of (.cons (go_goes w) .nil) (.cons ((oklawholds w mean mg mb).up (by decide : _ ≤ 3)) .nil))
  case ho => exact rfl
  case hcd => kernel_rfl
  case hb => intro s vs hl; match vs, hl with | [v0], _ => exact BindsTo.of_eq rfl
  case hx => exact rfl
  case hc => kernel_rfl
  case hs => exact rfl
  case hl => decide
theorem oklawbare (w : World) (mean : ExcName → Option Value) (mg mb : Str → Option Value) : FOk w mean mg mb 4 (Str.ofString "_law_bare") Flawbare := ⟨715, by kernel_rfl, by kernel_rfl, (tlawbare w mean mg mb).mono (by decide)⟩
noncomputable def pslawstemmed : PS := (.ite (.call2 1 (.loc 0) (.lit true [(.str (Str.ofString "elity")), (.str (Str.ofString "elily"))])) (.ret (.const .none)) .nil (.assign 1 (.call1 2 (.loc 0)) (.ite (.or (.cmp .Is (.loc 1) (.const .none)) (.call2 0 (.loc 1) (.const (.str (Str.ofString "bb"))))) (.ret (.const .none)) .nil (.ite (.call2 1 (.loc 1) (.lit true [(.str (Str.ofString "dd")), (.str (Str.ofString "gg")), (.str (Str.ofString "ll")), (.str (Str.ofString "mm")), (.str (Str.ofString "nn")), (.str (Str.ofString "pp")), (.str (Str.ofString "rr")), (.str (Str.ofString "ss")), (.str (Str.ofString "tt"))])) (.assign 1 (.sliceTo (.loc 1) (.bin .Sub (.len (.loc 1)) (.const (.int (1))))) .nil) .nil (.ite (.cmp .In (.loc 1) (.lit true [(.str (Str.ofString "ul")), (.str (Str.ofString "end")), (.str (Str.ofString "her")), (.str (Str.ofString "ent")), (.str (Str.ofString "et"))])) (.ret (.const .none)) .nil (.forN [2, 3, 4] (.call0 3) (.ite (.call2 0 (.loc 1) (.loc 2)) (.assign 5 (.sliceTo (.loc 1) (.bin .Sub (.len (.loc 1)) (.len (.loc 2)))) (.ite (.and (.cmp .NotEq (.loc 5) (.const (.str (Str.ofString "")))) (.cmp .In (.idx (.loc 5) (.neg (.const (.int (1))))) (.loc 4))) (.ret (.loc 1)) .nil (.ret (.bin .Add (.loc 5) (.loc 3))))) .nil .nil) (.ret (.loc 1))))))))
noncomputable def Flawstemmed : List PV → Option PV := runF [] [Fcloses, Fany, Flawbare, Fanew] 1 [0] pslawstemmed
theorem tlawstemmed (w : World) (mean : ExcName → Option Value) (mg mb : Str → Option Value) : Tf w mean mg mb 5 722 Flawstemmed := by
  refine' tells_def (gn := []) (fn := [Str.ofString "_law_closes", Str.ofString "_law_any", Str.ofString "_law_bare", Str.ofString "_law_anew"]) (n := 60) (xs := [Str.ofString "word"]) ?ho ?hcd ?hb ?hx ?hc ?hs ?hl (st_of .nil (.cons ((okcloses w mean mg mb).up (by decide : _ ≤ 4)) (.cons ((okany w mean mg mb).up (by decide : _ ≤ 4)) (.cons ((oklawbare w mean mg mb).up (by decide : _ ≤ 4)) (.cons ((okanew w mean mg mb).up (by decide : _ ≤ 4)) .nil)))))
  case ho => exact rfl
  case hcd => kernel_rfl
  case hb => intro s vs hl; match vs, hl with | [v0], _ => exact BindsTo.of_eq rfl
  case hx => exact rfl
  case hc => kernel_rfl
  case hs => exact rfl
  case hl => decide
theorem oklawstemmed (w : World) (mean : ExcName → Option Value) (mg mb : Str → Option Value) : FOk w mean mg mb 5 (Str.ofString "_law_stemmed") Flawstemmed := ⟨722, by kernel_rfl, by kernel_rfl, (tlawstemmed w mean mg mb).mono (by decide)⟩
end Mine
end
section
open PySem PySem.W PySem.Calls PySem.Spec PyProof.Rows
namespace Mine

noncomputable def lettersS : Str := Str.ofString "etaoinsrhldcumfpgwbvkxjqzy'"
noncomputable def tailsL : List Str := [Str.ofString "e", Str.ofString "s", Str.ofString "ed", Str.ofString "en", Str.ofString "ar", Str.ofString "on", Str.ofString "or", Str.ofString "um", Str.ofString "us", Str.ofString "yl", Str.ofString "s'", Str.ofString "al", Str.ofString "als", Str.ofString "ars", Str.ofString "ear", Str.ofString "ide", Str.ofString "ies", Str.ofString "ine", Str.ofString "ing", Str.ofString "ion", Str.ofString "ite", Str.ofString "ize", Str.ofString "one", Str.ofString "ent", Str.ofString "ish", Str.ofString "arly", Str.ofString "ated", Str.ofString "ealy", Str.ofString "ides", Str.ofString "ines", Str.ofString "ings", Str.ofString "itic", Str.ofString "ionally", Str.ofString "ized", Str.ofString "allic", Str.ofString "antic", Str.ofString "ating", Str.ofString "ature", Str.ofString "early", Str.ofString "ening", Str.ofString "idine", Str.ofString "inism", Str.ofString "inity", Str.ofString "izers", Str.ofString "ously", Str.ofString "action", Str.ofString "eature", Str.ofString "enting", Str.ofString "ionate", Str.ofString "izable", Str.ofString "ariness", Str.ofString "ational", Str.ofString "elihood", Str.ofString "ication", Str.ofString "ization", Str.ofString "entation", Str.ofString "ationally", Str.ofString "eableness", Str.ofString "allically", Str.ofString "arizations", Str.ofString "alistically", Str.ofString "izationally", Str.ofString "ness", Str.ofString "less", Str.ofString "ation", Str.ofString "istic"]
noncomputable def tailsP : PV := .seq true (tailsL.map .str)
theorem go_letters (w : World) : GOk w (Str.ofString "_law_letters") (.str lettersS) := ⟨.str (Str.ofString "etaoinsrhldcumfpgwbvkxjqzy'") 1681, by kernel_rfl, fun _ _ => mk_str (show lettersS.length ≤ lenLid by decide +kernel)⟩
theorem go_tails (w : World) : GOk w (Str.ofString "_law_tails") tailsP := ⟨.ref 691, by kernel_rfl, fun _ X => chk_sound (Ds := []) (by intro d ks h; cases h) X (by kernel_rfl)⟩
noncomputable def anewFirsts : List Str := lawAnew.filterMap List.head?
noncomputable def piecesV : List PV := (charsP lettersS ++ tailsL.map .str) ++ anewFirsts.map .str
noncomputable def piecesP : PV := .seq true piecesV
noncomputable def psLaw : PS := (.assign 2 (.const (.str (Str.ofString ""))) (.for1 3 (.sliceTo (.loc 0) (.const (.int (20)))) (.assign 2 (.bin .Add (.loc 2) (.idx (.loc 1) (.bin .Mod (.loc 3) (.len (.loc 1))))) .nil) (.assign 2 (.ifexp (.cmp .Eq (.loc 2) (.const (.str (Str.ofString "")))) (.const (.str (Str.ofString "sitting"))) (.sliceTo (.loc 2) (.const (.int (20))))) (.assign 4 (.call1 1 (.loc 2)) (.ret (.or (.cmp .Is (.loc 4) (.const .none)) (.cmp .Eq (.call1 2 (.loc 2)) (.loc 4))))))))
noncomputable def semLaw (ρ : Nat → Option PV) : Option PF := pex [.str lettersS, tailsP] [Fanew, Flawstemmed, Fstem] 1 psLaw (upd ρ 1 piecesP)
noncomputable def scriptE (ns : List Int) : Nat → Option PV := upd (fun _ => none) 0 (.seq true (ns.map .int))

theorem ints_is {prog : Program} {w : World} {h : Heap} : ∀ {vs : List Value} {ns : List Int}, IntsAre vs ns → IsAll prog w h (ns.map .int) vs
  | _, _, .nil => by simp [IsAll]
  | _, _, .cons y t r => by
    simp only [List.map_cons, IsAll]
    exact ⟨_, _, rfl, mk_int, ints_is r⟩
theorem ints_nodict : ∀ ns : List Int, nodicts (ns.map .int) = true
  | [] => rfl
  | n :: r => by simp [nodicts, PV.nodict, ints_nodict r]

theorem law_walk {w : World} {mean : ExcName → Option Value} {mg mb : Str → Option Value} {g h₁ : Heap} {fa sc : Addr} {cd : Value} {name : Str} {scope : Scope} {body rest : List Stmt} {vs : List Value} {ns : List Int} {s : Shared} {m : Str → Option Value} {Q : Flow → Shared → Prop} {E : Value → Shared → Prop}
    {p1 p2 p3 p4 p5 p6 p7 p8 p9 p10 p11 p12 p13 p14 p15 p16 : Pos} {kk : Nat} {sc1 sc2 : Scope}
    (hbody : body = .Assign [.Name ("pieces" : Str) p1] (.BinOp (.BinOp (.ListComp (.Name ("sign" : Str) p2) [⟨.Name ("sign" : Str) p3, .Name ("_law_letters" : Str) p4, [], 0⟩] sc1 p5) .Add (.Name ("_law_tails" : Str) p6) p7) .Add
      (.ListComp (.Subscript (.Name ("turn" : Str) p8) (.Constant (.int 0) kk p9) p10) [⟨.Name ("turn" : Str) p11, .Call (.Name ("_law_anew" : Str) p12) [] [] p13, [], 0⟩] sc2 p14) p15) p16 :: rest)
    (hcomp : compS scope ["_law_letters", "_law_tails"] ["_law_anew", "_law_stemmed", "stem"] 60 rest = some psLaw)
    (hix : (locIx scope "script", locIx scope "pieces", nameIx scope ["_law_letters", "_law_tails"] "_law_letters", nameIx scope ["_law_letters", "_law_tails"] "_law_tails", nameIx scope ["_law_anew", "_law_stemmed", "stem"] "_law_anew") = (some 0, some 1, some 0, some 1, some 0))
    (hsc1 : sc1.kind = .function ∧ sc1.names = [((".0" : Str), .local), (("sign" : Str), .local)] ∧ closureFor sc1 (envX name scope g.objs.size fa cd []) = pure [])
    (hsc2 : sc2.kind = .function ∧ sc2.names = [((".0" : Str), .local), (("turn" : Str), .local)] ∧ closureFor sc2 (envX name scope g.objs.size fa cd []) = pure [])
    (hk : scope.kind = .function)
    (X : (hd.heap_1 w.params).In g) (T : Top hd.view_1 lo mean mg mb g) (B : Below callerA g [] g) (F : Fr g g.objs.size h₁ m) (hm : m ("script" : Str) = some (.ref sc)) (hL : g.IsList sc vs.toArray) (hI : IntsAre vs ns) (hlen : ns.length ≤ 63)
    (hs : s.heap = h₁) (hpure : semLaw (scriptE ns) = some (.ret (.bool true)))
    (hQ : ∀ h' tk' m', Fr g g.objs.size h' m' → Q (.ret (.bool true)) { s with heap := h', toks := tk' }) :
    wpAny (model Pg w) (callerA.deeper (envOf name scope g.objs.size fa cd)) (execs body (envOf name scope g.objs.size fa cd)) Q E s := by
  subst hs hbody
  simp only [Prod.mk.injEq] at hix
  obtain ⟨i1, i2, i3, i4, i5⟩ := hix
  obtain ⟨k1, n1, c1⟩ := hsc1
  obtain ⟨k2, n2, c2⟩ := hsc2
  have W : St w mean mg mb 5 ["_law_letters", "_law_tails"] [.str lettersS, tailsP] ["_law_anew", "_law_stemmed", "stem"] [Fanew, Flawstemmed, Fstem] :=
    st_of (.cons (go_letters w) (.cons (go_tails w) .nil)) (.cons ((okanew w mean mg mb).up (by decide : _ ≤ 5)) (.cons ((oklawstemmed w mean mg mb).up (by decide : _ ≤ 5)) (.cons ((okstem w mean mg mb).up (by decide : _ ≤ 5)) .nil)))
  have Df : Def (hd.heap_1 w.params) hd.view_1 lo mean mg mb 5 (callerA.deeper (envOf name scope g.objs.size fa cd)) name scope g.objs.size fa cd g :=
    ⟨rfl, ⟨callerA, g, [], rfl, B⟩, X, T, hk, by rw [depth_deeper, depth_caller]; decide, by rw [units_deeper, units_caller]; have := cLine_is; omega⟩
  have I : Inv Pg w scope (scriptE ns) g g.objs.size s.heap m := ⟨F, fun x j pv e1 e2 => by
    unfold scriptE upd at e2
    by_cases hj : j = 0
    · subst hj
      rw [if_pos rfl] at e2; cases e2
      have := locIx_inj i1 e1; subst this
      refine ⟨_, hm, mk_list (vs := vs) (by rw [List.length_map]; exact Nat.le_trans hlen (by decide)) (by obtain ⟨o, e, r⟩ := hL; exact ⟨o, F.keep _ _ e, r⟩) (ints_is hI), ?_⟩
      simpa [PV.nodict] using ints_nodict ns
    · rw [if_neg hj] at e2; cases e2⟩
  unfold semLaw at hpure
  have body := pex_sound W Df 1 60 rest psLaw hcomp
  refine wpAny_execs_cons (wpAny_Assign_Name (wpAny_BinOp (wpAny_BinOp ?_)) rfl)
  refine comp_text (ρ := scriptE ns) (gv := [.str lettersS, tailsP]) (ff := [Fanew, Flawstemmed, Fstem]) (pe := .glob 0) (z := lettersS) Df c1 (by rw [n1]; decide) k1 (by rw [n1]; decide) (by rw [n1]; rfl) (by decide) (ev_glob W Df i3) (fun _ => rfl) I rfl (by decide +kernel) fun d1 h1 t1 e1 I1 x1 => ?_
  refine (ev_glob W Df i4).ap I1 rfl fun v2 h2 t2 st2 x2 => ?_
  have I2 := I1.grow st2
  refine add_lists_leaf (ps := charsP lettersS) (qs := tailsL.map .str) (by decide +kernel) I2.F (x1.mono st2) x2 (fun d3 h3 e3 F3 x3 => ?_) (by decide +kernel)
  have I3 := I2.ext e3 F3
  refine comp_heads (ρ := scriptE ns) (gv := [.str lettersS, tailsP]) (ff := [Fanew, Flawstemmed, Fstem]) (pe := .call0 0) (vs := lawAnew.map rowP) (us := anewFirsts) Df c2 (by rw [n2]; decide) k2 (by rw [n2]; decide) (by rw [n2]; rfl) (by decide) (ev_call0 W Df i5) (fun _ => rfl) I3 rfl (by decide +kernel) (by kernel_rfl) (by decide +kernel) fun d4 h4 t4 e4 I4 x4 => ?_
  refine add_lists_leaf (ps := charsP lettersS ++ tailsL.map .str) (qs := anewFirsts.map .str) (by decide +kernel) I4.F (x3.seqKeep (ExtBut.seqKeep I3.F.ns e4) (by decide +kernel)) x4 (fun d5 h5 e5 F5 x5 => ?_) (by decide +kernel)
  have I5 := I4.ext e5 F5
  refine store_leaf Df i2 I5 x5 (by decide +kernel) fun h6 t6 m6 e6 I6 => ?_
  refine body (upd (scriptE ns) 1 piecesP) _ m6 Q E (.ret (.bool true)) I6 hpure fun v h' tk' m' he F' hv => ?_
  cases is_bool hv
  exact hQ h' tk' m' F'
end Mine
end
section
open PySem PySem.W PySem.Calls PySem.Spec PyProof.Rows
namespace Mine

theorem cut_rev (r p : List Nat) : cutFrom (ofRev r) (ofRev p) = ofRev (r.take p.length) := by
  unfold cutFrom
  rw [ofRev_len, ofRev_len, slice_from_rev]
  congr 1
  split
  · have : clipN ((r.length : Int) - (p.length : Int)) r.length = r.length - p.length := by unfold clipN; omega
    rw [this]
    congr 1; omega
  · have : clipN 0 r.length = 0 := by unfold clipN; omega
    rw [this, Nat.sub_zero, List.take_of_length_le (Nat.le_refl _), List.take_of_length_le (by omega)]
theorem q_rev : Str.ofString "?" = ch 63 := by decide +kernel
theorem closes_rev (r p : List Nat) : closesB (ofRev r) (ofRev p) = matchR p r := by
  unfold closesB
  rw [cut_rev, ofRev_len, ofRev_len, List.length_take]
  by_cases h : p.length ≤ r.length
  · have hmin : min p.length r.length = p.length := by omega
    rw [hmin, decide_eq_true rfl, Bool.true_and]
    rw [Bool.eq_iff_iff, matchR_iff, List.isEmpty_iff, List.filter_eq_nil_iff]
    have key : ∀ i, i < p.length → (missAt (ofRev p) (ofRev (r.take p.length)) i = false ↔ (p[p.length - 1 - i]? = some 63 ∨ p[p.length - 1 - i]? = r[p.length - 1 - i]?)) := by
      intro i hi
      unfold missAt
      have l2 : (r.take p.length).length = p.length := by rw [List.length_take]; omega
      rw [item_pos p i hi, item_pos _ i (by rw [l2]; exact hi), l2, q_rev, List.getElem?_take_of_lt (by omega)]
      obtain ⟨a, ha⟩ : ∃ a, p[p.length - 1 - i]? = some a := ⟨_, List.getElem?_eq_getElem (by omega)⟩
      obtain ⟨b, hb⟩ : ∃ b, r[p.length - 1 - i]? = some b := ⟨_, List.getElem?_eq_getElem (by omega)⟩
      rw [ha, hb]
      simp only [Option.getD_some, Option.some.injEq, bne, ch_beq]
      cases h1 : a == 63 <;> cases h2 : a == b <;> simp_all
    constructor
    · intro hall
      refine ⟨h, fun j hj => ?_⟩
      have := (key (p.length - 1 - j) (by omega)).mp (by simpa using hall (p.length - 1 - j) (by rw [List.mem_range]; omega))
      rwa [show p.length - 1 - (p.length - 1 - j) = j by omega] at this
    · rintro ⟨_, hall⟩ i hi
      rw [List.mem_range] at hi
      simpa using (key i hi).mpr (hall _ (by omega))
  · rw [decide_eq_false (by omega), Bool.false_and]
    cases hm : matchR p r with
    | false => rfl
    | true => exact absurd ((matchR_iff p r).mp hm).1 h

/-- the first place, in plain words -/
theorem occ_stay (s sub : Str) (hi : Nat) : ∀ (l : List Nat) (st : Array Nat × Nat), 1 ≤ st.fst.size → (forIn l st (StrLaws.occBody s sub hi 1)).run.fst = st.fst
  | [], st, h => rfl
  | a :: l, st, h => by
    rw [List.forIn_cons]
    unfold StrLaws.occBody
    rw [if_neg (by omega)]
    exact occ_stay s sub hi l _ h
theorem occ_first (s sub : Str) (hi : Nat) : ∀ (l : List Nat) (free : Nat), (∀ i ∈ l, free ≤ i) →
    (forIn l ((#[] : Array Nat), free) (StrLaws.occBody s sub hi 1)).run.fst = (match l.find? (fun i => decide (i + sub.length ≤ hi) && Builtin.Str.subAt s sub i) with | some i => #[i] | none => #[])
  | [], free, _ => rfl
  | a :: l, free, hf => by
    have ha : free ≤ a := hf a (List.mem_cons_self ..)
    rw [List.forIn_cons, List.find?_cons]
    unfold StrLaws.occBody
    by_cases hc : a + sub.length ≤ hi ∧ Builtin.Str.subAt s sub a = true
    · rw [if_pos ⟨⟨⟨by simp, ha⟩, hc.1⟩, hc.2⟩]
      have e : (decide (a + sub.length ≤ hi) && Builtin.Str.subAt s sub a) = true := by rw [decide_eq_true hc.1, hc.2]; rfl
      rw [e]
      exact occ_stay s sub hi l _ (by simp)
    · rw [if_neg (fun h => hc ⟨h.1.2, h.2⟩)]
      have e : (decide (a + sub.length ≤ hi) && Builtin.Str.subAt s sub a) = false := by
        rw [Bool.and_eq_false_iff, decide_eq_false_iff_not]
        by_cases h1 : a + sub.length ≤ hi
        · exact .inr (by simpa using fun h2 => hc ⟨h1, h2⟩)
        · exact .inl h1
      rw [e]
      exact occ_first s sub hi l free (fun i hi' => hf i (List.mem_cons_of_mem _ hi'))
theorem find_first (x y : Str) : Txt.find x y = (match (List.range (x.length + 1)).find? (fun i => decide (i + y.length ≤ x.length) && ((x.cps.toList.drop i).take y.length == y.cps.toList)) with | some i => (i : Int) | none => -1) := by
  unfold Txt.find
  rw [StrLaws.occ_eq, occ_first x y x.length _ 0 (fun _ _ => Nat.zero_le _), Nat.sub_zero, ← List.range_eq_range']
  have e : (fun i => decide (i + y.length ≤ x.length) && Builtin.Str.subAt x y i) = fun i => decide (i + y.length ≤ x.length) && ((x.cps.toList.drop i).take y.length == y.cps.toList) := by
    funext i; rw [subAt_iff]
  rw [e]
  cases (List.range (x.length + 1)).find? (fun i => decide (i + y.length ≤ x.length) && ((x.cps.toList.drop i).take y.length == y.cps.toList)) <;> rfl

/-- a table as a text: each ending behind a space, a colon, its letter; a space at the end -/
noncomputable def encG : List (List Nat × Nat) → List Nat
  | [] => [32]
  | (e, c) :: r => 32 :: (e ++ 58 :: c :: encG r)
noncomputable def hitAt (H : List Nat) (e : List Nat) (i : Nat) : Bool := decide (i + (e.length + 2) ≤ H.length) && ((H.drop i).take (e.length + 2) == 32 :: (e ++ [58]))
noncomputable def goodTab (k : Nat) (t : List (List Nat × Nat)) : Bool := t.all fun p => p.1.length == k && !p.1.contains 32 && p.2 != 32

theorem hit_head {H e : List Nat} {i : Nat} (h : hitAt H e i = true) : H[i]? = some 32 := by
  unfold hitAt at h
  simp only [Bool.and_eq_true, decide_eq_true_eq, beq_iff_eq] at h
  have := congrArg List.head? h.2
  rw [List.head?_take] at this
  simp only [List.head?_drop, List.head?_cons] at this
  rw [if_neg (by omega)] at this
  exact this

theorem find_enc {k : Nat} : ∀ {t : List (List Nat × Nat)} {e : List Nat}, goodTab k t = true → e.length = k →
    match t.lookup e with
    | some c => ∃ p, hitAt (encG t) e p = true ∧ (∀ q, q < p → hitAt (encG t) e q = false) ∧ (encG t)[p + k + 2]? = some c ∧ p + k + 2 < (encG t).length
    | none => ∀ q, hitAt (encG t) e q = false
  | [], e, _, hk => by
    intro q
    unfold hitAt
    rw [decide_eq_false (by simp [encG]; omega), Bool.false_and]
  | (e0, c0) :: t, e, hg, hk => by
    simp only [goodTab, List.all_cons, Bool.and_eq_true, beq_iff_eq, Bool.not_eq_true', bne_iff_ne] at hg
    obtain ⟨⟨⟨hl, h32⟩, hc⟩, hr⟩ := hg
    have ih := find_enc (t := t) (e := e) hr hk
    have h32' : ∀ j : Nat, e0[j]? ≠ some 32 := by
      intro j hj
      have hm : 32 ∈ e0 := List.mem_iff_getElem?.mpr ⟨j, hj⟩
      rw [List.contains_iff_mem.mpr hm] at h32; cases h32
    have hlen : (encG ((e0, c0) :: t)).length = (k + 3) + (encG t).length := by simp [encG, hl]; omega
    have hdrop : ∀ q, (encG ((e0, c0) :: t)).drop ((k + 3) + q) = (encG t).drop q := by
      intro q
      rw [← List.drop_drop]
      congr 1
      show (32 :: (e0 ++ 58 :: c0 :: encG t)).drop (k + 2 + 1) = _
      rw [List.drop_succ_cons, show e0 ++ 58 :: c0 :: encG t = (e0 ++ [58, c0]) ++ encG t by simp]
      rw [List.drop_append_of_le_length (by simp [hl]), List.drop_of_length_le (by simp [hl])]
      rfl
    have hnext : ∀ q, hitAt (encG ((e0, c0) :: t)) e ((k + 3) + q) = hitAt (encG t) e q := by
      intro q
      unfold hitAt
      rw [hdrop, hlen]
      congr 1
      rw [decide_eq_decide]; omega
    have hmid : ∀ q, 0 < q → q < k + 3 → hitAt (encG ((e0, c0) :: t)) e q = false := by
      intro q h1 h2
      cases hh : hitAt (encG ((e0, c0) :: t)) e q with
      | false => rfl
      | true =>
        exfalso
        have hd := hit_head hh
        obtain ⟨j, rfl⟩ : ∃ j, q = j + 1 := ⟨q - 1, by omega⟩
        simp only [encG, List.getElem?_cons_succ] at hd
        by_cases hj : j < e0.length
        · rw [List.getElem?_append_left hj] at hd
          exact h32' j hd
        · rw [List.getElem?_append_right (by omega)] at hd
          rcases (show j - e0.length = 0 ∨ j - e0.length = 1 by omega) with h0 | h0
          · rw [h0] at hd; simp at hd
          · rw [h0] at hd; simp at hd; exact hc hd
    have hzero : hitAt (encG ((e0, c0) :: t)) e 0 = (e == e0) := by
      unfold hitAt
      rw [decide_eq_true (by rw [hlen]; omega), Bool.true_and, List.drop_zero]
      have : (encG ((e0, c0) :: t)).take (e.length + 2) = 32 :: (e0 ++ [58]) := by
        show (32 :: (e0 ++ 58 :: c0 :: encG t)).take (e.length + 1 + 1) = _
        rw [List.take_succ_cons, show e0 ++ 58 :: c0 :: encG t = (e0 ++ [58]) ++ (c0 :: encG t) by simp]
        rw [List.take_append_of_le_length (by simp; omega), List.take_of_length_le (by simp; omega)]
      rw [this]
      cases he : e == e0 with
      | true => rw [eq_of_beq he]; simp
      | false =>
        rw [beq_eq_false_iff_ne] at he ⊢
        intro q
        exact he (by simpa using q.symm)
    rw [List.lookup_cons]
    cases he : e == e0 with
    | true =>
      refine ⟨0, hzero.trans he, fun q hq => absurd hq (Nat.not_lt_zero _), ?_, by rw [hlen]; omega⟩
      rw [Nat.zero_add]
      simp only [encG]
      rw [show k + 2 = (k + 1) + 1 by omega, List.getElem?_cons_succ, List.getElem?_append_right (by omega), show k + 1 - e0.length = 1 by omega]
      rfl
    | false =>
      dsimp only
      have hz := hzero.trans he
      cases hlk : t.lookup e with
      | some c =>
        rw [hlk] at ih
        obtain ⟨p, p1, p2, p3, p4⟩ := ih
        refine ⟨(k + 3) + p, (hnext p).trans p1, fun q hq => ?_, ?_, by rw [hlen]; omega⟩
        · by_cases h0 : q = 0
          · rw [h0]; exact hz
          · by_cases h3 : q < k + 3
            · exact hmid q (by omega) h3
            · obtain ⟨q', rfl⟩ : ∃ q', q = (k + 3) + q' := ⟨q - (k + 3), by omega⟩
              rw [hnext]; exact p2 q' (by omega)
        · have e1 : (encG ((e0, c0) :: t))[(k + 3) + p + k + 2]? = ((encG ((e0, c0) :: t)).drop ((k + 3) + (p + k + 2)))[0]? := by
            rw [List.getElem?_drop]; congr 1; omega
          rw [e1, hdrop, List.getElem?_drop, Nat.add_zero]; exact p3
      | none =>
        rw [hlk] at ih
        intro q
        by_cases h0 : q = 0
        · rw [h0]; exact hz
        · by_cases h3 : q < k + 3
          · exact hmid q (by omega) h3
          · obtain ⟨q', rfl⟩ : ∃ q', q = (k + 3) + q' := ⟨q - (k + 3), by omega⟩
            rw [hnext]; exact ih q'

theorem find_some {P : Nat → Bool} {n p : Nat} (hp : P p = true) (hlt : p < n) (hq : ∀ q, q < p → P q = false) : (List.range n).find? P = some p := by
  rw [List.find?_range_eq_some]
  exact ⟨hp, List.mem_range.mpr hlt, fun q hq' => by simpa using hq q hq'⟩
theorem find_none {P : Nat → Bool} {n : Nat} (hq : ∀ q, P q = false) : (List.range n).find? P = none := by
  rw [List.find?_eq_none]; intro q _; simp [hq q]

/-- what a look into the table's text answers -/
theorem find_tab {k : Nat} {t : List (List Nat × Nat)} {x y : Str} {e : List Nat} (hx : x.cps.toList = encG t) (hy : y.cps.toList = 32 :: (e ++ [58])) (hg : goodTab k t = true) (he : e.length = k) :
    match t.lookup e with
    | some c => ∃ p : Nat, Txt.find x y = (p : Int) ∧ Txt.item x ((p : Int) + (k : Int) + 2) = ch c ∧ (p : Int) + (k : Int) + 2 < x.length
    | none => Txt.find x y = -1 := by
  have hxl : x.length = (encG t).length := by rw [← hx]; simp [Str.length]
  have hyl : y.length = e.length + 2 := by
    have : y.cps.toList.length = e.length + 2 := by rw [hy]; simp
    simpa [Str.length] using this
  have hP : (fun i => decide (i + y.length ≤ x.length) && ((x.cps.toList.drop i).take y.length == y.cps.toList)) = fun i => hitAt (encG t) e i := by
    funext i; unfold hitAt; rw [hx, hy, hyl, hxl]
  have h := find_enc (t := t) (e := e) hg he
  rw [find_first, hP]
  cases hl : t.lookup e with
  | some c =>
    rw [hl] at h
    obtain ⟨p, p1, p2, p3, p4⟩ := h
    refine ⟨p, ?_, ?_, by rw [hxl]; omega⟩
    · rw [find_some p1 (by rw [hxl]; omega) p2]
    · unfold Txt.item Txt.charAt seqIndex?
      have e1 : (if (p : Int) + (k : Int) + 2 < 0 then (p : Int) + (k : Int) + 2 + (x.length : Int) else (p : Int) + (k : Int) + 2) = ((p + k + 2 : Nat) : Int) := by rw [if_neg (by omega)]; omega
      simp only [e1]
      have c1 : (decide ((0 : Int) ≤ ((p + k + 2 : Nat) : Int)) && decide (((p + k + 2 : Nat) : Int) < (x.length : Int))) = true := by
        rw [Bool.and_eq_true, decide_eq_true_eq, decide_eq_true_eq]; omega
      rw [if_pos c1]
      simp only [Option.bind_some, Int.toNat_natCast]
      rw [← Array.getElem?_toList, hx, p3]; rfl
  | none =>
    rw [hl] at h
    show (match (List.range (x.length + 1)).find? (fun i => hitAt (encG t) e i) with | some i => (i : Int) | none => -1) = -1
    rw [find_none h]
end Mine
end
section
open PySem PySem.W PySem.Calls PySem.Spec PyProof.Rows
namespace Mine

theorem it1 (a : Nat) (r : List Nat) : Txt.item (ofRev (a :: r)) (-1) = ofRev [a] := item_last a r
theorem it2 (a b : Nat) (r : List Nat) : Txt.item (ofRev (a :: b :: r)) (-2) = ofRev [b] := item_2 a b r
theorem it3 (a b c : Nat) (r : List Nat) : Txt.item (ofRev (a :: b :: c :: r)) (-3) = ofRev [c] := item_3 a b c r
theorem it30 (a b c : Nat) : Txt.item (ofRev [a, b, c]) 0 = ofRev [c] := item_pos [a, b, c] 0 (by simp)
theorem it32 (a b c : Nat) : Txt.item (ofRev [a, b, c]) 2 = ofRev [a] := item_pos [a, b, c] 2 (by simp)
theorem sl2 (a b : Nat) (r : List Nat) : Txt.slice (ofRev (a :: b :: r)) (some (-2)) none = ofRev [a, b] := by
  rw [slice_from_rev]
  have : clipN (-2) (a :: b :: r).length = r.length := by unfold clipN; simp; omega
  rw [this]
  congr 1
  have : (a :: b :: r).length - r.length = 2 := by simp; omega
  rw [this]; rfl
theorem ch2 (a b : Nat) : charsP (ofRev [a, b]) = [.str (ofRev [b]), .str (ofRev [a])] := rfl
theorem beq1 (a b : Nat) : (ofRev [a] == ofRev [b]) = (a == b) := ch_beq a b
theorem beq2 (a b c d : Nat) : (ofRev [a, b] == ofRev [c, d]) = (a == c && b == d) := by
  rw [ofRev_beq]; cases h1 : a == c <;> cases h2 : b == d <;> simp_all
theorem bne1 (a b : Nat) : (ofRev [a] != ofRev [b]) = !(a == b) := by rw [bne, beq1]
theorem beq12 (a c d : Nat) : (ofRev [a] == ofRev [c, d]) = false := by rw [ofRev_beq]; simp
theorem bne12 (a c d : Nat) : (ofRev [a] != ofRev [c, d]) = true := by rw [bne, beq12]; rfl
theorem cEqS (x y : Str) : pcmp .Eq (.str x) (.str y) = some (.bool (x == y)) := rfl
theorem cEqI (x y : Int) : pcmp .Eq (.int x) (.int y) = some (.bool (x == y)) := rfl
theorem cNeS (x y : Str) : pcmp .NotEq (.str x) (.str y) = some (.bool (x != y)) := rfl
theorem cNeB (x y : Bool) : pcmp .NotEq (.bool x) (.bool y) = some (.bool (x != y)) := rfl
theorem cGt (x y : Int) : pcmp .Gt (.int x) (.int y) = some (.bool (decide (x > y))) := rfl
theorem cGe (x y : Int) : pcmp .GtE (.int x) (.int y) = some (.bool (decide (x ≥ y))) := rfl
theorem cInQ (x : Str) (l : Bool) (vs : List PV) : pcmp .In (.str x) (.seq l vs) = (strsOf vs).map fun ss => .bool (ss.any (· == x)) := rfl
theorem cInS (x y : Str) : pcmp .In (.str y) (.str x) = some (.bool (Txt.contains x y)) := rfl
theorem cIsN : pcmp .Is .none .none = some (.bool true) := rfl
theorem cIsS (x : Str) : pcmp .Is (.str x) .none = some (.bool false) := rfl
theorem cIsB (x : Bool) : pcmp .Is (.bool x) .none = some (.bool false) := rfl
theorem cTup (vs : List PV) : pcmp .Eq (.seq false vs) (.seq false []) = (strsOf vs).bind fun ss => if ss.all PyData.strOk then some (.bool ss.isEmpty) else none := rfl
theorem bAddI (x y : Int) : pbin .Add (.int x) (.int y) = some (.int (x + y)) := rfl
theorem bSubI (x y : Int) : pbin .Sub (.int x) (.int y) = some (.int (x - y)) := rfl
theorem nI (x : Int) : pneg (.int x) = some (.int (-x)) := rfl
theorem lS (x : Str) : plen (.str x) = some (.int x.length) := rfl
theorem lQ (l : Bool) (vs : List PV) : plen (.seq l vs) = some (.int vs.length) := rfl
theorem trN : truth .none = some false := rfl
theorem trB (b : Bool) : truth (.bool b) = some b := rfl
theorem trI (i : Int) : truth (.int i) = some (i != 0) := rfl
theorem trS (x : Str) : truth (.str x) = some ((x.length : Int) != 0) := rfl
theorem ixS (x : Str) (i : Int) (h : -(x.length : Int) ≤ i ∧ i < x.length) : pidx (.str x) (.int i) = some (.str (Txt.item x i)) := by
  show (if -(x.length : Int) ≤ i ∧ i < x.length then some (PV.str (Txt.item x i)) else none) = _
  rw [if_pos h]
theorem ix1 (a : Nat) (r : List Nat) : pidx (.str (ofRev (a :: r))) (.int (-1)) = some (.str (ofRev [a])) := by
  rw [ixS _ _ (by rw [ofRev_len]; simp; omega), it1]
theorem ix2 (a b : Nat) (r : List Nat) : pidx (.str (ofRev (a :: b :: r))) (.int (-2)) = some (.str (ofRev [b])) := by
  rw [ixS _ _ (by rw [ofRev_len]; simp; omega), it2]
theorem ix3 (a b c : Nat) (r : List Nat) : pidx (.str (ofRev (a :: b :: c :: r))) (.int (-3)) = some (.str (ofRev [c])) := by
  rw [ixS _ _ (by rw [ofRev_len]; simp; omega), it3]
theorem ix30 (a b c : Nat) : pidx (.str (ofRev [a, b, c])) (.int 0) = some (.str (ofRev [c])) := by
  rw [ixS _ _ (by rw [ofRev_len]; simp), it30]
theorem ix32 (a b c : Nat) : pidx (.str (ofRev [a, b, c])) (.int 2) = some (.str (ofRev [a])) := by
  rw [ixS _ _ (by rw [ofRev_len]; simp), it32]
theorem sf2 (a b : Nat) (r : List Nat) : psliceFrom (.str (ofRev (a :: b :: r))) (.int (-2)) = some (.str (ofRev [a, b])) := by
  show some (PV.str (Txt.slice _ _ _)) = _; rw [sl2]
theorem pE (r p : List Nat) : pends (.str (ofRev r)) (.str (ofRev p)) = some (.bool (preR p r)) := by
  show some (PV.bool (Txt.endswith _ _)) = _; rw [endswith_rev]
theorem itS (x : Str) : itemsP (.str x) = some (charsP x) := rfl
theorem itQ (vs : List PV) : itemsP (.seq false vs) = some vs := rfl
theorem z0 : Str.ofString "a" = ofRev [97] := by decide +kernel
theorem z1 : Str.ofString "b" = ofRev [98] := by decide +kernel
theorem z2 : Str.ofString "c" = ofRev [99] := by decide +kernel
theorem z3 : Str.ofString "d" = ofRev [100] := by decide +kernel
theorem z4 : Str.ofString "e" = ofRev [101] := by decide +kernel
theorem z5 : Str.ofString "f" = ofRev [102] := by decide +kernel
theorem z6 : Str.ofString "g" = ofRev [103] := by decide +kernel
theorem z7 : Str.ofString "h" = ofRev [104] := by decide +kernel
theorem z8 : Str.ofString "i" = ofRev [105] := by decide +kernel
theorem z9 : Str.ofString "j" = ofRev [106] := by decide +kernel
theorem z10 : Str.ofString "k" = ofRev [107] := by decide +kernel
theorem z11 : Str.ofString "l" = ofRev [108] := by decide +kernel
theorem z12 : Str.ofString "m" = ofRev [109] := by decide +kernel
theorem z13 : Str.ofString "n" = ofRev [110] := by decide +kernel
theorem z14 : Str.ofString "o" = ofRev [111] := by decide +kernel
theorem z15 : Str.ofString "p" = ofRev [112] := by decide +kernel
theorem z16 : Str.ofString "q" = ofRev [113] := by decide +kernel
theorem z17 : Str.ofString "r" = ofRev [114] := by decide +kernel
theorem z18 : Str.ofString "s" = ofRev [115] := by decide +kernel
theorem z19 : Str.ofString "t" = ofRev [116] := by decide +kernel
theorem z20 : Str.ofString "u" = ofRev [117] := by decide +kernel
theorem z21 : Str.ofString "v" = ofRev [118] := by decide +kernel
theorem z22 : Str.ofString "w" = ofRev [119] := by decide +kernel
theorem z23 : Str.ofString "x" = ofRev [120] := by decide +kernel
theorem z24 : Str.ofString "y" = ofRev [121] := by decide +kernel
theorem z25 : Str.ofString "z" = ofRev [122] := by decide +kernel
theorem z26 : Str.ofString "A" = ofRev [65] := by decide +kernel
theorem z27 : Str.ofString "B" = ofRev [66] := by decide +kernel
theorem z28 : Str.ofString "C" = ofRev [67] := by decide +kernel
theorem z29 : Str.ofString "D" = ofRev [68] := by decide +kernel
theorem z30 : Str.ofString "E" = ofRev [69] := by decide +kernel
theorem z31 : Str.ofString "F" = ofRev [70] := by decide +kernel
theorem z32 : Str.ofString "G" = ofRev [71] := by decide +kernel
theorem z33 : Str.ofString "H" = ofRev [72] := by decide +kernel
theorem z34 : Str.ofString "I" = ofRev [73] := by decide +kernel
theorem z35 : Str.ofString "J" = ofRev [74] := by decide +kernel
theorem z36 : Str.ofString "K" = ofRev [75] := by decide +kernel
theorem z37 : Str.ofString "L" = ofRev [76] := by decide +kernel
theorem z38 : Str.ofString "M" = ofRev [77] := by decide +kernel
theorem z39 : Str.ofString "N" = ofRev [78] := by decide +kernel
theorem z40 : Str.ofString "O" = ofRev [79] := by decide +kernel
theorem z41 : Str.ofString "P" = ofRev [80] := by decide +kernel
theorem z42 : Str.ofString "Q" = ofRev [81] := by decide +kernel
theorem z43 : Str.ofString "R" = ofRev [82] := by decide +kernel
theorem z44 : Str.ofString "S" = ofRev [83] := by decide +kernel
theorem z45 : Str.ofString "T" = ofRev [84] := by decide +kernel
theorem z46 : Str.ofString "U" = ofRev [85] := by decide +kernel
theorem z47 : Str.ofString "V" = ofRev [86] := by decide +kernel
theorem z48 : Str.ofString "W" = ofRev [87] := by decide +kernel
theorem z49 : Str.ofString "X" = ofRev [88] := by decide +kernel
theorem z50 : Str.ofString "Y" = ofRev [89] := by decide +kernel
theorem z51 : Str.ofString "Z" = ofRev [90] := by decide +kernel
theorem z52 : Str.ofString "rd" = ofRev [100, 114] := by decide +kernel
theorem z53 : Str.ofString "tt" = ofRev [116, 116] := by decide +kernel
theorem z54 : Str.ofString "in" = ofRev [110, 105] := by decide +kernel
theorem z55 : Str.ofString "ph" = ofRev [104, 112] := by decide +kernel
theorem z56 : Str.ofString "th" = ofRev [104, 116] := by decide +kernel
theorem z57 : Str.ofString "er" = ofRev [114, 101] := by decide +kernel
theorem z58 : Str.ofString "or" = ofRev [114, 111] := by decide +kernel
theorem z59 : Str.ofString "es" = ofRev [115, 101] := by decide +kernel
theorem z60 : Str.ofString "met" = ofRev [116, 101, 109] := by decide +kernel
theorem z61 : Str.ofString "ryst" = ofRev [116, 115, 121, 114] := by decide +kernel
theorem z62 : Str.ofString "dr" = ofRev [114, 100] := by decide +kernel
theorem z63 : Str.ofString "ll" = ofRev [108, 108] := by decide +kernel
theorem z64 : Str.ofString "u?e" = ofRev [101, 63, 117] := by decide +kernel
theorem z65 : Str.ofString "os" = ofRev [115, 111] := by decide +kernel
theorem z66 : Str.ofString "ot" = ofRev [116, 111] := by decide +kernel
theorem z67 : Str.ofString "s??" = ofRev [63, 63, 115] := by decide +kernel
theorem z68 : Str.ofString "bb" = ofRev [98, 98] := by decide +kernel
theorem z69 : Str.ofString "dd" = ofRev [100, 100] := by decide +kernel
theorem z70 : Str.ofString "gg" = ofRev [103, 103] := by decide +kernel
theorem z71 : Str.ofString "mm" = ofRev [109, 109] := by decide +kernel
theorem z72 : Str.ofString "nn" = ofRev [110, 110] := by decide +kernel
theorem z73 : Str.ofString "pp" = ofRev [112, 112] := by decide +kernel
theorem z74 : Str.ofString "rr" = ofRev [114, 114] := by decide +kernel
theorem z75 : Str.ofString "ss" = ofRev [115, 115] := by decide +kernel
theorem z76 : Str.ofString "" = ofRev [] := by decide +kernel
theorem evA (a b : Nat) (r : List Nat) : FA [.str (ofRev (a :: b :: r))] = some (.bool (true)) := by
  simp [FA, psA, runF, stores, store, PV.nodict, nodicts, pex, pev, cEqS, cEqI, cNeS, cNeB, cGt, cGe, cInQ, cInS, cIsN, cIsS, cIsB, cTup, bAddI, bSubI, nI, lS, lQ, trN, trB, trI, trS, ix1, ix2, ix3, ix30, ix32, sf2, pE, itS, itQ, ch2, strsOf, upd, ofRev_len, beq1, bne1, beq2, beq12, bne12, preR, matchR, z0, z1, z2, z3, z4, z5, z6, z7, z8, z9, z10, z11, z12, z13, z14, z15, z16, z17, z18, z19, z20, z21, z22, z23, z24, z25, z26, z27, z28, z29, z30, z31, z32, z33, z34, z35, z36, z37, z38, z39, z40, z41, z42, z43, z44, z45, z46, z47, z48, z49, z50, z51, z52, z53, z54, z55, z56, z57, z58, z59, z60, z61, z62, z63, z64, z65, z66, z67, z68, z69, z70, z71, z72, z73, z74, z75, z76]
  try ((repeat' split) <;> (first | (simp_all; done) | (cases hb : b == 108 <;> simp_all; done) | grind))
theorem evE (a b : Nat) (r : List Nat) : FE [.str (ofRev (a :: b :: r))] = some (.bool (!(a == 101))) := by
  simp [FE, psE, runF, stores, store, PV.nodict, nodicts, pex, pev, cEqS, cEqI, cNeS, cNeB, cGt, cGe, cInQ, cInS, cIsN, cIsS, cIsB, cTup, bAddI, bSubI, nI, lS, lQ, trN, trB, trI, trS, ix1, ix2, ix3, ix30, ix32, sf2, pE, itS, itQ, ch2, strsOf, upd, ofRev_len, beq1, bne1, beq2, beq12, bne12, preR, matchR, z0, z1, z2, z3, z4, z5, z6, z7, z8, z9, z10, z11, z12, z13, z14, z15, z16, z17, z18, z19, z20, z21, z22, z23, z24, z25, z26, z27, z28, z29, z30, z31, z32, z33, z34, z35, z36, z37, z38, z39, z40, z41, z42, z43, z44, z45, z46, z47, z48, z49, z50, z51, z52, z53, z54, z55, z56, z57, z58, z59, z60, z61, z62, z63, z64, z65, z66, z67, z68, z69, z70, z71, z72, z73, z74, z75, z76]
  try ((repeat' split) <;> (first | (simp_all; done) | (cases hb : b == 108 <;> simp_all; done) | grind))
theorem evH (a b : Nat) (r : List Nat) : FH [.str (ofRev (a :: b :: r))] = some (.bool (a == 116 || (a == 108 && b == 108))) := by
  simp [FH, psH, runF, stores, store, PV.nodict, nodicts, pex, pev, cEqS, cEqI, cNeS, cNeB, cGt, cGe, cInQ, cInS, cIsN, cIsS, cIsB, cTup, bAddI, bSubI, nI, lS, lQ, trN, trB, trI, trS, ix1, ix2, ix3, ix30, ix32, sf2, pE, itS, itQ, ch2, strsOf, upd, ofRev_len, beq1, bne1, beq2, beq12, bne12, preR, matchR, z0, z1, z2, z3, z4, z5, z6, z7, z8, z9, z10, z11, z12, z13, z14, z15, z16, z17, z18, z19, z20, z21, z22, z23, z24, z25, z26, z27, z28, z29, z30, z31, z32, z33, z34, z35, z36, z37, z38, z39, z40, z41, z42, z43, z44, z45, z46, z47, z48, z49, z50, z51, z52, z53, z54, z55, z56, z57, z58, z59, z60, z61, z62, z63, z64, z65, z66, z67, z68, z69, z70, z71, z72, z73, z74, z75, z76]
  try ((repeat' split) <;> (first | (simp_all; done) | (cases hb : b == 108 <;> simp_all; done) | grind))
theorem evI (a b : Nat) (r : List Nat) : FI [.str (ofRev (a :: b :: r))] = some (.bool (!(a == 111) && !(a == 101))) := by
  simp [FI, psI, runF, stores, store, PV.nodict, nodicts, pex, pev, cEqS, cEqI, cNeS, cNeB, cGt, cGe, cInQ, cInS, cIsN, cIsS, cIsB, cTup, bAddI, bSubI, nI, lS, lQ, trN, trB, trI, trS, ix1, ix2, ix3, ix30, ix32, sf2, pE, itS, itQ, ch2, strsOf, upd, ofRev_len, beq1, bne1, beq2, beq12, bne12, preR, matchR, z0, z1, z2, z3, z4, z5, z6, z7, z8, z9, z10, z11, z12, z13, z14, z15, z16, z17, z18, z19, z20, z21, z22, z23, z24, z25, z26, z27, z28, z29, z30, z31, z32, z33, z34, z35, z36, z37, z38, z39, z40, z41, z42, z43, z44, z45, z46, z47, z48, z49, z50, z51, z52, z53, z54, z55, z56, z57, z58, z59, z60, z61, z62, z63, z64, z65, z66, z67, z68, z69, z70, z71, z72, z73, z74, z75, z76]
  try ((repeat' split) <;> (first | (simp_all; done) | (cases hb : b == 108 <;> simp_all; done) | grind))
theorem evJ (a b : Nat) (r : List Nat) : FJ [.str (ofRev (a :: b :: r))] = some (.bool (!(a == 97) && !(a == 101))) := by
  simp [FJ, psJ, runF, stores, store, PV.nodict, nodicts, pex, pev, cEqS, cEqI, cNeS, cNeB, cGt, cGe, cInQ, cInS, cIsN, cIsS, cIsB, cTup, bAddI, bSubI, nI, lS, lQ, trN, trB, trI, trS, ix1, ix2, ix3, ix30, ix32, sf2, pE, itS, itQ, ch2, strsOf, upd, ofRev_len, beq1, bne1, beq2, beq12, bne12, preR, matchR, z0, z1, z2, z3, z4, z5, z6, z7, z8, z9, z10, z11, z12, z13, z14, z15, z16, z17, z18, z19, z20, z21, z22, z23, z24, z25, z26, z27, z28, z29, z30, z31, z32, z33, z34, z35, z36, z37, z38, z39, z40, z41, z42, z43, z44, z45, z46, z47, z48, z49, z50, z51, z52, z53, z54, z55, z56, z57, z58, z59, z60, z61, z62, z63, z64, z65, z66, z67, z68, z69, z70, z71, z72, z73, z74, z75, z76]
  try ((repeat' split) <;> (first | (simp_all; done) | (cases hb : b == 108 <;> simp_all; done) | grind))
theorem evL (a b : Nat) (r : List Nat) : FL [.str (ofRev (a :: b :: r))] = some (.bool (!(a == 117) && (!(a == 120) && (!(a == 115) || b == 111)))) := by
  simp [FL, psL, runF, stores, store, PV.nodict, nodicts, pex, pev, cEqS, cEqI, cNeS, cNeB, cGt, cGe, cInQ, cInS, cIsN, cIsS, cIsB, cTup, bAddI, bSubI, nI, lS, lQ, trN, trB, trI, trS, ix1, ix2, ix3, ix30, ix32, sf2, pE, itS, itQ, ch2, strsOf, upd, ofRev_len, beq1, bne1, beq2, beq12, bne12, preR, matchR, z0, z1, z2, z3, z4, z5, z6, z7, z8, z9, z10, z11, z12, z13, z14, z15, z16, z17, z18, z19, z20, z21, z22, z23, z24, z25, z26, z27, z28, z29, z30, z31, z32, z33, z34, z35, z36, z37, z38, z39, z40, z41, z42, z43, z44, z45, z46, z47, z48, z49, z50, z51, z52, z53, z54, z55, z56, z57, z58, z59, z60, z61, z62, z63, z64, z65, z66, z67, z68, z69, z70, z71, z72, z73, z74, z75, z76]
  try ((repeat' split) <;> (first | (simp_all; done) | (cases hb : b == 108 <;> simp_all; done) | grind))
theorem evM (a b : Nat) (r : List Nat) : FM [.str (ofRev (a :: b :: r))] = some (.bool (!(a == 97) && (!(a == 99) && (!(a == 101) && !(a == 109))))) := by
  simp [FM, psM, runF, stores, store, PV.nodict, nodicts, pex, pev, cEqS, cEqI, cNeS, cNeB, cGt, cGe, cInQ, cInS, cIsN, cIsS, cIsB, cTup, bAddI, bSubI, nI, lS, lQ, trN, trB, trI, trS, ix1, ix2, ix3, ix30, ix32, sf2, pE, itS, itQ, ch2, strsOf, upd, ofRev_len, beq1, bne1, beq2, beq12, bne12, preR, matchR, z0, z1, z2, z3, z4, z5, z6, z7, z8, z9, z10, z11, z12, z13, z14, z15, z16, z17, z18, z19, z20, z21, z22, z23, z24, z25, z26, z27, z28, z29, z30, z31, z32, z33, z34, z35, z36, z37, z38, z39, z40, z41, z42, z43, z44, z45, z46, z47, z48, z49, z50, z51, z52, z53, z54, z55, z56, z57, z58, z59, z60, z61, z62, z63, z64, z65, z66, z67, z68, z69, z70, z71, z72, z73, z74, z75, z76]
  try ((repeat' split) <;> (first | (simp_all; done) | (cases hb : b == 108 <;> simp_all; done) | grind))
theorem evO (a b : Nat) (r : List Nat) : FO [.str (ofRev (a :: b :: r))] = some (.bool (a == 108 || a == 105)) := by
  simp [FO, psO, runF, stores, store, PV.nodict, nodicts, pex, pev, cEqS, cEqI, cNeS, cNeB, cGt, cGe, cInQ, cInS, cIsN, cIsS, cIsB, cTup, bAddI, bSubI, nI, lS, lQ, trN, trB, trI, trS, ix1, ix2, ix3, ix30, ix32, sf2, pE, itS, itQ, ch2, strsOf, upd, ofRev_len, beq1, bne1, beq2, beq12, bne12, preR, matchR, z0, z1, z2, z3, z4, z5, z6, z7, z8, z9, z10, z11, z12, z13, z14, z15, z16, z17, z18, z19, z20, z21, z22, z23, z24, z25, z26, z27, z28, z29, z30, z31, z32, z33, z34, z35, z36, z37, z38, z39, z40, z41, z42, z43, z44, z45, z46, z47, z48, z49, z50, z51, z52, z53, z54, z55, z56, z57, z58, z59, z60, z61, z62, z63, z64, z65, z66, z67, z68, z69, z70, z71, z72, z73, z74, z75, z76]
  try ((repeat' split) <;> (first | (simp_all; done) | (cases hb : b == 108 <;> simp_all; done) | grind))
theorem evP (a b : Nat) (r : List Nat) : FP [.str (ofRev (a :: b :: r))] = some (.bool (!(a == 99))) := by
  simp [FP, psP, runF, stores, store, PV.nodict, nodicts, pex, pev, cEqS, cEqI, cNeS, cNeB, cGt, cGe, cInQ, cInS, cIsN, cIsS, cIsB, cTup, bAddI, bSubI, nI, lS, lQ, trN, trB, trI, trS, ix1, ix2, ix3, ix30, ix32, sf2, pE, itS, itQ, ch2, strsOf, upd, ofRev_len, beq1, bne1, beq2, beq12, bne12, preR, matchR, z0, z1, z2, z3, z4, z5, z6, z7, z8, z9, z10, z11, z12, z13, z14, z15, z16, z17, z18, z19, z20, z21, z22, z23, z24, z25, z26, z27, z28, z29, z30, z31, z32, z33, z34, z35, z36, z37, z38, z39, z40, z41, z42, z43, z44, z45, z46, z47, z48, z49, z50, z51, z52, z53, z54, z55, z56, z57, z58, z59, z60, z61, z62, z63, z64, z65, z66, z67, z68, z69, z70, z71, z72, z73, z74, z75, z76]
  try ((repeat' split) <;> (first | (simp_all; done) | (cases hb : b == 108 <;> simp_all; done) | grind))
theorem evR (a b : Nat) (r : List Nat) : FR [.str (ofRev (a :: b :: r))] = some (.bool (a == 110 || a == 114)) := by
  simp [FR, psR, runF, stores, store, PV.nodict, nodicts, pex, pev, cEqS, cEqI, cNeS, cNeB, cGt, cGe, cInQ, cInS, cIsN, cIsS, cIsB, cTup, bAddI, bSubI, nI, lS, lQ, trN, trB, trI, trS, ix1, ix2, ix3, ix30, ix32, sf2, pE, itS, itQ, ch2, strsOf, upd, ofRev_len, beq1, bne1, beq2, beq12, bne12, preR, matchR, z0, z1, z2, z3, z4, z5, z6, z7, z8, z9, z10, z11, z12, z13, z14, z15, z16, z17, z18, z19, z20, z21, z22, z23, z24, z25, z26, z27, z28, z29, z30, z31, z32, z33, z34, z35, z36, z37, z38, z39, z40, z41, z42, z43, z44, z45, z46, z47, z48, z49, z50, z51, z52, z53, z54, z55, z56, z57, z58, z59, z60, z61, z62, z63, z64, z65, z66, z67, z68, z69, z70, z71, z72, z73, z74, z75, z76]
  try ((repeat' split) <;> (first | (simp_all; done) | (cases hb : b == 108 <;> simp_all; done) | grind))
theorem evS (a b : Nat) (r : List Nat) : FS [.str (ofRev (a :: b :: r))] = some (.bool (a == 116)) := by
  simp [FS, psS, runF, stores, store, PV.nodict, nodicts, pex, pev, cEqS, cEqI, cNeS, cNeB, cGt, cGe, cInQ, cInS, cIsN, cIsS, cIsB, cTup, bAddI, bSubI, nI, lS, lQ, trN, trB, trI, trS, ix1, ix2, ix3, ix30, ix32, sf2, pE, itS, itQ, ch2, strsOf, upd, ofRev_len, beq1, bne1, beq2, beq12, bne12, preR, matchR, z0, z1, z2, z3, z4, z5, z6, z7, z8, z9, z10, z11, z12, z13, z14, z15, z16, z17, z18, z19, z20, z21, z22, z23, z24, z25, z26, z27, z28, z29, z30, z31, z32, z33, z34, z35, z36, z37, z38, z39, z40, z41, z42, z43, z44, z45, z46, z47, z48, z49, z50, z51, z52, z53, z54, z55, z56, z57, z58, z59, z60, z61, z62, z63, z64, z65, z66, z67, z68, z69, z70, z71, z72, z73, z74, z75, z76]
  try ((repeat' split) <;> (first | (simp_all; done) | (cases hb : b == 108 <;> simp_all; done) | grind))
theorem evT (a b : Nat) (r : List Nat) : FT [.str (ofRev (a :: b :: r))] = some (.bool (a == 115 || (a == 116 && !(b == 111)))) := by
  simp [FT, psT, runF, stores, store, PV.nodict, nodicts, pex, pev, cEqS, cEqI, cNeS, cNeB, cGt, cGe, cInQ, cInS, cIsN, cIsS, cIsB, cTup, bAddI, bSubI, nI, lS, lQ, trN, trB, trI, trS, ix1, ix2, ix3, ix30, ix32, sf2, pE, itS, itQ, ch2, strsOf, upd, ofRev_len, beq1, bne1, beq2, beq12, bne12, preR, matchR, z0, z1, z2, z3, z4, z5, z6, z7, z8, z9, z10, z11, z12, z13, z14, z15, z16, z17, z18, z19, z20, z21, z22, z23, z24, z25, z26, z27, z28, z29, z30, z31, z32, z33, z34, z35, z36, z37, z38, z39, z40, z41, z42, z43, z44, z45, z46, z47, z48, z49, z50, z51, z52, z53, z54, z55, z56, z57, z58, z59, z60, z61, z62, z63, z64, z65, z66, z67, z68, z69, z70, z71, z72, z73, z74, z75, z76]
  try ((repeat' split) <;> (first | (simp_all; done) | (cases hb : b == 108 <;> simp_all; done) | grind))
theorem evU (a b : Nat) (r : List Nat) : FU [.str (ofRev (a :: b :: r))] = some (.bool (a == 108 || (a == 109 || (a == 110 || a == 114)))) := by
  simp [FU, psU, runF, stores, store, PV.nodict, nodicts, pex, pev, cEqS, cEqI, cNeS, cNeB, cGt, cGe, cInQ, cInS, cIsN, cIsS, cIsB, cTup, bAddI, bSubI, nI, lS, lQ, trN, trB, trI, trS, ix1, ix2, ix3, ix30, ix32, sf2, pE, itS, itQ, ch2, strsOf, upd, ofRev_len, beq1, bne1, beq2, beq12, bne12, preR, matchR, z0, z1, z2, z3, z4, z5, z6, z7, z8, z9, z10, z11, z12, z13, z14, z15, z16, z17, z18, z19, z20, z21, z22, z23, z24, z25, z26, z27, z28, z29, z30, z31, z32, z33, z34, z35, z36, z37, z38, z39, z40, z41, z42, z43, z44, z45, z46, z47, z48, z49, z50, z51, z52, z53, z54, z55, z56, z57, z58, z59, z60, z61, z62, z63, z64, z65, z66, z67, z68, z69, z70, z71, z72, z73, z74, z75, z76]
  try ((repeat' split) <;> (first | (simp_all; done) | (cases hb : b == 108 <;> simp_all; done) | grind))
theorem evV (a b : Nat) (r : List Nat) : FV [.str (ofRev (a :: b :: r))] = some (.bool (a == 99)) := by
  simp [FV, psV, runF, stores, store, PV.nodict, nodicts, pex, pev, cEqS, cEqI, cNeS, cNeB, cGt, cGe, cInQ, cInS, cIsN, cIsS, cIsB, cTup, bAddI, bSubI, nI, lS, lQ, trN, trB, trI, trS, ix1, ix2, ix3, ix30, ix32, sf2, pE, itS, itQ, ch2, strsOf, upd, ofRev_len, beq1, bne1, beq2, beq12, bne12, preR, matchR, z0, z1, z2, z3, z4, z5, z6, z7, z8, z9, z10, z11, z12, z13, z14, z15, z16, z17, z18, z19, z20, z21, z22, z23, z24, z25, z26, z27, z28, z29, z30, z31, z32, z33, z34, z35, z36, z37, z38, z39, z40, z41, z42, z43, z44, z45, z46, z47, z48, z49, z50, z51, z52, z53, z54, z55, z56, z57, z58, z59, z60, z61, z62, z63, z64, z65, z66, z67, z68, z69, z70, z71, z72, z73, z74, z75, z76]
  try ((repeat' split) <;> (first | (simp_all; done) | (cases hb : b == 108 <;> simp_all; done) | grind))
theorem evW (a b : Nat) (r : List Nat) : FW [.str (ofRev (a :: b :: r))] = some (.bool (!(a == 115) && !(a == 117))) := by
  simp [FW, psW, runF, stores, store, PV.nodict, nodicts, pex, pev, cEqS, cEqI, cNeS, cNeB, cGt, cGe, cInQ, cInS, cIsN, cIsS, cIsB, cTup, bAddI, bSubI, nI, lS, lQ, trN, trB, trI, trS, ix1, ix2, ix3, ix30, ix32, sf2, pE, itS, itQ, ch2, strsOf, upd, ofRev_len, beq1, bne1, beq2, beq12, bne12, preR, matchR, z0, z1, z2, z3, z4, z5, z6, z7, z8, z9, z10, z11, z12, z13, z14, z15, z16, z17, z18, z19, z20, z21, z22, z23, z24, z25, z26, z27, z28, z29, z30, z31, z32, z33, z34, z35, z36, z37, z38, z39, z40, z41, z42, z43, z44, z45, z46, z47, z48, z49, z50, z51, z52, z53, z54, z55, z56, z57, z58, z59, z60, z61, z62, z63, z64, z65, z66, z67, z68, z69, z70, z71, z72, z73, z74, z75, z76]
  try ((repeat' split) <;> (first | (simp_all; done) | (cases hb : b == 108 <;> simp_all; done) | grind))
theorem evY (a b : Nat) (r : List Nat) : FY [.str (ofRev (a :: b :: r))] = some (.bool (a == 110 && b == 105)) := by
  simp [FY, psY, runF, stores, store, PV.nodict, nodicts, pex, pev, cEqS, cEqI, cNeS, cNeB, cGt, cGe, cInQ, cInS, cIsN, cIsS, cIsB, cTup, bAddI, bSubI, nI, lS, lQ, trN, trB, trI, trS, ix1, ix2, ix3, ix30, ix32, sf2, pE, itS, itQ, ch2, strsOf, upd, ofRev_len, beq1, bne1, beq2, beq12, bne12, preR, matchR, z0, z1, z2, z3, z4, z5, z6, z7, z8, z9, z10, z11, z12, z13, z14, z15, z16, z17, z18, z19, z20, z21, z22, z23, z24, z25, z26, z27, z28, z29, z30, z31, z32, z33, z34, z35, z36, z37, z38, z39, z40, z41, z42, z43, z44, z45, z46, z47, z48, z49, z50, z51, z52, z53, z54, z55, z56, z57, z58, z59, z60, z61, z62, z63, z64, z65, z66, z67, z68, z69, z70, z71, z72, z73, z74, z75, z76]
  try ((repeat' split) <;> (first | (simp_all; done) | (cases hb : b == 108 <;> simp_all; done) | grind))
theorem evZ (a b : Nat) (r : List Nat) : FZ [.str (ofRev (a :: b :: r))] = some (.bool (!(a == 102))) := by
  simp [FZ, psZ, runF, stores, store, PV.nodict, nodicts, pex, pev, cEqS, cEqI, cNeS, cNeB, cGt, cGe, cInQ, cInS, cIsN, cIsS, cIsB, cTup, bAddI, bSubI, nI, lS, lQ, trN, trB, trI, trS, ix1, ix2, ix3, ix30, ix32, sf2, pE, itS, itQ, ch2, strsOf, upd, ofRev_len, beq1, bne1, beq2, beq12, bne12, preR, matchR, z0, z1, z2, z3, z4, z5, z6, z7, z8, z9, z10, z11, z12, z13, z14, z15, z16, z17, z18, z19, z20, z21, z22, z23, z24, z25, z26, z27, z28, z29, z30, z31, z32, z33, z34, z35, z36, z37, z38, z39, z40, z41, z42, z43, z44, z45, z46, z47, z48, z49, z50, z51, z52, z53, z54, z55, z56, z57, z58, z59, z60, z61, z62, z63, z64, z65, z66, z67, z68, z69, z70, z71, z72, z73, z74, z75, z76]
  try ((repeat' split) <;> (first | (simp_all; done) | (cases hb : b == 108 <;> simp_all; done) | grind))
theorem evSmA (a b : Nat) (r : List Nat) : FSmA [.str (ofRev (a :: b :: r))] = some (.bool (a == 100 || (a == 102 || ((a == 104 && b == 112) || ((a == 104 && b == 116) || (a == 108 || ((a == 114 && b == 101) || ((a == 114 && b == 111) || ((a == 115 && b == 101) || a == 116))))))))) := by
  simp [FSmA, psSmA, runF, stores, store, PV.nodict, nodicts, pex, pev, cEqS, cEqI, cNeS, cNeB, cGt, cGe, cInQ, cInS, cIsN, cIsS, cIsB, cTup, bAddI, bSubI, nI, lS, lQ, trN, trB, trI, trS, ix1, ix2, ix3, ix30, ix32, sf2, pE, itS, itQ, ch2, strsOf, upd, ofRev_len, beq1, bne1, beq2, beq12, bne12, preR, matchR, z0, z1, z2, z3, z4, z5, z6, z7, z8, z9, z10, z11, z12, z13, z14, z15, z16, z17, z18, z19, z20, z21, z22, z23, z24, z25, z26, z27, z28, z29, z30, z31, z32, z33, z34, z35, z36, z37, z38, z39, z40, z41, z42, z43, z44, z45, z46, z47, z48, z49, z50, z51, z52, z53, z54, z55, z56, z57, z58, z59, z60, z61, z62, z63, z64, z65, z66, z67, z68, z69, z70, z71, z72, z73, z74, z75, z76]
  try ((repeat' split) <;> (first | (simp_all; done) | (cases hb : b == 108 <;> simp_all; done) | grind))
theorem evSmC (a b : Nat) (r : List Nat) : FSmC [.str (ofRev (a :: b :: r))] = some (.bool (a == 108)) := by
  simp [FSmC, psSmC, runF, stores, store, PV.nodict, nodicts, pex, pev, cEqS, cEqI, cNeS, cNeB, cGt, cGe, cInQ, cInS, cIsN, cIsS, cIsB, cTup, bAddI, bSubI, nI, lS, lQ, trN, trB, trI, trS, ix1, ix2, ix3, ix30, ix32, sf2, pE, itS, itQ, ch2, strsOf, upd, ofRev_len, beq1, bne1, beq2, beq12, bne12, preR, matchR, z0, z1, z2, z3, z4, z5, z6, z7, z8, z9, z10, z11, z12, z13, z14, z15, z16, z17, z18, z19, z20, z21, z22, z23, z24, z25, z26, z27, z28, z29, z30, z31, z32, z33, z34, z35, z36, z37, z38, z39, z40, z41, z42, z43, z44, z45, z46, z47, z48, z49, z50, z51, z52, z53, z54, z55, z56, z57, z58, z59, z60, z61, z62, z63, z64, z65, z66, z67, z68, z69, z70, z71, z72, z73, z74, z75, z76]
  try ((repeat' split) <;> (first | (simp_all; done) | (cases hb : b == 108 <;> simp_all; done) | grind))
theorem fz0 : fineS (ofRev [97]) = true := by decide +kernel
theorem kz0 : PyData.strOk (ofRev [97]) = true := by decide +kernel
theorem fz1 : fineS (ofRev [98, 98]) = true := by decide +kernel
theorem kz1 : PyData.strOk (ofRev [98, 98]) = true := by decide +kernel
theorem fz2 : fineS (ofRev [99]) = true := by decide +kernel
theorem kz2 : PyData.strOk (ofRev [99]) = true := by decide +kernel
theorem fz3 : fineS (ofRev [100]) = true := by decide +kernel
theorem kz3 : PyData.strOk (ofRev [100]) = true := by decide +kernel
theorem fz4 : fineS (ofRev [100, 100]) = true := by decide +kernel
theorem kz4 : PyData.strOk (ofRev [100, 100]) = true := by decide +kernel
theorem fz5 : fineS (ofRev [114, 100]) = true := by decide +kernel
theorem kz5 : PyData.strOk (ofRev [114, 100]) = true := by decide +kernel
theorem fz6 : fineS (ofRev [101]) = true := by decide +kernel
theorem kz6 : PyData.strOk (ofRev [101]) = true := by decide +kernel
theorem fz7 : fineS (ofRev [121, 108, 105, 108, 101]) = true := by decide +kernel
theorem kz7 : PyData.strOk (ofRev [121, 108, 105, 108, 101]) = true := by decide +kernel
theorem fz8 : fineS (ofRev [121, 116, 105, 108, 101]) = true := by decide +kernel
theorem kz8 : PyData.strOk (ofRev [121, 116, 105, 108, 101]) = true := by decide +kernel
theorem fz9 : fineS (ofRev [114, 101]) = true := by decide +kernel
theorem kz9 : PyData.strOk (ofRev [114, 101]) = true := by decide +kernel
theorem fz10 : fineS (ofRev [115, 101]) = true := by decide +kernel
theorem kz10 : PyData.strOk (ofRev [115, 101]) = true := by decide +kernel
theorem fz11 : fineS (ofRev [102]) = true := by decide +kernel
theorem kz11 : PyData.strOk (ofRev [102]) = true := by decide +kernel
theorem fz12 : fineS (ofRev [103, 103]) = true := by decide +kernel
theorem kz12 : PyData.strOk (ofRev [103, 103]) = true := by decide +kernel
theorem fz13 : fineS (ofRev [105]) = true := by decide +kernel
theorem kz13 : PyData.strOk (ofRev [105]) = true := by decide +kernel
theorem fz14 : fineS (ofRev [110, 105]) = true := by decide +kernel
theorem kz14 : PyData.strOk (ofRev [110, 105]) = true := by decide +kernel
theorem fz15 : fineS (ofRev [108]) = true := by decide +kernel
theorem kz15 : PyData.strOk (ofRev [108]) = true := by decide +kernel
theorem fz16 : fineS (ofRev [108, 108]) = true := by decide +kernel
theorem kz16 : PyData.strOk (ofRev [108, 108]) = true := by decide +kernel
theorem fz17 : fineS (ofRev [109]) = true := by decide +kernel
theorem kz17 : PyData.strOk (ofRev [109]) = true := by decide +kernel
theorem fz18 : fineS (ofRev [116, 101, 109]) = true := by decide +kernel
theorem kz18 : PyData.strOk (ofRev [116, 101, 109]) = true := by decide +kernel
theorem fz19 : fineS (ofRev [109, 109]) = true := by decide +kernel
theorem kz19 : PyData.strOk (ofRev [109, 109]) = true := by decide +kernel
theorem fz20 : fineS (ofRev [110]) = true := by decide +kernel
theorem kz20 : PyData.strOk (ofRev [110]) = true := by decide +kernel
theorem fz21 : fineS (ofRev [110, 110]) = true := by decide +kernel
theorem kz21 : PyData.strOk (ofRev [110, 110]) = true := by decide +kernel
theorem fz22 : fineS (ofRev [111]) = true := by decide +kernel
theorem kz22 : PyData.strOk (ofRev [111]) = true := by decide +kernel
theorem fz23 : fineS (ofRev [114, 111]) = true := by decide +kernel
theorem kz23 : PyData.strOk (ofRev [114, 111]) = true := by decide +kernel
theorem fz24 : fineS (ofRev [115, 111]) = true := by decide +kernel
theorem kz24 : PyData.strOk (ofRev [115, 111]) = true := by decide +kernel
theorem fz25 : fineS (ofRev [116, 111]) = true := by decide +kernel
theorem kz25 : PyData.strOk (ofRev [116, 111]) = true := by decide +kernel
theorem fz26 : fineS (ofRev [104, 112]) = true := by decide +kernel
theorem kz26 : PyData.strOk (ofRev [104, 112]) = true := by decide +kernel
theorem fz27 : fineS (ofRev [112, 112]) = true := by decide +kernel
theorem kz27 : PyData.strOk (ofRev [112, 112]) = true := by decide +kernel
theorem fz28 : fineS (ofRev [114]) = true := by decide +kernel
theorem kz28 : PyData.strOk (ofRev [114]) = true := by decide +kernel
theorem fz29 : fineS (ofRev [114, 114]) = true := by decide +kernel
theorem kz29 : PyData.strOk (ofRev [114, 114]) = true := by decide +kernel
theorem fz30 : fineS (ofRev [116, 115, 121, 114]) = true := by decide +kernel
theorem kz30 : PyData.strOk (ofRev [116, 115, 121, 114]) = true := by decide +kernel
theorem fz31 : fineS (ofRev [115]) = true := by decide +kernel
theorem kz31 : PyData.strOk (ofRev [115]) = true := by decide +kernel
theorem fz32 : fineS (ofRev [63, 63, 115]) = true := by decide +kernel
theorem kz32 : PyData.strOk (ofRev [63, 63, 115]) = true := by decide +kernel
theorem fz33 : fineS (ofRev [115, 115]) = true := by decide +kernel
theorem kz33 : PyData.strOk (ofRev [115, 115]) = true := by decide +kernel
theorem fz34 : fineS (ofRev [116]) = true := by decide +kernel
theorem kz34 : PyData.strOk (ofRev [116]) = true := by decide +kernel
theorem fz35 : fineS (ofRev [104, 116]) = true := by decide +kernel
theorem kz35 : PyData.strOk (ofRev [104, 116]) = true := by decide +kernel
theorem fz36 : fineS (ofRev [116, 116]) = true := by decide +kernel
theorem kz36 : PyData.strOk (ofRev [116, 116]) = true := by decide +kernel
theorem fz37 : fineS (ofRev [117]) = true := by decide +kernel
theorem kz37 : PyData.strOk (ofRev [117]) = true := by decide +kernel
theorem fz38 : fineS (ofRev [101, 63, 117]) = true := by decide +kernel
theorem kz38 : PyData.strOk (ofRev [101, 63, 117]) = true := by decide +kernel
theorem fz39 : fineS (ofRev [120]) = true := by decide +kernel
theorem kz39 : PyData.strOk (ofRev [120]) = true := by decide +kernel
theorem tmA : pidx termsP (.str (ofRev [65])) = some (.seq false [.int 2, .seq false [], .seq false [], .seq false []]) := by kernel_rfl
theorem tmB : pidx termsP (.str (ofRev [66])) = some (.seq false [.int 3, .seq false [], .seq false [], .seq false []]) := by kernel_rfl
theorem tmC : pidx termsP (.str (ofRev [67])) = some (.seq false [.int 4, .seq false [], .seq false [], .seq false []]) := by kernel_rfl
theorem tmD : pidx termsP (.str (ofRev [68])) = some (.seq false [.int 5, .seq false [], .seq false [], .seq false []]) := by kernel_rfl
theorem tmE : pidx termsP (.str (ofRev [69])) = some (.seq false [.int 2, .seq false [], .seq false [.str (ofRev [101])], .seq false []]) := by kernel_rfl
theorem tmF : pidx termsP (.str (ofRev [70])) = some (.seq false [.int 3, .seq false [], .seq false [.str (ofRev [101])], .seq false []]) := by kernel_rfl
theorem tmG : pidx termsP (.str (ofRev [71])) = some (.seq false [.int 3, .seq false [.str (ofRev [102])], .seq false [], .seq false []]) := by kernel_rfl
theorem tmH : pidx termsP (.str (ofRev [72])) = some (.seq false [.int 2, .seq false [.str (ofRev [116]), .str (ofRev [108, 108])], .seq false [], .seq false []]) := by kernel_rfl
theorem tmI : pidx termsP (.str (ofRev [73])) = some (.seq false [.int 2, .seq false [], .seq false [.str (ofRev [111]), .str (ofRev [101])], .seq false []]) := by kernel_rfl
theorem tmJ : pidx termsP (.str (ofRev [74])) = some (.seq false [.int 2, .seq false [], .seq false [.str (ofRev [97]), .str (ofRev [101])], .seq false []]) := by kernel_rfl
theorem tmK : pidx termsP (.str (ofRev [75])) = some (.seq false [.int 3, .seq false [.str (ofRev [108]), .str (ofRev [105]), .str (ofRev [101, 63, 117])], .seq false [], .seq false []]) := by kernel_rfl
theorem tmL : pidx termsP (.str (ofRev [76])) = some (.seq false [.int 2, .seq false [], .seq false [.str (ofRev [117]), .str (ofRev [120]), .str (ofRev [115])], .seq false [.str (ofRev [115, 111])]]) := by kernel_rfl
theorem tmM : pidx termsP (.str (ofRev [77])) = some (.seq false [.int 2, .seq false [], .seq false [.str (ofRev [97]), .str (ofRev [99]), .str (ofRev [101]), .str (ofRev [109])], .seq false []]) := by kernel_rfl
theorem tmN : pidx termsP (.str (ofRev [78])) = some (.seq false [.int 3, .seq false [], .seq false [], .seq false []]) := by kernel_rfl
theorem tmO : pidx termsP (.str (ofRev [79])) = some (.seq false [.int 2, .seq false [.str (ofRev [108]), .str (ofRev [105])], .seq false [], .seq false []]) := by kernel_rfl
theorem tmP : pidx termsP (.str (ofRev [80])) = some (.seq false [.int 2, .seq false [], .seq false [.str (ofRev [99])], .seq false []]) := by kernel_rfl
theorem tmQ : pidx termsP (.str (ofRev [81])) = some (.seq false [.int 3, .seq false [], .seq false [.str (ofRev [108]), .str (ofRev [110])], .seq false []]) := by kernel_rfl
theorem tmR : pidx termsP (.str (ofRev [82])) = some (.seq false [.int 2, .seq false [.str (ofRev [110]), .str (ofRev [114])], .seq false [], .seq false []]) := by kernel_rfl
theorem tmS : pidx termsP (.str (ofRev [83])) = some (.seq false [.int 2, .seq false [.str (ofRev [114, 100]), .str (ofRev [116])], .seq false [.str (ofRev [116, 116])], .seq false []]) := by kernel_rfl
theorem tmT : pidx termsP (.str (ofRev [84])) = some (.seq false [.int 2, .seq false [.str (ofRev [115]), .str (ofRev [116])], .seq false [.str (ofRev [116, 111])], .seq false []]) := by kernel_rfl
theorem tmU : pidx termsP (.str (ofRev [85])) = some (.seq false [.int 2, .seq false [.str (ofRev [108]), .str (ofRev [109]), .str (ofRev [110]), .str (ofRev [114])], .seq false [], .seq false []]) := by kernel_rfl
theorem tmV : pidx termsP (.str (ofRev [86])) = some (.seq false [.int 2, .seq false [.str (ofRev [99])], .seq false [], .seq false []]) := by kernel_rfl
theorem tmW : pidx termsP (.str (ofRev [87])) = some (.seq false [.int 2, .seq false [], .seq false [.str (ofRev [115]), .str (ofRev [117])], .seq false []]) := by kernel_rfl
theorem tmX : pidx termsP (.str (ofRev [88])) = some (.seq false [.int 2, .seq false [.str (ofRev [108]), .str (ofRev [105]), .str (ofRev [101, 63, 117])], .seq false [], .seq false []]) := by kernel_rfl
theorem tmY : pidx termsP (.str (ofRev [89])) = some (.seq false [.int 2, .seq false [.str (ofRev [110, 105])], .seq false [], .seq false []]) := by kernel_rfl
theorem tmZ : pidx termsP (.str (ofRev [90])) = some (.seq false [.int 2, .seq false [], .seq false [.str (ofRev [102])], .seq false []]) := by kernel_rfl
theorem tmSmA : pidx termsP (.str (ofRev [97])) = some (.seq false [.int 2, .seq false [.str (ofRev [100]), .str (ofRev [102]), .str (ofRev [104, 112]), .str (ofRev [104, 116]), .str (ofRev [108]), .str (ofRev [114, 101]), .str (ofRev [114, 111]), .str (ofRev [115, 101]), .str (ofRev [116])], .seq false [], .seq false []]) := by kernel_rfl
theorem tmSmB : pidx termsP (.str (ofRev [98])) = some (.seq false [.int 3, .seq false [], .seq false [.str (ofRev [116, 101, 109]), .str (ofRev [116, 115, 121, 114])], .seq false []]) := by kernel_rfl
theorem tmSmC : pidx termsP (.str (ofRev [99])) = some (.seq false [.int 2, .seq false [.str (ofRev [108])], .seq false [], .seq false []]) := by kernel_rfl
noncomputable def CondOk (l : Nat) (r : List Nat) : Prop := Flawholds [.str (ofRev [l]), .str (ofRev r)] = some .none ∨ ∃ b, Flawholds [.str (ofRev [l]), .str (ofRev r)] = some (.bool b) ∧ Fholds [.str (ofRev [l]), .str (ofRev r)] = some (.bool b)
theorem ft : Fterms [] = some termsP := rfl

section
variable {gv : List PV} {ff : List (List PV → Option PV)} {ρ : Nat → Option PV}
theorem and_b {a b : PE} {x y : Bool} (ha : pev gv ff ρ a = some (.bool x)) (hb : x = true → pev gv ff ρ b = some (.bool y)) : pev gv ff ρ (.and a b) = some (.bool (x && y)) := by
  simp only [pev, ha, Option.bind_some, trB]
  cases x with
  | true => rw [if_pos rfl, hb rfl]; rfl
  | false => rfl
theorem or_b {a b : PE} {x y : Bool} (ha : pev gv ff ρ a = some (.bool x)) (hb : x = false → pev gv ff ρ b = some (.bool y)) : pev gv ff ρ (.or a b) = some (.bool (x || y)) := by
  simp only [pev, ha, Option.bind_some, trB]
  cases x with
  | true => rfl
  | false => rw [if_neg Bool.false_ne_true, hb rfl]; rfl
theorem not_b {a : PE} {x : Bool} (ha : pev gv ff ρ a = some (.bool x)) : pev gv ff ρ (.not a) = some (.bool (!x)) := by
  simp only [pev, ha, Option.bind_some, trB, Option.map_some]
theorem ite_ret {c : PE} {C : Bool} {v : PE} {k : PS} {N : Nat} (h : pev gv ff ρ c = some (.bool C)) : pex gv ff N (.ite c (.ret v) .nil k) ρ = if C then (pev gv ff ρ v).map .ret else pex gv ff N k ρ := by
  simp only [pex, h, Option.bind_some, trB]
  cases C with
  | true => simp only [if_true]; cases pev gv ff ρ v <;> rfl
  | false => rfl
theorem asg_step {i : Nat} {e : PE} {k : PS} {N : Nat} {v : PV} (h : pev gv ff ρ e = some v) (hd : v.nodict = true) : pex gv ff N (.assign i e k) ρ = pex gv ff N k (upd ρ i v) := by
  simp only [pex, h, Option.bind_some, store, hd, if_true]
theorem unp_step {is : List Nat} {e : PE} {k : PS} {N : Nat} {v : PV} {vs : List PV} {ρ' : Nat → Option PV} (h : pev gv ff ρ e = some v) (hi : itemsP v = some vs) (hs : stores ρ is vs = some ρ') : pex gv ff N (.unpack is e k) ρ = pex gv ff N k ρ' := by
  simp only [pex, h, hi, hs, Option.bind_some]
theorem ret_step {e : PE} {N : Nat} {v : PV} (h : pev gv ff ρ e = some v) : pex gv ff N (.ret e) ρ = some (.ret v) := by
  simp only [pex, h, Option.map_some]
theorem ite_step {c : PE} {a b k : PS} {N : Nat} {v : PV} {t : Bool} (h : pev gv ff ρ c = some v) (ht : truth v = some t) :
    pex gv ff N (.ite c a b k) ρ = (if t then pex gv ff N a ρ else pex gv ff N b ρ).bind fun f => (match f with | .next ρ' => pex gv ff N k ρ' | .ret v => some (.ret v)) := by
  simp only [pex, h, ht, Option.bind_some]
  all_goals rfl
theorem ite_asg {c : PE} {C : Bool} {i : Nat} {v : PV} {k : PS} {N : Nat} (h : pev gv ff ρ c = some (.bool C)) (hd : v.nodict = true) : pex gv ff N (.ite c (.assign i (.const v) .nil) .nil k) ρ = if C then pex gv ff N k (upd ρ i v) else pex gv ff N k ρ := by
  rw [ite_step h (trB C)]
  cases C with
  | true => rw [if_pos rfl, if_pos rfl, asg_step (v := v) rfl hd]; rfl
  | false => rfl
end
noncomputable def anyB (x : Str) (es : List Str) : Bool := es.any (closesB x)
noncomputable def CC1 (l x : Str) : Bool := ([Str.ofString "K", Str.ofString "X"].any fun y => y == l) && ((x.length : Int) == 2)
noncomputable def CC2 (l x : Str) : Bool := l == Str.ofString "S" && anyB x [Str.ofString "dr", Str.ofString "tt"]
noncomputable def CC3 (l x : Str) : Bool := l == Str.ofString "N" && (((x.length : Int) == 3) && ((Txt.item x 0 == Str.ofString "s") != (Txt.item x 2 == Str.ofString "s")))
noncomputable def leastOf (T : Term) (l x : Str) : Int := if (l == Str.ofString "N" && closesB x (Str.ofString "s??")) = true then 4 else T.least
noncomputable def fits (T : Term) (l x : Str) : Bool := decide ((x.length : Int) ≥ leastOf T l x) && ((T.wanted.isEmpty || anyB x T.wanted) && (!anyB x T.refused || anyB x T.spared))
noncomputable def holdsL (T : Term) (l x : Str) : PV := if CC1 l x || (CC2 l x || CC3 l x) then .none else .bool (fits T l x)
noncomputable def fineT (T : Term) : Bool := decide (T.wanted.length ≤ 64) && decide (T.refused.length ≤ 64) && decide (T.spared.length ≤ 64) && T.wanted.all fineS && T.refused.all fineS && T.spared.all fineS
theorem strsOf_map : ∀ es : List Str, strsOf (es.map .str) = some es
  | [] => rfl
  | e :: r => by simp [strsOf, strsOf_map r]
theorem fany (x : Str) (l : Bool) (es : List Str) (hx : x.length ≤ 64) (hl : es.length ≤ 64) (hf : es.all fineS = true) : Fany [.str x, .seq l (es.map .str)] = some (.bool (anyB x es)) := by
  unfold Fany
  simp only [strsOf_map, Option.bind_some]
  rw [if_pos ⟨hx, hl, hf⟩]; rfl
theorem fcloses (x y : Str) (hx : x.length ≤ 64) (hy : y.length ≤ 64) : Fcloses [.str x, .str y] = some (.bool (closesB x y)) := by
  unfold Fcloses
  simp only
  rw [if_pos ⟨hx, hy⟩]
theorem all_ok {es : List Str} (h : es.all fineS = true) : es.all PyData.strOk = true := by
  rw [List.all_eq_true] at h ⊢
  intro e he
  have := h e he
  simp only [fineS, Bool.and_eq_true] at this
  exact this.2
theorem cTup2 (es : List Str) (h : es.all PyData.strOk = true) : pcmp .Eq (.seq false (es.map .str)) (.seq false []) = some (.bool es.isEmpty) := by
  rw [cTup, strsOf_map, Option.bind_some, if_pos h]
theorem nodicts_strs : ∀ es : List Str, nodicts (es.map .str) = true
  | [] => rfl
  | e :: r => by simp [nodicts, PV.nodict, nodicts_strs r]
theorem lawholds_gen (l x : Str) (T : Term) (hx : x.length ≤ 64) (hT : pidx termsP (.str l) = some (termP T)) (hf : fineT T = true) : Flawholds [.str l, .str x] = some (holdsL T l x) := by
  simp only [fineT, Bool.and_eq_true, decide_eq_true_eq] at hf
  obtain ⟨⟨⟨⟨⟨n1, n2⟩, n3⟩, f1⟩, f2⟩, f3⟩ := hf
  have a0 := fany x true [Str.ofString "dr", Str.ofString "tt"] hx (by decide) (by decide +kernel)
  have a1 := fany x false T.wanted hx n1 f1
  have a2 := fany x false T.refused hx n2 f2
  have a3 := fany x false T.spared hx n3 f3
  have a4 := fcloses x (Str.ofString "s??") hx (by decide +kernel)
  have a5 := cTup2 T.wanted (all_ok f1)
  have e3 : ((x.length : Int) == 3) = true → pidx (.str x) (.int 0) = some (.str (Txt.item x 0)) ∧ pidx (.str x) (.int 2) = some (.str (Txt.item x 2)) := by
    intro h
    have h' : (x.length : Int) = 3 := by simpa using h
    exact ⟨ixS _ _ (by omega), ixS _ _ (by omega)⟩
  have nd1 : nodicts (T.wanted.map .str) = true := nodicts_strs _
  have nd2 : nodicts (T.refused.map .str) = true := nodicts_strs _
  have nd3 : nodicts (T.spared.map .str) = true := nodicts_strs _
  simp only [List.map_cons, List.map_nil] at a0
  have hr0 : stores (fun _ => none) [0, 1] [.str l, .str x] = some (upd (upd (fun _ => none) 0 (.str l)) 1 (.str x)) := rfl
  unfold Flawholds runF
  rw [hr0, Option.bind_some]
  generalize hff : [Fcloses, Fany, Fterms] = ff
  have hf0 : ff[0]? = some Fcloses := by rw [← hff]; rfl
  have hf1 : ff[1]? = some Fany := by rw [← hff]; rfl
  have hf2 : ff[2]? = some Fterms := by rw [← hff]; rfl
  generalize hρ : upd (upd (upd (fun _ => none) 0 (.str l)) 1 (.str x)) 2 (.int x.length) = ρ
  have r0 : ρ 0 = some (.str l) := by rw [← hρ]; rfl
  have r1 : ρ 1 = some (.str x) := by rw [← hρ]; rfl
  have r2 : ρ 2 = some (.int x.length) := by rw [← hρ]; rfl
  have k1 : pev [] ff ρ (.and (.cmp .In (.loc 0) (.lit true [(.str (Str.ofString "K")), (.str (Str.ofString "X"))])) (.cmp .Eq (.loc 2) (.const (.int (2))))) = some (.bool (CC1 l x)) :=
    and_b (by simp only [pev, r0, Option.bind_some]; rfl) fun _ => by simp only [pev, r2, Option.bind_some]; rfl
  have k2 : pev [] ff ρ (.and (.cmp .Eq (.loc 0) (.const (.str (Str.ofString "S")))) (.call2 1 (.loc 1) (.lit true [(.str (Str.ofString "dr")), (.str (Str.ofString "tt"))]))) = some (.bool (CC2 l x)) :=
    and_b (by simp only [pev, r0, Option.bind_some]; rfl) fun _ => by simp only [pev, r1, hf1, Option.bind_some]; exact a0
  have k3 : pev [] ff ρ (.and (.cmp .Eq (.loc 0) (.const (.str (Str.ofString "N")))) (.and (.cmp .Eq (.loc 2) (.const (.int (3)))) (.cmp .NotEq (.cmp .Eq (.idx (.loc 1) (.const (.int (0)))) (.const (.str (Str.ofString "s")))) (.cmp .Eq (.idx (.loc 1) (.const (.int (2)))) (.const (.str (Str.ofString "s"))))))) = some (.bool (CC3 l x)) :=
    and_b (by simp only [pev, r0, Option.bind_some]; rfl) fun _ => and_b (by simp only [pev, r2, Option.bind_some]; rfl) fun h3 => by
      obtain ⟨q0, q2⟩ := e3 h3
      simp only [pev, r1, q0, q2, Option.bind_some, cEqS, cNeB]
  show (pex [] ff 1 (.assign 2 (.len (.loc 1)) _) (upd (upd (fun _ => none) 0 (.str l)) 1 (.str x))).map _ = _
  rw [show pex [] ff 1 (.assign 2 (.len (.loc 1)) _) (upd (upd (fun _ => none) 0 (.str l)) 1 (.str x)) = pex [] ff 1 _ ρ from by rw [← hρ]; rfl]
  rw [ite_ret k1, ite_ret k2, ite_ret k3]
  unfold holdsL
  cases h1 : CC1 l x with
  | true => rfl
  | false =>
  cases h2 : CC2 l x with
  | true => rfl
  | false =>
  cases h3 : CC3 l x with
  | true => rfl
  | false =>
  simp only [Bool.false_eq_true, if_false, Bool.or_self]
  have hun : stores ρ [3, 4, 5, 6] [.int T.least, .seq false (T.wanted.map .str), .seq false (T.refused.map .str), .seq false (T.spared.map .str)] =
      some (upd (upd (upd (upd ρ 3 (.int T.least)) 4 (.seq false (T.wanted.map .str))) 5 (.seq false (T.refused.map .str))) 6 (.seq false (T.spared.map .str))) := by
    simp only [stores, store, PV.nodict, nd1, nd2, nd3, if_true, Option.bind_some]
  generalize hρ2 : upd (upd (upd (upd ρ 3 (.int T.least)) 4 (.seq false (T.wanted.map .str))) 5 (.seq false (T.refused.map .str))) 6 (.seq false (T.spared.map .str)) = ρ2 at hun
  have s0 : ρ2 0 = some (.str l) := by rw [← hρ2]; exact r0
  have s1 : ρ2 1 = some (.str x) := by rw [← hρ2]; exact r1
  have s2 : ρ2 2 = some (.int x.length) := by rw [← hρ2]; exact r2
  have s3 : ρ2 3 = some (.int T.least) := by rw [← hρ2]; rfl
  have s4 : ρ2 4 = some (.seq false (T.wanted.map .str)) := by rw [← hρ2]; rfl
  have s5 : ρ2 5 = some (.seq false (T.refused.map .str)) := by rw [← hρ2]; rfl
  have s6 : ρ2 6 = some (.seq false (T.spared.map .str)) := by rw [← hρ2]; rfl
  have k4 : pev [] ff ρ2 (.and (.cmp .Eq (.loc 0) (.const (.str (Str.ofString "N")))) (.call2 0 (.loc 1) (.const (.str (Str.ofString "s??"))))) = some (.bool (l == Str.ofString "N" && closesB x (Str.ofString "s??"))) :=
    and_b (by simp only [pev, s0, Option.bind_some]; rfl) fun _ => by simp only [pev, s1, hf0, Option.bind_some]; exact a4
  have k5 : ∀ ρ3 : Nat → Option PV, ρ3 1 = some (.str x) → ρ3 2 = some (.int x.length) → ρ3 3 = some (.int (leastOf T l x)) → ρ3 4 = ρ2 4 → ρ3 5 = ρ2 5 → ρ3 6 = ρ2 6 →
      pev [] ff ρ3 (.and (.cmp .GtE (.loc 2) (.loc 3)) (.and (.or (.cmp .Eq (.loc 4) (.lit false [])) (.call2 1 (.loc 1) (.loc 4))) (.or (.not (.call2 1 (.loc 1) (.loc 5))) (.call2 1 (.loc 1) (.loc 6))))) = some (.bool (fits T l x)) := by
    intro ρ3 t1 t2 t3 t4 t5 t6
    rw [s4] at t4; rw [s5] at t5; rw [s6] at t6
    refine and_b (by simp only [pev, t2, t3, Option.bind_some, cGe]) fun _ => and_b (or_b (by simp only [pev, t4, Option.bind_some]; exact a5) fun _ => ?_) fun _ => or_b (not_b ?_) fun _ => ?_
    · simp only [pev, t1, t4, hf1, Option.bind_some]; exact a1
    · simp only [pev, t1, t5, hf1, Option.bind_some]; exact a2
    · simp only [pev, t1, t6, hf1, Option.bind_some]; exact a3
  rw [unp_step (v := termP T) (by simp only [pev, hf2, Option.bind_some, ft, r0]; exact hT) rfl hun]
  rw [ite_asg k4 rfl]
  cases hN : (l == Str.ofString "N" && closesB x (Str.ofString "s??")) with
  | true => rw [if_pos rfl, ret_step (k5 (upd ρ2 3 (.int 4)) s1 s2 (by unfold leastOf; rw [if_pos hN]; rfl) rfl rfl rfl)]; rfl
  | false => rw [if_neg Bool.false_ne_true, ret_step (k5 ρ2 s1 s2 (by unfold leastOf; rw [if_neg (by rw [hN]; exact Bool.false_ne_true)]; exact s3) rfl rfl rfl)]; rfl
end Mine
end
section
open PySem PySem.W PySem.Calls PySem.Spec PyProof.Rows
namespace Mine

noncomputable def condN : List Str := [Str.ofString "A", Str.ofString "B", Str.ofString "C", Str.ofString "D", Str.ofString "E", Str.ofString "F", Str.ofString "G", Str.ofString "H", Str.ofString "I", Str.ofString "J", Str.ofString "K", Str.ofString "L", Str.ofString "M", Str.ofString "N", Str.ofString "O", Str.ofString "P", Str.ofString "Q", Str.ofString "R", Str.ofString "S", Str.ofString "T", Str.ofString "U", Str.ofString "V", Str.ofString "W", Str.ofString "X", Str.ofString "Y", Str.ofString "Z", Str.ofString "a", Str.ofString "b"]

noncomputable def chainPS : List Str → Nat → PS
  | [], i => .ret (.call1 i (.loc 1))
  | c :: cs, i => .ite (.cmp .Eq (.loc 0) (.const (.str c))) (.ret (.call1 i (.loc 1))) .nil (chainPS cs (i + 1))
theorem chain_is : psholds = chainPS condN 0 := by rfl
theorem chain_eval {ff : List (List PV → Option PV)} {ρ : Nat → Option PV} {l x : Str} (h0 : ρ 0 = some (.str l)) (h1 : ρ 1 = some (.str x)) : ∀ (cs : List Str) (i : Nat),
    pex [] ff 1 (chainPS cs i) ρ = (ff[cs.findIdx (fun c => l == c) + i]?.bind fun g => g [.str x]).map .ret
  | [], i => by
    simp only [chainPS, pex, pev, h1, Option.bind_some, List.findIdx_nil, Nat.zero_add]
  | c :: cs, i => by
    rw [chainPS, ite_ret (C := l == c) (by simp only [pev, h0, Option.bind_some, cEqS]), List.findIdx_cons, chain_eval h0 h1 cs (i + 1)]
    cases l == c with
    | true => simp only [if_true, pev, h1, Option.bind_some, cond_true, Nat.zero_add]
    | false => simp only [Bool.false_eq_true, if_false, cond_false]; rw [Nat.add_assoc, Nat.add_comm 1 i]
theorem fholds_gen (l x : Str) : Fholds [.str l, .str x] = condF[condN.findIdx (fun c => l == c)]?.bind fun g => g [.str x] := by
  unfold Fholds runF
  have hr0 : stores (fun _ => none) [0, 1] [.str l, .str x] = some (upd (upd (fun _ => none) 0 (.str l)) 1 (.str x)) := rfl
  rw [hr0, Option.bind_some, chain_is, chain_eval (l := l) (x := x) rfl rfl, Nat.add_zero, Option.map_map]
  cases condF[condN.findIdx (fun c => l == c)]?.bind fun g => g [.str x] <;> rfl
theorem hoA (x : Str) : Fholds [.str (ofRev [65]), .str x] = FA [.str x] := by
  rw [fholds_gen, show condN.findIdx (fun c => ofRev [65] == c) = 0 by decide +kernel]; rfl
theorem hoB (x : Str) : Fholds [.str (ofRev [66]), .str x] = FB [.str x] := by
  rw [fholds_gen, show condN.findIdx (fun c => ofRev [66] == c) = 1 by decide +kernel]; rfl
theorem hoC (x : Str) : Fholds [.str (ofRev [67]), .str x] = FC [.str x] := by
  rw [fholds_gen, show condN.findIdx (fun c => ofRev [67] == c) = 2 by decide +kernel]; rfl
theorem hoD (x : Str) : Fholds [.str (ofRev [68]), .str x] = FD [.str x] := by
  rw [fholds_gen, show condN.findIdx (fun c => ofRev [68] == c) = 3 by decide +kernel]; rfl
theorem hoE (x : Str) : Fholds [.str (ofRev [69]), .str x] = FE [.str x] := by
  rw [fholds_gen, show condN.findIdx (fun c => ofRev [69] == c) = 4 by decide +kernel]; rfl
theorem hoF (x : Str) : Fholds [.str (ofRev [70]), .str x] = FF [.str x] := by
  rw [fholds_gen, show condN.findIdx (fun c => ofRev [70] == c) = 5 by decide +kernel]; rfl
theorem hoG (x : Str) : Fholds [.str (ofRev [71]), .str x] = FG [.str x] := by
  rw [fholds_gen, show condN.findIdx (fun c => ofRev [71] == c) = 6 by decide +kernel]; rfl
theorem hoH (x : Str) : Fholds [.str (ofRev [72]), .str x] = FH [.str x] := by
  rw [fholds_gen, show condN.findIdx (fun c => ofRev [72] == c) = 7 by decide +kernel]; rfl
theorem hoI (x : Str) : Fholds [.str (ofRev [73]), .str x] = FI [.str x] := by
  rw [fholds_gen, show condN.findIdx (fun c => ofRev [73] == c) = 8 by decide +kernel]; rfl
theorem hoJ (x : Str) : Fholds [.str (ofRev [74]), .str x] = FJ [.str x] := by
  rw [fholds_gen, show condN.findIdx (fun c => ofRev [74] == c) = 9 by decide +kernel]; rfl
theorem hoK (x : Str) : Fholds [.str (ofRev [75]), .str x] = FK [.str x] := by
  rw [fholds_gen, show condN.findIdx (fun c => ofRev [75] == c) = 10 by decide +kernel]; rfl
theorem hoL (x : Str) : Fholds [.str (ofRev [76]), .str x] = FL [.str x] := by
  rw [fholds_gen, show condN.findIdx (fun c => ofRev [76] == c) = 11 by decide +kernel]; rfl
theorem hoM (x : Str) : Fholds [.str (ofRev [77]), .str x] = FM [.str x] := by
  rw [fholds_gen, show condN.findIdx (fun c => ofRev [77] == c) = 12 by decide +kernel]; rfl
theorem hoN (x : Str) : Fholds [.str (ofRev [78]), .str x] = FN [.str x] := by
  rw [fholds_gen, show condN.findIdx (fun c => ofRev [78] == c) = 13 by decide +kernel]; rfl
theorem hoO (x : Str) : Fholds [.str (ofRev [79]), .str x] = FO [.str x] := by
  rw [fholds_gen, show condN.findIdx (fun c => ofRev [79] == c) = 14 by decide +kernel]; rfl
theorem hoP (x : Str) : Fholds [.str (ofRev [80]), .str x] = FP [.str x] := by
  rw [fholds_gen, show condN.findIdx (fun c => ofRev [80] == c) = 15 by decide +kernel]; rfl
theorem hoQ (x : Str) : Fholds [.str (ofRev [81]), .str x] = FQ [.str x] := by
  rw [fholds_gen, show condN.findIdx (fun c => ofRev [81] == c) = 16 by decide +kernel]; rfl
theorem hoR (x : Str) : Fholds [.str (ofRev [82]), .str x] = FR [.str x] := by
  rw [fholds_gen, show condN.findIdx (fun c => ofRev [82] == c) = 17 by decide +kernel]; rfl
theorem hoS (x : Str) : Fholds [.str (ofRev [83]), .str x] = FS [.str x] := by
  rw [fholds_gen, show condN.findIdx (fun c => ofRev [83] == c) = 18 by decide +kernel]; rfl
theorem hoT (x : Str) : Fholds [.str (ofRev [84]), .str x] = FT [.str x] := by
  rw [fholds_gen, show condN.findIdx (fun c => ofRev [84] == c) = 19 by decide +kernel]; rfl
theorem hoU (x : Str) : Fholds [.str (ofRev [85]), .str x] = FU [.str x] := by
  rw [fholds_gen, show condN.findIdx (fun c => ofRev [85] == c) = 20 by decide +kernel]; rfl
theorem hoV (x : Str) : Fholds [.str (ofRev [86]), .str x] = FV [.str x] := by
  rw [fholds_gen, show condN.findIdx (fun c => ofRev [86] == c) = 21 by decide +kernel]; rfl
theorem hoW (x : Str) : Fholds [.str (ofRev [87]), .str x] = FW [.str x] := by
  rw [fholds_gen, show condN.findIdx (fun c => ofRev [87] == c) = 22 by decide +kernel]; rfl
theorem hoX (x : Str) : Fholds [.str (ofRev [88]), .str x] = FX [.str x] := by
  rw [fholds_gen, show condN.findIdx (fun c => ofRev [88] == c) = 23 by decide +kernel]; rfl
theorem hoY (x : Str) : Fholds [.str (ofRev [89]), .str x] = FY [.str x] := by
  rw [fholds_gen, show condN.findIdx (fun c => ofRev [89] == c) = 24 by decide +kernel]; rfl
theorem hoZ (x : Str) : Fholds [.str (ofRev [90]), .str x] = FZ [.str x] := by
  rw [fholds_gen, show condN.findIdx (fun c => ofRev [90] == c) = 25 by decide +kernel]; rfl
theorem hoSmA (x : Str) : Fholds [.str (ofRev [97]), .str x] = FSmA [.str x] := by
  rw [fholds_gen, show condN.findIdx (fun c => ofRev [97] == c) = 26 by decide +kernel]; rfl
theorem hoSmB (x : Str) : Fholds [.str (ofRev [98]), .str x] = FSmB [.str x] := by
  rw [fholds_gen, show condN.findIdx (fun c => ofRev [98] == c) = 27 by decide +kernel]; rfl
theorem hoSmC (x : Str) : Fholds [.str (ofRev [99]), .str x] = FSmC [.str x] := by
  rw [fholds_gen, show condN.findIdx (fun c => ofRev [99] == c) = 28 by decide +kernel]; rfl
theorem lhA (r : List Nat) (h : r.length ≤ 60) : Flawholds [.str (ofRev [65]), .str (ofRev r)] = some (holdsL ⟨2, [], [], []⟩ (ofRev [65]) (ofRev r)) :=
  lawholds_gen _ _ _ (by rw [ofRev_len]; omega) (by kernel_rfl) (by decide +kernel)
theorem lhB (r : List Nat) (h : r.length ≤ 60) : Flawholds [.str (ofRev [66]), .str (ofRev r)] = some (holdsL ⟨3, [], [], []⟩ (ofRev [66]) (ofRev r)) :=
  lawholds_gen _ _ _ (by rw [ofRev_len]; omega) (by kernel_rfl) (by decide +kernel)
theorem lhC (r : List Nat) (h : r.length ≤ 60) : Flawholds [.str (ofRev [67]), .str (ofRev r)] = some (holdsL ⟨4, [], [], []⟩ (ofRev [67]) (ofRev r)) :=
  lawholds_gen _ _ _ (by rw [ofRev_len]; omega) (by kernel_rfl) (by decide +kernel)
theorem lhD (r : List Nat) (h : r.length ≤ 60) : Flawholds [.str (ofRev [68]), .str (ofRev r)] = some (holdsL ⟨5, [], [], []⟩ (ofRev [68]) (ofRev r)) :=
  lawholds_gen _ _ _ (by rw [ofRev_len]; omega) (by kernel_rfl) (by decide +kernel)
theorem lhE (r : List Nat) (h : r.length ≤ 60) : Flawholds [.str (ofRev [69]), .str (ofRev r)] = some (holdsL ⟨2, [], [ofRev [101]], []⟩ (ofRev [69]) (ofRev r)) :=
  lawholds_gen _ _ _ (by rw [ofRev_len]; omega) (by kernel_rfl) (by decide +kernel)
theorem lhF (r : List Nat) (h : r.length ≤ 60) : Flawholds [.str (ofRev [70]), .str (ofRev r)] = some (holdsL ⟨3, [], [ofRev [101]], []⟩ (ofRev [70]) (ofRev r)) :=
  lawholds_gen _ _ _ (by rw [ofRev_len]; omega) (by kernel_rfl) (by decide +kernel)
theorem lhG (r : List Nat) (h : r.length ≤ 60) : Flawholds [.str (ofRev [71]), .str (ofRev r)] = some (holdsL ⟨3, [ofRev [102]], [], []⟩ (ofRev [71]) (ofRev r)) :=
  lawholds_gen _ _ _ (by rw [ofRev_len]; omega) (by kernel_rfl) (by decide +kernel)
theorem lhH (r : List Nat) (h : r.length ≤ 60) : Flawholds [.str (ofRev [72]), .str (ofRev r)] = some (holdsL ⟨2, [ofRev [116], ofRev [108, 108]], [], []⟩ (ofRev [72]) (ofRev r)) :=
  lawholds_gen _ _ _ (by rw [ofRev_len]; omega) (by kernel_rfl) (by decide +kernel)
theorem lhI (r : List Nat) (h : r.length ≤ 60) : Flawholds [.str (ofRev [73]), .str (ofRev r)] = some (holdsL ⟨2, [], [ofRev [111], ofRev [101]], []⟩ (ofRev [73]) (ofRev r)) :=
  lawholds_gen _ _ _ (by rw [ofRev_len]; omega) (by kernel_rfl) (by decide +kernel)
theorem lhJ (r : List Nat) (h : r.length ≤ 60) : Flawholds [.str (ofRev [74]), .str (ofRev r)] = some (holdsL ⟨2, [], [ofRev [97], ofRev [101]], []⟩ (ofRev [74]) (ofRev r)) :=
  lawholds_gen _ _ _ (by rw [ofRev_len]; omega) (by kernel_rfl) (by decide +kernel)
theorem lhK (r : List Nat) (h : r.length ≤ 60) : Flawholds [.str (ofRev [75]), .str (ofRev r)] = some (holdsL ⟨3, [ofRev [108], ofRev [105], ofRev [101, 63, 117]], [], []⟩ (ofRev [75]) (ofRev r)) :=
  lawholds_gen _ _ _ (by rw [ofRev_len]; omega) (by kernel_rfl) (by decide +kernel)
theorem lhL (r : List Nat) (h : r.length ≤ 60) : Flawholds [.str (ofRev [76]), .str (ofRev r)] = some (holdsL ⟨2, [], [ofRev [117], ofRev [120], ofRev [115]], [ofRev [115, 111]]⟩ (ofRev [76]) (ofRev r)) :=
  lawholds_gen _ _ _ (by rw [ofRev_len]; omega) (by kernel_rfl) (by decide +kernel)
theorem lhM (r : List Nat) (h : r.length ≤ 60) : Flawholds [.str (ofRev [77]), .str (ofRev r)] = some (holdsL ⟨2, [], [ofRev [97], ofRev [99], ofRev [101], ofRev [109]], []⟩ (ofRev [77]) (ofRev r)) :=
  lawholds_gen _ _ _ (by rw [ofRev_len]; omega) (by kernel_rfl) (by decide +kernel)
theorem lhN (r : List Nat) (h : r.length ≤ 60) : Flawholds [.str (ofRev [78]), .str (ofRev r)] = some (holdsL ⟨3, [], [], []⟩ (ofRev [78]) (ofRev r)) :=
  lawholds_gen _ _ _ (by rw [ofRev_len]; omega) (by kernel_rfl) (by decide +kernel)
theorem lhO (r : List Nat) (h : r.length ≤ 60) : Flawholds [.str (ofRev [79]), .str (ofRev r)] = some (holdsL ⟨2, [ofRev [108], ofRev [105]], [], []⟩ (ofRev [79]) (ofRev r)) :=
  lawholds_gen _ _ _ (by rw [ofRev_len]; omega) (by kernel_rfl) (by decide +kernel)
theorem lhP (r : List Nat) (h : r.length ≤ 60) : Flawholds [.str (ofRev [80]), .str (ofRev r)] = some (holdsL ⟨2, [], [ofRev [99]], []⟩ (ofRev [80]) (ofRev r)) :=
  lawholds_gen _ _ _ (by rw [ofRev_len]; omega) (by kernel_rfl) (by decide +kernel)
theorem lhQ (r : List Nat) (h : r.length ≤ 60) : Flawholds [.str (ofRev [81]), .str (ofRev r)] = some (holdsL ⟨3, [], [ofRev [108], ofRev [110]], []⟩ (ofRev [81]) (ofRev r)) :=
  lawholds_gen _ _ _ (by rw [ofRev_len]; omega) (by kernel_rfl) (by decide +kernel)
theorem lhR (r : List Nat) (h : r.length ≤ 60) : Flawholds [.str (ofRev [82]), .str (ofRev r)] = some (holdsL ⟨2, [ofRev [110], ofRev [114]], [], []⟩ (ofRev [82]) (ofRev r)) :=
  lawholds_gen _ _ _ (by rw [ofRev_len]; omega) (by kernel_rfl) (by decide +kernel)
theorem lhS (r : List Nat) (h : r.length ≤ 60) : Flawholds [.str (ofRev [83]), .str (ofRev r)] = some (holdsL ⟨2, [ofRev [114, 100], ofRev [116]], [ofRev [116, 116]], []⟩ (ofRev [83]) (ofRev r)) :=
  lawholds_gen _ _ _ (by rw [ofRev_len]; omega) (by kernel_rfl) (by decide +kernel)
theorem lhT (r : List Nat) (h : r.length ≤ 60) : Flawholds [.str (ofRev [84]), .str (ofRev r)] = some (holdsL ⟨2, [ofRev [115], ofRev [116]], [ofRev [116, 111]], []⟩ (ofRev [84]) (ofRev r)) :=
  lawholds_gen _ _ _ (by rw [ofRev_len]; omega) (by kernel_rfl) (by decide +kernel)
theorem lhU (r : List Nat) (h : r.length ≤ 60) : Flawholds [.str (ofRev [85]), .str (ofRev r)] = some (holdsL ⟨2, [ofRev [108], ofRev [109], ofRev [110], ofRev [114]], [], []⟩ (ofRev [85]) (ofRev r)) :=
  lawholds_gen _ _ _ (by rw [ofRev_len]; omega) (by kernel_rfl) (by decide +kernel)
theorem lhV (r : List Nat) (h : r.length ≤ 60) : Flawholds [.str (ofRev [86]), .str (ofRev r)] = some (holdsL ⟨2, [ofRev [99]], [], []⟩ (ofRev [86]) (ofRev r)) :=
  lawholds_gen _ _ _ (by rw [ofRev_len]; omega) (by kernel_rfl) (by decide +kernel)
theorem lhW (r : List Nat) (h : r.length ≤ 60) : Flawholds [.str (ofRev [87]), .str (ofRev r)] = some (holdsL ⟨2, [], [ofRev [115], ofRev [117]], []⟩ (ofRev [87]) (ofRev r)) :=
  lawholds_gen _ _ _ (by rw [ofRev_len]; omega) (by kernel_rfl) (by decide +kernel)
theorem lhX (r : List Nat) (h : r.length ≤ 60) : Flawholds [.str (ofRev [88]), .str (ofRev r)] = some (holdsL ⟨2, [ofRev [108], ofRev [105], ofRev [101, 63, 117]], [], []⟩ (ofRev [88]) (ofRev r)) :=
  lawholds_gen _ _ _ (by rw [ofRev_len]; omega) (by kernel_rfl) (by decide +kernel)
theorem lhY (r : List Nat) (h : r.length ≤ 60) : Flawholds [.str (ofRev [89]), .str (ofRev r)] = some (holdsL ⟨2, [ofRev [110, 105]], [], []⟩ (ofRev [89]) (ofRev r)) :=
  lawholds_gen _ _ _ (by rw [ofRev_len]; omega) (by kernel_rfl) (by decide +kernel)
theorem lhZ (r : List Nat) (h : r.length ≤ 60) : Flawholds [.str (ofRev [90]), .str (ofRev r)] = some (holdsL ⟨2, [], [ofRev [102]], []⟩ (ofRev [90]) (ofRev r)) :=
  lawholds_gen _ _ _ (by rw [ofRev_len]; omega) (by kernel_rfl) (by decide +kernel)
theorem lhSmA (r : List Nat) (h : r.length ≤ 60) : Flawholds [.str (ofRev [97]), .str (ofRev r)] = some (holdsL ⟨2, [ofRev [100], ofRev [102], ofRev [104, 112], ofRev [104, 116], ofRev [108], ofRev [114, 101], ofRev [114, 111], ofRev [115, 101], ofRev [116]], [], []⟩ (ofRev [97]) (ofRev r)) :=
  lawholds_gen _ _ _ (by rw [ofRev_len]; omega) (by kernel_rfl) (by decide +kernel)
theorem lhSmB (r : List Nat) (h : r.length ≤ 60) : Flawholds [.str (ofRev [98]), .str (ofRev r)] = some (holdsL ⟨3, [], [ofRev [116, 101, 109], ofRev [116, 115, 121, 114]], []⟩ (ofRev [98]) (ofRev r)) :=
  lawholds_gen _ _ _ (by rw [ofRev_len]; omega) (by kernel_rfl) (by decide +kernel)
theorem lhSmC (r : List Nat) (h : r.length ≤ 60) : Flawholds [.str (ofRev [99]), .str (ofRev r)] = some (holdsL ⟨2, [ofRev [108]], [], []⟩ (ofRev [99]) (ofRev r)) :=
  lawholds_gen _ _ _ (by rw [ofRev_len]; omega) (by kernel_rfl) (by decide +kernel)
theorem co_of {l : Nat} {r : List Nat} {T : Term} {F : List PV → Option PV} {b : Bool} (hl : Flawholds [.str (ofRev [l]), .str (ofRev r)] = some (holdsL T (ofRev [l]) (ofRev r)))
    (ho : Fholds [.str (ofRev [l]), .str (ofRev r)] = F [.str (ofRev r)]) (hF : F [.str (ofRev r)] = some (.bool b)) (hf : fits T (ofRev [l]) (ofRev r) = b) : CondOk l r := by
  unfold CondOk
  rw [hl, ho, hF, holdsL, hf]
  cases CC1 (ofRev [l]) (ofRev r) || (CC2 (ofRev [l]) (ofRev r) || CC3 (ofRev [l]) (ofRev r)) with
  | true => exact .inl rfl
  | false => exact .inr ⟨b, rfl, rfl⟩
theorem any_rev (ps : List (List Nat)) (r : List Nat) : anyB (ofRev r) (ps.map ofRev) = ps.any (matchR · r) := by
  unfold anyB
  rw [List.any_map]
  exact congrArg (List.any ps) (funext fun p => closes_rev r p)
noncomputable def fitR (ws rs ss : List (List Nat)) (r : List Nat) : Bool := (ws.isEmpty || ws.any (matchR · r)) && (!rs.any (matchR · r) || ss.any (matchR · r))
theorem fits_gen (n : Int) (ws rs ss : List (List Nat)) (l : Nat) (r : List Nat) (hN : (ofRev [l] == Str.ofString "N") = false) :
    fits ⟨n, ws.map ofRev, rs.map ofRev, ss.map ofRev⟩ (ofRev [l]) (ofRev r) = (decide ((r.length : Int) ≥ n) && fitR ws rs ss r) := by
  unfold fits leastOf
  rw [hN, Bool.false_and, if_neg Bool.false_ne_true, ofRev_len, any_rev, any_rev, any_rev, List.isEmpty_map]; rfl
theorem fit_ok {n : Int} {ws rs ss : List (List Nat)} {l : Nat} {r : List Nat} {b : Bool} (hN : (ofRev [l] == Str.ofString "N") = false) (hn : (r.length : Int) ≥ n) (h : fitR ws rs ss r = b) :
    fits ⟨n, ws.map ofRev, rs.map ofRev, ss.map ofRev⟩ (ofRev [l]) (ofRev r) = b := by
  rw [fits_gen n ws rs ss l r hN, decide_eq_true hn, Bool.true_and, h]
theorem fit_no {n : Int} {ws rs ss : List (List Nat)} {l : Nat} {r : List Nat} (hN : (ofRev [l] == Str.ofString "N") = false) (hn : ¬ (r.length : Int) ≥ n) :
    fits ⟨n, ws.map ofRev, rs.map ofRev, ss.map ofRev⟩ (ofRev [l]) (ofRev r) = false := by
  rw [fits_gen n ws rs ss l r hN, decide_eq_false hn, Bool.false_and]
theorem mR (q : Nat) (p : List Nat) (a : Nat) (r : List Nat) : matchR (q :: p) (a :: r) = ((q == 63 || a == q) && matchR p r) := by
  rw [matchR, show (q == a) = (a == q) from BEq.comm]
theorem mR0 (r : List Nat) : matchR [] r = true := by cases r <;> rfl
theorem mRn (q : Nat) (p : List Nat) : matchR (q :: p) [] = false := rfl
theorem len2 (a b : Nat) (r : List Nat) : ((a :: b :: r).length : Int) ≥ 2 := by simp; omega
theorem le60 (a b : Nat) (r : List Nat) (h : r.length ≤ 40) : (a :: b :: r).length ≤ 60 := by simp; omega
theorem coA2 (a b : Nat) (r : List Nat) (h : r.length ≤ 40) : CondOk 65 (a :: b :: r) :=
  co_of (lhA _ (le60 a b r h)) (hoA _) (evA a b r) (fit_ok (ws := []) (rs := []) (ss := []) (by decide +kernel) (len2 a b r) (by
    simp only [fitR, List.any_cons, List.any_nil, List.isEmpty_cons, List.isEmpty_nil, mR, mR0, mRn, Nat.reduceBEq, Bool.false_or, Bool.or_false, Bool.true_and, Bool.and_true, Bool.true_or, Bool.not_false, Bool.false_and, Bool.and_false, Bool.not_or, Bool.or_assoc, Bool.and_assoc]
    all_goals (first | done | rfl | grind)))
theorem coE2 (a b : Nat) (r : List Nat) (h : r.length ≤ 40) : CondOk 69 (a :: b :: r) :=
  co_of (lhE _ (le60 a b r h)) (hoE _) (evE a b r) (fit_ok (ws := []) (rs := [[101]]) (ss := []) (by decide +kernel) (len2 a b r) (by
    simp only [fitR, List.any_cons, List.any_nil, List.isEmpty_cons, List.isEmpty_nil, mR, mR0, mRn, Nat.reduceBEq, Bool.false_or, Bool.or_false, Bool.true_and, Bool.and_true, Bool.true_or, Bool.not_false, Bool.false_and, Bool.and_false, Bool.not_or, Bool.or_assoc, Bool.and_assoc]
    all_goals (first | done | rfl | grind)))
theorem coH2 (a b : Nat) (r : List Nat) (h : r.length ≤ 40) : CondOk 72 (a :: b :: r) :=
  co_of (lhH _ (le60 a b r h)) (hoH _) (evH a b r) (fit_ok (ws := [[116], [108, 108]]) (rs := []) (ss := []) (by decide +kernel) (len2 a b r) (by
    simp only [fitR, List.any_cons, List.any_nil, List.isEmpty_cons, List.isEmpty_nil, mR, mR0, mRn, Nat.reduceBEq, Bool.false_or, Bool.or_false, Bool.true_and, Bool.and_true, Bool.true_or, Bool.not_false, Bool.false_and, Bool.and_false, Bool.not_or, Bool.or_assoc, Bool.and_assoc]
    all_goals (first | done | rfl | grind)))
theorem coI2 (a b : Nat) (r : List Nat) (h : r.length ≤ 40) : CondOk 73 (a :: b :: r) :=
  co_of (lhI _ (le60 a b r h)) (hoI _) (evI a b r) (fit_ok (ws := []) (rs := [[111], [101]]) (ss := []) (by decide +kernel) (len2 a b r) (by
    simp only [fitR, List.any_cons, List.any_nil, List.isEmpty_cons, List.isEmpty_nil, mR, mR0, mRn, Nat.reduceBEq, Bool.false_or, Bool.or_false, Bool.true_and, Bool.and_true, Bool.true_or, Bool.not_false, Bool.false_and, Bool.and_false, Bool.not_or, Bool.or_assoc, Bool.and_assoc]
    all_goals (first | done | rfl | grind)))
theorem coJ2 (a b : Nat) (r : List Nat) (h : r.length ≤ 40) : CondOk 74 (a :: b :: r) :=
  co_of (lhJ _ (le60 a b r h)) (hoJ _) (evJ a b r) (fit_ok (ws := []) (rs := [[97], [101]]) (ss := []) (by decide +kernel) (len2 a b r) (by
    simp only [fitR, List.any_cons, List.any_nil, List.isEmpty_cons, List.isEmpty_nil, mR, mR0, mRn, Nat.reduceBEq, Bool.false_or, Bool.or_false, Bool.true_and, Bool.and_true, Bool.true_or, Bool.not_false, Bool.false_and, Bool.and_false, Bool.not_or, Bool.or_assoc, Bool.and_assoc]
    all_goals (first | done | rfl | grind)))
theorem coL2 (a b : Nat) (r : List Nat) (h : r.length ≤ 40) : CondOk 76 (a :: b :: r) :=
  co_of (lhL _ (le60 a b r h)) (hoL _) (evL a b r) (fit_ok (ws := []) (rs := [[117], [120], [115]]) (ss := [[115, 111]]) (by decide +kernel) (len2 a b r) (by
    simp only [fitR, List.any_cons, List.any_nil, List.isEmpty_cons, List.isEmpty_nil, mR, mR0, mRn, Nat.reduceBEq, Bool.false_or, Bool.or_false, Bool.true_and, Bool.and_true, Bool.true_or, Bool.not_false, Bool.false_and, Bool.and_false, Bool.not_or, Bool.or_assoc, Bool.and_assoc]
    all_goals (first | done | rfl | grind)))
theorem coM2 (a b : Nat) (r : List Nat) (h : r.length ≤ 40) : CondOk 77 (a :: b :: r) :=
  co_of (lhM _ (le60 a b r h)) (hoM _) (evM a b r) (fit_ok (ws := []) (rs := [[97], [99], [101], [109]]) (ss := []) (by decide +kernel) (len2 a b r) (by
    simp only [fitR, List.any_cons, List.any_nil, List.isEmpty_cons, List.isEmpty_nil, mR, mR0, mRn, Nat.reduceBEq, Bool.false_or, Bool.or_false, Bool.true_and, Bool.and_true, Bool.true_or, Bool.not_false, Bool.false_and, Bool.and_false, Bool.not_or, Bool.or_assoc, Bool.and_assoc]
    all_goals (first | done | rfl | grind)))
theorem coO2 (a b : Nat) (r : List Nat) (h : r.length ≤ 40) : CondOk 79 (a :: b :: r) :=
  co_of (lhO _ (le60 a b r h)) (hoO _) (evO a b r) (fit_ok (ws := [[108], [105]]) (rs := []) (ss := []) (by decide +kernel) (len2 a b r) (by
    simp only [fitR, List.any_cons, List.any_nil, List.isEmpty_cons, List.isEmpty_nil, mR, mR0, mRn, Nat.reduceBEq, Bool.false_or, Bool.or_false, Bool.true_and, Bool.and_true, Bool.true_or, Bool.not_false, Bool.false_and, Bool.and_false, Bool.not_or, Bool.or_assoc, Bool.and_assoc]
    all_goals (first | done | rfl | grind)))
theorem coP2 (a b : Nat) (r : List Nat) (h : r.length ≤ 40) : CondOk 80 (a :: b :: r) :=
  co_of (lhP _ (le60 a b r h)) (hoP _) (evP a b r) (fit_ok (ws := []) (rs := [[99]]) (ss := []) (by decide +kernel) (len2 a b r) (by
    simp only [fitR, List.any_cons, List.any_nil, List.isEmpty_cons, List.isEmpty_nil, mR, mR0, mRn, Nat.reduceBEq, Bool.false_or, Bool.or_false, Bool.true_and, Bool.and_true, Bool.true_or, Bool.not_false, Bool.false_and, Bool.and_false, Bool.not_or, Bool.or_assoc, Bool.and_assoc]
    all_goals (first | done | rfl | grind)))
theorem coR2 (a b : Nat) (r : List Nat) (h : r.length ≤ 40) : CondOk 82 (a :: b :: r) :=
  co_of (lhR _ (le60 a b r h)) (hoR _) (evR a b r) (fit_ok (ws := [[110], [114]]) (rs := []) (ss := []) (by decide +kernel) (len2 a b r) (by
    simp only [fitR, List.any_cons, List.any_nil, List.isEmpty_cons, List.isEmpty_nil, mR, mR0, mRn, Nat.reduceBEq, Bool.false_or, Bool.or_false, Bool.true_and, Bool.and_true, Bool.true_or, Bool.not_false, Bool.false_and, Bool.and_false, Bool.not_or, Bool.or_assoc, Bool.and_assoc]
    all_goals (first | done | rfl | grind)))
theorem coT2 (a b : Nat) (r : List Nat) (h : r.length ≤ 40) : CondOk 84 (a :: b :: r) :=
  co_of (lhT _ (le60 a b r h)) (hoT _) (evT a b r) (fit_ok (ws := [[115], [116]]) (rs := [[116, 111]]) (ss := []) (by decide +kernel) (len2 a b r) (by
    simp only [fitR, List.any_cons, List.any_nil, List.isEmpty_cons, List.isEmpty_nil, mR, mR0, mRn, Nat.reduceBEq, Bool.false_or, Bool.or_false, Bool.true_and, Bool.and_true, Bool.true_or, Bool.not_false, Bool.false_and, Bool.and_false, Bool.not_or, Bool.or_assoc, Bool.and_assoc]
    all_goals (first | done | rfl | grind)))
theorem coU2 (a b : Nat) (r : List Nat) (h : r.length ≤ 40) : CondOk 85 (a :: b :: r) :=
  co_of (lhU _ (le60 a b r h)) (hoU _) (evU a b r) (fit_ok (ws := [[108], [109], [110], [114]]) (rs := []) (ss := []) (by decide +kernel) (len2 a b r) (by
    simp only [fitR, List.any_cons, List.any_nil, List.isEmpty_cons, List.isEmpty_nil, mR, mR0, mRn, Nat.reduceBEq, Bool.false_or, Bool.or_false, Bool.true_and, Bool.and_true, Bool.true_or, Bool.not_false, Bool.false_and, Bool.and_false, Bool.not_or, Bool.or_assoc, Bool.and_assoc]
    all_goals (first | done | rfl | grind)))
theorem coV2 (a b : Nat) (r : List Nat) (h : r.length ≤ 40) : CondOk 86 (a :: b :: r) :=
  co_of (lhV _ (le60 a b r h)) (hoV _) (evV a b r) (fit_ok (ws := [[99]]) (rs := []) (ss := []) (by decide +kernel) (len2 a b r) (by
    simp only [fitR, List.any_cons, List.any_nil, List.isEmpty_cons, List.isEmpty_nil, mR, mR0, mRn, Nat.reduceBEq, Bool.false_or, Bool.or_false, Bool.true_and, Bool.and_true, Bool.true_or, Bool.not_false, Bool.false_and, Bool.and_false, Bool.not_or, Bool.or_assoc, Bool.and_assoc]
    all_goals (first | done | rfl | grind)))
theorem coW2 (a b : Nat) (r : List Nat) (h : r.length ≤ 40) : CondOk 87 (a :: b :: r) :=
  co_of (lhW _ (le60 a b r h)) (hoW _) (evW a b r) (fit_ok (ws := []) (rs := [[115], [117]]) (ss := []) (by decide +kernel) (len2 a b r) (by
    simp only [fitR, List.any_cons, List.any_nil, List.isEmpty_cons, List.isEmpty_nil, mR, mR0, mRn, Nat.reduceBEq, Bool.false_or, Bool.or_false, Bool.true_and, Bool.and_true, Bool.true_or, Bool.not_false, Bool.false_and, Bool.and_false, Bool.not_or, Bool.or_assoc, Bool.and_assoc]
    all_goals (first | done | rfl | grind)))
theorem coY2 (a b : Nat) (r : List Nat) (h : r.length ≤ 40) : CondOk 89 (a :: b :: r) :=
  co_of (lhY _ (le60 a b r h)) (hoY _) (evY a b r) (fit_ok (ws := [[110, 105]]) (rs := []) (ss := []) (by decide +kernel) (len2 a b r) (by
    simp only [fitR, List.any_cons, List.any_nil, List.isEmpty_cons, List.isEmpty_nil, mR, mR0, mRn, Nat.reduceBEq, Bool.false_or, Bool.or_false, Bool.true_and, Bool.and_true, Bool.true_or, Bool.not_false, Bool.false_and, Bool.and_false, Bool.not_or, Bool.or_assoc, Bool.and_assoc]
    all_goals (first | done | rfl | grind)))
theorem coZ2 (a b : Nat) (r : List Nat) (h : r.length ≤ 40) : CondOk 90 (a :: b :: r) :=
  co_of (lhZ _ (le60 a b r h)) (hoZ _) (evZ a b r) (fit_ok (ws := []) (rs := [[102]]) (ss := []) (by decide +kernel) (len2 a b r) (by
    simp only [fitR, List.any_cons, List.any_nil, List.isEmpty_cons, List.isEmpty_nil, mR, mR0, mRn, Nat.reduceBEq, Bool.false_or, Bool.or_false, Bool.true_and, Bool.and_true, Bool.true_or, Bool.not_false, Bool.false_and, Bool.and_false, Bool.not_or, Bool.or_assoc, Bool.and_assoc]
    all_goals (first | done | rfl | grind)))
theorem coSmA2 (a b : Nat) (r : List Nat) (h : r.length ≤ 40) : CondOk 97 (a :: b :: r) :=
  co_of (lhSmA _ (le60 a b r h)) (hoSmA _) (evSmA a b r) (fit_ok (ws := [[100], [102], [104, 112], [104, 116], [108], [114, 101], [114, 111], [115, 101], [116]]) (rs := []) (ss := []) (by decide +kernel) (len2 a b r) (by
    simp only [fitR, List.any_cons, List.any_nil, List.isEmpty_cons, List.isEmpty_nil, mR, mR0, mRn, Nat.reduceBEq, Bool.false_or, Bool.or_false, Bool.true_and, Bool.and_true, Bool.true_or, Bool.not_false, Bool.false_and, Bool.and_false, Bool.not_or, Bool.or_assoc, Bool.and_assoc]
    all_goals (first | done | rfl | grind)))
theorem coSmC2 (a b : Nat) (r : List Nat) (h : r.length ≤ 40) : CondOk 99 (a :: b :: r) :=
  co_of (lhSmC _ (le60 a b r h)) (hoSmC _) (evSmC a b r) (fit_ok (ws := [[108]]) (rs := []) (ss := []) (by decide +kernel) (len2 a b r) (by
    simp only [fitR, List.any_cons, List.any_nil, List.isEmpty_cons, List.isEmpty_nil, mR, mR0, mRn, Nat.reduceBEq, Bool.false_or, Bool.or_false, Bool.true_and, Bool.and_true, Bool.true_or, Bool.not_false, Bool.false_and, Bool.and_false, Bool.not_or, Bool.or_assoc, Bool.and_assoc]
    all_goals (first | done | rfl | grind)))
theorem coS2 (a b : Nat) (r : List Nat) (h : r.length ≤ 40) : CondOk 83 (a :: b :: r) := by
  have f0 : (2 : Int) ≤ (r.length : Int) + 1 + 1 := by omega
  unfold CondOk
  rw [lhS _ (by first | (simp; done) | (simp; omega)), hoS]
  simp [evS, f0, it30, it32, holdsL, CC1, CC2, CC3, fits, anyB, leastOf, closes_rev, matchR, runF, stores, store, PV.nodict, nodicts, pex, pev, cEqS, cEqI, cNeS, cNeB, cGt, cGe, cInQ, cInS, cIsN, cIsS, cIsB, cTup, bAddI, bSubI, nI, lS, lQ, trN, trB, trI, trS, ix1, ix2, ix3, ix30, ix32, sf2, pE, itS, itQ, ch2, strsOf, upd, ofRev_len, beq1, bne1, beq2, beq12, bne12, preR, matchR, z0, z1, z2, z3, z4, z5, z6, z7, z8, z9, z10, z11, z12, z13, z14, z15, z16, z17, z18, z19, z20, z21, z22, z23, z24, z25, z26, z27, z28, z29, z30, z31, z32, z33, z34, z35, z36, z37, z38, z39, z40, z41, z42, z43, z44, z45, z46, z47, z48, z49, z50, z51, z52, z53, z54, z55, z56, z57, z58, z59, z60, z61, z62, z63, z64, z65, z66, z67, z68, z69, z70, z71, z72, z73, z74, z75, z76]
  all_goals (try ((repeat' split) <;> (first | (simp_all; done) | grind)))
theorem evSmB (r : List Nat) : FSmB [.str (ofRev r)] = some (.bool (decide ((r.length : Int) > 2) && !(preR [116, 101, 109] r || preR [116, 115, 121, 114] r))) := by
  unfold FSmB runF psSmB
  have hr0 : stores (fun _ => none) [0] [.str (ofRev r)] = some (upd (fun _ => none) 0 (.str (ofRev r))) := rfl
  have r0 : upd (fun _ => none) 0 (.str (ofRev r)) 0 = some (.str (ofRev r)) := rfl
  rw [hr0, Option.bind_some, ret_step (and_b (x := decide ((r.length : Int) > 2)) (y := !(preR [116, 101, 109] r || preR [116, 115, 121, 114] r)) ?_ fun _ => not_b (or_b (x := preR [116, 101, 109] r) ?_ fun _ => ?_))]
  · rfl
  · simp only [pev, r0, Option.bind_some, lS, cGt, ofRev_len]
  · simp only [pev, r0, Option.bind_some]; rw [show Str.ofString "met" = ofRev [116, 101, 109] by decide +kernel, pE]
  · simp only [pev, r0, Option.bind_some]; rw [show Str.ofString "ryst" = ofRev [116, 115, 121, 114] by decide +kernel, pE]
theorem r00 (v : PV) : upd (fun _ => none) 0 v 0 = some v := rfl
theorem runS {F : PS} {v : PV} {x : PV} (h : pex [] [] 1 F (upd (fun _ => none) 0 v) = some (.ret x)) (hs : stores (fun _ => none) [0] [v] = some (upd (fun _ => none) 0 v)) : runF [] [] 1 [0] F [v] = some x := by
  unfold runF
  rw [hs, Option.bind_some, h]; rfl
theorem lenG {ρ : Nat → Option PV} {r : List Nat} (h : ρ 0 = some (.str (ofRev r))) (k : Int) : pev [] [] ρ (.cmp .Gt (.len (.loc 0)) (.const (.int k))) = some (.bool (decide ((r.length : Int) > k))) := by
  simp only [pev, h, Option.bind_some, lS, cGt, ofRev_len]
theorem lastE {ρ : Nat → Option PV} {e : PE} {a q : Nat} {s : Str} (h : pev [] [] ρ e = some (.str (ofRev [a]))) (hs : s = ofRev [q]) : pev [] [] ρ (.cmp .Eq e (.const (.str s))) = some (.bool (a == q)) := by
  subst hs; simp only [pev, h, Option.bind_some, cEqS, beq1]
theorem lastN {ρ : Nat → Option PV} {e : PE} {a q : Nat} {s : Str} (h : pev [] [] ρ e = some (.str (ofRev [a]))) (hs : s = ofRev [q]) : pev [] [] ρ (.cmp .NotEq e (.const (.str s))) = some (.bool (!(a == q))) := by
  subst hs; simp only [pev, h, Option.bind_some, cNeS, bne1]
theorem idx1 {ρ : Nat → Option PV} {a : Nat} {r : List Nat} (h : ρ 0 = some (.str (ofRev (a :: r)))) : pev [] [] ρ (.idx (.loc 0) (.neg (.const (.int (1))))) = some (.str (ofRev [a])) := by
  simp only [pev, h, Option.bind_some, nI, ix1]
theorem idx3 {ρ : Nat → Option PV} {a b c : Nat} {r : List Nat} (h : ρ 0 = some (.str (ofRev (a :: b :: c :: r)))) : pev [] [] ρ (.idx (.loc 0) (.neg (.const (.int (3))))) = some (.str (ofRev [c])) := by
  simp only [pev, h, Option.bind_some, nI, ix3]
theorem geGt (n k : Int) (r : List Nat) (h : n = k + 1) : decide ((r.length : Int) ≥ n) = decide ((r.length : Int) > k) := decide_eq_decide.mpr (by omega)
theorem gtTrue (k : Int) {r : List Nat} (h : k < r.length) (b : Bool) : (decide ((r.length : Int) > k) && b) = b := by rw [decide_eq_true h, Bool.true_and]
theorem evB (r : List Nat) : FB [.str (ofRev r)] = some (.bool (decide ((r.length : Int) > 2))) := runS (ret_step (lenG (r00 _) 2)) rfl
theorem evC (r : List Nat) : FC [.str (ofRev r)] = some (.bool (decide ((r.length : Int) > 3))) := runS (ret_step (lenG (r00 _) 3)) rfl
theorem evD (r : List Nat) : FD [.str (ofRev r)] = some (.bool (decide ((r.length : Int) > 4))) := runS (ret_step (lenG (r00 _) 4)) rfl
theorem coB (r : List Nat) (h : r.length ≤ 60) : CondOk 66 r := co_of (lhB r h) (hoB _) (evB r) ((fits_gen 3 [] [] [] 66 r (by decide +kernel)).trans (by rw [geGt 3 2 r rfl]; exact Bool.and_true _))
theorem coC (r : List Nat) (h : r.length ≤ 60) : CondOk 67 r := co_of (lhC r h) (hoC _) (evC r) ((fits_gen 4 [] [] [] 67 r (by decide +kernel)).trans (by rw [geGt 4 3 r rfl]; exact Bool.and_true _))
theorem coD (r : List Nat) (h : r.length ≤ 60) : CondOk 68 r := co_of (lhD r h) (hoD _) (evD r) ((fits_gen 5 [] [] [] 68 r (by decide +kernel)).trans (by rw [geGt 5 4 r rfl]; exact Bool.and_true _))
theorem evF (a : Nat) (r : List Nat) : FF [.str (ofRev (a :: r))] = some (.bool (decide (((a :: r).length : Int) > 2) && !(a == 101))) :=
  runS (ret_step (and_b (lenG (r00 _) 2) fun _ => lastN (idx1 (r00 _)) (by decide +kernel))) rfl
theorem evG (a : Nat) (r : List Nat) : FG [.str (ofRev (a :: r))] = some (.bool (decide (((a :: r).length : Int) > 2) && a == 102)) :=
  runS (ret_step (and_b (lenG (r00 _) 2) fun _ => lastE (idx1 (r00 _)) (by decide +kernel))) rfl
theorem evQ (a : Nat) (r : List Nat) : FQ [.str (ofRev (a :: r))] = some (.bool (decide (((a :: r).length : Int) > 2) && (!(a == 108) && !(a == 110)))) :=
  runS ((asg_step (idx1 (r00 _)) rfl).trans (ret_step (and_b (lenG rfl 2) fun _ => and_b (lastN rfl (by decide +kernel)) fun _ => lastN rfl (by decide +kernel)))) rfl
theorem evK (a b c : Nat) (r : List Nat) : FK [.str (ofRev (a :: b :: c :: r))] = some (.bool (decide (((a :: b :: c :: r).length : Int) > 2) && (a == 108 || (a == 105 || (a == 101 && c == 117))))) :=
  runS ((asg_step (idx1 (r00 _)) rfl).trans ((asg_step (idx3 rfl) rfl).trans (ret_step (and_b (lenG rfl 2) fun _ => or_b (lastE rfl (by decide +kernel)) fun _ => or_b (lastE rfl (by decide +kernel)) fun _ => and_b (lastE rfl (by decide +kernel)) fun _ => lastE rfl (by decide +kernel))))) rfl
theorem evX (a b c : Nat) (r : List Nat) : FX [.str (ofRev (a :: b :: c :: r))] = some (.bool (a == 108 || (a == 105 || (a == 101 && c == 117)))) :=
  runS ((asg_step (idx1 (r00 _)) rfl).trans ((asg_step (idx3 rfl) rfl).trans (ret_step (or_b (lastE rfl (by decide +kernel)) fun _ => or_b (lastE rfl (by decide +kernel)) fun _ => and_b (lastE rfl (by decide +kernel)) fun _ => lastE rfl (by decide +kernel))))) rfl
theorem coF (a : Nat) (r : List Nat) (h : (a :: r).length ≤ 60) : CondOk 70 (a :: r) := co_of (lhF _ h) (hoF _) (evF a r) ((fits_gen 3 [] [[101]] [] 70 _ (by decide +kernel)).trans (by
  rw [geGt 3 2 _ rfl]; congr 1
  simp only [fitR, List.any_cons, List.any_nil, List.isEmpty_cons, List.isEmpty_nil, mR, mR0, mRn, Nat.reduceBEq, Bool.false_or, Bool.or_false, Bool.true_and, Bool.and_true, Bool.true_or, Bool.not_false, Bool.false_and, Bool.and_false, Bool.not_or, Bool.or_assoc, Bool.and_assoc, BEq.rfl]))
theorem coG (a : Nat) (r : List Nat) (h : (a :: r).length ≤ 60) : CondOk 71 (a :: r) := co_of (lhG _ h) (hoG _) (evG a r) ((fits_gen 3 [[102]] [] [] 71 _ (by decide +kernel)).trans (by
  rw [geGt 3 2 _ rfl]; congr 1
  simp only [fitR, List.any_cons, List.any_nil, List.isEmpty_cons, List.isEmpty_nil, mR, mR0, mRn, Nat.reduceBEq, Bool.false_or, Bool.or_false, Bool.true_and, Bool.and_true, Bool.true_or, Bool.not_false, Bool.false_and, Bool.and_false, Bool.not_or, Bool.or_assoc, Bool.and_assoc, BEq.rfl]))
theorem coQ (a : Nat) (r : List Nat) (h : (a :: r).length ≤ 60) : CondOk 81 (a :: r) := co_of (lhQ _ h) (hoQ _) (evQ a r) ((fits_gen 3 [] [[108], [110]] [] 81 _ (by decide +kernel)).trans (by
  rw [geGt 3 2 _ rfl]; congr 1
  simp only [fitR, List.any_cons, List.any_nil, List.isEmpty_cons, List.isEmpty_nil, mR, mR0, mRn, Nat.reduceBEq, Bool.false_or, Bool.or_false, Bool.true_and, Bool.and_true, Bool.true_or, Bool.not_false, Bool.false_and, Bool.and_false, Bool.not_or, Bool.or_assoc, Bool.and_assoc, BEq.rfl]))
theorem le3 (a b c : Nat) (r : List Nat) (h : r.length ≤ 40) : (a :: b :: c :: r).length ≤ 60 := by simp; omega
theorem coK3 (a b c : Nat) (r : List Nat) (h : r.length ≤ 40) : CondOk 75 (a :: b :: c :: r) := co_of (lhK _ (le3 a b c r h)) (hoK _) (evK a b c r) ((fits_gen 3 [[108], [105], [101, 63, 117]] [] [] 75 _ (by decide +kernel)).trans (by
  rw [geGt 3 2 _ rfl]; congr 1
  simp only [fitR, List.any_cons, List.any_nil, List.isEmpty_cons, List.isEmpty_nil, mR, mR0, mRn, Nat.reduceBEq, Bool.false_or, Bool.or_false, Bool.true_and, Bool.and_true, Bool.true_or, Bool.not_false, Bool.false_and, Bool.and_false, Bool.not_or, Bool.or_assoc, Bool.and_assoc, BEq.rfl]))
theorem coX3 (a b c : Nat) (r : List Nat) (h : r.length ≤ 40) : CondOk 88 (a :: b :: c :: r) := co_of (lhX _ (le3 a b c r h)) (hoX _) (evX a b c r) (fit_ok (ws := [[108], [105], [101, 63, 117]]) (rs := []) (ss := []) (by decide +kernel) (len2 a b _) (by
  simp only [fitR, List.any_cons, List.any_nil, List.isEmpty_cons, List.isEmpty_nil, mR, mR0, mRn, Nat.reduceBEq, Bool.false_or, Bool.or_false, Bool.true_and, Bool.and_true, Bool.true_or, Bool.not_false, Bool.false_and, Bool.and_false, Bool.not_or, Bool.or_assoc, Bool.and_assoc, BEq.rfl]))
theorem co_none {l : Nat} {T : Term} {a b : Nat} (hl : Flawholds [.str (ofRev [l]), .str (ofRev [a, b])] = some (holdsL T (ofRev [l]) (ofRev [a, b]))) (h : ([Str.ofString "K", Str.ofString "X"].any fun y => y == ofRev [l]) = true) : CondOk l [a, b] := by
  refine .inl ?_
  have hc : CC1 (ofRev [l]) (ofRev [a, b]) = true := by unfold CC1; rw [h, ofRev_len]; rfl
  rw [hl, holdsL, hc]; rfl
theorem coK2 (a b : Nat) : CondOk 75 ([a, b]) := co_none (lhK _ (by simp)) (by decide +kernel)
theorem coX2 (a b : Nat) : CondOk 88 ([a, b]) := co_none (lhX _ (by simp)) (by decide +kernel)
theorem mPre : ∀ (p r : List Nat), p.all (fun q => !(q == 63)) = true → matchR p r = preR p r
  | [], r, _ => by cases r <;> rfl
  | _ :: _, [], _ => rfl
  | q :: p, a :: r, h => by
    rw [List.all_cons, Bool.and_eq_true] at h
    rw [matchR, preR, mPre p r h.2, (Bool.not_eq_true' _).mp h.1, Bool.false_or]
theorem coSmB (r : List Nat) (h : r.length ≤ 60) : CondOk 98 r := co_of (lhSmB _ h) (hoSmB _) (evSmB r) ((fits_gen 3 [] [[116, 101, 109], [116, 115, 121, 114]] [] 98 _ (by decide +kernel)).trans (by
  rw [geGt 3 2 _ rfl]; congr 1
  simp only [fitR, List.any_cons, List.any_nil, List.isEmpty_nil, mPre _ _ (show List.all [116, 101, 109] (fun q => !(q == 63)) = true from rfl), mPre _ _ (show List.all [116, 115, 121, 114] (fun q => !(q == 63)) = true from rfl), Bool.true_or, Bool.true_and, Bool.or_false]))
theorem coN2 (a b : Nat) : CondOk 78 ([a, b]) := by

  unfold CondOk
  rw [lhN _ (by first | (simp; done) | (simp; omega)), hoN]
  simp [FN, psN, it30, it32, holdsL, CC1, CC2, CC3, fits, anyB, leastOf, closes_rev, matchR, runF, stores, store, PV.nodict, nodicts, pex, pev, cEqS, cEqI, cNeS, cNeB, cGt, cGe, cInQ, cInS, cIsN, cIsS, cIsB, cTup, bAddI, bSubI, nI, lS, lQ, trN, trB, trI, trS, ix1, ix2, ix3, ix30, ix32, sf2, pE, itS, itQ, ch2, strsOf, upd, ofRev_len, beq1, bne1, beq2, beq12, bne12, preR, matchR, z0, z1, z2, z3, z4, z5, z6, z7, z8, z9, z10, z11, z12, z13, z14, z15, z16, z17, z18, z19, z20, z21, z22, z23, z24, z25, z26, z27, z28, z29, z30, z31, z32, z33, z34, z35, z36, z37, z38, z39, z40, z41, z42, z43, z44, z45, z46, z47, z48, z49, z50, z51, z52, z53, z54, z55, z56, z57, z58, z59, z60, z61, z62, z63, z64, z65, z66, z67, z68, z69, z70, z71, z72, z73, z74, z75, z76]
  all_goals (try ((repeat' split) <;> (first | (simp_all; done) | grind)))
theorem coN3 (a b c : Nat) : CondOk 78 ([a, b, c]) := by

  unfold CondOk
  rw [lhN _ (by first | (simp; done) | (simp; omega)), hoN]
  simp [FN, psN, it30, it32, holdsL, CC1, CC2, CC3, fits, anyB, leastOf, closes_rev, matchR, runF, stores, store, PV.nodict, nodicts, pex, pev, cEqS, cEqI, cNeS, cNeB, cGt, cGe, cInQ, cInS, cIsN, cIsS, cIsB, cTup, bAddI, bSubI, nI, lS, lQ, trN, trB, trI, trS, ix1, ix2, ix3, ix30, ix32, sf2, pE, itS, itQ, ch2, strsOf, upd, ofRev_len, beq1, bne1, beq2, beq12, bne12, preR, matchR, z0, z1, z2, z3, z4, z5, z6, z7, z8, z9, z10, z11, z12, z13, z14, z15, z16, z17, z18, z19, z20, z21, z22, z23, z24, z25, z26, z27, z28, z29, z30, z31, z32, z33, z34, z35, z36, z37, z38, z39, z40, z41, z42, z43, z44, z45, z46, z47, z48, z49, z50, z51, z52, z53, z54, z55, z56, z57, z58, z59, z60, z61, z62, z63, z64, z65, z66, z67, z68, z69, z70, z71, z72, z73, z74, z75, z76]
  all_goals (try ((repeat' split) <;> (first | (simp_all; done) | grind)))
theorem coN4 (a b c d : Nat) (r : List Nat) (h : r.length ≤ 40) : CondOk 78 (a :: b :: c :: d :: r) := by
  have f0 : (2 : Int) ≤ (r.length : Int) + 1 + 1 + 1 + 1 := by omega
  have f1 : (3 : Int) ≤ (r.length : Int) + 1 + 1 + 1 + 1 := by omega
  have f2 : (4 : Int) ≤ (r.length : Int) + 1 + 1 + 1 + 1 := by omega
  have f3 : (2 : Int) < (r.length : Int) + 1 + 1 + 1 + 1 := by omega
  have f4 : (3 : Int) < (r.length : Int) + 1 + 1 + 1 + 1 := by omega
  have f5 : ¬ ((r.length : Int) + 1 + 1 + 1 + 1 = 2) := by omega
  have f6 : ¬ ((r.length : Int) + 1 + 1 + 1 + 1 = 3) := by omega
  unfold CondOk
  rw [lhN _ (by first | (simp; done) | (simp; omega)), hoN]
  simp [FN, psN, f0, f1, f2, f3, f4, f5, f6, it30, it32, holdsL, CC1, CC2, CC3, fits, anyB, leastOf, closes_rev, matchR, runF, stores, store, PV.nodict, nodicts, pex, pev, cEqS, cEqI, cNeS, cNeB, cGt, cGe, cInQ, cInS, cIsN, cIsS, cIsB, cTup, bAddI, bSubI, nI, lS, lQ, trN, trB, trI, trS, ix1, ix2, ix3, ix30, ix32, sf2, pE, itS, itQ, ch2, strsOf, upd, ofRev_len, beq1, bne1, beq2, beq12, bne12, preR, matchR, z0, z1, z2, z3, z4, z5, z6, z7, z8, z9, z10, z11, z12, z13, z14, z15, z16, z17, z18, z19, z20, z21, z22, z23, z24, z25, z26, z27, z28, z29, z30, z31, z32, z33, z34, z35, z36, z37, z38, z39, z40, z41, z42, z43, z44, z45, z46, z47, z48, z49, z50, z51, z52, z53, z54, z55, z56, z57, z58, z59, z60, z61, z62, z63, z64, z65, z66, z67, z68, z69, z70, z71, z72, z73, z74, z75, z76]
  all_goals (try ((repeat' split) <;> (first | (simp_all; done) | grind)))
theorem coB2 (a b : Nat) : CondOk 66 ([a, b]) := coB _ (by simp)
theorem coB3 (a b c : Nat) (r : List Nat) (h : r.length ≤ 40) : CondOk 66 (a :: b :: c :: r) := coB _ (le3 a b c r h)
theorem coC2 (a b : Nat) : CondOk 67 ([a, b]) := coC _ (by simp)
theorem coC3 (a b c : Nat) : CondOk 67 ([a, b, c]) := coC _ (by simp)
theorem coC4 (a b c d : Nat) (r : List Nat) (h : r.length ≤ 40) : CondOk 67 (a :: b :: c :: d :: r) := coC _ (by simp; omega)
theorem coD2 (a b : Nat) : CondOk 68 ([a, b]) := coD _ (by simp)
theorem coD3 (a b c : Nat) : CondOk 68 ([a, b, c]) := coD _ (by simp)
theorem coD4 (a b c d : Nat) : CondOk 68 ([a, b, c, d]) := coD _ (by simp)
theorem coD5 (a b c d e : Nat) (r : List Nat) (h : r.length ≤ 40) : CondOk 68 (a :: b :: c :: d :: e :: r) := coD _ (by simp; omega)
theorem coF2 (a b : Nat) : CondOk 70 ([a, b]) := coF _ _ (by simp)
theorem coF3 (a b c : Nat) (r : List Nat) (h : r.length ≤ 40) : CondOk 70 (a :: b :: c :: r) := coF _ _ (le3 a b c r h)
theorem coG2 (a b : Nat) : CondOk 71 ([a, b]) := coG _ _ (by simp)
theorem coG3 (a b c : Nat) (r : List Nat) (h : r.length ≤ 40) : CondOk 71 (a :: b :: c :: r) := coG _ _ (le3 a b c r h)
theorem coQ2 (a b : Nat) : CondOk 81 ([a, b]) := coQ _ _ (by simp)
theorem coQ3 (a b c : Nat) (r : List Nat) (h : r.length ≤ 40) : CondOk 81 (a :: b :: c :: r) := coQ _ _ (le3 a b c r h)
theorem coSmB2 (a b : Nat) : CondOk 98 ([a, b]) := coSmB _ (by simp)
theorem coSmB3 (a b c : Nat) : CondOk 98 ([a, b, c]) := coSmB _ (by simp)
theorem coSmB4 (a b c d : Nat) (r : List Nat) (h : r.length ≤ 40) : CondOk 98 (a :: b :: c :: d :: r) := coSmB _ (by simp; omega)
end Mine
end
section
open PySem PySem.W PySem.Calls PySem.Spec PyProof.Rows
namespace Mine
noncomputable def lt1 : List (List Nat × Nat) := [([97], 65), ([101], 65), ([105], 65), ([111], 65), ([115], 87), ([121], 66)]
noncomputable def lt2 : List (List Nat × Nat) := [([97, 101], 65), ([97, 108], 98), ([97, 114], 88), ([97, 115], 66), ([101, 100], 69), ([101, 110], 70), ([101, 115], 69), ([105, 97], 65), ([105, 99], 65), ([105, 115], 65), ([108, 121], 66), ([111, 110], 83), ([111, 114], 84), ([117, 109], 85), ([117, 115], 86), ([121, 108], 82), ([115, 39], 65), ([39, 115], 65)]
noncomputable def lt3 : List (List Nat × Nat) := [([97, 99, 121], 65), ([97, 103, 101], 66), ([97, 105, 99], 65), ([97, 108, 115], 98), ([97, 110, 116], 66), ([97, 114, 115], 79), ([97, 114, 121], 70), ([97, 116, 97], 65), ([97, 116, 101], 65), ([101, 97, 108], 89), ([101, 97, 114], 89), ([101, 108, 121], 69), ([101, 110, 101], 69), ([101, 110, 116], 67), ([101, 114, 121], 69), ([101, 115, 101], 65), ([102, 117, 108], 65), ([105, 97, 108], 65), ([105, 97, 110], 65), ([105, 99, 115], 65), ([105, 100, 101], 76), ([105, 101, 100], 65), ([105, 101, 114], 65), ([105, 101, 115], 80), ([105, 108, 121], 65), ([105, 110, 101], 77), ([105, 110, 103], 78), ([105, 111, 110], 81), ([105, 115, 104], 67), ([105, 115, 109], 66), ([105, 115, 116], 65), ([105, 116, 101], 97), ([105, 116, 121], 65), ([105, 117, 109], 65), ([105, 118, 101], 65), ([105, 122, 101], 70), ([111, 105, 100], 65), ([111, 110, 101], 82), ([111, 117, 115], 65)]
noncomputable def lt4 : List (List Nat × Nat) := [([97, 98, 108, 101], 65), ([97, 98, 108, 121], 65), ([97, 103, 101, 115], 66), ([97, 108, 108, 121], 66), ([97, 110, 99, 101], 66), ([97, 110, 99, 121], 66), ([97, 110, 116, 115], 66), ([97, 114, 105, 99], 65), ([97, 114, 108, 121], 75), ([97, 116, 101, 100], 73), ([97, 116, 101, 115], 65), ([97, 116, 105, 99], 66), ([97, 116, 111, 114], 65), ([101, 97, 108, 121], 89), ([101, 100, 108, 121], 69), ([101, 102, 117, 108], 65), ([101, 105, 116, 121], 65), ([101, 110, 99, 101], 65), ([101, 110, 99, 121], 65), ([101, 110, 101, 100], 69), ([101, 110, 108, 121], 69), ([101, 111, 117, 115], 65), ([104, 111, 111, 100], 65), ([105, 97, 108, 115], 65), ([105, 97, 110, 115], 65), ([105, 98, 108, 101], 65), ([105, 98, 108, 121], 65), ([105, 99, 97, 108], 65), ([105, 100, 101, 115], 76), ([105, 101, 114, 115], 65), ([105, 102, 117, 108], 65), ([105, 110, 101, 115], 77), ([105, 110, 103, 115], 78), ([105, 111, 110, 115], 66), ([105, 111, 117, 115], 65), ([105, 115, 109, 115], 66), ([105, 115, 116, 115], 65), ([105, 116, 105, 99], 72), ([105, 122, 101, 100], 70), ([105, 122, 101, 114], 70), ([108, 101, 115, 115], 65), ([108, 105, 108, 121], 65), ([110, 101, 115, 115], 65), ([111, 103, 101, 110], 65), ([119, 97, 114, 100], 65), ([119, 105, 115, 101], 65), ([121, 105, 110, 103], 66), ([121, 105, 115, 104], 65)]
noncomputable def lt5 : List (List Nat × Nat) := [([97, 99, 105, 101, 115], 65), ([97, 99, 105, 116, 121], 65), ([97, 103, 105, 110, 103], 66), ([97, 105, 99, 97, 108], 65), ([97, 108, 105, 115, 116], 65), ([97, 108, 105, 115, 109], 66), ([97, 108, 105, 116, 121], 65), ([97, 108, 105, 122, 101], 65), ([97, 108, 108, 105, 99], 98), ([97, 110, 99, 101, 100], 66), ([97, 110, 99, 101, 115], 66), ([97, 110, 116, 105, 99], 67), ([97, 114, 105, 97, 108], 65), ([97, 114, 105, 101, 115], 65), ([97, 114, 105, 108, 121], 65), ([97, 114, 105, 116, 121], 66), ([97, 114, 105, 122, 101], 65), ([97, 114, 111, 105, 100], 65), ([97, 116, 101, 108, 121], 65), ([97, 116, 105, 110, 103], 73), ([97, 116, 105, 111, 110], 66), ([97, 116, 105, 118, 101], 65), ([97, 116, 111, 114, 115], 65), ([97, 116, 111, 114, 121], 65), ([97, 116, 117, 114, 101], 69), ([101, 97, 114, 108, 121], 89), ([101, 104, 111, 111, 100], 65), ([101, 108, 101, 115, 115], 65), ([101, 108, 105, 108, 121], 65), ([101, 109, 101, 110, 116], 65), ([101, 110, 99, 101, 100], 65), ([101, 110, 99, 101, 115], 65), ([101, 110, 101, 115, 115], 69), ([101, 110, 105, 110, 103], 69), ([101, 110, 116, 97, 108], 65), ([101, 110, 116, 101, 100], 67), ([101, 110, 116, 108, 121], 65), ([102, 117, 108, 108, 121], 65), ([105, 97, 108, 108, 121], 65), ([105, 99, 97, 110, 116], 65), ([105, 99, 105, 97, 110], 65), ([105, 99, 105, 100, 101], 65), ([105, 99, 105, 115, 109], 65), ([105, 99, 105, 115, 116], 65), ([105, 99, 105, 116, 121], 65), ([105, 100, 105, 110, 101], 73), ([105, 101, 100, 108, 121], 65), ([105, 104, 111, 111, 100], 65), ([105, 110, 97, 116, 101], 65), ([105, 110, 101, 115, 115], 65), ([105, 110, 103, 108, 121], 66), ([105, 110, 105, 115, 109], 74), ([105, 110, 105, 116, 121], 99), ([105, 111, 110, 97, 108], 65), ([105, 111, 110, 101, 100], 65), ([105, 115, 104, 101, 100], 65), ([105, 115, 116, 105, 99], 65), ([105, 116, 105, 101, 115], 65), ([105, 116, 111, 117, 115], 65), ([105, 118, 101, 108, 121], 65), ([105, 118, 105, 116, 121], 65), ([105, 122, 101, 114, 115], 70), ([105, 122, 105, 110, 103], 70), ([111, 105, 100, 97, 108], 65), ([111, 105, 100, 101, 115], 65), ([111, 116, 105, 100, 101], 65), ([111, 117, 115, 108, 121], 65)]
noncomputable def lt6 : List (List Nat × Nat) := [([97, 99, 101, 111, 117, 115], 65), ([97, 99, 105, 111, 117, 115], 66), ([97, 99, 116, 105, 111, 110], 71), ([97, 108, 110, 101, 115, 115], 65), ([97, 110, 99, 105, 97, 108], 65), ([97, 110, 99, 105, 101, 115], 65), ([97, 110, 99, 105, 110, 103], 66), ([97, 114, 105, 115, 101, 114], 65), ([97, 114, 105, 122, 101, 100], 65), ([97, 114, 105, 122, 101, 114], 65), ([97, 116, 97, 98, 108, 101], 65), ([97, 116, 105, 111, 110, 115], 66), ([97, 116, 105, 118, 101, 115], 65), ([101, 97, 116, 117, 114, 101], 90), ([101, 102, 117, 108, 108, 121], 65), ([101, 110, 99, 105, 101, 115], 65), ([101, 110, 99, 105, 110, 103], 65), ([101, 110, 116, 105, 97, 108], 65), ([101, 110, 116, 105, 110, 103], 67), ([101, 110, 116, 105, 115, 116], 65), ([101, 111, 117, 115, 108, 121], 65), ([105, 97, 108, 105, 115, 116], 65), ([105, 97, 108, 105, 116, 121], 65), ([105, 97, 108, 105, 122, 101], 65), ([105, 99, 97, 108, 108, 121], 65), ([105, 99, 97, 110, 99, 101], 65), ([105, 99, 105, 97, 110, 115], 65), ([105, 99, 105, 115, 116, 115], 65), ([105, 102, 117, 108, 108, 121], 65), ([105, 111, 110, 97, 108, 115], 65), ([105, 111, 110, 97, 116, 101], 68), ([105, 111, 110, 105, 110, 103], 65), ([105, 111, 110, 105, 115, 116], 65), ([105, 111, 117, 115, 108, 121], 65), ([105, 115, 116, 105, 99, 115], 65), ([105, 122, 97, 98, 108, 101], 69), ([108, 101, 115, 115, 108, 121], 65), ([110, 101, 115, 115, 101, 115], 65), ([111, 105, 100, 105, 115, 109], 65)]
noncomputable def lt7 : List (List Nat × Nat) := [([97, 98, 105, 108, 105, 116, 121], 65), ([97, 105, 99, 97, 108, 108, 121], 65), ([97, 108, 105, 115, 116, 105, 99], 66), ([97, 108, 105, 116, 105, 101, 115], 65), ([97, 114, 105, 110, 101, 115, 115], 69), ([97, 114, 105, 115, 116, 105, 99], 65), ([97, 114, 105, 122, 105, 110, 103], 65), ([97, 116, 101, 110, 101, 115, 115], 65), ([97, 116, 105, 110, 103, 108, 121], 65), ([97, 116, 105, 111, 110, 97, 108], 66), ([97, 116, 105, 118, 101, 108, 121], 65), ([97, 116, 105, 118, 105, 115, 109], 65), ([101, 108, 105, 104, 111, 111, 100], 69), ([101, 110, 99, 105, 98, 108, 101], 65), ([101, 110, 116, 97, 108, 108, 121], 65), ([101, 110, 116, 105, 97, 108, 115], 65), ([101, 110, 116, 105, 97, 116, 101], 65), ([101, 110, 116, 110, 101, 115, 115], 65), ([102, 117, 108, 110, 101, 115, 115], 65), ([105, 98, 105, 108, 105, 116, 121], 65), ([105, 99, 97, 108, 105, 115, 109], 65), ([105, 99, 97, 108, 105, 115, 116], 65), ([105, 99, 97, 108, 105, 116, 121], 65), ([105, 99, 97, 108, 105, 122, 101], 65), ([105, 99, 97, 116, 105, 111, 110], 71), ([105, 99, 105, 97, 110, 114, 121], 65), ([105, 110, 97, 116, 105, 111, 110], 65), ([105, 110, 103, 110, 101, 115, 115], 65), ([105, 111, 110, 97, 108, 108, 121], 65), ([105, 115, 97, 116, 105, 111, 110], 65), ([105, 115, 104, 110, 101, 115, 115], 65), ([105, 115, 116, 105, 99, 97, 108], 65), ([105, 116, 101, 110, 101, 115, 115], 65), ([105, 118, 101, 110, 101, 115, 115], 65), ([105, 118, 105, 115, 116, 105, 99], 65), ([105, 118, 105, 116, 105, 101, 115], 65), ([105, 122, 97, 116, 105, 111, 110], 70), ([105, 122, 101, 109, 101, 110, 116], 65), ([111, 105, 100, 97, 108, 108, 121], 65), ([111, 117, 115, 110, 101, 115, 115], 65)]
noncomputable def lt8 : List (List Nat × Nat) := [([97, 98, 108, 101, 110, 101, 115, 115], 65), ([97, 114, 105, 122, 97, 98, 108, 101], 65), ([101, 110, 116, 97, 116, 105, 111, 110], 65), ([101, 110, 116, 105, 97, 108, 108, 121], 65), ([101, 111, 117, 115, 110, 101, 115, 115], 65), ([105, 98, 108, 101, 110, 101, 115, 115], 65), ([105, 99, 97, 108, 110, 101, 115, 115], 65), ([105, 111, 110, 97, 108, 105, 115, 109], 65), ([105, 111, 110, 97, 108, 105, 116, 121], 65), ([105, 111, 110, 97, 108, 105, 122, 101], 65), ([105, 111, 117, 115, 110, 101, 115, 115], 65), ([105, 122, 97, 116, 105, 111, 110, 115], 65), ([108, 101, 115, 115, 110, 101, 115, 115], 65)]
noncomputable def lt9 : List (List Nat × Nat) := [([97, 108, 108, 105, 99, 97, 108, 108, 121], 67), ([97, 110, 116, 97, 110, 101, 111, 117, 115], 65), ([97, 110, 116, 105, 97, 108, 105, 116, 121], 65), ([97, 114, 105, 115, 97, 116, 105, 111, 110], 65), ([97, 114, 105, 122, 97, 116, 105, 111, 110], 65), ([97, 116, 105, 111, 110, 97, 108, 108, 121], 66), ([97, 116, 105, 118, 101, 110, 101, 115, 115], 65), ([101, 97, 98, 108, 101, 110, 101, 115, 115], 69), ([101, 110, 116, 97, 116, 105, 111, 110, 115], 65), ([101, 110, 116, 105, 97, 108, 105, 116, 121], 65), ([101, 110, 116, 105, 97, 108, 105, 122, 101], 65), ([101, 110, 116, 105, 97, 116, 105, 111, 110], 65), ([105, 111, 110, 97, 108, 110, 101, 115, 115], 65), ([105, 115, 116, 105, 99, 97, 108, 108, 121], 65), ([105, 116, 111, 117, 115, 110, 101, 115, 115], 65), ([105, 122, 97, 98, 105, 108, 105, 116, 121], 65), ([105, 122, 97, 116, 105, 111, 110, 97, 108], 65)]
noncomputable def lt10 : List (List Nat × Nat) := [([97, 110, 116, 105, 97, 108, 110, 101, 115, 115], 65), ([97, 114, 105, 115, 97, 116, 105, 111, 110, 115], 65), ([97, 114, 105, 122, 97, 116, 105, 111, 110, 115], 65), ([101, 110, 116, 105, 97, 108, 110, 101, 115, 115], 65)]
noncomputable def lt11 : List (List Nat × Nat) := [([97, 108, 105, 115, 116, 105, 99, 97, 108, 108, 121], 66), ([97, 114, 105, 122, 97, 98, 105, 108, 105, 116, 121], 65), ([105, 122, 97, 116, 105, 111, 110, 97, 108, 108, 121], 66)]
noncomputable def lg5 : List (List Nat × Nat) := [([97, 99, 105, 101, 115], 65), ([97, 99, 105, 116, 121], 65), ([97, 103, 105, 110, 103], 66), ([97, 105, 99, 97, 108], 65), ([97, 108, 105, 115, 116], 65), ([97, 108, 105, 115, 109], 66), ([97, 108, 105, 116, 121], 65), ([97, 108, 105, 122, 101], 65), ([97, 108, 108, 105, 99], 98), ([97, 110, 99, 101, 100], 66), ([97, 110, 99, 101, 115], 66), ([97, 110, 116, 105, 99], 67), ([97, 114, 105, 97, 108], 65), ([97, 114, 105, 101, 115], 65), ([97, 114, 105, 108, 121], 65), ([97, 114, 105, 116, 121], 66), ([97, 114, 105, 122, 101], 65), ([97, 114, 111, 105, 100], 65), ([97, 116, 101, 108, 121], 65), ([97, 116, 105, 110, 103], 73), ([97, 116, 105, 111, 110], 66), ([97, 116, 105, 118, 101], 65), ([97, 116, 111, 114, 115], 65), ([97, 116, 111, 114, 121], 65), ([97, 116, 117, 114, 101], 69), ([101, 97, 114, 108, 121], 89), ([101, 104, 111, 111, 100], 65), ([101, 108, 101, 115, 115], 65), ([101, 109, 101, 110, 116], 65), ([101, 110, 99, 101, 100], 65), ([101, 110, 99, 101, 115], 65), ([101, 110, 101, 115, 115], 69), ([101, 110, 105, 110, 103], 69), ([101, 110, 116, 97, 108], 65), ([101, 110, 116, 101, 100], 67), ([101, 110, 116, 108, 121], 65), ([102, 117, 108, 108, 121], 65), ([105, 97, 108, 108, 121], 65), ([105, 99, 97, 110, 116], 65), ([105, 99, 105, 97, 110], 65), ([105, 99, 105, 100, 101], 65), ([105, 99, 105, 115, 109], 65), ([105, 99, 105, 115, 116], 65), ([105, 99, 105, 116, 121], 65), ([105, 100, 105, 110, 101], 73), ([105, 101, 100, 108, 121], 65), ([105, 104, 111, 111, 100], 65), ([105, 110, 97, 116, 101], 65), ([105, 110, 101, 115, 115], 65), ([105, 110, 103, 108, 121], 66), ([105, 110, 105, 115, 109], 74), ([105, 110, 105, 116, 121], 99), ([105, 111, 110, 97, 108], 65), ([105, 111, 110, 101, 100], 65), ([105, 115, 104, 101, 100], 65), ([105, 115, 116, 105, 99], 65), ([105, 116, 105, 101, 115], 65), ([105, 116, 111, 117, 115], 65), ([105, 118, 101, 108, 121], 65), ([105, 118, 105, 116, 121], 65), ([105, 122, 101, 114, 115], 70), ([105, 122, 105, 110, 103], 70), ([111, 105, 100, 97, 108], 65), ([111, 105, 100, 101, 115], 65), ([111, 116, 105, 100, 101], 65), ([111, 117, 115, 108, 121], 65)]
noncomputable def ltab : Nat → List (List Nat × Nat)
  | 1 => lt1 | 2 => lt2 | 3 => lt3 | 4 => lt4 | 5 => lt5 | 6 => lt6 | 7 => lt7 | 8 => lt8 | 9 => lt9 | 10 => lt10 | 11 => lt11 | _ => []
noncomputable def lgo : Nat → List (List Nat × Nat)
  | 5 => lg5
  | k => ltab k
noncomputable def sizes : List Nat := [11, 10, 9, 8, 7, 6, 5, 4, 3, 2, 1]
noncomputable def tabN : Nat → List (Str × Str)
  | 1 => tab1 | 2 => tab2 | 3 => tab3 | 4 => tab4 | 5 => tab5 | 6 => tab6 | 7 => tab7 | 8 => tab8 | 9 => tab9 | 10 => tab10 | 11 => tab11 | _ => []
noncomputable def okLetters : List Nat := [65, 66, 67, 68, 69, 70, 71, 72, 73, 74, 75, 76, 77, 78, 79, 80, 81, 82, 83, 84, 85, 86, 87, 88, 89, 90, 97, 98, 99]
noncomputable def strF (e : List Nat) : Str := ⟨e.toArray⟩
theorem tabEq1 : tab1 = lt1.map fun p => (strF p.1, ofRev [p.2]) := by decide +kernel
theorem goesEnc1 : (Str.ofString " a:A e:A i:A o:A s:W y:B ").cps.toList = encG lt1 := by rw [goesEq1]; decide +kernel
theorem tabEq2 : tab2 = lt2.map fun p => (strF p.1, ofRev [p.2]) := by decide +kernel
theorem goesEnc2 : (Str.ofString " ae:A al:b ar:X as:B ed:E en:F es:E ia:A ic:A is:A ly:B on:S or:T um:U us:V yl:R s':A 's:A ").cps.toList = encG lt2 := by rw [goesEq2]; decide +kernel
theorem tabEq3 : tab3 = lt3.map fun p => (strF p.1, ofRev [p.2]) := by decide +kernel
theorem goesEnc3 : (Str.ofString " acy:A age:B aic:A als:b ant:B ars:O ary:F ata:A ate:A eal:Y ear:Y ely:E ene:E ent:C ery:E ese:A ful:A ial:A ian:A ics:A ide:L ied:A ier:A ies:P ily:A ine:M ing:N ion:Q ish:C ism:B ist:A ite:a ity:A ium:A ive:A ize:F oid:A one:R ous:A ").cps.toList = encG lt3 := by rw [goesEq3]; decide +kernel
theorem tabEq4 : tab4 = lt4.map fun p => (strF p.1, ofRev [p.2]) := by decide +kernel
theorem goesEnc4 : (Str.ofString " able:A ably:A ages:B ally:B ance:B ancy:B ants:B aric:A arly:K ated:I ates:A atic:B ator:A ealy:Y edly:E eful:A eity:A ence:A ency:A ened:E enly:E eous:A hood:A ials:A ians:A ible:A ibly:A ical:A ides:L iers:A iful:A ines:M ings:N ions:B ious:A isms:B ists:A itic:H ized:F izer:F less:A lily:A ness:A ogen:A ward:A wise:A ying:B yish:A ").cps.toList = encG lt4 := by rw [goesEq4]; decide +kernel
theorem tabEq5 : tab5 = lt5.map fun p => (strF p.1, ofRev [p.2]) := by decide +kernel
theorem goesEnc5 : (Str.ofString " acies:A acity:A aging:B aical:A alist:A alism:B ality:A alize:A allic:b anced:B ances:B antic:C arial:A aries:A arily:A arity:B arize:A aroid:A ately:A ating:I ation:B ative:A ators:A atory:A ature:E early:Y ehood:A eless:A ement:A enced:A ences:A eness:E ening:E ental:A ented:C ently:A fully:A ially:A icant:A ician:A icide:A icism:A icist:A icity:A idine:I iedly:A ihood:A inate:A iness:A ingly:B inism:J inity:c ional:A ioned:A ished:A istic:A ities:A itous:A ively:A ivity:A izers:F izing:F oidal:A oides:A otide:A ously:A ").cps.toList = encG lg5 := by rw [goesEq5]; decide +kernel
theorem tabEq6 : tab6 = lt6.map fun p => (strF p.1, ofRev [p.2]) := by decide +kernel
theorem goesEnc6 : (Str.ofString " aceous:A acious:B action:G alness:A ancial:A ancies:A ancing:B ariser:A arized:A arizer:A atable:A ations:B atives:A eature:Z efully:A encies:A encing:A ential:A enting:C entist:A eously:A ialist:A iality:A ialize:A ically:A icance:A icians:A icists:A ifully:A ionals:A ionate:D ioning:A ionist:A iously:A istics:A izable:E lessly:A nesses:A oidism:A ").cps.toList = encG lt6 := by rw [goesEq6]; decide +kernel
theorem tabEq7 : tab7 = lt7.map fun p => (strF p.1, ofRev [p.2]) := by decide +kernel
theorem goesEnc7 : (Str.ofString " ability:A aically:A alistic:B alities:A ariness:E aristic:A arizing:A ateness:A atingly:A ational:B atively:A ativism:A elihood:E encible:A entally:A entials:A entiate:A entness:A fulness:A ibility:A icalism:A icalist:A icality:A icalize:A ication:G icianry:A ination:A ingness:A ionally:A isation:A ishness:A istical:A iteness:A iveness:A ivistic:A ivities:A ization:F izement:A oidally:A ousness:A ").cps.toList = encG lt7 := by rw [goesEq7]; decide +kernel
theorem tabEq8 : tab8 = lt8.map fun p => (strF p.1, ofRev [p.2]) := by decide +kernel
theorem goesEnc8 : (Str.ofString " ableness:A arizable:A entation:A entially:A eousness:A ibleness:A icalness:A ionalism:A ionality:A ionalize:A iousness:A izations:A lessness:A ").cps.toList = encG lt8 := by rw [goesEq8]; decide +kernel
theorem tabEq9 : tab9 = lt9.map fun p => (strF p.1, ofRev [p.2]) := by decide +kernel
theorem goesEnc9 : (Str.ofString " allically:C antaneous:A antiality:A arisation:A arization:A ationally:B ativeness:A eableness:E entations:A entiality:A entialize:A entiation:A ionalness:A istically:A itousness:A izability:A izational:A ").cps.toList = encG lt9 := by rw [goesEq9]; decide +kernel
theorem tabEq10 : tab10 = lt10.map fun p => (strF p.1, ofRev [p.2]) := by decide +kernel
theorem goesEnc10 : (Str.ofString " antialness:A arisations:A arizations:A entialness:A ").cps.toList = encG lt10 := by rw [goesEq10]; decide +kernel
theorem tabEq11 : tab11 = lt11.map fun p => (strF p.1, ofRev [p.2]) := by decide +kernel
theorem goesEnc11 : (Str.ofString " alistically:B arizability:A izationally:B ").cps.toList = encG lt11 := by rw [goesEq11]; decide +kernel
theorem tabEq : ∀ k ∈ sizes, tabN k = (ltab k).map fun p => (strF p.1, ofRev [p.2]) := by
  intro k hk
  simp only [sizes, List.mem_cons, List.not_mem_nil, or_false] at hk
  rcases hk with rfl | rfl | rfl | rfl | rfl | rfl | rfl | rfl | rfl | rfl | rfl
  · exact tabEq11
  · exact tabEq10
  · exact tabEq9
  · exact tabEq8
  · exact tabEq7
  · exact tabEq6
  · exact tabEq5
  · exact tabEq4
  · exact tabEq3
  · exact tabEq2
  · exact tabEq1
theorem goesEnc : ∀ k ∈ sizes, ∃ G : Str, pidx goesP (.int k) = some (.str G) ∧ G.cps.toList = encG (lgo k) := by
  intro k hk
  simp only [sizes, List.mem_cons, List.not_mem_nil, or_false] at hk
  rcases hk with rfl | rfl | rfl | rfl | rfl | rfl | rfl | rfl | rfl | rfl | rfl
  · exact ⟨_, rfl, goesEnc11⟩
  · exact ⟨_, rfl, goesEnc10⟩
  · exact ⟨_, rfl, goesEnc9⟩
  · exact ⟨_, rfl, goesEnc8⟩
  · exact ⟨_, rfl, goesEnc7⟩
  · exact ⟨_, rfl, goesEnc6⟩
  · exact ⟨_, rfl, goesEnc5⟩
  · exact ⟨_, rfl, goesEnc4⟩
  · exact ⟨_, rfl, goesEnc3⟩
  · exact ⟨_, rfl, goesEnc2⟩
  · exact ⟨_, rfl, goesEnc1⟩
theorem goodAll : ∀ k ∈ sizes, goodTab k (lgo k) = true := by decide +kernel
theorem lettersAll : ∀ k ∈ sizes, ∀ p ∈ lgo k, p.2 ∈ okLetters := by decide +kernel
theorem mIdx : ∀ k ∈ sizes, pidx mP (.int k) = some (dictP (tabN k)) := by
  intro k hk
  simp only [sizes, List.mem_cons, List.not_mem_nil, or_false] at hk
  rcases hk with rfl | rfl | rfl | rfl | rfl | rfl | rfl | rfl | rfl | rfl | rfl <;> rfl
theorem sizes_le : ∀ k ∈ sizes, 1 ≤ k ∧ k ≤ 11 := by decide
theorem mem_lookup {t : List (List Nat × Nat)} {e : List Nat} {c : Nat} (h : t.lookup e = some c) : (e, c) ∈ t := by
  induction t with
  | nil => cases h
  | cons p t ih =>
    rw [List.lookup_cons] at h
    cases he : e == p.1 with
    | true => rw [he] at h; cases h; rw [eq_of_beq he]; simp
    | false => rw [he] at h; exact List.mem_cons_of_mem _ (ih h)
/-- with elily apart the two tables are one -/
theorem lgo_lookup (k : Nat) (e : List Nat) (he : e ≠ [101, 108, 105, 108, 121]) : (lgo k).lookup e = (ltab k).lookup e := by
  by_cases hk : k = 5
  · subst hk
    show lg5.lookup e = lt5.lookup e
    have h1 : lg5 = lt5.filter fun p => p.1 != [101, 108, 105, 108, 121] := by decide +kernel
    rw [h1]
    generalize lt5 = t
    induction t with
    | nil => rfl
    | cons p t ih =>
      rw [List.filter_cons]
      cases hp : p.1 != [101, 108, 105, 108, 121] with
      | true => rw [if_pos rfl, List.lookup_cons, List.lookup_cons, ih]
      | false =>
        rw [if_neg Bool.false_ne_true, List.lookup_cons, ih]
        have : p.1 = [101, 108, 105, 108, 121] := by simpa using hp
        have h2 : (e == p.1) = false := by rw [this]; exact beq_eq_false_iff_ne.mpr he
        rw [h2]
  · show (lgo k).lookup e = _
    unfold lgo
    split
    · exact absurd rfl hk
    · rfl
theorem strF_rev (r : List Nat) : ofRev r = strF r.reverse := rfl
theorem strF_inj {e f : List Nat} (h : strF e = strF f) : e = f := by
  have := congrArg (fun x : Str => x.cps.toList) h
  simpa [strF] using this
theorem lookup_tab (e : List Nat) : ∀ t : List (List Nat × Nat), (t.map fun p => (strF p.1, ofRev [p.2])).lookup (strF e) = (t.lookup e).map fun c => ofRev [c]
  | [] => rfl
  | p :: t => by
    rw [List.map_cons, List.lookup_cons, List.lookup_cons, lookup_tab e t]
    cases he : e == p.1 with
    | true => rw [eq_of_beq he]; simp
    | false =>
      have : (strF e == strF p.1) = false := by
        rw [beq_eq_false_iff_ne] at he ⊢
        exact fun q => he (strF_inj q)
      simp only [this]
theorem lookup_dict (k : Str) : ∀ l : List (Str × Str), ((l.map (·.1)).zip (l.map fun p => PV.str p.2)).lookup k = (l.lookup k).map PV.str
  | [] => rfl
  | (a, b) :: l => by
    simp only [List.map_cons, List.zip_cons_cons, List.lookup_cons, lookup_dict k l]
    cases k == a <;> rfl
/-- what a look into the program's table answers -/
theorem get_tab (k : Nat) (hk : k ∈ sizes) (s : List Nat) : pget (dictP (tabN k)) (.str (ofRev s)) .none = some (match (ltab k).lookup s.reverse with | some c => .str (ofRev [c]) | none => .none) := by
  show some ((((tabN k).map (·.1)).zip ((tabN k).map fun p => PV.str p.2)).lookup (ofRev s) |>.getD .none) = _
  rw [lookup_dict, tabEq k hk, strF_rev, lookup_tab]
  cases (ltab k).lookup s.reverse <;> rfl

/-- the law's turn: none: go on; else what is handed back -/
noncomputable def bareStep (r : List Nat) (k : Nat) : Option PV :=
  if k + 1 < r.length then (match (lgo k).lookup (r.take k).reverse with
    | none => none
    | some c => (match Flawholds [.str (ofRev [c]), .str (ofRev (r.drop k))] with
      | some (.bool true) => some (.str (ofRev (r.drop k)))
      | some (.bool false) => none
      | _ => some .none))
  else none
noncomputable def remStep (r : List Nat) (k : Nat) : Option PV :=
  if k + 1 < r.length then (match (ltab k).lookup (r.take k).reverse with
    | none => none
    | some c => (match Fholds [.str (ofRev [c]), .str (ofRev (r.drop k))] with
      | some (.bool true) => some (.str (ofRev (r.drop k)))
      | _ => none))
  else none
noncomputable def CondOkS : Prop := ∀ c ∈ okLetters, ∀ d : List Nat, 2 ≤ d.length → d.length ≤ 40 → CondOk c d
noncomputable def lbB3 : PS := .ite (.cmp .Is (.loc 5) (.const .none)) (.ret (.const .none)) .nil (.ite (.loc 5) (.ret (.loc 2)) .nil .nil)
noncomputable def lbB2 : PS := .assign 5 (.call2 0 (.idx (.idx (.glob 0) (.loc 1)) (.bin .Add (.bin .Add (.loc 4) (.loc 1)) (.const (.int (2))))) (.loc 2)) lbB3
noncomputable def lbB1 : PS := .assign 2 (.sliceTo (.loc 0) (.bin .Sub (.len (.loc 0)) (.loc 1))) (.assign 3 (.sliceFrom (.loc 0) (.bin .Sub (.len (.loc 0)) (.loc 1))) (.assign 4 (.find (.idx (.glob 0) (.loc 1)) (.bin .Add (.bin .Add (.const (.str (Str.ofString " "))) (.loc 3)) (.const (.str (Str.ofString ":"))))) (.ite (.cmp .GtE (.loc 4) (.const (.int (0)))) lbB2 .nil .nil)))
noncomputable def lbB : PS := .ite (.cmp .Gt (.bin .Sub (.len (.loc 0)) (.loc 1)) (.const (.int (1)))) lbB1 .nil .nil
theorem lb_is : pslawbare = .for1 1 (.lit true (sizes.map fun k => .int (k : Nat))) lbB (.ret (.loc 0)) := rfl
noncomputable def lbStep (ρ : Nat → Option PV) (v : PV) : Option PF := (store ρ 1 v).bind (pex [goesP] [Flawholds] 1 lbB)

theorem lbB3_ev {gv : List PV} {ff : List (List PV → Option PV)} {ρ : Nat → Option PV} {v : PV} {D : Str} (h5 : ρ 5 = some v) (h2 : ρ 2 = some (.str D)) (hv : v = .none ∨ ∃ b, v = .bool b) :
    pex gv ff 1 lbB3 ρ = some (match v with | .bool true => .ret (.str D) | .bool false => .next ρ | _ => .ret .none) := by
  unfold lbB3
  rcases hv with rfl | ⟨b, rfl⟩
  · rw [ite_ret (C := true) (by simp only [pev, h5, Option.bind_some]; rfl), if_pos rfl]; rfl
  · rw [ite_ret (C := false) (by simp only [pev, h5, Option.bind_some]; rfl), if_neg Bool.false_ne_true]
    rw [ite_ret (C := b) (by simp only [pev, h5]), show pev gv ff ρ (.loc 2) = some (.str D) from h2]
    cases b <;> rfl

theorem sliceTo_k (r : List Nat) (k : Nat) (h : k ≤ r.length) : psliceTo (.str (ofRev r)) (.int ((r.length : Int) - (k : Int))) = some (.str (ofRev (r.drop k))) := by
  show some (PV.str (Txt.slice _ _ _)) = _
  rw [slice_to_rev]
  have : clipN ((r.length : Int) - (k : Int)) r.length = r.length - k := by unfold clipN; omega
  rw [this, show r.length - (r.length - k) = k by omega]
theorem sliceFrom_k (r : List Nat) (k : Nat) (h : k ≤ r.length) : psliceFrom (.str (ofRev r)) (.int ((r.length : Int) - (k : Int))) = some (.str (ofRev (r.take k))) := by
  show some (PV.str (Txt.slice _ _ _)) = _
  rw [slice_from_rev]
  have : clipN ((r.length : Int) - (k : Int)) r.length = r.length - k := by unfold clipN; omega
  rw [this, show r.length - (r.length - k) = k by omega]
theorem addS (x y : Str) (h : x.length + y.length ≤ lenLid) : pbin .Add (.str x) (.str y) = some (.str (x ++ y)) := by
  show (if x.length + y.length ≤ lenLid then some (PV.str (x ++ y)) else none) = _
  rw [if_pos h]
theorem zsp : Str.ofString " " = ofRev [32] := by decide +kernel
theorem zco : Str.ofString ":" = ofRev [58] := by decide +kernel

theorem law_step (CO : CondOkS) (r : List Nat) (hr : r.length ≤ 20) (k : Nat) (hk : k ∈ sizes) (ρ : Nat → Option PV) (h0 : ρ 0 = some (.str (ofRev r))) :
    ∃ ρ' : Nat → Option PV, ρ' 0 = some (.str (ofRev r)) ∧ lbStep ρ (.int (k : Nat)) = some (match bareStep r k with | none => .next ρ' | some v => .ret v) := by
  have hk1 := sizes_le k hk
  generalize hρ1 : upd ρ 1 (.int (k : Nat)) = ρ1
  have a0 : ρ1 0 = some (.str (ofRev r)) := by rw [← hρ1]; exact h0
  have a1 : ρ1 1 = some (.int (k : Nat)) := by rw [← hρ1]; rfl
  have e0 : lbStep ρ (.int (k : Nat)) = pex [goesP] [Flawholds] 1 lbB ρ1 := by rw [← hρ1]; rfl
  rw [e0]
  unfold lbB bareStep
  have hc : pev [goesP] [Flawholds] ρ1 (.cmp .Gt (.bin .Sub (.len (.loc 0)) (.loc 1)) (.const (.int (1)))) = some (.bool (decide (((r.length : Int) - (k : Int)) > 1))) := by
    simp only [pev, a0, a1, Option.bind_some, lS, ofRev_len, bSubI, cGt]
  rw [ite_step hc (trB _)]
  by_cases hlen : k + 1 < r.length
  · rw [if_pos hlen, decide_eq_true (show ((r.length : Int) - (k : Int)) > 1 by omega)]
    simp only [if_true]
    unfold lbB1
    rw [asg_step (v := .str (ofRev (r.drop k))) (by simp only [pev, a0, a1, Option.bind_some, lS, ofRev_len, bSubI]; exact sliceTo_k r k (by omega)) rfl]
    generalize hρ2 : upd ρ1 2 (.str (ofRev (r.drop k))) = ρ2
    have d0 : ρ2 0 = some (.str (ofRev r)) := by rw [← hρ2]; exact a0
    have d1 : ρ2 1 = some (.int (k : Nat)) := by rw [← hρ2]; exact a1
    have d2 : ρ2 2 = some (.str (ofRev (r.drop k))) := by rw [← hρ2]; rfl
    rw [asg_step (v := .str (ofRev (r.take k))) (by simp only [pev, d0, d1, Option.bind_some, lS, ofRev_len, bSubI]; exact sliceFrom_k r k (by omega)) rfl]
    generalize hρ3 : upd ρ2 3 (.str (ofRev (r.take k))) = ρ3
    have b0 : ρ3 0 = some (.str (ofRev r)) := by rw [← hρ3]; exact d0
    have b1 : ρ3 1 = some (.int (k : Nat)) := by rw [← hρ3]; exact d1
    have b2 : ρ3 2 = some (.str (ofRev (r.drop k))) := by rw [← hρ3]; exact d2
    have b3 : ρ3 3 = some (.str (ofRev (r.take k))) := by rw [← hρ3]; rfl
    obtain ⟨G, hG, hGe⟩ := goesEnc k hk
    have htk : (r.take k).length = k := by rw [List.length_take]; omega
    have hneedle : ofRev [32] ++ ofRev (r.take k) ++ ofRev [58] = ofRev (58 :: (r.take k ++ [32])) := by rw [add_rev, add_rev]; rfl
    have hlist : (ofRev (58 :: (r.take k ++ [32]))).cps.toList = 32 :: ((r.take k).reverse ++ [58]) := by rw [ofRev_list]; simp
    have hfind := find_tab (k := k) (t := lgo k) (x := G) (y := ofRev (58 :: (r.take k ++ [32]))) (e := (r.take k).reverse) hGe hlist (goodAll k hk) (by rw [List.length_reverse, htk])
    have hpl : pev [goesP] [Flawholds] ρ3 (.find (.idx (.glob 0) (.loc 1)) (.bin .Add (.bin .Add (.const (.str (Str.ofString " "))) (.loc 3)) (.const (.str (Str.ofString ":"))))) = some (.int (Txt.find G (ofRev (58 :: (r.take k ++ [32]))))) := by
      simp only [pev, b1, b3, Option.bind_some, List.getElem?_cons_zero, hG, zsp, zco]
      rw [addS _ _ (by rw [ofRev_len, ofRev_len, htk]; simp [lenLid]; omega), Option.bind_some, addS _ _ (by rw [add_rev, ofRev_len, ofRev_len]; simp [lenLid]; omega), Option.bind_some, hneedle]
      rfl
    rw [asg_step hpl rfl]
    generalize hρ4 : upd ρ3 4 (.int (Txt.find G (ofRev (58 :: (r.take k ++ [32]))))) = ρ4
    have c0 : ρ4 0 = some (.str (ofRev r)) := by rw [← hρ4]; exact b0
    have c1 : ρ4 1 = some (.int (k : Nat)) := by rw [← hρ4]; exact b1
    have c2 : ρ4 2 = some (.str (ofRev (r.drop k))) := by rw [← hρ4]; exact b2
    have c4 : ρ4 4 = some (.int (Txt.find G (ofRev (58 :: (r.take k ++ [32]))))) := by rw [← hρ4]; rfl
    have hge : pev [goesP] [Flawholds] ρ4 (.cmp .GtE (.loc 4) (.const (.int (0)))) = some (.bool (decide (Txt.find G (ofRev (58 :: (r.take k ++ [32]))) ≥ 0))) := by
      simp only [pev, c4, Option.bind_some, cGe]
    rw [ite_step hge (trB _)]
    cases hl : (lgo k).lookup (r.take k).reverse with
    | none =>
      rw [hl] at hfind
      simp only at hfind
      rw [hfind]
      exact ⟨ρ4, c0, rfl⟩
    | some c =>
      rw [hl] at hfind
      obtain ⟨p, p1, p2, p3⟩ := hfind
      rw [p1, decide_eq_true (show (p : Int) ≥ 0 by omega)]
      rw [p1] at c4
      simp only [if_true]
      have hco := CO c (lettersAll k hk _ (mem_lookup hl)) (r.drop k) (by rw [List.length_drop]; omega) (by rw [List.length_drop]; omega)
      have hv : ∃ v, Flawholds [.str (ofRev [c]), .str (ofRev (r.drop k))] = some v ∧ (v = .none ∨ ∃ b, v = .bool b) := by
        rcases hco with h | ⟨b, h, _⟩
        · exact ⟨_, h, .inl rfl⟩
        · exact ⟨_, h, .inr ⟨b, rfl⟩⟩
      obtain ⟨v, hv1, hv2⟩ := hv
      have hcall : pev [goesP] [Flawholds] ρ4 (.call2 0 (.idx (.idx (.glob 0) (.loc 1)) (.bin .Add (.bin .Add (.loc 4) (.loc 1)) (.const (.int (2))))) (.loc 2)) = some v := by
        simp only [pev, c1, c2, c4, Option.bind_some, List.getElem?_cons_zero, hG, bAddI]
        rw [ixS _ _ ⟨by omega, p3⟩, p2, Option.bind_some]
        exact hv1
      have hnd : v.nodict = true := by rcases hv2 with rfl | ⟨b, rfl⟩ <;> rfl
      unfold lbB2
      rw [asg_step hcall hnd, lbB3_ev (ρ := upd ρ4 5 v) (v := v) (D := ofRev (r.drop k)) rfl c2 hv2, hv1]
      refine ⟨upd ρ4 5 v, c0, ?_⟩
      rcases hv2 with rfl | ⟨b, rfl⟩
      · rfl
      · cases b <;> rfl
  · rw [if_neg hlen, decide_eq_false (show ¬ ((r.length : Int) - (k : Int)) > 1 by omega)]
    exact ⟨ρ1, a0, rfl⟩
end Mine
end
section
open PySem PySem.W PySem.Calls PySem.Spec PyProof.Rows
namespace Mine

theorem ret_loc {gv : List PV} {ff : List (List PV → Option PV)} {ρ : Nat → Option PV} {i N : Nat} {v : PV} (h : ρ i = some v) : pex gv ff N (.ret (.loc i)) ρ = some (.ret v) := ret_step (e := .loc i) h
noncomputable def firstV (f : Nat → Option PV) : List Nat → Option PV
  | [] => none
  | k :: ks => match f k with
    | none => firstV f ks
    | some v => some v
theorem law_loop (CO : CondOkS) (r : List Nat) (hr : r.length ≤ 20) : ∀ (ks : List Nat), (∀ k ∈ ks, k ∈ sizes) → ∀ ρ : Nat → Option PV, ρ 0 = some (.str (ofRev r)) →
    ∃ ρ' : Nat → Option PV, ρ' 0 = some (.str (ofRev r)) ∧ pfor lbStep (ks.map fun k => .int (k : Nat)) ρ = some (match firstV (bareStep r) ks with | none => .next ρ' | some v => .ret v)
  | [], _, ρ, h0 => ⟨ρ, h0, rfl⟩
  | k :: ks, hk, ρ, h0 => by
    obtain ⟨ρ1, a1, e1⟩ := law_step CO r hr k (hk k (by simp)) ρ h0
    simp only [List.map_cons, pfor, e1, Option.bind_some, firstV]
    cases hb : bareStep r k with
    | none => exact law_loop CO r hr ks (fun q hq => hk q (by simp [hq])) ρ1 a1
    | some v => exact ⟨ρ1, a1, rfl⟩
theorem lawbare_eval (CO : CondOkS) (r : List Nat) (hr : r.length ≤ 20) : Flawbare [.str (ofRev r)] = some ((firstV (bareStep r) sizes).getD (.str (ofRev r))) := by
  unfold Flawbare runF
  have hr0 : stores (fun _ => none) [0] [.str (ofRev r)] = some (upd (fun _ => none) 0 (.str (ofRev r))) := rfl
  obtain ⟨ρ', a, e⟩ := law_loop CO r hr sizes (fun _ h => h) (upd (fun _ => none) 0 (.str (ofRev r))) rfl
  rw [hr0, Option.bind_some, lb_is]
  have e1 : pex [goesP] [Flawholds] 1 (.for1 1 (.lit true (sizes.map fun k => .int (k : Nat))) lbB (.ret (.loc 0))) (upd (fun _ => none) 0 (.str (ofRev r))) =
      (pfor lbStep (sizes.map fun k => .int (k : Nat)) (upd (fun _ => none) 0 (.str (ofRev r)))).bind fun f => (match f with
      | .next ρ' => pex [goesP] [Flawholds] 1 (.ret (.loc 0)) ρ'
      | .ret v => some (.ret v)) := rfl
  rw [e1, e, Option.bind_some]
  cases firstV (bareStep r) sizes with
  | none => simp only [Option.getD_none]; rw [ret_loc a]; rfl
  | some v => rfl

noncomputable def rmB2 : PS := .assign 5 (.sliceTo (.loc 0) (.bin .Sub (.loc 1) (.loc 2))) (.ite (.call2 0 (.loc 4) (.loc 5)) (.ret (.loc 5)) .nil .nil)
noncomputable def rmB1 : PS := .assign 3 (.sliceFrom (.loc 0) (.bin .Sub (.loc 1) (.loc 2))) (.assign 4 (.get1 (.idx (.glob 0) (.loc 2)) (.loc 3)) (.ite (.loc 4) rmB2 .nil .nil))
noncomputable def rmB : PS := .ite (.cmp .Gt (.bin .Sub (.loc 1) (.loc 2)) (.const (.int (1)))) rmB1 .nil (.aug 2 (.const (.int (1))) .nil)
theorem rm_is : psremoveending = .assign 1 (.len (.loc 0)) (.assign 2 (.const (.int (11))) (.whil (.cmp .Gt (.loc 2) (.const (.int (0)))) rmB (.ret (.loc 0)))) := rfl

theorem not_elily {r : List Nat} (h : preR [121, 108, 105, 108, 101] r = false) (k : Nat) : (r.take k).reverse ≠ [101, 108, 105, 108, 121] := by
  intro e
  have e2 : r.take k = [121, 108, 105, 108, 101] := by
    have := congrArg List.reverse e
    simpa using this
  have hl : min k r.length = 5 := by
    have := congrArg List.length e2
    simpa using this
  have : preR [121, 108, 105, 108, 101] r = true := by
    rw [preR_iff]
    show r.take 5 = _
    rw [← hl, ← e2]
    rcases Nat.le_total k r.length with q | q
    · rw [Nat.min_eq_left q]
    · rw [Nat.min_eq_right q, List.take_of_length_le (Nat.le_refl _), List.take_of_length_le q]
  rw [this] at h; cases h

theorem aug_step {gv : List PV} {ff : List (List PV → Option PV)} {ρ : Nat → Option PV} {i : Nat} {x y : Int} {e : PE} {k : PS} {N : Nat} (h0 : ρ i = some (.int x)) (h : pev gv ff ρ e = some (.int y)) : pex gv ff N (.aug i e k) ρ = pex gv ff N k (upd ρ i (.int (x - y))) := by
  simp only [pex, h0, h, Option.bind_some]

theorem rem_step (CO : CondOkS) (r : List Nat) (hr : r.length ≤ 20) (he : preR [121, 108, 105, 108, 101] r = false) (k : Nat) (hk : k ∈ sizes) (hb : bareStep r k ≠ some .none) (ρ : Nat → Option PV) (h0 : ρ 0 = some (.str (ofRev r))) (h1 : ρ 1 = some (.int r.length)) (h2 : ρ 2 = some (.int (k : Nat))) :
    ∃ ρ' : Nat → Option PV, ρ' 0 = some (.str (ofRev r)) ∧ ρ' 1 = some (.int r.length) ∧ ρ' 2 = some (.int ((k : Int) - 1)) ∧ pex [mP] [Fholds] 30 rmB ρ = some (match bareStep r k with | none => .next ρ' | some v => .ret v) := by
  have hk1 := sizes_le k hk
  have last : ∀ ρ1 : Nat → Option PV, ρ1 0 = some (.str (ofRev r)) → ρ1 1 = some (.int r.length) → ρ1 2 = some (.int (k : Nat)) →
      ∃ ρ' : Nat → Option PV, ρ' 0 = some (.str (ofRev r)) ∧ ρ' 1 = some (.int r.length) ∧ ρ' 2 = some (.int ((k : Int) - 1)) ∧ pex [mP] [Fholds] 30 (.aug 2 (.const (.int (1))) .nil) ρ1 = some (.next ρ') := by
    intro ρ1 b0 b1 b2
    exact ⟨upd ρ1 2 (.int ((k : Int) - 1)), b0, b1, rfl, by rw [aug_step b2 (y := 1) rfl]; rfl⟩
  unfold rmB
  have hc : pev [mP] [Fholds] ρ (.cmp .Gt (.bin .Sub (.loc 1) (.loc 2)) (.const (.int (1)))) = some (.bool (decide (((r.length : Int) - (k : Int)) > 1))) := by
    simp only [pev, h1, h2, Option.bind_some, bSubI, cGt]
  rw [ite_step hc (trB _)]
  unfold bareStep at hb ⊢
  by_cases hlen : k + 1 < r.length
  · rw [if_pos hlen] at hb ⊢
    rw [decide_eq_true (show ((r.length : Int) - (k : Int)) > 1 by omega)]
    simp only [if_true]
    unfold rmB1
    rw [asg_step (v := .str (ofRev (r.take k))) (by simp only [pev, h0, h1, h2, Option.bind_some, bSubI]; exact sliceFrom_k r k (by omega)) rfl]
    generalize hρ1 : upd ρ 3 (.str (ofRev (r.take k))) = ρ1
    have a0 : ρ1 0 = some (.str (ofRev r)) := by rw [← hρ1]; exact h0
    have a1 : ρ1 1 = some (.int r.length) := by rw [← hρ1]; exact h1
    have a2 : ρ1 2 = some (.int (k : Nat)) := by rw [← hρ1]; exact h2
    have a3 : ρ1 3 = some (.str (ofRev (r.take k))) := by rw [← hρ1]; rfl
    have hg := get_tab k hk (r.take k)
    rw [← lgo_lookup k _ (not_elily he k)] at hg
    have hget : pev [mP] [Fholds] ρ1 (.get1 (.idx (.glob 0) (.loc 2)) (.loc 3)) = some (match (lgo k).lookup (r.take k).reverse with | some c => .str (ofRev [c]) | none => .none) := by
      simp only [pev, a2, a3, Option.bind_some, List.getElem?_cons_zero, mIdx k hk]
      exact hg
    cases hl : (lgo k).lookup (r.take k).reverse with
    | none =>
      rw [hl] at hget
      rw [asg_step hget rfl]
      rw [ite_step (v := .none) (t := false) rfl rfl]
      obtain ⟨ρ', q0, q1, q2, q3⟩ := last (upd ρ1 4 .none) a0 a1 a2
      exact ⟨ρ', q0, q1, q2, q3⟩
    | some c =>
      rw [hl] at hget hb
      rw [asg_step hget rfl]
      generalize hρ2 : upd ρ1 4 (.str (ofRev [c])) = ρ2
      have b0 : ρ2 0 = some (.str (ofRev r)) := by rw [← hρ2]; exact a0
      have b1 : ρ2 1 = some (.int r.length) := by rw [← hρ2]; exact a1
      have b2 : ρ2 2 = some (.int (k : Nat)) := by rw [← hρ2]; exact a2
      have b4 : ρ2 4 = some (.str (ofRev [c])) := by rw [← hρ2]; rfl
      rw [ite_step (c := .loc 4) (v := .str (ofRev [c])) (t := true) b4 (by rw [trS, ofRev_len]; rfl)]
      simp only [if_true]
      unfold rmB2
      rw [asg_step (v := .str (ofRev (r.drop k))) (by simp only [pev, b0, b1, b2, Option.bind_some, bSubI]; exact sliceTo_k r k (by omega)) rfl]
      generalize hρ3 : upd ρ2 5 (.str (ofRev (r.drop k))) = ρ3
      have c0 : ρ3 0 = some (.str (ofRev r)) := by rw [← hρ3]; exact b0
      have c1 : ρ3 1 = some (.int r.length) := by rw [← hρ3]; exact b1
      have c2 : ρ3 2 = some (.int (k : Nat)) := by rw [← hρ3]; exact b2
      have c4 : ρ3 4 = some (.str (ofRev [c])) := by rw [← hρ3]; exact b4
      have c5 : ρ3 5 = some (.str (ofRev (r.drop k))) := by rw [← hρ3]; rfl
      have hco := CO c (lettersAll k hk _ (mem_lookup hl)) (r.drop k) (by rw [List.length_drop]; omega) (by rw [List.length_drop]; omega)
      rcases hco with h | ⟨b, hlw, hpr⟩
      · (try dsimp only at hb)
        rw [h] at hb; exact absurd rfl hb
      · (try dsimp only)
        rw [hlw]
        rw [ite_ret (C := b) (by simp only [pev, c4, c5, Option.bind_some, List.getElem?_cons_zero]; exact hpr)]
        cases b with
        | true =>
          rw [if_pos rfl, show pev [mP] [Fholds] ρ3 (.loc 5) = some (.str (ofRev (r.drop k))) from c5]
          exact ⟨upd ρ3 2 (.int ((k : Int) - 1)), c0, c1, rfl, rfl⟩
        | false =>
          rw [if_neg Bool.false_ne_true]
          exact last ρ3 c0 c1 c2
  · rw [if_neg hlen, decide_eq_false (show ¬ ((r.length : Int) - (k : Int)) > 1 by omega)]
    exact last ρ h0 h1 h2

noncomputable def down : Nat → List Nat
  | 0 => []
  | k + 1 => (k + 1) :: down k
theorem down_sizes : sizes = down 11 := rfl
theorem mem_sizes {k : Nat} (h1 : 1 ≤ k) (h2 : k ≤ 11) : k ∈ sizes := by
  have : k = 1 ∨ k = 2 ∨ k = 3 ∨ k = 4 ∨ k = 5 ∨ k = 6 ∨ k = 7 ∨ k = 8 ∨ k = 9 ∨ k = 10 ∨ k = 11 := by omega
  rcases this with rfl | rfl | rfl | rfl | rfl | rfl | rfl | rfl | rfl | rfl | rfl <;> decide
theorem rem_loop (CO : CondOkS) (r : List Nat) (hr : r.length ≤ 20) (he : preR [121, 108, 105, 108, 101] r = false) : ∀ (k : Nat), k ≤ 11 → firstV (bareStep r) (down k) ≠ some .none → ∀ (N : Nat), k < N → ∀ ρ : Nat → Option PV, ρ 0 = some (.str (ofRev r)) → ρ 1 = some (.int r.length) → ρ 2 = some (.int (k : Nat)) →
    ∃ ρ' : Nat → Option PV, ρ' 0 = some (.str (ofRev r)) ∧ pwhile (fun ρ => (pev [mP] [Fholds] ρ (.cmp .Gt (.loc 2) (.const (.int (0))))).bind truth) (pex [mP] [Fholds] 30 rmB) N ρ = some (match firstV (bareStep r) (down k) with | none => .next ρ' | some v => .ret v)
  | 0, _, _, N, hN, ρ, h0, h1, h2 => by
    obtain ⟨N', rfl⟩ : ∃ N', N = N' + 1 := ⟨N - 1, by omega⟩
    refine ⟨ρ, h0, ?_⟩
    have hc : (pev [mP] [Fholds] ρ (.cmp .Gt (.loc 2) (.const (.int (0))))).bind truth = some false := by
      simp only [pev, h2, Option.bind_some, cGt]; rfl
    simp only [pwhile, hc, Option.bind_some]; rfl
  | k + 1, hk, hne, N, hN, ρ, h0, h1, h2 => by
    obtain ⟨N', rfl⟩ : ∃ N', N = N' + 1 := ⟨N - 1, by omega⟩
    have hc : (pev [mP] [Fholds] ρ (.cmp .Gt (.loc 2) (.const (.int (0))))).bind truth = some true := by
      simp only [pev, h2, Option.bind_some, cGt, trB]
      rw [decide_eq_true (show ((k + 1 : Nat) : Int) > 0 by omega)]
    have hb : bareStep r (k + 1) ≠ some .none := by
      intro q
      apply hne
      simp only [down, firstV, q]
    obtain ⟨ρ1, a0, a1, a2, e1⟩ := rem_step CO r hr he (k + 1) (mem_sizes (by omega) hk) hb ρ h0 h1 h2
    simp only [pwhile, hc, Option.bind_some, if_true, e1]
    cases hs : bareStep r (k + 1) with
    | some v =>
      refine ⟨ρ, h0, ?_⟩
      simp only [down, firstV, hs]
    | none =>
      have hne' : firstV (bareStep r) (down k) ≠ some .none := by
        intro q
        apply hne
        simp only [down, firstV, hs]; exact q
      obtain ⟨ρ2, b0, e2⟩ := rem_loop CO r hr he k (by omega) hne' N' (by omega) ρ1 a0 a1 (by rw [a2]; congr 2; omega)
      refine ⟨ρ2, b0, ?_⟩
      simp only [down, firstV, hs]
      exact e2
theorem rem_eval (CO : CondOkS) (r : List Nat) (hr : r.length ≤ 20) (he : preR [121, 108, 105, 108, 101] r = false) (hne : firstV (bareStep r) sizes ≠ some .none) : Fremoveending [.str (ofRev r)] = some ((firstV (bareStep r) sizes).getD (.str (ofRev r))) := by
  unfold Fremoveending runF
  have hr0 : stores (fun _ => none) [0] [.str (ofRev r)] = some (upd (fun _ => none) 0 (.str (ofRev r))) := rfl
  rw [hr0, Option.bind_some, rm_is]
  rw [asg_step (v := .int r.length) (by show plen (.str (ofRev r)) = _; rw [lS, ofRev_len]) rfl, asg_step (v := .int 11) rfl rfl]
  obtain ⟨ρ', a, e⟩ := rem_loop CO r hr he 11 (by omega) hne 30 (by omega) (upd (upd (upd (fun _ => none) 0 (.str (ofRev r))) 1 (.int r.length)) 2 (.int 11)) rfl rfl rfl
  have e1 : ∀ ρ : Nat → Option PV, pex [mP] [Fholds] 30 (.whil (.cmp .Gt (.loc 2) (.const (.int (0)))) rmB (.ret (.loc 0))) ρ =
      (pwhile (fun ρ => (pev [mP] [Fholds] ρ (.cmp .Gt (.loc 2) (.const (.int (0))))).bind truth) (pex [mP] [Fholds] 30 rmB) 30 ρ).bind fun f => (match f with
      | .next ρ' => pex [mP] [Fholds] 30 (.ret (.loc 0)) ρ'
      | .ret v => some (.ret v)) := fun _ => rfl
  rw [e1, e, Option.bind_some, ← down_sizes]
  cases firstV (bareStep r) sizes with
  | none => simp only [Option.getD_none]; rw [ret_loc a]; rfl
  | some v => rfl

theorem firstV_shape (r : List Nat) : ∀ ks : List Nat, firstV (bareStep r) ks = none ∨ firstV (bareStep r) ks = some .none ∨ ∃ k ∈ ks, k + 1 < r.length ∧ firstV (bareStep r) ks = some (.str (ofRev (r.drop k)))
  | [] => .inl rfl
  | k :: ks => by
    have ih := firstV_shape r ks
    simp only [firstV]
    cases hb : bareStep r k with
    | some v =>
      dsimp only
      unfold bareStep at hb
      split at hb
      · rename_i hlen
        split at hb
        · cases hb
        · split at hb
          · cases hb; exact .inr (.inr ⟨k, by simp, hlen, rfl⟩)
          · cases hb
          · cases hb; exact .inr (.inl rfl)
      · cases hb
    | none =>
      dsimp only
      rcases ih with h | h | ⟨q, hq, hl, h⟩
      · exact .inl h
      · exact .inr (.inl h)
      · exact .inr (.inr ⟨q, by simp [hq], hl, h⟩)

/-- the two readings of the first half: the law says nothing, or both give the same word -/
theorem bare_rem (CO : CondOkS) (r : List Nat) (h1 : 1 ≤ r.length) (hr : r.length ≤ 20) (he : preR [121, 108, 105, 108, 101] r = false) :
    Flawbare [.str (ofRev r)] = some .none ∨ ∃ z : List Nat, 1 ≤ z.length ∧ z.length ≤ 20 ∧ Flawbare [.str (ofRev r)] = some (.str (ofRev z)) ∧ Fremoveending [.str (ofRev r)] = some (.str (ofRev z)) := by
  have hl := lawbare_eval CO r hr
  by_cases hn : firstV (bareStep r) sizes = some .none
  · exact .inl (by rw [hl, hn]; rfl)
  · have hm := rem_eval CO r hr he hn
    refine .inr ?_
    rcases firstV_shape r sizes with h | h | ⟨k, hk, hlen, h⟩
    · rw [h] at hl hm
      exact ⟨r, h1, hr, hl, hm⟩
    · exact absurd h hn
    · rw [h] at hl hm
      exact ⟨r.drop k, by rw [List.length_drop]; omega, by rw [List.length_drop]; omega, hl, hm⟩
end Mine
end
section
open PySem PySem.W PySem.Calls PySem.Spec PyProof.Rows
namespace Mine
noncomputable abbrev R3 := List Nat × List Nat × List Nat
noncomputable def lanew : List R3 := [([118, 101, 105], [102, 101, 105], []), ([116, 99, 117], [99, 117], []), ([116, 112, 109, 117], [109, 117], []), ([116, 112, 114], [98, 114], []), ([115, 114, 117], [114, 117], []), ([114, 116, 115, 105], [114, 101, 116, 115, 105], []), ([114, 116, 101, 109], [114, 101, 116, 101, 109], []), ([118, 108, 111], [116, 117, 108, 111], []), ([108, 117], [108], [105, 111, 97]), ([120, 101, 98], [99, 105, 98], []), ([120, 101, 100], [99, 105, 100], []), ([120, 101, 112], [99, 105, 112], []), ([120, 101, 116], [99, 105, 116], []), ([120, 97], [99, 97], []), ([120, 101], [99, 101], []), ([120, 105], [99, 105], []), ([120, 117, 108], [99, 117, 108], []), ([100, 97, 117], [115, 97, 117], []), ([100, 97, 118], [115, 97, 118], []), ([100, 105, 99], [115, 105, 99], []), ([100, 105, 108], [115, 105, 108], []), ([100, 105, 114, 101], [115, 105, 114, 101], []), ([100, 110, 97, 112], [115, 110, 97, 112], []), ([100, 110, 101], [115, 110, 101], [115]), ([100, 110, 111], [115, 110, 111], []), ([100, 117, 108], [115, 117, 108], []), ([100, 117, 114], [115, 117, 114], []), ([114, 101, 104], [115, 101, 104], [116, 112]), ([116, 105, 109], [115, 105, 109], []), ([116, 110, 101], [115, 110, 101], [109]), ([116, 114, 101], [115, 114, 101], []), ([116, 101], [115, 101], [110]), ([116, 121], [115, 121], []), ([122, 121], [115, 121], [])]
noncomputable def lend : List (Nat × List R3) := [(118, [([118, 101, 105], [102, 101, 105], []), ([118, 101, 105], [102, 101, 105], []), ([118, 108, 111], [116, 117, 108, 111], [])]), (116, [([116, 99, 117], [99, 117], []), ([116, 99, 117], [99, 117], []), ([116, 112, 109, 117], [109, 117], []), ([116, 112, 114], [98, 114], []), ([116, 105, 109], [115, 105, 109], []), ([116, 110, 101], [115, 110, 101], [109]), ([116, 114, 101], [115, 114, 101], []), ([116, 101], [115, 101], [110]), ([116, 121], [115, 121], [])]), (115, [([115, 114, 117], [114, 117], [])]), (114, [([114, 116, 115, 105], [114, 101, 116, 115, 105], []), ([114, 116, 101, 109], [114, 101, 116, 101, 109], []), ([114, 101, 104], [115, 101, 104], [116, 112])]), (108, [([108, 117], [108], [105, 111, 97])]), (120, [([120, 101, 98], [99, 105, 98], []), ([120, 101, 100], [99, 105, 100], []), ([120, 101, 112], [99, 105, 112], []), ([120, 101, 116], [99, 105, 116], []), ([120, 97], [99, 97], []), ([120, 101], [99, 101], []), ([120, 105], [99, 105], []), ([120, 117, 108], [99, 117, 108], [])]), (100, [([100, 97, 117], [115, 97, 117], []), ([100, 97, 118], [115, 97, 118], []), ([100, 105, 99], [115, 105, 99], []), ([100, 105, 108], [115, 105, 108], []), ([100, 105, 114, 101], [115, 105, 114, 101], []), ([100, 110, 97, 112], [115, 110, 97, 112], []), ([100, 110, 101], [115, 110, 101], [115]), ([100, 110, 111], [115, 110, 111], []), ([100, 117, 108], [115, 117, 108], []), ([100, 117, 114], [115, 117, 114], [])]), (122, [([122, 121], [115, 121], [])])]
noncomputable def ldup : List R3 := [([118, 101, 105], [102, 101, 105], []), ([116, 99, 117], [99, 117], []), ([118, 101, 105], [102, 101, 105], []), ([116, 99, 117], [99, 117], []), ([116, 112, 109, 117], [109, 117], []), ([116, 112, 114], [98, 114], []), ([115, 114, 117], [114, 117], []), ([114, 116, 115, 105], [114, 101, 116, 115, 105], []), ([114, 116, 101, 109], [114, 101, 116, 101, 109], []), ([118, 108, 111], [116, 117, 108, 111], []), ([108, 117], [108], [105, 111, 97]), ([120, 101, 98], [99, 105, 98], []), ([120, 101, 100], [99, 105, 100], []), ([120, 101, 112], [99, 105, 112], []), ([120, 101, 116], [99, 105, 116], []), ([120, 97], [99, 97], []), ([120, 101], [99, 101], []), ([120, 105], [99, 105], []), ([120, 117, 108], [99, 117, 108], []), ([100, 97, 117], [115, 97, 117], []), ([100, 97, 118], [115, 97, 118], []), ([100, 105, 99], [115, 105, 99], []), ([100, 105, 108], [115, 105, 108], []), ([100, 105, 114, 101], [115, 105, 114, 101], []), ([100, 110, 97, 112], [115, 110, 97, 112], []), ([100, 110, 101], [115, 110, 101], [115]), ([100, 110, 111], [115, 110, 111], []), ([100, 117, 108], [115, 117, 108], []), ([100, 117, 114], [115, 117, 114], []), ([114, 101, 104], [115, 101, 104], [116, 112]), ([116, 105, 109], [115, 105, 109], []), ([116, 110, 101], [115, 110, 101], [109]), ([116, 114, 101], [115, 114, 101], []), ([116, 101], [115, 101], [110]), ([116, 121], [115, 121], []), ([122, 121], [115, 121], [])]
noncomputable def fiveR : List (List Nat) := [[108, 117], [100, 110, 101], [114, 101, 104], [116, 110, 101], [116, 101]]
noncomputable def rowStrL (q : R3) : List Str := [ofRev q.1, ofRev q.2.1, ofRev q.2.2]
noncomputable def rowStrE (q : R3) : List Str := if q.2.2 = [] then [ofRev q.1, ofRev q.2.1] else [ofRev q.1, ofRev q.2.1, ofRev q.2.2]
theorem lawAnew_is : lawAnew = lanew.map rowStrL := by decide +kernel
theorem endRules_is : endRules = lend.map fun q => (ofRev [q.1], q.2.map rowStrE) := by decide +kernel
theorem ldup_is : ∃ x0 x1 rest, lanew = x0 :: x1 :: rest ∧ ldup = x0 :: x1 :: x0 :: x1 :: rest := ⟨_, _, _, rfl, rfl⟩
noncomputable def okRow (q : R3) : Bool := decide (q.1.length ≤ 8) && decide (q.2.1.length ≤ 8) && decide (q.2.2.length ≤ 8) && !q.1.contains 63 && (q.2.2.isEmpty || fiveR.contains q.1) && decide (1 ≤ q.1.length)
theorem lanew_ok : ∀ q ∈ lanew, okRow q = true := by decide +kernel
theorem ldup_ok : ∀ q ∈ ldup, okRow q = true := by decide +kernel
theorem lend_filter (a : Nat) : (lend.lookup a).getD [] = ldup.filter fun q => q.1.head? == some a := by
  by_cases h118 : a = 118
  · subst h118; decide +kernel
  by_cases h116 : a = 116
  · subst h116; decide +kernel
  by_cases h115 : a = 115
  · subst h115; decide +kernel
  by_cases h114 : a = 114
  · subst h114; decide +kernel
  by_cases h108 : a = 108
  · subst h108; decide +kernel
  by_cases h120 : a = 120
  · subst h120; decide +kernel
  by_cases h100 : a = 100
  · subst h100; decide +kernel
  by_cases h122 : a = 122
  · subst h122; decide +kernel
  have hlook : lend.lookup a = none := by
    unfold lend
    have b118 : (a == 118) = false := by simpa using h118
    have b116 : (a == 116) = false := by simpa using h116
    have b115 : (a == 115) = false := by simpa using h115
    have b114 : (a == 114) = false := by simpa using h114
    have b108 : (a == 108) = false := by simpa using h108
    have b120 : (a == 120) = false := by simpa using h120
    have b100 : (a == 100) = false := by simpa using h100
    have b122 : (a == 122) = false := by simpa using h122
    simp only [List.lookup_cons, b118, b116, b115, b114, b108, b120, b100, b122, List.lookup_nil]
  rw [hlook]
  symm
  show _ = []
  rw [List.filter_eq_nil_iff]
  intro q hq
  have hk : q.1.head? ∈ [some 118, some 116, some 115, some 114, some 108, some 120, some 100, some 122] := by
    revert q
    decide +kernel
  intro e
  have e2 : q.1.head? = some a := by simpa using e
  rw [e2] at hk
  simp [h118, h116, h115, h114, h108, h120, h100, h122] at hk

noncomputable def hit (z : List Nat) (q : R3) : Option (List Nat) :=
  if preR q.1 z then some (match z.drop q.1.length with | c :: _ => if q.2.2.contains c then z else q.2.1 ++ z.drop q.1.length | [] => q.2.1 ++ z.drop q.1.length) else none
noncomputable def firstS (f : R3 → Option (List Nat)) : List R3 → Option (List Nat)
  | [] => none
  | q :: qs => match f q with
    | none => firstS f qs
    | some v => some v
theorem match_pre : ∀ (p r : List Nat), p.contains 63 = false → matchR p r = preR p r
  | [], _, _ => rfl
  | _ :: _, [], _ => rfl
  | q :: p, a :: r, h => by
    have h1 : (q == 63) = false ∧ p.contains 63 = false := by
      simp only [List.contains_cons, Bool.or_eq_false_iff] at h
      refine ⟨?_, h.2⟩
      rw [beq_eq_false_iff_ne] at h ⊢
      exact fun e => h.1 e.symm
    simp only [matchR, preR, h1.1, Bool.false_or, match_pre p r h1.2]
theorem hitNone {a : Nat} {z : List Nat} {q : R3} (hq : 1 ≤ q.1.length) (h : (q.1.head? == some a) = false) : hit (a :: z) q = none := by
  unfold hit
  cases hp : q.1 with
  | nil => rw [hp] at hq; simp at hq
  | cons b p =>
    rw [hp] at h
    have : (b == a) = false := by
      simp only [List.head?_cons] at h
      rw [beq_eq_false_iff_ne] at h ⊢
      exact fun e => h (by rw [e])
    simp only [preR, this, Bool.false_and, Bool.false_eq_true, if_false]
theorem firstS_filter {a : Nat} {z : List Nat} : ∀ qs : List R3, (∀ q ∈ qs, 1 ≤ q.1.length) → firstS (hit (a :: z)) (qs.filter fun q => q.1.head? == some a) = firstS (hit (a :: z)) qs
  | [], _ => rfl
  | q :: qs, h => by
    have ih := firstS_filter (a := a) (z := z) qs fun q hq => h q (by simp [hq])
    rw [List.filter_cons]
    cases hq : q.1.head? == some a with
    | true => rw [if_pos rfl]; simp only [firstS, ih]
    | false => rw [if_neg Bool.false_ne_true, ih]; simp only [firstS, hitNone (h q (by simp)) hq]
theorem firstS_dup (f : R3 → Option (List Nat)) : firstS f ldup = firstS f lanew := by
  obtain ⟨x0, x1, rest, h1, h2⟩ := ldup_is
  rw [h1, h2]
  simp only [firstS]
  cases f x0 <;> cases f x1 <;> rfl
/-- the two orders of the rules find the same -/
theorem first_same (a : Nat) (z : List Nat) : firstS (hit (a :: z)) ((lend.lookup a).getD []) = firstS (hit (a :: z)) lanew := by
  rw [lend_filter, firstS_filter _ (fun q hq => by
    have := ldup_ok q hq
    simp only [okRow, Bool.and_eq_true, decide_eq_true_eq] at this
    exact this.2), firstS_dup]

noncomputable def lsB : PS := .ite (.call2 0 (.loc 1) (.loc 2)) (.assign 5 (.sliceTo (.loc 1) (.bin .Sub (.len (.loc 1)) (.len (.loc 2)))) (.ite (.and (.cmp .NotEq (.loc 5) (.const (.str (Str.ofString "")))) (.cmp .In (.idx (.loc 5) (.neg (.const (.int (1))))) (.loc 4))) (.ret (.loc 1)) .nil (.ret (.bin .Add (.loc 5) (.loc 3))))) .nil .nil
noncomputable abbrev ffS : List (List PV → Option PV) := [Fcloses, Fany, Flawbare, Fanew]
noncomputable def lsStep (ρ : Nat → Option PV) (v : PV) : Option PF := (itemsP v).bind fun us => (stores ρ [2, 3, 4] us).bind (pex [] ffS 1 lsB)
theorem zee : Str.ofString "" = ofRev [] := by decide +kernel

theorem ls_step (z : List Nat) (hz : z.length ≤ 20) (q : R3) (hq : okRow q = true) (ρ : Nat → Option PV) (h1 : ρ 1 = some (.str (ofRev z))) :
    ∃ ρ' : Nat → Option PV, ρ' 1 = some (.str (ofRev z)) ∧ lsStep ρ (rowP (rowStrL q)) = some (match hit z q with | none => .next ρ' | some v => .ret (.str (ofRev v))) := by
  obtain ⟨p, g, s⟩ := q
  simp only [okRow, Bool.and_eq_true, decide_eq_true_eq, Bool.not_eq_true', Bool.or_eq_true] at hq
  obtain ⟨⟨⟨⟨⟨n1, n2⟩, n3⟩, n4⟩, n5⟩, n6⟩ := hq
  generalize hρ1 : upd (upd (upd ρ 2 (.str (ofRev p))) 3 (.str (ofRev g))) 4 (.str (ofRev s)) = ρ1
  have a1 : ρ1 1 = some (.str (ofRev z)) := by rw [← hρ1]; exact h1
  have a2 : ρ1 2 = some (.str (ofRev p)) := by rw [← hρ1]; rfl
  have a3 : ρ1 3 = some (.str (ofRev g)) := by rw [← hρ1]; rfl
  have a4 : ρ1 4 = some (.str (ofRev s)) := by rw [← hρ1]; rfl
  have e0 : lsStep ρ (rowP (rowStrL (p, g, s))) = pex [] ffS 1 lsB ρ1 := by rw [← hρ1]; rfl
  rw [e0]
  unfold lsB hit
  have hc : pev [] ffS ρ1 (.call2 0 (.loc 1) (.loc 2)) = some (.bool (preR p z)) := by
    simp only [pev, a1, a2, Option.bind_some, List.getElem?_cons_zero]
    rw [fcloses _ _ (by rw [ofRev_len]; omega) (by rw [ofRev_len]; omega), closes_rev, match_pre p z n4]
  rw [ite_step hc (trB _)]
  cases hp : preR p z with
  | false => exact ⟨ρ1, a1, rfl⟩
  | true =>
    simp only [if_true]
    have hpl : p.length ≤ z.length := by
      have := congrArg List.length ((preR_iff p z).mp hp)
      rw [List.length_take] at this; omega
    rw [asg_step (v := .str (ofRev (z.drop p.length))) (by simp only [pev, a1, a2, Option.bind_some, lS, ofRev_len, bSubI]; exact sliceTo_k z p.length hpl) rfl]
    generalize hρ2 : upd ρ1 5 (.str (ofRev (z.drop p.length))) = ρ2
    have b1 : ρ2 1 = some (.str (ofRev z)) := by rw [← hρ2]; exact a1
    have b3 : ρ2 3 = some (.str (ofRev g)) := by rw [← hρ2]; exact a3
    have b4 : ρ2 4 = some (.str (ofRev s)) := by rw [← hρ2]; exact a4
    have b5 : ρ2 5 = some (.str (ofRev (z.drop p.length))) := by rw [← hρ2]; rfl
    have hadd : pev [] ffS ρ2 (.bin .Add (.loc 5) (.loc 3)) = some (.str (ofRev (g ++ z.drop p.length))) := by
      simp only [pev, b3, b5, Option.bind_some]
      rw [addS _ _ (by rw [ofRev_len, ofRev_len, List.length_drop]; simp [lenLid]; omega), add_rev]
    cases hd : z.drop p.length with
    | nil =>
      rw [hd] at b5 hadd
      rw [ite_ret (C := false) (and_b (x := false) (y := false) (by simp only [pev, b5, Option.bind_some, cNeS, zee]; simp) fun h => by cases h), if_neg Bool.false_ne_true, ret_step hadd]
      exact ⟨ρ2, b1, rfl⟩
    | cons c r =>
      rw [hd] at b5 hadd
      have hin : pev [] ffS ρ2 (.cmp .In (.idx (.loc 5) (.neg (.const (.int (1))))) (.loc 4)) = some (.bool (s.contains c)) := by
        simp only [pev, b5, b4, Option.bind_some, nI]
        rw [ix1, Option.bind_some, cInS, show ofRev [c] = ch c from rfl, contains_ch, ofRev_list]
        congr 2
        simp
      rw [ite_ret (C := s.contains c) (and_b (x := true) (y := s.contains c) (by simp only [pev, b5, Option.bind_some, cNeS, zee, bne, ofRev_beq]; simp) fun _ => hin)]
      dsimp only
      cases s.contains c with
      | true => rw [if_pos rfl, if_pos rfl, show pev [] ffS ρ2 (.loc 1) = some (.str (ofRev z)) from b1]; exact ⟨ρ2, b1, rfl⟩
      | false => rw [if_neg Bool.false_ne_true, if_neg Bool.false_ne_true, ret_step hadd]; exact ⟨ρ2, b1, rfl⟩
theorem ls_loop (z : List Nat) (hz : z.length ≤ 20) : ∀ (qs : List R3), (∀ q ∈ qs, okRow q = true) → ∀ ρ : Nat → Option PV, ρ 1 = some (.str (ofRev z)) →
    ∃ ρ' : Nat → Option PV, ρ' 1 = some (.str (ofRev z)) ∧ pfor lsStep (qs.map fun q => rowP (rowStrL q)) ρ = some (match firstS (hit z) qs with | none => .next ρ' | some v => .ret (.str (ofRev v)))
  | [], _, ρ, h => ⟨ρ, h, rfl⟩
  | q :: qs, hq, ρ, h => by
    obtain ⟨ρ1, a1, e1⟩ := ls_step z hz q (hq q (by simp)) ρ h
    simp only [List.map_cons, pfor, e1, Option.bind_some, firstS]
    cases hb : hit z q with
    | none => exact ls_loop z hz qs (fun q' h' => hq q' (by simp [h'])) ρ1 a1
    | some v => exact ⟨ρ1, a1, rfl⟩
end Mine
end
section
open PySem PySem.W PySem.Calls PySem.Spec PyProof.Rows
namespace Mine

noncomputable def fxB1 : PS := .ite (.cmp .Gt (.len (.loc 1)) (.const (.int (2)))) (.assign 4 (.idx (.loc 1) (.const (.int (2)))) (.assign 5 (.idx (.loc 0) (.bin .Sub (.const (.int (0))) (.bin .Add (.len (.loc 2)) (.const (.int (1)))))) (.ite (.cmp .In (.loc 5) (.loc 4)) (.ret (.loc 0)) .nil .nil))) .nil (.ret (.bin .Add (.sliceTo (.loc 0) (.bin .Sub (.const (.int (0))) (.len (.loc 2)))) (.loc 3)))
noncomputable def fxB : PS := .unpack [2, 3] (.sliceTo (.loc 1) (.const (.int (2)))) (.ite (.endswith (.loc 0) (.loc 2)) fxB1 .nil .nil)
noncomputable abbrev gvF : List PV := [endP, doublesP]
noncomputable def fxStep (ρ : Nat → Option PV) (v : PV) : Option PF := (store ρ 1 v).bind (pex gvF [] 1 fxB)

theorem rowE_is (q : R3) : rowP (rowStrE q) = .seq false (.str (ofRev q.1) :: .str (ofRev q.2.1) :: (if q.2.2 = [] then [] else [.str (ofRev q.2.2)])) := by
  unfold rowP rowStrE
  by_cases h : q.2.2 = [] <;> simp [h]

theorem fx_step (z : List Nat) (hz : z.length ≤ 20) (h5 : fiveR.contains z = false) (q : R3) (hq : okRow q = true) (ρ : Nat → Option PV) (h0 : ρ 0 = some (.str (ofRev z))) :
    ∃ ρ' : Nat → Option PV, ρ' 0 = some (.str (ofRev z)) ∧ fxStep ρ (rowP (rowStrE q)) = some (match hit z q with | none => .next ρ' | some v => .ret (.str (ofRev v))) := by
  obtain ⟨p, g, s⟩ := q
  simp only [okRow, Bool.and_eq_true, decide_eq_true_eq, Bool.not_eq_true', Bool.or_eq_true] at hq
  obtain ⟨⟨⟨⟨⟨n1, n2⟩, n3⟩, n4⟩, n5⟩, n6⟩ := hq
  rw [rowE_is]
  generalize htl : (if (p, g, s).2.2 = [] then ([] : List PV) else [.str (ofRev (p, g, s).2.2)]) = tl
  have hnd : (PV.seq false (.str (ofRev p) :: .str (ofRev g) :: tl)).nodict = true := by
    rw [← htl]
    by_cases h : s = [] <;> simp [h, PV.nodict, nodicts]
  have e0 : fxStep ρ (.seq false (.str (ofRev p) :: .str (ofRev g) :: tl)) = pex gvF [] 1 fxB (upd ρ 1 (.seq false (.str (ofRev p) :: .str (ofRev g) :: tl))) := by
    unfold fxStep store
    rw [if_pos hnd]; rfl
  rw [e0]
  generalize hρ1 : upd ρ 1 (.seq false (.str (ofRev p) :: .str (ofRev g) :: tl)) = ρ1
  have a0 : ρ1 0 = some (.str (ofRev z)) := by rw [← hρ1]; exact h0
  have a1 : ρ1 1 = some (.seq false (.str (ofRev p) :: .str (ofRev g) :: tl)) := by rw [← hρ1]; rfl
  unfold fxB
  rw [unp_step (v := .seq false [.str (ofRev p), .str (ofRev g)]) (vs := [.str (ofRev p), .str (ofRev g)]) (ρ' := upd (upd ρ1 2 (.str (ofRev p))) 3 (.str (ofRev g)))
    (by simp only [pev, a1, Option.bind_some]; rfl) rfl rfl]
  generalize hρ2 : upd (upd ρ1 2 (.str (ofRev p))) 3 (.str (ofRev g)) = ρ2
  have b0 : ρ2 0 = some (.str (ofRev z)) := by rw [← hρ2]; exact a0
  have b1 : ρ2 1 = some (.seq false (.str (ofRev p) :: .str (ofRev g) :: tl)) := by rw [← hρ2]; exact a1
  have b2 : ρ2 2 = some (.str (ofRev p)) := by rw [← hρ2]; rfl
  have b3 : ρ2 3 = some (.str (ofRev g)) := by rw [← hρ2]; rfl
  have hc : pev gvF [] ρ2 (.endswith (.loc 0) (.loc 2)) = some (.bool (preR p z)) := by
    simp only [pev, b0, b2, Option.bind_some]; exact pE z p
  rw [ite_step hc (trB _)]
  unfold hit
  cases hp : preR p z with
  | false => exact ⟨ρ2, b0, rfl⟩
  | true =>
    simp only [if_true]
    have hpt := (preR_iff p z).mp hp
    have hpl : p.length ≤ z.length := by
      have := congrArg List.length hpt
      rw [List.length_take] at this; omega
    have hsl : psliceTo (.str (ofRev z)) (.int (0 - (p.length : Int))) = some (.str (ofRev (z.drop p.length))) := by
      show some (PV.str (Txt.slice _ _ _)) = _
      rw [slice_to_rev]
      have : clipN (0 - (p.length : Int)) z.length = z.length - p.length := by unfold clipN; omega
      rw [this, show z.length - (z.length - p.length) = p.length by omega]
    have hadd : ∀ ρ3 : Nat → Option PV, ρ3 0 = some (.str (ofRev z)) → ρ3 2 = some (.str (ofRev p)) → ρ3 3 = some (.str (ofRev g)) →
        pex gvF [] 1 (.ret (.bin .Add (.sliceTo (.loc 0) (.bin .Sub (.const (.int (0))) (.len (.loc 2)))) (.loc 3))) ρ3 = some (.ret (.str (ofRev (g ++ z.drop p.length)))) := by
      intro ρ3 c0 c2 c3
      refine ret_step ?_
      simp only [pev, c0, c2, c3, Option.bind_some, lS, ofRev_len, bSubI, hsl]
      rw [addS _ _ (by rw [ofRev_len, ofRev_len, List.length_drop]; simp [lenLid]; omega), add_rev]
    unfold fxB1
    by_cases hs : s = []
    · subst hs
      have htl2 : tl = [] := by rw [← htl]; rfl
      subst htl2
      rw [ite_step (v := .bool false) (t := false) (by simp only [pev, b1, Option.bind_some, lQ, cGt]; rfl) rfl]
      simp only [Bool.false_eq_true, if_false]
      rw [show pex gvF [] 1 PS.nil ρ2 = some (.next ρ2) from rfl]
      simp only [Option.bind_some]
      rw [hadd ρ2 b0 b2 b3]
      refine ⟨ρ2, b0, ?_⟩
      cases z.drop p.length with
      | nil => rfl
      | cons c r => rfl
    · have htl2 : tl = [.str (ofRev s)] := by rw [← htl]; exact if_neg hs
      subst htl2
      have hne : p.length < z.length := by
        rcases Nat.lt_or_ge p.length z.length with h | h
        · exact h
        · exfalso
          have hpz : z = p := by rw [← hpt]; exact (List.take_of_length_le h).symm
          rcases n5 with h6 | h6
          · exact hs (List.isEmpty_iff.mp h6)
          · rw [hpz, h6] at h5; cases h5
      obtain ⟨c, r, hd⟩ : ∃ c r, z.drop p.length = c :: r := by
        cases hd : z.drop p.length with
        | nil =>
          have := congrArg List.length hd
          rw [List.length_drop] at this; simp at this; omega
        | cons c r => exact ⟨c, r, rfl⟩
      have hzc : z[p.length]? = some c := by
        have := congrArg List.head? hd
        rw [List.head?_drop] at this; simpa using this
      have hix : pidx (.str (ofRev z)) (.int (0 - ((p.length : Int) + 1))) = some (.str (ofRev [c])) := by
        rw [ixS _ _ (by rw [ofRev_len]; omega)]
        have e1 : (0 - ((p.length : Int) + 1)) = -((p.length + 1 : Nat) : Int) := by omega
        rw [e1, item_neg z (p.length + 1) (by omega) (by omega), show p.length + 1 - 1 = p.length by omega, hzc]; rfl
      rw [ite_step (v := .bool true) (t := true) (by simp only [pev, b1, Option.bind_some, lQ, cGt]; rfl) rfl]
      simp only [if_true]
      rw [asg_step (v := .str (ofRev s)) (by simp only [pev, b1, Option.bind_some]; rfl) rfl]
      generalize hρ3 : upd ρ2 4 (.str (ofRev s)) = ρ3
      have c0 : ρ3 0 = some (.str (ofRev z)) := by rw [← hρ3]; exact b0
      have c2 : ρ3 2 = some (.str (ofRev p)) := by rw [← hρ3]; exact b2
      have c3 : ρ3 3 = some (.str (ofRev g)) := by rw [← hρ3]; exact b3
      have c4 : ρ3 4 = some (.str (ofRev s)) := by rw [← hρ3]; rfl
      rw [asg_step (v := .str (ofRev [c])) (by simp only [pev, c0, c2, Option.bind_some, lS, ofRev_len, bAddI, bSubI, hix]) rfl]
      generalize hρ4 : upd ρ3 5 (.str (ofRev [c])) = ρ4
      have d0 : ρ4 0 = some (.str (ofRev z)) := by rw [← hρ4]; exact c0
      have d2 : ρ4 2 = some (.str (ofRev p)) := by rw [← hρ4]; exact c2
      have d3 : ρ4 3 = some (.str (ofRev g)) := by rw [← hρ4]; exact c3
      have d4 : ρ4 4 = some (.str (ofRev s)) := by rw [← hρ4]; exact c4
      have d5 : ρ4 5 = some (.str (ofRev [c])) := by rw [← hρ4]; rfl
      have hin : pev gvF [] ρ4 (.cmp .In (.loc 5) (.loc 4)) = some (.bool (s.contains c)) := by
        simp only [pev, d5, d4, Option.bind_some]
        rw [cInS, show ofRev [c] = ch c from rfl, contains_ch, ofRev_list]
        congr 2
        simp
      rw [ite_ret hin, show pev gvF [] ρ4 (.loc 0) = some (.str (ofRev z)) from d0]
      rw [hd] at hadd ⊢
      dsimp only
      cases s.contains c with
      | true => exact ⟨ρ4, d0, rfl⟩
      | false =>
        rw [if_neg Bool.false_ne_true, if_neg Bool.false_ne_true, show pex gvF [] 1 PS.nil ρ4 = some (.next ρ4) from rfl]
        simp only [Option.bind_some]
        rw [hadd ρ4 d0 d2 d3]
        exact ⟨ρ4, d0, rfl⟩
theorem fx_loop (z : List Nat) (hz : z.length ≤ 20) (h5 : fiveR.contains z = false) : ∀ (qs : List R3), (∀ q ∈ qs, okRow q = true) → ∀ ρ : Nat → Option PV, ρ 0 = some (.str (ofRev z)) →
    ∃ ρ' : Nat → Option PV, ρ' 0 = some (.str (ofRev z)) ∧ pfor fxStep (qs.map fun q => rowP (rowStrE q)) ρ = some (match firstS (hit z) qs with | none => .next ρ' | some v => .ret (.str (ofRev v)))
  | [], _, ρ, h => ⟨ρ, h, rfl⟩
  | q :: qs, hq, ρ, h => by
    obtain ⟨ρ1, a1, e1⟩ := fx_step z hz h5 q (hq q (by simp)) ρ h
    simp only [List.map_cons, pfor, e1, Option.bind_some, firstS]
    cases hb : hit z q with
    | none => exact fx_loop z hz h5 qs (fun q' h' => hq q' (by simp [h'])) ρ1 a1
    | some v => exact ⟨ρ1, a1, rfl⟩

noncomputable def dblL : List Nat := [100, 103, 108, 109, 110, 112, 114, 115, 116]
noncomputable def dblR : List Nat → Bool
  | a :: b :: _ => dblL.any fun d => d == a && d == b
  | _ => false
theorem doubles_is : doubles = dblL.map fun d => ofRev [d, d] := by decide +kernel
theorem dbl_law (z : List Nat) : anyB (ofRev z) (dblL.map fun d => ofRev [d, d]) = dblR z := by
  unfold anyB
  rw [List.any_map]
  have e : (closesB (ofRev z) ∘ fun d => ofRev [d, d]) = fun d => matchR [d, d] z := by funext d; exact closes_rev z [d, d]
  rw [e]
  cases z with
  | nil => simp [dblR, matchR]
  | cons a z =>
    cases z with
    | nil => simp [dblR, matchR]
    | cons b z => simp [dblR, matchR, dblL]
theorem dbl_prog (z : List Nat) (h : 1 ≤ z.length) : (doubles.any fun x => x == Txt.slice (ofRev z) (some (-2)) none) = dblR z := by
  rw [doubles_is, List.any_map]
  cases z with
  | nil => simp at h
  | cons a z =>
    cases z with
    | nil =>
      have : Txt.slice (ofRev [a]) (some (-2)) none = ofRev [a] := by
        rw [slice_from_rev]
        have : clipN (-2) [a].length = 0 := by unfold clipN; simp only [List.length_singleton]; omega
        rw [this]; rfl
      rw [this]
      have e : ((fun x => x == ofRev [a]) ∘ fun d => ofRev [d, d]) = fun _ => false := by
        funext d
        show (ofRev [d, d] == ofRev [a]) = false
        rw [ofRev_beq]; simp
      rw [e]; simp [dblR]
    | cons b z =>
      rw [sl2]
      have e : ((fun x => x == ofRev [a, b]) ∘ fun d => ofRev [d, d]) = fun d => d == a && d == b := by
        funext d
        exact beq2 d d a b
      rw [e]; rfl
/-- the word that is spelt anew -/
noncomputable def undbl (z : List Nat) : List Nat := if dblR z then z.drop 1 else z
theorem undbl_len {z : List Nat} (h : 1 ≤ z.length) : 1 ≤ (undbl z).length ∧ (undbl z).length ≤ z.length := by
  unfold undbl
  cases hd : dblR z with
  | false => rw [if_neg Bool.false_ne_true]; omega
  | true =>
    rw [if_pos rfl, List.length_drop]
    cases z with
    | nil => cases hd
    | cons a z =>
      cases z with
      | nil => cases hd
      | cons b z => simp

theorem lookup_end (a : Nat) : ∀ l : List (Nat × List R3), (((l.map fun q => (ofRev [q.1], q.2.map rowStrE)).map (·.1)).zip ((l.map fun q => (ofRev [q.1], q.2.map rowStrE)).map fun p => PV.seq true (p.2.map rowP))).lookup (ofRev [a]) =
    (l.lookup a).map fun qs => PV.seq true (qs.map fun q => rowP (rowStrE q))
  | [] => rfl
  | (b, qs) :: l => by
    simp only [List.map_cons, List.zip_cons_cons, List.lookup_cons, lookup_end a l, beq1]
    cases a == b with
    | true => simp [List.map_map]
    | false => rfl
theorem get_end (a : Nat) : pget endP (.str (ofRev [a])) (.seq true []) = some (.seq true (((lend.lookup a).getD []).map fun q => rowP (rowStrE q))) := by
  show some ((((endRules.map (·.1)).zip (endRules.map fun p => PV.seq true (p.2.map rowP))).lookup (ofRev [a])).getD (.seq true [])) = _
  rw [endRules_is, lookup_end]
  cases lend.lookup a <;> rfl
theorem rows_nodict : ∀ qs : List R3, nodicts (qs.map fun q => rowP (rowStrE q)) = true
  | [] => rfl
  | q :: qs => by
    rw [List.map_cons, nodicts, rows_nodict qs, Bool.and_true, rowP, PV.nodict]
    exact nodicts_strs _
theorem rowsL_nodict : ∀ qs : List R3, nodicts (qs.map fun q => rowP (rowStrL q)) = true
  | [] => rfl
  | q :: qs => by
    rw [List.map_cons, nodicts, rowsL_nodict qs, Bool.and_true, rowP, PV.nodict]
    exact nodicts_strs _
theorem lend_ok (a : Nat) : ∀ q ∈ (lend.lookup a).getD [], okRow q = true := by
  rw [lend_filter]
  intro q hq
  exact ldup_ok q (List.mem_filter.mp hq).1

noncomputable def fxLoop : PS := .for1 1 (.get2 (.glob 0) (.idx (.loc 0) (.neg (.const (.int (1))))) (.lit true [])) fxB (.ret (.loc 0))
theorem fx_is : psfixending = .ite (.cmp .In (.sliceFrom (.loc 0) (.neg (.const (.int (2))))) (.glob 1)) (.assign 0 (.sliceTo (.loc 0) (.neg (.const (.int (1))))) .nil) .nil fxLoop := rfl
theorem fxLoop_eval (z : List Nat) (hz : z.length ≤ 20) (hz1 : 1 ≤ z.length) (h5 : fiveR.contains z = false) (ρ : Nat → Option PV) (h0 : ρ 0 = some (.str (ofRev z))) :
    pex gvF [] 1 fxLoop ρ = some (.ret (.str (ofRev ((firstS (hit z) lanew).getD z)))) := by
  obtain ⟨a, z', rfl⟩ : ∃ a z', z = a :: z' := by
    cases z with
    | nil => simp at hz1
    | cons a z' => exact ⟨a, z', rfl⟩
  obtain ⟨ρ', b0, e⟩ := fx_loop (a :: z') hz h5 _ (lend_ok a) ρ h0
  rw [first_same] at e
  unfold fxLoop
  have hg : pev gvF [] ρ (.get2 (.glob 0) (.idx (.loc 0) (.neg (.const (.int (1))))) (.lit true [])) = some (.seq true (((lend.lookup a).getD []).map fun q => rowP (rowStrE q))) := by
    simp only [pev, h0, Option.bind_some, nI, List.getElem?_cons_zero]
    rw [ix1, Option.bind_some]
    exact get_end a
  have e1 : pex gvF [] 1 (.for1 1 (.get2 (.glob 0) (.idx (.loc 0) (.neg (.const (.int (1))))) (.lit true [])) fxB (.ret (.loc 0))) ρ =
      (pfor fxStep (((lend.lookup a).getD []).map fun q => rowP (rowStrE q)) ρ).bind fun f => (match f with
      | .next ρ' => pex gvF [] 1 (.ret (.loc 0)) ρ'
      | .ret v => some (.ret v)) := by
    simp only [pex, hg, Option.bind_some, listP, rows_nodict, if_true]
    rfl
  rw [e1, e, Option.bind_some]
  cases firstS (hit (a :: z')) lanew with
  | none => exact ret_loc b0
  | some v => rfl
theorem fix_eval (z : List Nat) (hz : z.length ≤ 20) (hz1 : 1 ≤ z.length) (h5 : fiveR.contains (undbl z) = false) : Ffixending [.str (ofRev z)] = some (.str (ofRev ((firstS (hit (undbl z)) lanew).getD (undbl z)))) := by
  have hu := undbl_len hz1
  unfold Ffixending runF
  have hr0 : stores (fun _ => none) [0] [.str (ofRev z)] = some (upd (fun _ => none) 0 (.str (ofRev z))) := rfl
  rw [hr0, Option.bind_some, fx_is]
  have hc : pev gvF [] (upd (fun _ => none) 0 (.str (ofRev z))) (.cmp .In (.sliceFrom (.loc 0) (.neg (.const (.int (2))))) (.glob 1)) = some (.bool (dblR z)) := by
    show (psliceFrom (.str (ofRev z)) (.int (-2))).bind (fun x => pcmp .In x doublesP) = _
    show pcmp .In (.str (Txt.slice (ofRev z) (some (-2)) none)) (.seq false (doubles.map .str)) = _
    rw [cInQ, strsOf_map, Option.map_some, dbl_prog z hz1]
  show Option.map _ (pex gvF [] 1 (.ite (.cmp .In (.sliceFrom (.loc 0) (.neg (.const (.int (2))))) (.glob 1)) (.assign 0 (.sliceTo (.loc 0) (.neg (.const (.int (1))))) .nil) .nil fxLoop) (upd (fun _ => none) 0 (.str (ofRev z)))) = _
  rw [ite_step hc (trB _)]
  unfold undbl at hu h5 ⊢
  cases hd : dblR z with
  | true =>
    rw [hd] at hu h5
    simp only [if_true] at hu h5 ⊢
    have hs : psliceTo (.str (ofRev z)) (.int (-1)) = some (.str (ofRev (z.drop 1))) := by
      show some (PV.str (Txt.slice _ _ _)) = _
      rw [slice_to_rev]
      have : clipN (-1) z.length = z.length - 1 := by unfold clipN; omega
      rw [this, show z.length - (z.length - 1) = 1 by omega]
    rw [asg_step (v := .str (ofRev (z.drop 1))) (by show (psliceTo (.str (ofRev z)) (.int (-1))) = _; exact hs) rfl]
    rw [show pex gvF [] 1 PS.nil (upd (upd (fun _ => none) 0 (.str (ofRev z))) 0 (.str (ofRev (z.drop 1)))) = some (.next (upd (upd (fun _ => none) 0 (.str (ofRev z))) 0 (.str (ofRev (z.drop 1))))) from rfl]
    simp only [Option.bind_some]
    rw [fxLoop_eval (z.drop 1) (by omega) hu.1 h5 _ rfl]; rfl
  | false =>
    rw [hd] at hu h5
    simp only [Bool.false_eq_true, if_false] at hu h5 ⊢
    rw [show pex gvF [] 1 PS.nil (upd (fun _ => none) 0 (.str (ofRev z))) = some (.next (upd (fun _ => none) 0 (.str (ofRev z)))) from rfl]
    simp only [Option.bind_some]
    rw [fxLoop_eval z hz hz1 h5 _ rfl]; rfl

theorem stem_eval (W : Str) (z : List Nat) (h : Fremoveending [.str W] = some (.str (ofRev z))) (v : PV) (h2 : Ffixending [.str (ofRev z)] = some v) : Fstem [.str W] = some v := by
  unfold Fstem runF
  have hr0 : stores (fun _ => none) [0] [.str W] = some (upd (fun _ => none) 0 (.str W)) := rfl
  rw [hr0, Option.bind_some]
  have e : pev [] [Ffixending, Fremoveending] (upd (fun _ => none) 0 (.str W)) (.call1 0 (.call1 1 (.loc 0))) = some v := by
    show ((some (PV.str W)).bind fun x => Fremoveending [x]).bind (fun x => Ffixending [x]) = _
    rw [Option.bind_some, h, Option.bind_some, h2]
  show Option.map _ (pex [] [Ffixending, Fremoveending] 1 (.ret (.call1 0 (.call1 1 (.loc 0)))) _) = _
  rw [ret_step e]; rfl
end Mine
end
section
open PySem PySem.W PySem.Calls PySem.Spec PyProof.Rows
namespace Mine
theorem condOkS : CondOkS := by
  intro c hc d h2 h40
  obtain ⟨a, b, r, rfl⟩ : ∃ a b r, d = a :: b :: r := by
    cases d with
    | nil => simp at h2
    | cons a d =>
      cases d with
      | nil => simp at h2
      | cons b r => exact ⟨a, b, r, rfl⟩
  have hr : r.length ≤ 40 := by simp at h40; omega
  simp only [okLetters, List.mem_cons, List.not_mem_nil, or_false] at hc
  rcases hc with rfl | rfl | rfl | rfl | rfl | rfl | rfl | rfl | rfl | rfl | rfl | rfl | rfl | rfl | rfl | rfl | rfl | rfl | rfl | rfl | rfl | rfl | rfl | rfl | rfl | rfl | rfl | rfl | rfl
  · exact coA2 a b r hr
  · cases r with
    | nil => exact coB2 a b
    | cons c r1 =>
      exact coB3 a b c r1 (by first | exact hr | (simp at hr; omega))
  · cases r with
    | nil => exact coC2 a b
    | cons c r1 =>
      cases r1 with
      | nil => exact coC3 a b c
      | cons d r2 =>
        exact coC4 a b c d r2 (by first | exact hr | (simp at hr; omega))
  · cases r with
    | nil => exact coD2 a b
    | cons c r1 =>
      cases r1 with
      | nil => exact coD3 a b c
      | cons d r2 =>
        cases r2 with
        | nil => exact coD4 a b c d
        | cons e r3 =>
          exact coD5 a b c d e r3 (by first | exact hr | (simp at hr; omega))
  · exact coE2 a b r hr
  · cases r with
    | nil => exact coF2 a b
    | cons c r1 =>
      exact coF3 a b c r1 (by first | exact hr | (simp at hr; omega))
  · cases r with
    | nil => exact coG2 a b
    | cons c r1 =>
      exact coG3 a b c r1 (by first | exact hr | (simp at hr; omega))
  · exact coH2 a b r hr
  · exact coI2 a b r hr
  · exact coJ2 a b r hr
  · cases r with
    | nil => exact coK2 a b
    | cons c r1 =>
      exact coK3 a b c r1 (by first | exact hr | (simp at hr; omega))
  · exact coL2 a b r hr
  · exact coM2 a b r hr
  · cases r with
    | nil => exact coN2 a b
    | cons c r1 =>
      cases r1 with
      | nil => exact coN3 a b c
      | cons d r2 =>
        exact coN4 a b c d r2 (by first | exact hr | (simp at hr; omega))
  · exact coO2 a b r hr
  · exact coP2 a b r hr
  · cases r with
    | nil => exact coQ2 a b
    | cons c r1 =>
      exact coQ3 a b c r1 (by first | exact hr | (simp at hr; omega))
  · exact coR2 a b r hr
  · exact coS2 a b r hr
  · exact coT2 a b r hr
  · exact coU2 a b r hr
  · exact coV2 a b r hr
  · exact coW2 a b r hr
  · cases r with
    | nil => exact coX2 a b
    | cons c r1 =>
      exact coX3 a b c r1 (by first | exact hr | (simp at hr; omega))
  · exact coY2 a b r hr
  · exact coZ2 a b r hr
  · exact coSmA2 a b r hr
  · cases r with
    | nil => exact coSmB2 a b
    | cons c r1 =>
      cases r1 with
      | nil => exact coSmB3 a b c
      | cons d r2 =>
        exact coSmB4 a b c d r2 (by first | exact hr | (simp at hr; omega))
  · exact coSmC2 a b r hr

noncomputable def elS : List Str := [Str.ofString "elity", Str.ofString "elily"]
noncomputable def dblS : List Str := [Str.ofString "dd", Str.ofString "gg", Str.ofString "ll", Str.ofString "mm", Str.ofString "nn", Str.ofString "pp", Str.ofString "rr", Str.ofString "ss", Str.ofString "tt"]
noncomputable def fiveS : List Str := [Str.ofString "ul", Str.ofString "end", Str.ofString "her", Str.ofString "ent", Str.ofString "et"]
theorem elS_is : elS = [ofRev [121, 116, 105, 108, 101], ofRev [121, 108, 105, 108, 101]] := by decide +kernel
theorem dblS_is : dblS = dblL.map fun d => ofRev [d, d] := by decide +kernel
theorem fiveS_is : fiveS = fiveR.map ofRev := by decide +kernel
theorem elS_ok : elS.all fineS = true := by decide +kernel
theorem dblS_ok : dblS.all fineS = true := by decide +kernel
noncomputable def ls4 : PS := .forN [2, 3, 4] (.call0 3) lsB (.ret (.loc 1))
noncomputable def ls3 : PS := .ite (.cmp .In (.loc 1) (.lit true (fiveS.map .str))) (.ret (.const .none)) .nil ls4
noncomputable def ls2 : PS := .ite (.call2 1 (.loc 1) (.lit true (dblS.map .str))) (.assign 1 (.sliceTo (.loc 1) (.bin .Sub (.len (.loc 1)) (.const (.int (1))))) .nil) .nil ls3
noncomputable def ls1 : PS := .ite (.or (.cmp .Is (.loc 1) (.const .none)) (.call2 0 (.loc 1) (.const (.str (Str.ofString "bb"))))) (.ret (.const .none)) .nil ls2
theorem ls_is : pslawstemmed = .ite (.call2 1 (.loc 0) (.lit true (elS.map .str))) (.ret (.const .none)) .nil (.assign 1 (.call1 2 (.loc 0)) ls1) := rfl
theorem five_any (z : List Nat) : (fiveS.any fun x => x == ofRev z) = fiveR.contains z := by
  rw [fiveS_is, List.any_map]
  have e : ((fun x => x == ofRev z) ∘ ofRev) = fun p => p == z := by funext p; exact ofRev_beq p z
  rw [e]
  generalize fiveR = l
  induction l with
  | nil => rfl
  | cons p l ih =>
    rw [List.any_cons, List.contains_cons, ih]
    congr 1
    exact Bool.beq_comm

theorem ls4_eval (z : List Nat) (hz : z.length ≤ 20) (ρ : Nat → Option PV) (h1 : ρ 1 = some (.str (ofRev z))) : pex [] ffS 1 ls4 ρ = some (.ret (.str (ofRev ((firstS (hit z) lanew).getD z)))) := by
  obtain ⟨ρ', a, e⟩ := ls_loop z hz lanew lanew_ok ρ h1
  unfold ls4
  have hP : anewP = .seq true (lanew.map fun q => rowP (rowStrL q)) := by
    unfold anewP; rw [lawAnew_is, List.map_map]; rfl
  have hg : pev [] ffS ρ (.call0 3) = some (.seq true (lanew.map fun q => rowP (rowStrL q))) := by
    rw [← hP]; rfl
  have e1 : pex [] ffS 1 (.forN [2, 3, 4] (.call0 3) lsB (.ret (.loc 1))) ρ =
      (pfor lsStep (lanew.map fun q => rowP (rowStrL q)) ρ).bind fun f => (match f with
      | .next ρ' => pex [] ffS 1 (.ret (.loc 1)) ρ'
      | .ret v => some (.ret v)) := by
    simp only [pex, hg, Option.bind_some, listP, rowsL_nodict, if_true]
    rfl
  rw [e1, e, Option.bind_some]
  cases firstS (hit z) lanew with
  | none => exact ret_loc a
  | some v => rfl
theorem ls2_eval (z : List Nat) (hz : z.length ≤ 20) (hz1 : 1 ≤ z.length) (ρ : Nat → Option PV) (h1 : ρ 1 = some (.str (ofRev z))) :
    pex [] ffS 1 ls2 ρ = some (if fiveR.contains (undbl z) then .ret .none else .ret (.str (ofRev ((firstS (hit (undbl z)) lanew).getD (undbl z))))) := by
  have hu := undbl_len hz1
  have ls3e : ∀ ρ3 : Nat → Option PV, ρ3 1 = some (.str (ofRev (undbl z))) → pex [] ffS 1 ls3 ρ3 = some (if fiveR.contains (undbl z) then .ret .none else .ret (.str (ofRev ((firstS (hit (undbl z)) lanew).getD (undbl z))))) := by
    intro ρ3 h3
    unfold ls3
    rw [ite_ret (C := fiveR.contains (undbl z)) (by simp only [pev, h3, Option.bind_some, cInQ, strsOf_map, Option.map_some, five_any])]
    cases fiveR.contains (undbl z) with
    | true => rfl
    | false => rw [if_neg Bool.false_ne_true, if_neg Bool.false_ne_true]; exact ls4_eval _ (by omega) ρ3 h3
  unfold ls2
  have hc : pev [] ffS ρ (.call2 1 (.loc 1) (.lit true (dblS.map .str))) = some (.bool (dblR z)) := by
    simp only [pev, h1, Option.bind_some, List.getElem?_cons_succ, List.getElem?_cons_zero]
    rw [fany _ _ _ (by rw [ofRev_len]; omega) (by decide) dblS_ok, dblS_is, dbl_law]
  rw [ite_step hc (trB _)]
  cases hd : dblR z with
  | true =>
    have hu2 : undbl z = z.drop 1 := by unfold undbl; rw [if_pos hd]
    simp only [if_true]
    rw [asg_step (v := .str (ofRev (z.drop 1))) (by simp only [pev, h1, Option.bind_some, lS, ofRev_len, bSubI]; exact sliceTo_k z 1 hz1) rfl]
    rw [show pex [] ffS 1 PS.nil (upd ρ 1 (.str (ofRev (z.drop 1)))) = some (.next (upd ρ 1 (.str (ofRev (z.drop 1))))) from rfl]
    simp only [Option.bind_some]
    exact ls3e _ (by rw [hu2]; rfl)
  | false =>
    have hu2 : undbl z = z := by unfold undbl; rw [if_neg (by rw [hd]; exact Bool.false_ne_true)]
    simp only [Bool.false_eq_true, if_false]
    rw [show pex [] ffS 1 PS.nil ρ = some (.next ρ) from rfl]
    simp only [Option.bind_some]
    exact ls3e _ (by rw [hu2]; exact h1)

/-- the two readings, whole -/
theorem two_readings (r : List Nat) (h1 : 1 ≤ r.length) (hr : r.length ≤ 20) :
    Flawstemmed [.str (ofRev r)] = some .none ∨ ∃ y : List Nat, Flawstemmed [.str (ofRev r)] = some (.str (ofRev y)) ∧ Fstem [.str (ofRev r)] = some (.str (ofRev y)) := by
  have hr0 : stores (fun _ => none) [0] [.str (ofRev r)] = some (upd (fun _ => none) 0 (.str (ofRev r))) := rfl
  have e0 : Flawstemmed [.str (ofRev r)] = (pex [] ffS 1 (.ite (.call2 1 (.loc 0) (.lit true (elS.map .str))) (.ret (.const .none)) .nil (.assign 1 (.call1 2 (.loc 0)) ls1)) (upd (fun _ => none) 0 (.str (ofRev r)))).map fun f => match f with | .ret v => v | .next _ => .none := by
    unfold Flawstemmed runF
    rw [hr0, Option.bind_some, ls_is]
    all_goals rfl
  have hel : anyB (ofRev r) elS = (preR [121, 116, 105, 108, 101] r || preR [121, 108, 105, 108, 101] r) := by
    rw [elS_is]
    unfold anyB
    simp only [List.any_cons, List.any_nil, Bool.or_false, closes_rev]
    rw [match_pre _ _ (by decide), match_pre _ _ (by decide)]
  have hc : pev [] ffS (upd (fun _ => none) 0 (.str (ofRev r))) (.call2 1 (.loc 0) (.lit true (elS.map .str))) = some (.bool (anyB (ofRev r) elS)) := by
    show Fany [.str (ofRev r), .seq true (elS.map .str)] = _
    exact fany _ _ _ (by rw [ofRev_len]; omega) (by decide) elS_ok
  rw [e0, ite_ret hc]
  cases hE : anyB (ofRev r) elS with
  | true => exact .inl rfl
  | false =>
    rw [if_neg Bool.false_ne_true]
    have he : preR [121, 108, 105, 108, 101] r = false := by
      rw [hel, Bool.or_eq_false_iff] at hE
      exact hE.2
    rcases bare_rem condOkS r h1 hr he with hb | ⟨z, z1, z2, hb, hm⟩
    · rw [asg_step (v := .none) (by show Flawbare [.str (ofRev r)] = _; exact hb) rfl]
      unfold ls1
      rw [ite_ret (C := true) (or_b (x := true) (y := true) rfl fun h => by cases h), if_pos rfl]
      exact .inl rfl
    · rw [asg_step (v := .str (ofRev z)) (by show Flawbare [.str (ofRev r)] = _; exact hb) rfl]
      generalize hρ : upd (upd (fun _ => none) 0 (.str (ofRev r))) 1 (.str (ofRev z)) = ρ
      have a1 : ρ 1 = some (.str (ofRev z)) := by rw [← hρ]; rfl
      unfold ls1
      have hbb : pev [] ffS ρ (.or (.cmp .Is (.loc 1) (.const .none)) (.call2 0 (.loc 1) (.const (.str (Str.ofString "bb"))))) = some (.bool (false || closesB (ofRev z) (Str.ofString "bb"))) :=
        or_b (by simp only [pev, a1, Option.bind_some, cIsS]) fun _ => by
          simp only [pev, a1, Option.bind_some, List.getElem?_cons_zero]
          exact fcloses _ _ (by rw [ofRev_len]; omega) (by decide +kernel)
      rw [ite_ret hbb]
      cases hcb : (false || closesB (ofRev z) (Str.ofString "bb")) with
      | true => exact .inl rfl
      | false =>
        rw [if_neg Bool.false_ne_true, ls2_eval z z2 z1 ρ a1]
        cases h5 : fiveR.contains (undbl z) with
        | true => exact .inl rfl
        | false =>
          refine .inr ⟨(firstS (hit (undbl z)) lanew).getD (undbl z), rfl, ?_⟩
          exact stem_eval _ z hm _ (fix_eval z z2 z1 h5)

noncomputable def piecesS : List Str := (lettersS.cps.toList.map fun c => (⟨#[c]⟩ : Str)) ++ tailsL ++ anewFirsts
theorem piecesV_is : piecesV = piecesS.map .str := by
  unfold piecesV piecesS charsP
  rw [List.map_append, List.map_append, List.map_map]
  rfl
theorem piecesS_ok : piecesS.length = 127 ∧ (piecesS.all fun y => decide (y.length ≤ 20)) = true := by decide +kernel
noncomputable def lwB : PS := .assign 2 (.bin .Add (.loc 2) (.idx (.loc 1) (.bin .Mod (.loc 3) (.len (.loc 1))))) .nil
noncomputable abbrev gvL : List PV := [.str lettersS, tailsP]
noncomputable abbrev ffL : List (List PV → Option PV) := [Fanew, Flawstemmed, Fstem]
noncomputable def lwStep (ρ : Nat → Option PV) (v : PV) : Option PF := (store ρ 3 v).bind (pex gvL ffL 1 lwB)
theorem bMod (x y : Int) (h : y ≠ 0) : pbin .Mod (.int x) (.int y) = some (.int (x.fmod y)) := by
  show (if y = 0 then none else some (PV.int (x.fmod y))) = _
  rw [if_neg h]
theorem app_len (x y : Str) : (x ++ y).length = x.length + y.length := by
  show (x.cps ++ y.cps).size = _
  rw [Array.size_append]; rfl
theorem lw_step (n : Int) (x : Str) (hx : x.length ≤ 10000) (ρ : Nat → Option PV) (h1 : ρ 1 = some piecesP) (h2 : ρ 2 = some (.str x)) :
    ∃ (ρ' : Nat → Option PV) (x' : Str), ρ' 1 = some piecesP ∧ ρ' 2 = some (.str x') ∧ x'.length ≤ x.length + 20 ∧ lwStep ρ (.int n) = some (.next ρ') := by
  have h0 : (0 : Int) ≤ n.fmod 127 := Int.fmod_nonneg_of_pos n (by decide)
  have hlt : n.fmod 127 < 127 := Int.fmod_lt_of_pos n (by decide)
  obtain ⟨y, hy⟩ : ∃ y, piecesS[(n.fmod 127).toNat]? = some y := ⟨_, List.getElem?_eq_getElem (by rw [piecesS_ok.1]; omega)⟩
  have hyl : y.length ≤ 20 := by
    have := List.all_eq_true.mp piecesS_ok.2 y (List.mem_of_getElem? hy)
    simpa using this
  have hpl : plen piecesP = some (.int 127) := by
    show some (PV.int piecesV.length) = _
    rw [piecesV_is, List.length_map, piecesS_ok.1]; rfl
  have hix : pidx piecesP (.int (n.fmod 127)) = some (.str y) := by
    show (if 0 ≤ n.fmod 127 then piecesV[(n.fmod 127).toNat]? else none) = _
    rw [if_pos h0, piecesV_is, List.getElem?_map, hy]; rfl
  generalize hρ : upd ρ 3 (.int n) = ρ1
  have a1 : ρ1 1 = some piecesP := by rw [← hρ]; exact h1
  have a2 : ρ1 2 = some (.str x) := by rw [← hρ]; exact h2
  have a3 : ρ1 3 = some (.int n) := by rw [← hρ]; rfl
  have e0 : lwStep ρ (.int n) = pex gvL ffL 1 lwB ρ1 := by rw [← hρ]; rfl
  refine ⟨upd ρ1 2 (.str (x ++ y)), x ++ y, a1, rfl, by rw [app_len]; omega, ?_⟩
  rw [e0]
  unfold lwB
  rw [asg_step (v := .str (x ++ y)) ?_ rfl]
  · rfl
  · simp only [pev, a1, a2, a3, Option.bind_some, hpl]
    rw [bMod _ _ (by decide), Option.bind_some, hix, Option.bind_some, addS _ _ (by simp [lenLid]; omega)]
theorem lw_loop : ∀ (ns : List Int) (x : Str), x.length + 20 * ns.length ≤ 5000 → ∀ ρ : Nat → Option PV, ρ 1 = some piecesP → ρ 2 = some (.str x) →
    ∃ (ρ' : Nat → Option PV) (x' : Str), ρ' 2 = some (.str x') ∧ pfor lwStep (ns.map .int) ρ = some (.next ρ')
  | [], x, _, ρ, _, h2 => ⟨ρ, x, h2, rfl⟩
  | n :: ns, x, hl, ρ, h1, h2 => by
    simp only [List.length_cons] at hl
    obtain ⟨ρ1, x1, a1, a2, a3, e1⟩ := lw_step n x (by omega) ρ h1 h2
    obtain ⟨ρ2, x2, b2, e2⟩ := lw_loop ns x1 (by omega) ρ1 a1 a2
    exact ⟨ρ2, x2, b2, by simp only [List.map_cons, pfor, e1, Option.bind_some]; exact e2⟩
noncomputable def lw3 : PS := .assign 4 (.call1 1 (.loc 2)) (.ret (.or (.cmp .Is (.loc 4) (.const .none)) (.cmp .Eq (.call1 2 (.loc 2)) (.loc 4))))
noncomputable def lw2 : PS := .assign 2 (.ifexp (.cmp .Eq (.loc 2) (.const (.str (Str.ofString "")))) (.const (.str (Str.ofString "sitting"))) (.sliceTo (.loc 2) (.const (.int (20))))) lw3
theorem lw_is : psLaw = .assign 2 (.const (.str (Str.ofString ""))) (.for1 3 (.sliceTo (.loc 0) (.const (.int (20)))) lwB lw2) := rfl
theorem lw3_eval (r : List Nat) (h1 : 1 ≤ r.length) (hr : r.length ≤ 20) (ρ : Nat → Option PV) (h2 : ρ 2 = some (.str (ofRev r))) : pex gvL ffL 1 lw3 ρ = some (.ret (.bool true)) := by
  unfold lw3
  rcases two_readings r h1 hr with h | ⟨y, h, hs⟩
  · rw [asg_step (v := .none) (by simp only [pev, h2, Option.bind_some, List.getElem?_cons_succ, List.getElem?_cons_zero]; exact h) rfl]
    exact ret_step (or_b (x := true) (y := true) rfl fun q => by cases q)
  · rw [asg_step (v := .str (ofRev y)) (by simp only [pev, h2, Option.bind_some, List.getElem?_cons_succ, List.getElem?_cons_zero]; exact h) rfl]
    generalize hρ : upd ρ 4 (.str (ofRev y)) = ρ1
    have a2 : ρ1 2 = some (.str (ofRev r)) := by rw [← hρ]; exact h2
    have a4 : ρ1 4 = some (.str (ofRev y)) := by rw [← hρ]; rfl
    refine ret_step (or_b (x := false) (y := true) (by simp only [pev, a4, Option.bind_some, cIsS]) fun _ => ?_)
    simp only [pev, a2, a4, Option.bind_some, List.getElem?_cons_succ, List.getElem?_cons_zero, hs, cEqS]
    simp
theorem zsit : Str.ofString "sitting" = ofRev [103, 110, 105, 116, 116, 105, 115] := by decide +kernel
theorem lw2_eval (x : Str) (ρ : Nat → Option PV) (h2 : ρ 2 = some (.str x)) : pex gvL ffL 1 lw2 ρ = some (.ret (.bool true)) := by
  obtain ⟨r, rfl⟩ := exists_rev x
  unfold lw2
  have hc : pev gvL ffL ρ (.cmp .Eq (.loc 2) (.const (.str (Str.ofString "")))) = some (.bool (r == [])) := by
    simp only [pev, h2, Option.bind_some, cEqS, zee, ofRev_beq]
  cases hr : r with
  | nil =>
    rw [asg_step (v := .str (ofRev [103, 110, 105, 116, 116, 105, 115])) (by
      rw [← zsit]
      simp only [pev] at hc ⊢
      rw [hc, hr]; rfl) rfl]
    exact lw3_eval _ (by decide) (by decide) _ rfl
  | cons a r' =>
    have hne : (r == []) = false := by rw [hr]; rfl
    have hl : 1 ≤ r.length := by rw [hr]; simp
    rw [asg_step (v := .str (ofRev (r.drop (r.length - clipN 20 r.length)))) (by
      simp only [pev] at hc ⊢
      rw [hc, hne]
      simp only [Option.bind_some, trB, Bool.false_eq_true, if_false, h2]
      show some (PV.str (Txt.slice _ _ _)) = _
      rw [slice_to_rev]) rfl]
    have hcl : clipN 20 r.length = min 20 r.length := by unfold clipN; omega
    exact lw3_eval _ (by rw [List.length_drop, hcl]; omega) (by rw [List.length_drop, hcl]; omega) _ rfl
theorem ints_take (ns : List Int) (k : Nat) : (ns.map PV.int).take k = (ns.take k).map .int := (List.map_take ..).symm
theorem law_pure (ns : List Int) (h : ns.length ≤ 63) : semLaw (scriptE ns) = some (.ret (.bool true)) := by
  unfold semLaw
  rw [lw_is, asg_step (v := .str (Str.ofString "")) rfl rfl]
  generalize hρ : upd (upd (scriptE ns) 1 piecesP) 2 (.str (Str.ofString "")) = ρ
  have a0 : ρ 0 = some (.seq true (ns.map .int)) := by rw [← hρ]; rfl
  have a1 : ρ 1 = some piecesP := by rw [← hρ]; rfl
  have a2 : ρ 2 = some (.str (Str.ofString "")) := by rw [← hρ]; rfl
  have hg : pev gvL ffL ρ (.sliceTo (.loc 0) (.const (.int (20)))) = some (.seq true ((ns.take 20).map .int)) := by
    simp only [pev, a0, Option.bind_some]
    rw [← ints_take]; rfl
  obtain ⟨ρ', x', b2, e⟩ := lw_loop (ns.take 20) (Str.ofString "") (by
    have : (Str.ofString "").length = 0 := by decide +kernel
    rw [this, List.length_take]; omega) ρ a1 a2
  have e1 : pex gvL ffL 1 (.for1 3 (.sliceTo (.loc 0) (.const (.int (20)))) lwB lw2) ρ =
      (pfor lwStep ((ns.take 20).map .int) ρ).bind fun f => (match f with
      | .next ρ' => pex gvL ffL 1 lw2 ρ'
      | .ret v => some (.ret v)) := by
    simp only [pex, hg, Option.bind_some, listP, ints_nodict, if_true]
    rfl
  rw [e1, e, Option.bind_some]
  exact lw2_eval x' ρ' b2
end Mine
end
section
open PySem PySem.W PySem.Calls PySem.Spec PyProof.Rows
theorem PySem.Challenge.cw_iv0078_01_holds : PySem.Challenge.rw_iv0078_01.Holds :=
 Mine.hd (by
  intro w s₀ s₁ mg mb G Y fa o pm cd doc dV kV ho hd hcd hD hmg hg args vals as hpre hlay hrd hwl hlo
  have KX := kIn_of Y
  have X := (Ground.X G).1
  refine Ground.open G fun T B D TE TW => ?_
  clear D TE TW
  wrow_args hpre hlay hrd hwl hlo
  refine enter_call ?_
  w_top on
  refine codeAny_mono ?_ (fun _ _ g => GoodW.toG g)
  have K0 := below_caller (Top.heap T)
  w_call any ho hd hcd hD T F
  k_drop
  (with_reducible rename IntsAre _ _ => hI)
  (with_reducible rename Frag.In _ _ => hX)
  (with_reducible rename Top _ _ _ _ _ _ => hT)
  (with_reducible rename Below _ _ _ _ => hB)
  (with_reducible rename Fr _ _ _ _ => hF)
  (with_reducible rename Heap.IsList _ _ _ => hL)
  (with_reducible rename (¬ (_ : Int) < _) => hlen)
  (with_reducible rename (_ = #[]) => hg)
  refine' Mine.law_walk ?q1 ?q2 ?q3 ?q4 ?q5 ?q6 hX hT hB hF ?q7 hL hI ?q8 ?q9 (Mine.law_pure _ ?q10) ?q11
  case q1 => exact rfl
  case q2 => kernel_rfl
  case q3 => exact rfl
  case q4 => exact ⟨rfl, rfl, rfl⟩
  case q5 => exact ⟨rfl, rfl, rfl⟩
  case q6 => exact rfl
  case q7 => exact rfl
  case q8 => omega
  case q9 => exact rfl
  case q10 => omega
  case q11 => intro h' tk' m' F'; refine goodW_bool F' hg (raisesW_false ?_) ?_; (· wrow_none_raised); (· wrow_post))
end
