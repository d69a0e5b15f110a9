import PyProof.Rows.All
import Wide.All
import OpenK.AllK
import Wide.FinOn
import PySem.Challenge.RW_ae5010_01
open PySem PySem.W PyProof.Rows
set_option Elab.async false
namespace Mine
section
local macro_rules | `(tactic| o_head (kmHook $k $a (fun _ => by kernel_rfl) $t)) => `(tactic| o_head (kmHook $k $a (fun _ => by (kernel_rfl)) (609 :: $t)))
set_option maxRecDepth 100000 in
set_option maxHeartbeats 8000000 in
set_option rowWalk.seconds 0 in
open_top hd for PySem.Challenge.rw_ae5010_01
end
end Mine
open PySem.Calls PySem.Spec
namespace Mine
theorem fill : PySem.Challenge.rw_ae5010_01.prog = PySem.Challenge.rw_ae5010_01.prog ∧ hd.heap_39 = hd.heap_39 := by
  k_fill
  exact ⟨rfl, rfl⟩
local macro_rules | `(tactic| k_room) => `(tactic| ktr_room)
local macro_rules | `(tactic| k_units) => `(tactic| ktr_units)
local macro_rules | `(tactic| walk_at "m_enter") => `(tactic| (k_dflt (refine' code_def ?k1 ?k2 ?k3 ?k4 ?k5 ?kA ?kF ?kK ?k6 ?k7 ?k8 ?k9 ?kB ?_ ?c2 ?c3 ?c4 ?c5; (case kA => exact rfl); (case kF => exact rfl); (case kK => first | assumption | exact rfl); (case k1 => k_asm); (case k2 => k_asm); (case k3 => k_asm); (case k4 => k_asm); (case k5 => k_asm); (case k6 => k_is); (case k7 => k_is); (case k8 => ktr_room); (case k9 => first | exact BindsTo.of_eq rfl | exact binds_K (by k_in) rfl (by k_is) rfl rfl rfl | fail "k_enter: no rule for these arguments"); (case c5 => decide); (case kB => exact locs rfl); (case c2 => exact rfl); (case c3 => exact rfl); (case c4 => exact rfl); k_whole); intro g' L' h' FG' F' N' B' X' T'; (try dsimp only); (try k_lift B'); (try k_fold)))
section
section
variable {prog : Program} {w : World} {A : Around} {E : Value → Shared → Prop} {s : Shared} {K : Frag} {h₀ : Heap} {L : Addr} {m : Str → Option Value} {news : List (Addr × Obj)} {Q : Value → Shared → Prop}
theorem entry_callable : entryFor table "callable" = some Builtin.«callable» := entryFor_of_fast (by kernel_rfl)
theorem args_callable (a : Value) : argsOk "callable" ⟨[a], []⟩ := by unfold argsOk; kernel_rfl
theorem callable_K {v c : Value} (X : K.In s.heap) (e : specialIn K v "__call__" = some (some c)) (h : Q (.bool true) s) : wpAny (model prog w) A (call (.builtin "callable") [v]) Q E s := by
  refine call_function_entry (by decide +kernel) (by decide +kernel) entry_callable (args_callable _) ?_
  unfold Builtin.«callable»
  refine wpAny_bind (wpAny_of_eq (a := v) (by first | rfl | kernel_rfl) ?_)
  exact wpAny_bind ((looks_specialIn X e).here (wpAny_pure ⟨_, rfl, h⟩))
end
theorem mem_of {α : Type} {a : α} {l : List α} (h : a ∈ l) : List.Mem a l := h
/-- where a walk is to stop -/
noncomputable def Hold (P : Prop) : Prop := P
theorem hold {P : Prop} (h : Hold P) : P := h
/-- all that stood stands, but at the addresses `mods` -/
noncomputable def ExtB (mods : List Addr) (h h' : Heap) : Prop := ∀ b o, h.get? b = some o → b ∉ mods → h'.get? b = some o

section
variable {prog : Program} {w : World} {A₀ A : Around} {s : Shared} {base h₀ : Heap} {outer : List Env} {L : Addr} {m mg mb : Str → Option Value} {env : Env} {news : List (Addr × Obj)} {K : Frag} {p : Program} {loose : List Str} {mean : ExcName → Option Value}
  {R : Result → Shared → Prop} {name qual : Str} {params : Arguments} {body : List Stmt} {scope : Scope} {cl : List (Str × Addr)} {dV kV doc pm cdv ct oc : Value} {an od : Option Addr} {osl : Array (Option Value)} {fo : Obj} {f : Addr} {args : Args} {binds : List (Str × Value)}

theorem callX_ext (B : Below A₀ base outer h₀) (F : Fr h₀ L s.heap m) (N : News h₀ L s.heap news) (hlim : h₀.NoLimit) (hA : A.frames = some (env :: outer)) (hf : env.frame = some L) (hke : env.scope.kind = .function)
    (ho : s.heap.get? f = some fo) (hd : fo.data = .func (fnX name qual params body scope cl dV kV doc pm an cdv ct)) (hcd : s.heap.CodeRec cdv qual) (hroom : A.depth < recursionLimit)
    (hbind : BindsTo s (fnX name qual params body scope cl dV kV doc pm an cdv ct) args binds) (hloc : ∀ y ∈ binds, scope.names.lookup y.1 = some .local)
    (h : ∀ g L' h₁, ExtB (news.map (·.1)) s.heap g → Fr h₀ L g m → Fr g L' h₁ (fun y => binds.reverse.lookup y) → News g L' h₁ news → Below A base (env :: outer) g → h₀.StaysIn g →
      wpAny (model prog w) (A.deeper (envX qual scope L' f cdv cl)) (execs body (envX qual scope L' f cdv cl))
        (fun fl s' => LeaveK h₀ L m g R (match fl with | .ret v => v | _ => .none) s')
        (fun e s' => wpAny (model prog w) (A.deeper (envX qual scope L' f cdv cl)) (leaving (envX qual scope L' f cdv cl) e) (fun _ s'' => R (.error e) s'') (fun e' s'' => R (.error e') s'') s')
        { s with heap := h₁, toks := s.toks + binds.length })
    (hcell : ∀ x ∈ scope.names, x.2 ≠ .cell) (hco : scope.isCoroutine = false := by rfl) (hgen : scope.isGenerator = false := by rfl) (hk : scope.kind = .function := by rfl) : codeAny (model prog w) A (.call (.ref f) args) R s := by
  obtain ⟨FG, BG, st, lv⟩ := groundX (R := R) B F N hA hf hke
  refine codeAny_call_def (fd := fnX name qual params body scope cl dV kV doc pm an cdv ct) (body := body) (binds := binds) hroom ho hd (hlim.keeps F.keep) hcd rfl hbind hcell hloc (fun h₁ hns hk₁ => ?_) hco hgen hk
  exact wpAny_mono (h _ s.heap.objs.size h₁ (fun b o e hb => hideAll_get _ e hb) FG ⟨hns, fun b o e => hk₁ b o (of_hideAll _ e), Nat.le_of_eq (hideAll_size _ _)⟩
    (fun p hp => ⟨hk₁ _ _ (N p hp).1, Nat.ne_of_lt (Heap.lt_size (N p hp).1), hideAll_none _ (List.mem_map_of_mem hp)⟩) BG st) (fun fl s' hl => lv _ _ hl) fun _ _ y => y

theorem code_ext (B : Below A₀ base outer h₀) (F : Fr h₀ L s.heap m) (X₀ : K.In h₀) (N : News h₀ L s.heap news) (T : Top p loose mean mg mb h₀) (hA : A.frames = some (env :: outer)) (hf : env.frame = some L) (hke : env.scope.kind = .function)
    (ho : K.lookup f = some ⟨oc, od, .func (fnOf name qual params body scope dV kV doc pm an cdv ct), osl⟩) (hcd : codeIn K cdv qual = true) (hroom : A.depth < recursionLimit)
    (hbind : BindsTo s (fnOf name qual params body scope dV kV doc pm an cdv ct) args binds) (hloc : ∀ y ∈ binds, scope.names.lookup y.1 = some .local)
    (h : ∀ g L' h₁, ExtB (news.map (·.1)) s.heap g → Fr h₀ L g m → Fr g L' h₁ (fun y => binds.reverse.lookup y) → News g L' h₁ news → Below A base (env :: outer) g → K.In g → Top p loose mean mg mb g →
      wpAny (model prog w) (A.deeper (envOf qual scope L' f cdv)) (execs body (envOf qual scope L' f cdv))
        (fun fl s' => LeaveK h₀ L m g R (match fl with | .ret v => v | _ => .none) s')
        (fun e s' => wpAny (model prog w) (A.deeper (envOf qual scope L' f cdv)) (leaving (envOf qual scope L' f cdv) e) (fun _ s'' => R (.error e) s'') (fun e' s'' => R (.error e') s'') s')
        { s with heap := h₁, toks := s.toks + binds.length })
    (hco : scope.isCoroutine = false) (hgen : scope.isGenerator = false) (hk : scope.kind = .function)
    (hcell : ∀ x ∈ scope.names, x.2 ≠ .cell) : codeAny (model prog w) A (.call (.ref f) args) R s :=
  callX_ext (cl := []) B F N T.nolimit hA hf hke ((X₀.keeps F.keep) _ _ ho) rfl (codeRec_of (X₀.keeps F.keep) hcd) hroom hbind hloc (fun g L' h₁ x FG F' N' B' st => h g L' h₁ x FG F' N' B' (X₀.keeps st) (T.keeps st)) hcell hco hgen hk
end

section
variable {h₀ h h' : Heap} {L : Addr} {m : Str → Option Value} {mods : List Addr} {news led led' rest : List (Addr × Obj)}
/-- what a contract hands back, put into the caller's ledger -/
theorem ext_fr (F : Fr h₀ L h m) (x : ExtB mods h h') (hm : ∀ b ∈ mods, h₀.get? b = none ∧ b ≠ L) : Fr h₀ L h' m :=
  ⟨F.ns.at' fun o e => x L o e fun q => (hm L q).2 rfl, fun b o e => x b o (F.keep b o e) (fun q => by rw [(hm b q).1] at e; cases e), F.above⟩
theorem ext_news (N : News h₀ L h rest) (x : ExtB mods h h') (ho : ∀ p ∈ rest, p.1 ∉ mods) (N' : News h₀ L h' led') : News h₀ L h' (led' ++ rest) := fun p hp =>
  (List.mem_append.mp hp).elim (N' p) fun q => ⟨x _ _ (N p q).1 (ho p q), (N p q).2⟩
theorem ext_of {g : Heap} {L' : Addr} {m' : Str → Option Value} (x : ExtB mods h g) (F : Fr g L' h' m') : ExtB mods h h' := fun b o e hb => F.keep b o (x b o e hb)
theorem news_ne {a b : Addr} {o o' : Obj} (N : News h₀ L h news) (h1 : (a, o) ∈ news) (h2 : (b, o') ∈ news) (hc : o.cls ≠ o'.cls) : @Ne Nat a b := by
  rintro rfl
  exact hc (congrArg Obj.cls (Option.some.inj ((N _ h1).1.symm.trans (N _ h2).1)))
theorem news_ne_all {a : Addr} {o : Obj} {l : List (Addr × Obj)} (N : News h₀ L h news) (h1 : (a, o) ∈ news) (h2 : ∀ p ∈ l, p ∈ news) (hc : ∀ p ∈ l, p.2.cls ≠ o.cls) : ∀ p ∈ l, p.1 ∉ [a] := fun p hp q =>
  news_ne N (h2 p hp) h1 (hc p hp) (List.mem_singleton.mp q)
theorem news_swap {r : Addr} {o o' : Obj} {pre post : List (Addr × Obj)} (N : News h₀ L h (pre ++ (r, o) :: post)) (x : ExtB [r] h h') (N' : News h₀ L h' [(r, o')]) (h1 : ∀ p ∈ pre, p.1 ≠ r) (h2 : ∀ p ∈ post, p.1 ≠ r) : News h₀ L h' (pre ++ (r, o') :: post) := fun p hp => by
  rcases List.mem_append.mp hp with q | q
  · have z := N p (List.mem_append_left _ q)
    exact ⟨x _ _ z.1 (by simpa using h1 p q), z.2⟩
  · rcases List.mem_cons.mp q with rfl | q
    · exact N' _ (.head _)
    · have z := N p (List.mem_append_right _ (.tail _ q))
      exact ⟨x _ _ z.1 (by simpa using h2 p q), z.2⟩
theorem swap_all {P : Addr → Prop} {r : Addr} {o o' : Obj} {pre post : List (Addr × Obj)} (k : ∀ p ∈ pre ++ (r, o) :: post, P p.1) : ∀ p ∈ pre ++ (r, o') :: post, P p.1 := fun p hp => by
  rcases List.mem_append.mp hp with q | q
  · exact k p (List.mem_append_left _ q)
  · rcases List.mem_cons.mp q with rfl | q
    · exact k (r, o) (List.mem_append_right _ (.head _))
    · exact k p (List.mem_append_right _ (.tail _ q))
theorem off1_mem {D : Addr} : ∀ {l : List (Addr × Obj)}, LCg.Off1 D l → ∀ p ∈ l, @Ne Nat p.1 D
  | [], _, _, h => nomatch h
  | _ :: _, x, p, h => by
    rcases List.mem_cons.mp h with rfl | h
    · exact x.1
    · exact off1_mem x.2 p h
/-- of what a contract may turn, all but one came back as it was -/
theorem ext_one {r : Addr} (N : News h₀ L h led) (N' : News h₀ L h' led) (x : ExtB mods h h') (hm : ∀ b ∈ mods, b = r ∨ b ∈ led.map (·.1)) : ExtB [r] h h' := fun b o e hb => by
  by_cases q : b ∈ mods
  · rcases hm b q with rfl | q
    · exact absurd (List.mem_singleton.mpr rfl) hb
    · obtain ⟨p, hp, rfl⟩ := List.mem_map.mp q
      have z := (N p hp).1
      rw [e] at z
      rw [Option.some.inj z]
      exact (N' p hp).1
  · exact x b o e q
theorem ExtB.refl (mods : List Addr) (h : Heap) : ExtB mods h h := fun _ _ e _ => e
theorem ExtB.trans {h'' : Heap} {mods' : List Addr} (x : ExtB mods h h') (y : ExtB mods' h' h'') (hs : ∀ b ∈ mods', b ∈ mods ∨ h.get? b = none) : ExtB mods h h'' := fun b o e hb =>
  y b o (x b o e hb) fun q => (hs b q).elim hb fun z => by rw [z] at e; cases e
end

section
variable {prog : Program} {w : World} {A : Around} {E : Value → Shared → Prop} {s : Shared} {env : Env} {h₀ : Heap} {x : Str} {body : List Stmt} {Q : Flow → Shared → Prop}

noncomputable def LoopG (prog : Program) (w : World) (A : Around) (env : Env) (x : Str) (body : List Stmt) (Q : Flow → Shared → Prop) (it : Value) (s₂ : Shared) : Prop :=
  ∀ px, codeAny (model prog w) A (.forLoop (.Name x px) it body [] env) (fun r s' => match r with | .ok f => Q f s' | .error _ => False) s₂
theorem For_G {px pos : Pos} {iter : Expr} (h : wpAny (model prog w) A (eval iter env) (fun xv s₁ => wpAny (model prog w) A (pyIter xv) (fun it s₂ => LoopG prog w A env x body Q it s₂) E s₁) E s)
    (hs : ∀ x, foldedSetIterable iter env x = pure x := by intro _; rfl) : wpAny (model prog w) A (exec (.For (.Name x px) iter body [] pos) env) Q E s :=
  wpAny_For (wpAny_mono h (fun xv s₁ h₁ => wpAny_mono h₁ (fun it s₂ h₂ => codeAny_mono (h₂ px) fun r s' hr => by cases r with | ok f => exact hr | error e => exact hr.elim) fun _ _ e => e) fun _ _ e => e) hs

/-- a turn's end: the iterator stands, what is iterated stands, the word holds -/
noncomputable def StepG (h₀ : Heap) (L I : Addr) (oI : Obj) (keep : List (Addr × Obj)) (Jn : (Str → Option Value) → List (Addr × Obj) → Array GenState → Prop) (s : Shared) (Q : Flow → Shared → Prop) (f : Flow) (s₂ : Shared) : Prop :=
  match f with
  | .ret v => Q (.ret v) s₂
  | .brk => Q .next s₂
  | _ => ∃ h' tk g m' news', s₂ = { s with heap := h', toks := tk, gens := g } ∧ Fr h₀ L h' m' ∧ News h₀ L h' ((I, oI) :: news') ∧ (∀ p ∈ news', p.1 ≠ I) ∧ (∀ p ∈ keep, p ∈ news') ∧ Jn m' news' g

theorem loop_G {I : Addr} {fp : List Addr} {n : Nat} {P : Nat → Value → Prop} {St : Nat → Heap → Prop} {m : Str → Option Value} {news keep : List (Addr × Obj)} (W : Walks prog w A I fp [I] n P St)
    (hx : env.kindOf x = some .local) (hp : (env.scope.kind == .class || (env.scope.kind == .module && env.locals != env.globals)) = false)
    (hLf : env.locals ∉ fp) (hI : h₀.get? I = none) (hfp : ∀ b ∈ fp, b = I ∨ ∃ p ∈ keep, p.1 = b) (hnw : ∀ p ∈ news, p.1 ≠ I) (hkn : ∀ p ∈ keep, p ∈ news)
    (hIo : ∀ i h, St i h → ∃ o, h.get? I = some o)
    (hst : St 0 s.heap) (F : Fr h₀ env.locals s.heap m) (N : News h₀ env.locals s.heap news)
    (J : Nat → (Str → Option Value) → List (Addr × Obj) → Array GenState → Prop) (h0 : J 0 m news s.gens)
    (turn : ∀ i v oI m₁ news₁ h tk g (E' : Value → Shared → Prop), i < n → P i v → J i m₁ news₁ g → (∀ p ∈ keep, p ∈ news₁) → (∀ p ∈ news₁, p.1 ≠ I) → Fr h₀ env.locals h (fun y => if y = x then some v else m₁ y) → News h₀ env.locals h ((I, oI) :: news₁) →
      wpAny (model prog w) A (execs body env) (StepG h₀ env.locals I oI keep (J (i + 1)) s Q) E' { s with heap := h, toks := tk, gens := g })
    (done : ∀ m₁ news₁ h tk g, J n m₁ news₁ g → (∀ p ∈ keep, p ∈ news₁) → Fr h₀ env.locals h m₁ → News h₀ env.locals h news₁ → Q .next { s with heap := h, toks := tk, gens := g }) :
    LoopG prog w A env x body Q (.ref I) s := by
  intro px
  have hIf : I ∈ fp := W.sub I (List.mem_singleton.mpr rfl)
  have hLI : env.locals ≠ I := fun q => hLf (q ▸ hIf)
  refine codeAny_forLoop
    (fun k s' => ∃ h' tk g m' news' i, s' = { s with heap := h', toks := tk, gens := g } ∧ St i h' ∧ Fr h₀ env.locals h' m' ∧ News h₀ env.locals h' news' ∧ (∀ p ∈ news', p.1 ≠ I) ∧ (∀ p ∈ keep, p ∈ news') ∧ J i m' news' g ∧ i ≤ n ∧ k = n + 1 - i) ?_ (n + 1)
    ⟨s.heap, s.toks, s.gens, m, news, 0, rfl, hst, F, N, hnw, hkn, h0, Nat.zero_le _, rfl⟩
  rintro k s' ⟨h', tk, g, m', news', i, rfl, hst', F', N', hnw', hkn', hJ, hi, rfl⟩
  have next : ∀ h₁ : Heap, (∀ b o, b ∉ [I] → h'.get? b = some o → h₁.get? b = some o) → Fr h₀ env.locals h₁ m' ∧ News h₀ env.locals h₁ news' := fun h₁ hk₁ =>
    ⟨⟨F'.ns.at' fun o e => hk₁ _ o (by simpa using hLI) e, fun b o e => hk₁ b o (fun q => by rw [List.mem_singleton.mp q, hI] at e; cases e) (F'.keep b o e), F'.above⟩, fun p hp => ⟨hk₁ _ _ (by simpa using hnw' p hp) (N' p hp).1, (N' p hp).2⟩⟩
  by_cases hlt : i < n
  · refine W.item i _ _ _ hlt hst' fun v h₁ tk₁ hP hst₁ hk₁ => ?_
    obtain ⟨F₁, N₁⟩ := next h₁ hk₁
    refine wpAny_assign_Name (wpAny_storeName_local hx F₁.ns (fun h₂ hn₂ hs₂ => ?_) hp)
    have F₂ := F₁.set hn₂ hs₂
    have hst₂ : St (i + 1) h₂ := W.frame _ _ _ hst₁ fun b hb o e => (hs₂.2 b fun q => hLf (q ▸ hb)).trans e
    obtain ⟨oI, hoI⟩ := hIo _ _ hst₂
    have N₂ : News h₀ env.locals h₂ ((I, oI) :: news') := fun p hp => by
      rcases List.mem_cons.mp hp with rfl | hp
      · exact ⟨hoI, Ne.symm hLI, hI⟩
      · exact N₁.set hs₂ p hp
    have fin : ∀ s₃, (∃ h' tk g' m' news', s₃ = { s with heap := h', toks := tk, gens := g' } ∧ Fr h₀ env.locals h' m' ∧ News h₀ env.locals h' ((I, oI) :: news') ∧ (∀ p ∈ news', p.1 ≠ I) ∧ (∀ p ∈ keep, p ∈ news') ∧ J (i + 1) m' news' g') →
        ∃ m, m < n + 1 - i ∧ ∃ h' tk g m' news' i', s₃ = { s with heap := h', toks := tk, gens := g } ∧ St i' h' ∧ Fr h₀ env.locals h' m' ∧ News h₀ env.locals h' news' ∧ (∀ p ∈ news', p.1 ≠ I) ∧ (∀ p ∈ keep, p ∈ news') ∧ J i' m' news' g ∧ i' ≤ n ∧ m = n + 1 - i' := by
      rintro s₃ ⟨h₃, tk₃, g₃, m₃, news₃, rfl, F₃, N₃, hnw₃, hkn₃, hJ₃⟩
      refine ⟨n + 1 - (i + 1), by omega, h₃, tk₃, g₃, m₃, news₃, i + 1, rfl, ?_, F₃, fun p hp => N₃ p (List.mem_cons_of_mem _ hp), hnw₃, hkn₃, hJ₃, hlt, rfl⟩
      refine W.frame _ _ _ hst₂ fun b hb o e => ?_
      rcases hfp b hb with rfl | ⟨p, hp, rfl⟩
      · rw [hoI] at e; cases e; exact (N₃ _ (List.mem_cons_self ..)).1
      · have z := (N₂ p (List.mem_cons_of_mem _ (hkn' p hp))).1
        rw [z] at e; cases e
        exact (N₃ p (List.mem_cons_of_mem _ (hkn₃ p hp))).1
    refine wpAny_mono (turn i v oI m' news' h₂ _ g _ hlt hP hJ hkn' hnw' F₂ N₂) (fun f s₃ h₃ => ?_) fun _ _ e => e
    cases f with
    | ret v => exact h₃
    | brk => exact h₃
    | cont => exact fin s₃ h₃
    | next => exact fin s₃ h₃
  · have hin : i = n := by omega
    subst hin
    refine W.done _ _ _ hst' fun h₁ tk₁ hk₁ => wpAny_execs_nil ?_
    obtain ⟨F₁, N₁⟩ := next h₁ hk₁
    exact done m' news' h₁ tk₁ g hJ hkn' F₁ N₁

theorem iter_list_G {ax : Addr} {lo : Obj} {vs : List Value} {n : Nat} {m₀ : Str → Option Value} {news : List (Addr × Obj)} (J : Nat → (Str → Option Value) → List (Addr × Obj) → Array GenState → Prop)
    (hh : A.handled = none) (hx : env.kindOf x = some .local) (hp : (env.scope.kind == .class || (env.scope.kind == .module && env.locals != env.globals)) = false)
    (F : Fr h₀ env.locals s.heap m₀) (N : News h₀ env.locals s.heap news) (hm : (ax, lo) ∈ news) (hc : lo.cls = .type "list") (hd : lo.data = .seq vs.toArray n) (h0 : J 0 m₀ news s.gens)
    (turn : ∀ i v I oI m₁ news₁ h tk g (E' : Value → Shared → Prop), vs[i]? = some v → (∀ p ∈ news, p.1 < I) → J i m₁ news₁ g → (ax, lo) ∈ news₁ → (∀ p ∈ news₁, p.1 ≠ I) → Fr h₀ env.locals h (fun y => if y = x then some v else m₁ y) → News h₀ env.locals h ((I, oI) :: news₁) →
      wpAny (model prog w) A (execs body env) (StepG h₀ env.locals I oI [(ax, lo)] (J (i + 1)) s Q) E' { s with heap := h, toks := tk, gens := g })
    (done : ∀ m₁ news₁ h tk g, J vs.length m₁ news₁ g → (ax, lo) ∈ news₁ → Fr h₀ env.locals h m₁ → News h₀ env.locals h news₁ → Q .next { s with heap := h, toks := tk, gens := g }) :
    wpAny (model prog w) A (pyIter (.ref ax)) (fun it s₂ => LoopG prog w A env x body Q it s₂) E s := by
  have hax := N _ hm
  have hl : s.heap.IsList ax vs.toArray := ⟨lo, hax.1, hc, n, hd⟩
  have hlt : ax < s.heap.objs.size := Heap.lt_size hax.1
  have hne : ax ≠ s.heap.objs.size := Nat.ne_of_lt hlt
  refine wpAny_pyIter_list hl ?_
  have W := Walks.list (prog := prog) (w := w) hh s.heap.objs.size ax hne vs.toArray
  have hlen : vs.toArray.size = vs.length := by simp
  rw [hlen] at W
  refine loop_G (s := { s with heap := _ }) (h₀ := h₀) (keep := [(ax, lo)]) W hx hp ?_ (next_is_new F) ?_ (fun p hp => Nat.ne_of_lt (Heap.lt_size (N p hp).1)) (fun p hp => by rw [List.mem_singleton.mp hp]; exact hm) (fun i h st => let ⟨o, ho, _⟩ := st.1; ⟨o, ho⟩)
    ⟨⟨_, Heap.get?_push_size _ rfl, rfl, rfl⟩, hl.at fun o e => Heap.get?_push_of_some _ e⟩ (F.push _) (fun p hp => ⟨Heap.get?_push_of_some _ (N p hp).1, (N p hp).2⟩) J h0 ?_ ?_
  · intro hmm
    rcases List.mem_cons.mp hmm with e | hmm
    · exact absurd F.ns.lt (e ▸ Nat.lt_irrefl _)
    · exact hax.2.1 (List.mem_singleton.mp hmm).symm
  · intro b hb
    rcases List.mem_cons.mp hb with rfl | hb
    · exact .inl rfl
    · exact .inr ⟨_, List.mem_singleton.mpr rfl, (List.mem_singleton.mp hb).symm⟩
  · intro i v oI m₁ news₁ h tk g E' _ hP hJ hk hn F₁ N₁
    exact turn i v _ oI m₁ news₁ h tk g E' (by simpa using hP) (fun p hp => Heap.lt_size (N p hp).1) hJ (hk _ (List.mem_singleton.mpr rfl)) hn F₁ N₁
  · intro m₁ news₁ h tk g hJ hk F₁ N₁
    exact done m₁ news₁ h tk g hJ (hk _ (List.mem_singleton.mpr rfl)) F₁ N₁

theorem iter_tup_G {ax : Addr} {lo : Obj} {vs : List Value} {n : Nat} {m₀ : Str → Option Value} {news : List (Addr × Obj)} (J : Nat → (Str → Option Value) → List (Addr × Obj) → Array GenState → Prop)
    (hh : A.handled = none) (hx : env.kindOf x = some .local) (hp : (env.scope.kind == .class || (env.scope.kind == .module && env.locals != env.globals)) = false)
    (F : Fr h₀ env.locals s.heap m₀) (N : News h₀ env.locals s.heap news) (hm : (ax, lo) ∈ news) (hc : lo.cls = .type "tuple") (hd : lo.data = .seq vs.toArray n) (h0 : J 0 m₀ news s.gens)
    (turn : ∀ i v I oI m₁ news₁ h tk g (E' : Value → Shared → Prop), vs[i]? = some v → (∀ p ∈ news, p.1 < I) → J i m₁ news₁ g → (ax, lo) ∈ news₁ → (∀ p ∈ news₁, p.1 ≠ I) → Fr h₀ env.locals h (fun y => if y = x then some v else m₁ y) → News h₀ env.locals h ((I, oI) :: news₁) →
      wpAny (model prog w) A (execs body env) (StepG h₀ env.locals I oI [(ax, lo)] (J (i + 1)) s Q) E' { s with heap := h, toks := tk, gens := g })
    (done : ∀ m₁ news₁ h tk g, J vs.length m₁ news₁ g → (ax, lo) ∈ news₁ → Fr h₀ env.locals h m₁ → News h₀ env.locals h news₁ → Q .next { s with heap := h, toks := tk, gens := g }) :
    wpAny (model prog w) A (pyIter (.ref ax)) (fun it s₂ => LoopG prog w A env x body Q it s₂) E s := by
  have hax := N _ hm
  have hl : s.heap.IsTuple ax vs.toArray := ⟨lo, hax.1, hc, n, hd⟩
  have hlt : ax < s.heap.objs.size := Heap.lt_size hax.1
  have hne : ax ≠ s.heap.objs.size := Nat.ne_of_lt hlt
  refine wpAny_pyIter_tuple hl ?_
  have W := Walks.tuple (prog := prog) (w := w) hh s.heap.objs.size ax hne vs.toArray
  have hlen : vs.toArray.size = vs.length := by simp
  rw [hlen] at W
  refine loop_G (s := { s with heap := _ }) (h₀ := h₀) (keep := [(ax, lo)]) W hx hp ?_ (next_is_new F) ?_ (fun p hp => Nat.ne_of_lt (Heap.lt_size (N p hp).1)) (fun p hp => by rw [List.mem_singleton.mp hp]; exact hm) (fun i h st => let ⟨o, ho, _⟩ := st.1; ⟨o, ho⟩)
    ⟨⟨_, Heap.get?_push_size _ rfl, rfl, rfl⟩, hl.at fun o e => Heap.get?_push_of_some _ e⟩ (F.push _) (fun p hp => ⟨Heap.get?_push_of_some _ (N p hp).1, (N p hp).2⟩) J h0 ?_ ?_
  · intro hmm
    rcases List.mem_cons.mp hmm with e | hmm
    · exact absurd F.ns.lt (e ▸ Nat.lt_irrefl _)
    · exact hax.2.1 (List.mem_singleton.mp hmm).symm
  · intro b hb
    rcases List.mem_cons.mp hb with rfl | hb
    · exact .inl rfl
    · exact .inr ⟨_, List.mem_singleton.mpr rfl, (List.mem_singleton.mp hb).symm⟩
  · intro i v oI m₁ news₁ h tk g E' _ hP hJ hk hn F₁ N₁
    exact turn i v _ oI m₁ news₁ h tk g E' (by simpa using hP) (fun p hp => Heap.lt_size (N p hp).1) hJ (hk _ (List.mem_singleton.mpr rfl)) hn F₁ N₁
  · intro m₁ news₁ h tk g hJ hk F₁ N₁
    exact done m₁ news₁ h tk g hJ (hk _ (List.mem_singleton.mpr rfl)) F₁ N₁

theorem iter_range_G {r : Addr} {a₀ b₀ : Int} {t₀ u₀ v₀ : Tok} {n : Nat} {m₀ : Str → Option Value} {news : List (Addr × Obj)} (J : Nat → (Str → Option Value) → List (Addr × Obj) → Array GenState → Prop)
    (hh : A.handled = none) (hx : env.kindOf x = some .local) (hp : (env.scope.kind == .class || (env.scope.kind == .module && env.locals != env.globals)) = false)
    (hr : IsRange s.heap r a₀ b₀ 1 t₀ u₀ v₀) (hsmall : Builtin.Range.small a₀ b₀ 1 = true) (hn : Builtin.Range.rangeSize a₀ b₀ 1 = (n : Int)) (F : Fr h₀ env.locals s.heap m₀) (N : News h₀ env.locals s.heap news) (h0 : J 0 m₀ news s.gens)
    (turn : ∀ i t I oI m₁ news₁ h tk g (E' : Value → Shared → Prop), i < n → (∀ p ∈ news, p.1 < I) → J i m₁ news₁ g → (∀ p ∈ news₁, p.1 ≠ I) → Fr h₀ env.locals h (fun y => if y = x then some (.int (a₀ + (i : Int)) t) else m₁ y) → News h₀ env.locals h ((I, oI) :: news₁) →
      wpAny (model prog w) A (execs body env) (StepG h₀ env.locals I oI [] (J (i + 1)) s Q) E' { s with heap := h, toks := tk, gens := g })
    (done : ∀ m₁ news₁ h tk g, J n m₁ news₁ g → Fr h₀ env.locals h m₁ → News h₀ env.locals h news₁ → Q .next { s with heap := h, toks := tk, gens := g }) :
    wpAny (model prog w) A (pyIter (.ref r)) (fun it s₂ => LoopG prog w A env x body Q it s₂) E s := by
  refine wpAny_pyIter_range hr hsmall ?_
  have W := Walks.range (prog := prog) (w := w) hh s.heap.objs.size a₀ 1 n
  refine loop_G (s := { s with heap := _ }) (h₀ := h₀) (keep := []) W hx hp ?_ (next_is_new F) ?_ (fun p hp => Nat.ne_of_lt (Heap.lt_size (N p hp).1)) (fun p hp => nomatch hp) (fun i h st => ⟨_, st⟩)
    (by show IsRangeIter _ _ _ _ _; rw [hn]; simpa using Heap.get?_push_size _ rfl) (F.push _) (fun p hp => ⟨Heap.get?_push_of_some _ (N p hp).1, (N p hp).2⟩) J h0 ?_ ?_
  · intro hm
    exact absurd F.ns.lt ((List.mem_singleton.mp hm) ▸ Nat.lt_irrefl _)
  · intro b hb
    exact .inl (List.mem_singleton.mp hb)
  · intro i v oI m₁ news₁ h tk g E' hi hP hJ hk hn F₁ N₁
    obtain ⟨t, rfl⟩ := hP
    rw [Int.mul_one] at F₁
    exact turn i t _ oI m₁ news₁ h tk g E' hi (fun p hp => Heap.lt_size (N p hp).1) hJ hn F₁ N₁
  · intro m₁ news₁ h tk g hJ hk F₁ N₁
    exact done m₁ news₁ h tk g hJ F₁ N₁

theorem iter_list_one {ax : Addr} {lo : Obj} {v : Value} {n : Nat} {m₀ : Str → Option Value} {news : List (Addr × Obj)}
    (hh : A.handled = none) (hx : env.kindOf x = some .local) (hp : (env.scope.kind == .class || (env.scope.kind == .module && env.locals != env.globals)) = false)
    (F : Fr h₀ env.locals s.heap m₀) (N : News h₀ env.locals s.heap news) (hm : (ax, lo) ∈ news) (hc : lo.cls = .type "list") (hd : lo.data = .seq [v].toArray n)
    (turn : ∀ I oI h tk (E' : Value → Shared → Prop), (∀ p ∈ news, p.1 < I) → Fr h₀ env.locals h (fun y => if y = x then some v else m₀ y) → News h₀ env.locals h ((I, oI) :: news) →
      wpAny (model prog w) A (execs body env) (StepG h₀ env.locals I oI [(ax, lo)] (fun m' n' g => ∀ h tk, Fr h₀ env.locals h m' → News h₀ env.locals h n' → Q .next { s with heap := h, toks := tk, gens := g }) s Q) E' { s with heap := h, toks := tk }) :
    wpAny (model prog w) A (pyIter (.ref ax)) (fun it s₂ => LoopG prog w A env x body Q it s₂) E s := by
  refine iter_list_G (vs := [v]) (fun i m₁ n₁ g => (i = 0 → m₁ = m₀ ∧ n₁ = news ∧ g = s.gens) ∧ (i ≠ 0 → ∀ h tk, Fr h₀ env.locals h m₁ → News h₀ env.locals h n₁ → Q .next { s with heap := h, toks := tk, gens := g })) hh hx hp F N hm hc hd ⟨fun _ => ⟨rfl, rfl, rfl⟩, fun h => absurd rfl h⟩ ?_ ?_
  · intro i v' I oI m₁ news₁ h tk g E' hv hlt hJ _ _ F₁ N₁
    have hi : i = 0 := by
      have := (List.getElem?_eq_some_iff.mp hv).1
      simpa using this
    subst hi
    obtain ⟨rfl, rfl, rfl⟩ := hJ.1 rfl
    cases hv
    refine wpAny_mono (turn I oI h tk E' hlt F₁ N₁) (fun f s₂ q => ?_) fun _ _ e => e
    cases f with
    | ret v => exact q
    | brk => exact q
    | next => obtain ⟨h', tk', g', m', n', e, F', N', o, k, j⟩ := q; exact ⟨h', tk', g', m', n', e, F', N', o, k, fun z => absurd z (Nat.succ_ne_zero _), fun _ => j⟩
    | cont => obtain ⟨h', tk', g', m', n', e, F', N', o, k, j⟩ := q; exact ⟨h', tk', g', m', n', e, F', N', o, k, fun z => absurd z (Nat.succ_ne_zero _), fun _ => j⟩
  · intro m₁ n₁ h tk g hJ _ F₁ N₁
    exact hJ.2 (by simp) h tk F₁ N₁

theorem iter_tup_one {ax : Addr} {lo : Obj} {v : Value} {n : Nat} {m₀ : Str → Option Value} {news : List (Addr × Obj)}
    (hh : A.handled = none) (hx : env.kindOf x = some .local) (hp : (env.scope.kind == .class || (env.scope.kind == .module && env.locals != env.globals)) = false)
    (F : Fr h₀ env.locals s.heap m₀) (N : News h₀ env.locals s.heap news) (hm : (ax, lo) ∈ news) (hc : lo.cls = .type "tuple") (hd : lo.data = .seq [v].toArray n)
    (turn : ∀ I oI h tk (E' : Value → Shared → Prop), (∀ p ∈ news, p.1 < I) → Fr h₀ env.locals h (fun y => if y = x then some v else m₀ y) → News h₀ env.locals h ((I, oI) :: news) →
      wpAny (model prog w) A (execs body env) (StepG h₀ env.locals I oI [(ax, lo)] (fun m' n' g => ∀ h tk, Fr h₀ env.locals h m' → News h₀ env.locals h n' → Q .next { s with heap := h, toks := tk, gens := g }) s Q) E' { s with heap := h, toks := tk }) :
    wpAny (model prog w) A (pyIter (.ref ax)) (fun it s₂ => LoopG prog w A env x body Q it s₂) E s := by
  refine iter_tup_G (vs := [v]) (fun i m₁ n₁ g => (i = 0 → m₁ = m₀ ∧ n₁ = news ∧ g = s.gens) ∧ (i ≠ 0 → ∀ h tk, Fr h₀ env.locals h m₁ → News h₀ env.locals h n₁ → Q .next { s with heap := h, toks := tk, gens := g })) hh hx hp F N hm hc hd ⟨fun _ => ⟨rfl, rfl, rfl⟩, fun h => absurd rfl h⟩ ?_ ?_
  · intro i v' I oI m₁ news₁ h tk g E' hv hlt hJ _ _ F₁ N₁
    have hi : i = 0 := by
      have := (List.getElem?_eq_some_iff.mp hv).1
      simpa using this
    subst hi
    obtain ⟨rfl, rfl, rfl⟩ := hJ.1 rfl
    cases hv
    refine wpAny_mono (turn I oI h tk E' hlt F₁ N₁) (fun f s₂ q => ?_) fun _ _ e => e
    cases f with
    | ret v => exact q
    | brk => exact q
    | next => obtain ⟨h', tk', g', m', n', e, F', N', o, k, j⟩ := q; exact ⟨h', tk', g', m', n', e, F', N', o, k, fun z => absurd z (Nat.succ_ne_zero _), fun _ => j⟩
    | cont => obtain ⟨h', tk', g', m', n', e, F', N', o, k, j⟩ := q; exact ⟨h', tk', g', m', n', e, F', N', o, k, fun z => absurd z (Nat.succ_ne_zero _), fun _ => j⟩
  · intro m₁ n₁ h tk g hJ _ F₁ N₁
    exact hJ.2 (by simp) h tk F₁ N₁
end
section
variable {prog : Program} {w : World} {A₀ A : Around} {s : Shared} {base h₀ : Heap} {outer : List Env} {L : Addr} {m mg mb : Str → Option Value} {env : Env} {news : List (Addr × Obj)} {K : Frag} {p : Program} {loose : List Str} {mean : ExcName → Option Value}
  {R : Result → Shared → Prop} {name qual : Str} {params : Arguments} {body : List Stmt} {scope : Scope} {dV kV doc pm cdv ct oc : Value} {an od : Option Addr} {osl : Array (Option Value)} {fo : Obj} {f : Addr} {args : Args} {binds : List (Str × Value)}

theorem callX_cells_ext (B : Below A₀ base outer h₀) (F : Fr h₀ L s.heap m) (N : News h₀ L s.heap news) (hlim : h₀.NoLimit) (hA : A.frames = some (env :: outer)) (hf : env.frame = some L) (hke : env.scope.kind = .function)
    (ho : s.heap.get? f = some fo) (hd : fo.data = .func (fnX name qual params body scope [] dV kV doc pm an cdv ct)) (hcd : s.heap.CodeRec cdv qual) (hroom : A.depth < recursionLimit)
    (hbind : BindsTo s (fnX name qual params body scope [] dV kV doc pm an cdv ct) args binds)
    (hkind : ∀ n, ∀ x ∈ binds, scope.names.lookup x.1 = some .local ∨ (scope.names.lookup x.1 = some .cell ∧ ((cellsFrom n scope.names []).lookup x.1).isSome = true))
    (hnd : ((cellsFrom 0 scope.names []).map (·.1)).Nodup)
    (h : ∀ g L' h₁ tk cells, ExtB (news.map (·.1)) s.heap g → Fr h₀ L g m → Fr g L' h₁ (bindL (envOfC qual scope L' f cdv).kindOf binds fun _ => none) → News g L' h₁ (cells ++ news) →
      CellsAre (bindC (envOfC qual scope L' f cdv).kindOf binds fun _ => none) (cellsFrom (L' + 1) scope.names []) cells → Below A base (env :: outer) g → h₀.StaysIn g → (∀ p ∈ news, p.1 < L') →
      wpAny (model prog w) (A.deeper (envOfC qual scope L' f cdv)) (execs body (envOfC qual scope L' f cdv))
        (fun fl s' => LeaveK h₀ L m g R (match fl with | .ret v => v | _ => .none) s')
        (fun e s' => wpAny (model prog w) (A.deeper (envOfC qual scope L' f cdv)) (leaving (envOfC qual scope L' f cdv) e) (fun _ s'' => R (.error e) s'') (fun e' s'' => R (.error e') s'') s')
        { s with heap := h₁, toks := tk })
    (hco : scope.isCoroutine = false := by rfl) (hgen : scope.isGenerator = false := by rfl) (hk : scope.kind = .function := by rfl) : codeAny (model prog w) A (.call (.ref f) args) R s := by
  obtain ⟨FG, BG, st, lv⟩ := groundX (R := R) B F N hA hf hke
  refine codeAny_call_function hroom ho hd hco hgen rfl hcd (hbind _ _ _ _ ?_)
  refine wpAny_newFunctionEnv_cells hk (hkind _) fun env' he s' x => ?_
  subst he
  refine ⟨(hlim.keeps F.keep).keeps x.toInCall.keep, codeAny_func ?_⟩
  obtain ⟨h₁, tk, rfl, _⟩ := x.done
  have hk₁ := x.toInCall.keep
  obtain ⟨cells, NC, Y⟩ := Cl.news (h₀ := s.heap) (Nat.le_refl _) fun n c hm => ⟨x.cell n c (lookup_of_mem_nodup (cellsFrom_names scope.names 0 (s.heap.objs.size + 1) [] [] rfl ▸ hnd) hm), x.above n c hm⟩
  refine wpAny_mono (h _ s.heap.objs.size h₁ tk cells (fun b o e hb => hideAll_get _ e hb) FG ⟨x.toInCall.ns, fun b o e => hk₁ b o (of_hideAll _ e), Nat.le_of_eq (hideAll_size _ _)⟩ (fun p hp => ?_) Y BG st (fun p hp => Heap.lt_size (N p hp).1)) (fun fl s' hl => lv _ _ hl) fun _ _ y => y
  rcases List.mem_append.mp hp with hp | hp
  · refine ⟨(NC p hp).1, (NC p hp).2.1, ?_⟩
    cases q : (hideAll s.heap (news.map (·.1))).get? p.1 with
    | none => rfl
    | some o => have := of_hideAll _ q; rw [(NC p hp).2.2] at this; cases this
  · exact ⟨hk₁ _ _ (N p hp).1, Nat.ne_of_lt (Heap.lt_size (N p hp).1), hideAll_none _ (List.mem_map_of_mem hp)⟩

theorem code_extC (B : Below A₀ base outer h₀) (F : Fr h₀ L s.heap m) (X₀ : K.In h₀) (N : News h₀ L s.heap news) (T : Top p loose mean mg mb h₀) (hA : A.frames = some (env :: outer)) (hf : env.frame = some L) (hke : env.scope.kind = .function)
    (ho : K.lookup f = some ⟨oc, od, .func (fnOf name qual params body scope dV kV doc pm an cdv ct), osl⟩) (hcd : codeIn K cdv qual = true) (hroom : A.depth < recursionLimit)
    (hbind : BindsTo s (fnOf name qual params body scope dV kV doc pm an cdv ct) args binds) (hkind : (binds.all fun y => scope.names.lookup y.1 == some .local || scope.names.lookup y.1 == some .cell) = true)
    (hnd : ((cellsFrom 0 scope.names []).map (·.1)).Nodup)
    (h : ∀ g L' h₁ tk cells, ExtB (news.map (·.1)) s.heap g → Fr h₀ L g m → Fr g L' h₁ (bindL (envOfC qual scope L' f cdv).kindOf binds fun _ => none) → News g L' h₁ (cells ++ news) →
      CellsAre (bindC (envOfC qual scope L' f cdv).kindOf binds fun _ => none) (cellsFrom (L' + 1) scope.names []) cells → Below A base (env :: outer) g → K.In g → Top p loose mean mg mb g → (∀ p ∈ news, p.1 < L') →
      wpAny (model prog w) (A.deeper (envOfC qual scope L' f cdv)) (execs body (envOfC qual scope L' f cdv))
        (fun fl s' => LeaveK h₀ L m g R (match fl with | .ret v => v | _ => .none) s')
        (fun e s' => wpAny (model prog w) (A.deeper (envOfC qual scope L' f cdv)) (leaving (envOfC qual scope L' f cdv) e) (fun _ s'' => R (.error e) s'') (fun e' s'' => R (.error e') s'') s')
        { s with heap := h₁, toks := tk })
    (hco : scope.isCoroutine = false) (hgen : scope.isGenerator = false) (hk : scope.kind = .function) : codeAny (model prog w) A (.call (.ref f) args) R s :=
  callX_cells_ext B F N T.nolimit hA hf hke ((X₀.keeps F.keep) _ _ ho) rfl (codeRec_of (X₀.keeps F.keep) hcd) hroom hbind (kindsX hkind) hnd (fun g L' h₁ tk cells x FG F' N' Y B' st l => h g L' h₁ tk cells x FG F' N' Y B' (X₀.keeps st) (T.keeps st) l) hco hgen hk
end
section
open PySem.F
variable {prog : Program} {w : World} {A : Around} {E : Value → Shared → Prop} {s : Shared} {h₀ : Heap} {L : Addr} {m : Str → Option Value} {news : List (Addr × Obj)} {Q : Value → Shared → Prop}
theorem getItem_range_slice {r sl : Addr} {b k : Int} {t u v tk : Tok} (hr : IsRange s.heap r 0 b 1 t u v) (hs : s.heap.get? sl = some { cls := .type "slice", data := .fields #[.int k tk, .none, .none] }) (hk : 0 ≤ k) (hb : 0 ≤ b) (hb2 : b < 2 ^ 30)
    (h : ∀ t' u' v', Q (.ref s.heap.objs.size) { s with heap := s.heap.push { cls := .type "range", data := .fields #[.int (min k b) t', .int b u', .int 1 v'] }, toks := s.toks + 1 + 1 + 1 }) :
    wpAny (model prog w) A (getItem (.ref r) (.ref sl)) Q E s := by
  have hT : s.TypeIs (.ref r) "range" := ⟨_, hr, rfl⟩
  have hTs : s.TypeIs (.ref sl) "slice" := ⟨_, hs, rfl⟩
  unfold getItem
  refine wpAny_holding ?_
  refine wpAny_bind (wpAny_sequenceKey hT (by decide) ?_)
  refine wpAny_bind (wpAny_callSpecial?_slot (name := Str.ofString "__getitem__") hT slot_range_getitem
    (wpAny_call_entry slot_range_getitem hT entry_range_getitem ?_ (args_range_getitem_2 _ _)))
  unfold Builtin.«range.__getitem__»
  refine wpAny_bind (m := slotArgs "__getitem__" 1 _) (wpAny_of_eq (a := (Value.ref r, [Value.ref sl])) (by first | rfl | kernel_rfl) ?_)
  dsimp only
  refine wpAny_bind (m := Builtin.Range.rangeFields (.ref r)) ?_
  unfold Builtin.Range.rangeFields
  refine wpAny_bind (wpAny_field hr rfl (x := .int 0 t) rfl (wpAny_bind (wpAny_of_eq (a := some (0 : Int)) rfl ?_)))
  refine wpAny_bind (wpAny_field hr rfl (x := .int b u) rfl (wpAny_bind (wpAny_of_eq (a := some b) rfl ?_)))
  refine wpAny_bind (wpAny_field hr rfl (x := .int 1 v) rfl (wpAny_bind (wpAny_of_eq (a := some (1 : Int)) rfl ?_)))
  refine wpAny_pure ?_
  dsimp only
  refine wpAny_bind (wpAny_typeOf hTs ?_)
  rw [if_pos (by decide)]
  refine wpAny_bind (m := Builtin.Slice.sliceFields (.ref sl)) ?_
  unfold Builtin.Slice.sliceFields
  refine wpAny_bind (wpAny_field hs rfl (x := .int k tk) rfl ?_)
  refine wpAny_bind (wpAny_field hs rfl (x := .none) rfl ?_)
  refine wpAny_bind (wpAny_field hs rfl (x := .none) rfl ?_)
  refine wpAny_pure ?_
  dsimp only
  refine wpAny_bind (slicePart_none ?_)
  rw [if_neg (by decide)]
  refine wpAny_bind (slicePart_int ?_)
  refine wpAny_bind (slicePart_none ?_)
  have hsz : Builtin.Range.rangeSize 0 b 1 = b := by
    unfold Builtin.Range.rangeSize
    simp only [show (1 : Int) > 0 by decide, if_true]
    by_cases q : (0 : Int) < b
    · rw [if_pos q]; omega
    · rw [if_neg q]; omega
  have hadj : Builtin.Slice.sliceAdjust (some k) none 1 b = (min k b, b) := by
    unfold Builtin.Slice.sliceAdjust
    simp only [show ¬ ((1 : Int) < 0) by decide, if_false, show ¬ (k < 0) by omega]
  simp only [hsz, Option.getD_none, hadj]
  have room : ∀ x : Int, 0 ≤ x → x < 2 ^ 30 → ¬ (x.natAbs.log2 ≥ bitsLine) := fun x h1 h2 => by
    have : x.natAbs < 2 ^ 30 := by omega
    by_cases q : x.natAbs = 0
    · rw [q]; unfold bitsLine; decide +kernel
    · have := (Nat.log2_lt q).mpr this
      unfold bitsLine
      omega
  have grown : ∀ (x : Int) (Q' : Value → Shared → Prop) (s' : Shared), 0 ≤ x → x < 2 ^ 30 → Q' (.int x s'.toks) { s' with toks := s'.toks + 1 } → wpAny (model prog w) A.in1 (mkIntGrown x) Q' E s' := fun x Q' s' h1 h2 q => by
    unfold mkIntGrown
    rw [if_neg (room x h1 h2)]
    exact wpAny_mkInt q
  simp only [Int.mul_one, Int.zero_add]
  refine wpAny_bind ?_
  unfold Builtin.roomForPylong
  rw [PyProof.noPylong_small (by decide)]
  refine wpAny_pure ?_
  refine wpAny_bind (grown _ _ _ (by omega) (by omega) ?_)
  refine wpAny_bind (grown _ _ _ (by omega) (by omega) ?_)
  refine wpAny_bind (grown _ _ _ (by omega) (by omega) ?_)
  exact wpAny_bind (wpAny_newObj_type (wpAny_pure ⟨_, rfl, wpAny_pure (h _ _ _)⟩) (by size_fits))

theorem range_slice_tail {value slice : Expr} {ops : List Value} {r : Addr} {b k : Int} {t u v tk : Tok} (F : Fr h₀ L s.heap m) (N : News h₀ L s.heap news) (hr : IsRange s.heap r 0 b 1 t u v) (hk : 0 ≤ k) (hb : 0 ≤ b) (hb2 : b < 2 ^ 30)
    (h : ∀ D h' tk' t' u' v', IsRange h' D (min k b) b 1 t' u' v' → Fr h₀ L h' m → News h₀ L h' news → Q (.ref D) { s with heap := h', toks := tk' })
    (hs : subscripted slice false (.ref r) (.ref s.heap.objs.size) = operate ops (getItem (.ref r) (.ref s.heap.objs.size))) (ht : ∀ r', letTemporaryGo value (.ref r) r' = pure ()) :
    wpAny (model prog w) A (subscriptTail value slice (.ref r) (.ref s.heap.objs.size)) Q E { s with heap := s.heap.push { cls := .type "slice", data := .fields #[.int k tk, .none, .none] } } := by
  have hr' : IsRange (s.heap.push { cls := .type "slice", data := .fields #[.int k tk, .none, .none] }) r 0 b 1 t u v := Heap.get?_push_of_some _ hr
  refine subscriptTail_ops (T := "range") (s := { s with heap := s.heap.push { cls := .type "slice", data := .fields #[.int k tk, .none, .none] } }) ⟨_, hr', rfl⟩ slot_range_getitem.lookup
    (getItem_range_slice hr' (Heap.get?_push_size _ rfl) hk hb hb2 fun t' u' v' => ?_) hs ht
  exact h _ _ _ t' u' v' (Heap.get?_push_size _ rfl) ((F.push _).push _) fun p hp => ⟨Heap.get?_push_of_some _ (Heap.get?_push_of_some _ (N p hp).1), (N p hp).2⟩
end
section
open LCg
variable {prog : Program} {w : World} {A : Around} {s : Shared} {h₀ : Heap} {L : Addr} {m : Str → Option Value} {env : Env}
theorem CompEnd.mono {I C D : Addr} {oI oC oD : Obj} {S : List (Addr × Obj) → Prop} {r r' : Value → List (Addr × Obj) → Prop} {s₁ s₂ : Shared} {y : Value} (h : CompEnd h₀ L m s₁ I oI C oC D oD S r y s₂) (k : ∀ y n, r y n → r' y n) : CompEnd h₀ L m s₁ I oI C oC D oD S r' y s₂ :=
  let ⟨h', tk, n', e, F, N, o, q, z⟩ := h; ⟨h', tk, n', e, F, N, o, q, k _ _ z⟩
theorem compRest_ind {elt : Expr} {x : Str} {scope : Scope} {cl : List (Str × Addr)} {S : List (Addr × Obj) → Prop} {P : Nat → Value → Prop} {Fin : List Value → List (Addr × Obj) → Prop} (J : Nat → List Value → List (Addr × Obj) → Prop) (n : Nat)
    (step : ∀ i ys news, i < n → J i ys news → ∀ v I oI C oC D m₂ h tk (E' : Value → Shared → Prop), P i v → NsObj oC m₂ → m₂ x = some v → Fr h₀ L h m → News h₀ L h ((I, oI) :: (C, oC) :: (D, lst ys) :: news) → Off3 I C D news → ((@Ne Nat I C) ∧ (@Ne Nat I D) ∧ (@Ne Nat C D)) →
      wpAny (model prog w) A (eval elt (compEnvC scope cl C env)) (CompEnd h₀ L m { s with heap := h, toks := tk } I oI C oC D (lst ys) S (fun y news' => J (i + 1) (ys ++ [y]) news')) E' { s with heap := h, toks := tk })
    (fin : ∀ ys news, J n ys news → Fin ys news) : ∀ k i ys news, i + k = n → J i ys news → CompRest prog w A h₀ L m env elt x scope cl s S P Fin k i ys news
  | 0, i, ys, news, e, hJ => by
    have e : i = n := by omega
    subst e; exact fin ys news hJ
  | k + 1, i, ys, news, e, hJ => CompRest.succ fun v I oI C oC D m₂ h tk E' hv hC hx F N off ne =>
    wpAny_mono (step i ys news (by omega) hJ v I oI C oC D m₂ h tk E' hv hC hx F N off ne) (fun y s₂ q => CompEnd.mono q fun y n' hJ' => compRest_ind J n step fin k (i + 1) (ys ++ [y]) n' (by omega) hJ') fun _ _ e => e

noncomputable def GrowEnd (h₀ : Heap) (L : Addr) (m : Str → Option Value) (s : Shared) (old : List (Addr × Obj)) (I C D : Addr) (Gd : Addr × Obj → Prop) (Mk : Value → List (Addr × Obj) → Prop) (y : Value) (s₂ : Shared) : Prop :=
  ∃ h' tk' new, s₂ = { s with heap := h', toks := tk' } ∧ Fr h₀ L h' m ∧ News h₀ L h' new ∧ News h₀ L h' old ∧ Off3 I C D new ∧ (∀ p ∈ new, Gd p) ∧ Mk y new
/-- a comprehension whose turns make things that stay: `Mk i y new` says what the i-th item is -/
theorem compRest_grow {elt : Expr} {x : Str} {scope : Scope} {cl : List (Str × Addr)} {S : List (Addr × Obj) → Prop} {P : Nat → Value → Prop} {Fin : List Value → List (Addr × Obj) → Prop} {news₀ : List (Addr × Obj)} {n : Nat} (Gd : Addr × Obj → Prop) (Mk : Nat → Value → List (Addr × Obj) → Prop)
    (mono : ∀ i y o o', Mk i y o → (∀ p ∈ o, p ∈ o') → Mk i y o') (hS : ∀ objs, S (news₀ ++ objs))
    (step : ∀ i v I oI C oC D ys objs m₂ h tk (E' : Value → Shared → Prop), i < n → P i v → NsObj oC m₂ → m₂ x = some v → Fr h₀ L h m → News h₀ L h ((I, oI) :: (C, oC) :: (D, lst ys) :: (news₀ ++ objs)) → Off3 I C D (news₀ ++ objs) → ((@Ne Nat I C) ∧ (@Ne Nat I D) ∧ (@Ne Nat C D)) →
      wpAny (model prog w) A (eval elt (compEnvC scope cl C env)) (GrowEnd h₀ L m s ((I, oI) :: (C, oC) :: (D, lst ys) :: (news₀ ++ objs)) I C D Gd (Mk i)) E' { s with heap := h, toks := tk })
    (fin : ∀ ys objs, ys.length = n → (∀ p ∈ objs, Gd p) → (∀ i y, ys[i]? = some y → Mk i y objs) → Fin ys (news₀ ++ objs)) : CompRest prog w A h₀ L m env elt x scope cl s S P Fin n 0 [] news₀ := by
  have offA : ∀ {I C D : Addr} {a b : List (Addr × Obj)}, Off3 I C D a → Off3 I C D b → Off3 I C D (a ++ b) := fun x y => Off3.of fun p hp => (List.mem_append.mp hp).elim (x.mem p) (y.mem p)
  have offL : ∀ {I C D : Addr} {a b : List (Addr × Obj)}, Off3 I C D (a ++ b) → Off3 I C D b := fun x => Off3.of fun p hp => x.mem p (List.mem_append_right _ hp)
  have offF : ∀ {I C D : Addr} {a b : List (Addr × Obj)}, Off3 I C D (a ++ b) → Off3 I C D a := fun x => Off3.of fun p hp => x.mem p (List.mem_append_left _ hp)
  have := compRest_ind (prog := prog) (w := w) (A := A) (s := s) (h₀ := h₀) (L := L) (m := m) (env := env) (elt := elt) (x := x) (scope := scope) (cl := cl) (S := S) (P := P) (Fin := Fin)
    (fun i ys news => ys.length = i ∧ ∃ objs, news = news₀ ++ objs ∧ (∀ p ∈ objs, Gd p) ∧ ∀ j y, ys[j]? = some y → Mk j y objs) n ?_ ?_ n 0 [] (news₀ ++ []) (by omega) ⟨rfl, [], rfl, (fun _ h => nomatch h), fun _ _ h => by simp at h⟩
  · rwa [List.append_nil] at this
  · rintro i ys news hi ⟨hl, objs, rfl, hgd, hm⟩ v I oI C oC D m₂ h tk E' hv hC hx F N off ne
    refine wpAny_mono (step i v I oI C oC D ys objs m₂ h tk E' hi hv hC hx F N off ne) (fun y s₂ q => ?_) fun _ _ e => e
    obtain ⟨h', tk', new, rfl, F', Nn, N', on, gn, hk⟩ := q
    refine ⟨h', tk', news₀ ++ (objs ++ new), rfl, F', ?_, offA (offF off) (offA (offL off) on), hS _, by simp [hl], objs ++ new, rfl, fun p hp => (List.mem_append.mp hp).elim (hgd p) (gn p), ?_⟩
    · intro p hp
      rcases List.mem_cons.mp hp with rfl | hp
      · exact N' _ (by simp)
      rcases List.mem_cons.mp hp with rfl | hp
      · exact N' _ (by simp)
      rcases List.mem_cons.mp hp with rfl | hp
      · exact N' _ (by simp)
      rcases List.mem_append.mp hp with hp | hp
      · exact N' _ (by simp [hp])
      rcases List.mem_append.mp hp with hp | hp
      · exact N' _ (by simp [hp])
      · exact Nn p hp
    · intro j z hz
      by_cases hj : j < ys.length
      · rw [List.getElem?_append_left hj] at hz
        exact mono _ _ _ _ (hm j z hz) fun p hp => List.mem_append_left _ hp
      · have hj2 : j = ys.length := by
          have := (List.getElem?_eq_some_iff.mp hz).1
          simp at this; omega
        subst hj2
        rw [List.getElem?_append_right (Nat.le_refl _), Nat.sub_self] at hz
        cases hz
        rw [hl]
        exact mono _ _ _ _ hk fun p hp => List.mem_append_right _ hp
  · rintro ys news ⟨hl, objs, rfl, hgd, hm⟩
    exact fin ys objs hl hgd hm
theorem rangeSize_min (N : Nat) : Builtin.Range.rangeSize (min 1 (N : Int)) N 1 = ((N - 1 : Nat) : Int) := by
  rw [PySem.rangeSize_one]
  split <;> omega
theorem small_nat (a : Int) (N : Nat) (h0 : 0 ≤ a) (h1 : a < 2 ^ 30) (h : N < 2 ^ 30) : Builtin.Range.small a (N : Int) 1 = true := by
  unfold Builtin.Range.small
  rw [PySem.rangeSize_one]
  have f : ∀ x : Int, -(2 ^ 31) ≤ x → x < 2 ^ 31 → Builtin.Range.rangeFitsLong x = true := fun x h1 h2 => by
    unfold Builtin.Range.rangeFitsLong
    simp only [Bool.and_eq_true, decide_eq_true_eq]
    omega
  rw [f a (by omega) (by omega), f N (by omega) (by omega), f 1 (by omega) (by omega), f _ (by split <;> omega) (by split <;> omega)]
  simp only [Bool.and_self, Bool.true_and, show (1 : Int) > 0 by decide, if_true, Bool.or_eq_true]
  exact .inr (f _ (by omega) (by omega))
end
section
variable {prog : Program} {w : World} {A : Around} {E : Value → Shared → Prop} {s : Shared} {env : Env} {h₀ : Heap} {x : Str} {body : List Stmt} {Q : Flow → Shared → Prop}
/-- the names that a loop may store -/
noncomputable def upd (X : List Str) (u m₀ : Str → Option Value) (y : Str) : Option Value := if X.contains y = true then u y else m₀ y
theorem upd_of {X : List Str} {m₀ m₁ : Str → Option Value} (h : ∀ z, X.contains z = false → m₁ z = m₀ z) : m₁ = upd X m₁ m₀ := by
  funext z
  unfold upd
  cases q : X.contains z with
  | true => rfl
  | false => exact h z q
noncomputable def StepM (h₀ : Heap) (L I : Addr) (oI : Obj) (keep : List (Addr × Obj)) (X : List Str) (m₀ : Str → Option Value) (Jn : List (Addr × Obj) → Array GenState → Prop) (s : Shared) (Q : Flow → Shared → Prop) (f : Flow) (s₂ : Shared) : Prop :=
  match f with
  | .ret v => Q (.ret v) s₂
  | .brk => Q .next s₂
  | _ => ∃ h' tk g m' news', s₂ = { s with heap := h', toks := tk, gens := g } ∧ Fr h₀ L h' m' ∧ (∀ z, X.contains z = false → m' z = m₀ z) ∧ News h₀ L h' ((I, oI) :: news') ∧ (∀ p ∈ news', p.1 ≠ I) ∧ (∀ p ∈ keep, p ∈ news') ∧ Jn news' g
theorem StepM.toG {L I : Addr} {oI : Obj} {keep : List (Addr × Obj)} {X : List Str} {m₀ : Str → Option Value} {Jn : List (Addr × Obj) → Array GenState → Prop} {f : Flow} {s₂ : Shared} (h : StepM h₀ L I oI keep X m₀ Jn s Q f s₂) :
    StepG h₀ L I oI keep (fun m' n' g => (∀ z, X.contains z = false → m' z = m₀ z) ∧ Jn n' g) s Q f s₂ := by
  cases f with
  | ret v => exact h
  | brk => exact h
  | next => obtain ⟨h', tk, g, m', n', e, F, z, N, o, k, j⟩ := h; exact ⟨h', tk, g, m', n', e, F, N, o, k, z, j⟩
  | cont => obtain ⟨h', tk, g, m', n', e, F, z, N, o, k, j⟩ := h; exact ⟨h', tk, g, m', n', e, F, N, o, k, z, j⟩

theorem iter_list_M {ax : Addr} {lo : Obj} {vs : List Value} {n : Nat} {m₀ : Str → Option Value} {news : List (Addr × Obj)} (X : List Str) (J : Nat → List (Addr × Obj) → Array GenState → Prop)
    (hh : A.handled = none) (hx : env.kindOf x = some .local) (hp : (env.scope.kind == .class || (env.scope.kind == .module && env.locals != env.globals)) = false)
    (F : Fr h₀ env.locals s.heap m₀) (N : News h₀ env.locals s.heap news) (hm : (ax, lo) ∈ news) (hc : lo.cls = .type "list") (hd : lo.data = .seq vs.toArray n) (h0 : J 0 news s.gens)
    (turn : ∀ i v I oI u news₁ h tk g (E' : Value → Shared → Prop), vs[i]? = some v → (∀ p ∈ news, p.1 < I) → J i news₁ g → (ax, lo) ∈ news₁ → (∀ p ∈ news₁, p.1 ≠ I) → Fr h₀ env.locals h (fun y => if y = x then some v else upd X u m₀ y) → News h₀ env.locals h ((I, oI) :: news₁) →
      wpAny (model prog w) A (execs body env) (StepM h₀ env.locals I oI [(ax, lo)] X m₀ (J (i + 1)) s Q) E' { s with heap := h, toks := tk, gens := g })
    (done : ∀ u news₁ h tk g, J vs.length news₁ g → (ax, lo) ∈ news₁ → Fr h₀ env.locals h (upd X u m₀) → News h₀ env.locals h news₁ → Q .next { s with heap := h, toks := tk, gens := g }) :
    wpAny (model prog w) A (pyIter (.ref ax)) (fun it s₂ => LoopG prog w A env x body Q it s₂) E s := by
  refine iter_list_G (fun i m₁ n₁ g => (∀ z, X.contains z = false → m₁ z = m₀ z) ∧ J i n₁ g) hh hx hp F N hm hc hd ⟨fun _ _ => rfl, h0⟩ ?_ ?_
  · intro i v I oI m₁ news₁ h tk g E' hv hlt hJ hin hn F₁ N₁
    rw [upd_of hJ.1] at F₁
    exact wpAny_mono (turn i v I oI m₁ news₁ h tk g E' hv hlt hJ.2 hin hn F₁ N₁) (fun f s₂ q => q.toG) fun _ _ e => e
  · intro m₁ news₁ h tk g hJ hin F₁ N₁
    rw [upd_of hJ.1] at F₁
    exact done m₁ news₁ h tk g hJ.2 hin F₁ N₁

theorem iter_range_M {r : Addr} {a₀ b₀ : Int} {t₀ u₀ v₀ : Tok} {n : Nat} {m₀ : Str → Option Value} {news : List (Addr × Obj)} (X : List Str) (J : Nat → List (Addr × Obj) → Array GenState → Prop)
    (hh : A.handled = none) (hx : env.kindOf x = some .local) (hp : (env.scope.kind == .class || (env.scope.kind == .module && env.locals != env.globals)) = false)
    (hr : IsRange s.heap r a₀ b₀ 1 t₀ u₀ v₀) (hsmall : Builtin.Range.small a₀ b₀ 1 = true) (hn : Builtin.Range.rangeSize a₀ b₀ 1 = (n : Int)) (F : Fr h₀ env.locals s.heap m₀) (N : News h₀ env.locals s.heap news) (h0 : J 0 news s.gens)
    (turn : ∀ i t I oI u news₁ h tk g (E' : Value → Shared → Prop), i < n → (∀ p ∈ news, p.1 < I) → J i news₁ g → (∀ p ∈ news₁, p.1 ≠ I) → Fr h₀ env.locals h (fun y => if y = x then some (.int (a₀ + (i : Int)) t) else upd X u m₀ y) → News h₀ env.locals h ((I, oI) :: news₁) →
      wpAny (model prog w) A (execs body env) (StepM h₀ env.locals I oI [] X m₀ (J (i + 1)) s Q) E' { s with heap := h, toks := tk, gens := g })
    (done : ∀ u news₁ h tk g, J n news₁ g → Fr h₀ env.locals h (upd X u m₀) → News h₀ env.locals h news₁ → Q .next { s with heap := h, toks := tk, gens := g }) :
    wpAny (model prog w) A (pyIter (.ref r)) (fun it s₂ => LoopG prog w A env x body Q it s₂) E s := by
  refine iter_range_G (fun i m₁ n₁ g => (∀ z, X.contains z = false → m₁ z = m₀ z) ∧ J i n₁ g) hh hx hp hr hsmall hn F N ⟨fun _ _ => rfl, h0⟩ ?_ ?_
  · intro i t I oI m₁ news₁ h tk g E' hi hlt hJ hn F₁ N₁
    rw [upd_of hJ.1] at F₁
    exact wpAny_mono (turn i t I oI m₁ news₁ h tk g E' hi hlt hJ.2 hn F₁ N₁) (fun f s₂ q => q.toG) fun _ _ e => e
  · intro m₁ news₁ h tk g hJ F₁ N₁
    rw [upd_of hJ.1] at F₁
    exact done m₁ news₁ h tk g hJ.2 F₁ N₁
end
section
open LCg
variable {prog : Program} {w : World} {A : Around} {E : Value → Shared → Prop} {s : Shared} {h₀ : Heap} {L : Addr} {m : Str → Option Value} {env : Env}
noncomputable def SrcAtT (ax : Addr) (its : Array Value) (news : List (Addr × Obj)) : Prop := ∃ o, (ax, o) ∈ news ∧ o.cls = .type "tuple" ∧ ∃ n, o.data = .seq its n
theorem SrcAtT.tup {h : Heap} {ax : Addr} {its : Array Value} {news : List (Addr × Obj)} (x : SrcAtT ax its news) (N : News h₀ L h news) : h.IsTuple ax its := let ⟨o, hm, r⟩ := x; ⟨o, (N _ hm).1, r⟩
noncomputable def SrcTup (prog : Program) (w : World) (A : Around) (h₀ : Heap) (L : Addr) (m : Str → Option Value) (env : Env) (elt : Expr) (x : Str) (scope : Scope) (cl : List (Str × Addr)) (Fin : Shared → List Value → List (Addr × Obj) → Prop) (xv : Value) (s₁ : Shared) : Prop :=
  ∃ ax its news, xv = .ref ax ∧ A.handled = none ∧ Fr h₀ L s₁.heap m ∧ News h₀ L s₁.heap news ∧ SrcAtT ax its news ∧ its.size ≤ sizeLine ∧
    ∀ s₂ : Shared, (∃ h, s₂ = { s₁ with heap := h }) → CompRest prog w A h₀ L m env elt x scope cl s₂ (SrcAtT ax its) (fun i v => its[i]? = some v) (Fin s₂) its.size 0 [] news
theorem SrcTup.intro {elt : Expr} {x : Str} {scope : Scope} {cl : List (Str × Addr)} {Fin : Shared → List Value → List (Addr × Obj) → Prop} {ax : Addr} {its : Array Value} {k : Nat} {news : List (Addr × Obj)} {s₁ : Shared}
    (hh : A.handled = none) (F : Fr h₀ L s₁.heap m) (N : News h₀ L s₁.heap news) (hm : (ax, ({ cls := .type "tuple", data := .seq its k } : Obj)) ∈ news) (hsz : its.size ≤ sizeLine)
    (h : ∀ g, CompRest prog w A h₀ L m env elt x scope cl { s₁ with heap := g } (SrcAtT ax its) (fun i v => its[i]? = some v) (Fin { s₁ with heap := g }) its.size 0 [] news) :
    SrcTup prog w A h₀ L m env elt x scope cl Fin (.ref ax) s₁ := ⟨ax, its, news, rfl, hh, F, N, ⟨_, hm, rfl, _, rfl⟩, hsz, fun _ ⟨g, e⟩ => e ▸ h g⟩
theorem tup_st {ax I : Addr} {its : Array Value} : ∀ i (h h' : Heap) (o : Obj) (nw : List (Addr × Obj)), (h.IsTupleIter I ax i ∧ h.IsTuple ax its) → h.get? I = some o → h'.get? I = some o → (∀ b o, h₀.get? b = some o → h'.get? b = some o) → News h₀ L h' nw → SrcAtT ax its nw → (h'.IsTupleIter I ax i ∧ h'.IsTuple ax its) :=
  fun i h h' o nw st e e' k N S => ⟨by obtain ⟨o', q, r⟩ := st.1; rw [e] at q; cases q; exact ⟨o, e', r⟩, S.tup N⟩

theorem Assign_ListComp_T {elt iter : Expr} {x y : Str} {px py : Pos} {scope : Scope} {cl : List (Str × Addr)} {pos spos : Pos} {Q : Flow → Shared → Prop} (F₀ : Fr h₀ L s.heap m) (hLe : env.locals = L)
    (hsw : swapsWith (.ListComp elt [⟨.Name x px, iter, [], 0⟩] scope pos) (some (.Name y py)) spos.line env = pure true)
    (hclos : closureFor scope env = pure cl) (hcell : ∀ z ∈ scope.names, z.2 ≠ .cell) (hkind : scope.kind = .function)
    (hnames : ∀ z ∈ scope.names, z.2 = .local → scope.names.lookup z.1 = some .local) (hx : scope.names.lookup x = some .local)
    (hy : env.kindOf y = some .local) (hp : (env.scope.kind == .class || (env.scope.kind == .module && env.locals != env.globals)) = false)
    (h : wpAny (model prog w) A (eval iter env) (SrcTup prog w A h₀ L m env elt x scope cl (fun s₂ => FinA h₀ L m s₂ y Q)) E s)
    (hs : ∀ x, foldedSetIterable iter env x = pure x := by intro _; rfl) :
    wpAny (model prog w) A (exec (.Assign [.Name y py] (.ListComp elt [⟨.Name x px, iter, [], 0⟩] scope pos) spos) env) Q E s := by
  subst hLe
  rw [exec_Assign_Name_used _ _ _ _ hsw]
  refine wpAny_bind (wpAny_standAt (wpAny_bind ?_))
  show wpAny _ A (do let _ ← comprehension (.ListComp elt [⟨.Name x px, iter, [], 0⟩] scope pos) scope env _ (newList []) false (eval iter env) (some (assign (.Name y py) env))) _ _ s
  refine wpAny_bind (wpAny_mono (wpAny_comprehension_free (use := some (assign (.Name y py) env)) (Q := fun _ s' => Q .next s') rfl hs hclos hkind hnames
    (wpAny_mono h (fun xv s₁ h₁ => ?_) fun _ _ e => e)) (fun _ s' hq => wpAny_pure (wpAny_pure hq)) fun _ _ e => e)
  obtain ⟨ax, its, news, rfl, hh, F, N, S, hsz, R⟩ := h₁
  have hl := S.tup N
  have hlt : ax < s₁.heap.objs.size := by obtain ⟨_, e, _⟩ := hl; exact Heap.lt_size e
  refine wpAny_pyIter_tuple hl ?_
  have up : ∀ b o, s₁.heap.get? b = some o → (s₁.heap.push { cls := .type "tuple_iterator", data := .fields #[.ref ax, .int 0 0] }).get? b = some o := fun b o e => Heap.get?_push_of_some _ e
  refine block_U (Walks.tuple hh s₁.heap.objs.size ax (Nat.ne_of_lt hlt) its) hsz (fun i h st => by obtain ⟨o, e, _⟩ := st.1; exact ⟨o, e⟩) tup_st hcell hkind hx ⟨⟨_, Heap.get?_push_size _ rfl, rfl, rfl⟩, hl.push _⟩ (fun b hb => ?_)
    (F.keeps up) (N.grown up) (Nat.ne_of_lt F.ns.lt) (next_is_new F) (fun p hp => Nat.ne_of_lt (Heap.lt_size (N p hp).1)) S (R _ ⟨_, rfl⟩) ?_
  · show b < (s₁.heap.push _).objs.size
    rw [Heap.size_push]
    rcases List.mem_cons.mp hb with rfl | hb
    · exact Nat.lt_succ_self _
    · rw [List.mem_singleton.mp hb]; exact Nat.lt_succ_of_lt hlt
  · intro D C h' tk m' ys news' F' N' o1 hn hC₀ hD₀ hCL hDL hCD offC fin
    show wpAny _ A (assign (.Name y py) env (.ref D)) _ _ _
    refine wpAny_assign_Name (wpAny_storeName_local hy F'.ns (fun h₂ hn₂ hs₂ => ?_) hp)
    have hL₀ : h₀.get? env.locals = none := Heap.get?_none_of_le F'.above
    have F₂ : Fr h₀ env.locals h₂ (fun z => if z = y then some (.ref D) else m z) := ⟨hn₂, fun b o e => hs₂.extBut b o (fun q => by rw [q, hL₀] at e; cases e) (F'.keep b o e), F'.above⟩
    refine ⟨m', hn.sameBut hs₂ hCL, fun h'' hs'' => fin D h'' _ (F₂.change hs'' hCL hC₀) (fun p hp => ?_) o1⟩
    have z : h₂.get? p.1 = some p.2 := hs₂.extBut _ _ (N' p hp).2.1 (N' p hp).1
    refine ⟨hs''.extBut _ _ ?_ z, (N' p hp).2⟩
    rcases List.mem_cons.mp hp with rfl | hp
    · exact Ne.symm hCD
    · exact offC p hp
end
end
local macro_rules | `(tactic| walk_at "m_enter2") => `(tactic| (k_dflt (refine' code_ext ?k1 ?k2 ?k3 ?k4 ?k5 ?kA ?kF ?kK ?k6 ?k7 ?k8 ?k9 ?kB ?_ ?c2 ?c3 ?c4 ?c5; (case kA => exact rfl); (case kF => exact rfl); (case kK => first | assumption | exact rfl); (case k1 => k_asm); (case k2 => k_asm); (case k3 => k_asm); (case k4 => k_asm); (case k5 => k_asm); (case k6 => k_is); (case k7 => k_is); (case k8 => ktr_room); (case k9 => first | exact BindsTo.of_eq rfl | exact binds_K (by k_in) rfl (by k_is) rfl rfl rfl | fail "k_enter: no rule for these arguments"); (case c5 => decide); (case kB => exact locs rfl); (case c2 => exact rfl); (case c3 => exact rfl); (case c4 => exact rfl); k_whole); intro g' L' h' xg' FG' F' N' B' X' T'; (try dsimp only); (try k_fold)))
local macro_rules | `(tactic| walk_at "m_keep") => `(tactic| first | exact List.forall_mem_nil _ | (refine' List.forall_mem_cons.mpr ⟨?a, ?b⟩; (case a => k_mem); (case b => walk_at "m_keep")))
local macro_rules | `(tactic| walk_at "StepG") => `(tactic| (k_here; k_dflt (dsimp only [StepG]; refine ⟨_, _, _, _, _, rfl, by assumption, by assumption, by k_all, by walk_at "m_keep", ?_⟩); intro h' tk' F' N'; (try k_sweep); (try dsimp only); (try k_fold)))
local macro_rules | `(tactic| walk_at "m_enterC") => `(tactic| (k_dflt (refine' code_extC ?k1 ?k2 ?k3 ?k4 ?k5 ?kA ?kF ?kK ?k6 ?k7 ?k8 ?k9 ?kB ?kD ?_ ?c2 ?c3 ?c4; (case kA => exact rfl); (case kF => exact rfl); (case kK => first | assumption | exact rfl); (case k1 => k_asm); (case k2 => k_asm); (case k3 => k_asm); (case k4 => k_asm); (case k5 => k_asm); (case k6 => k_is); (case k7 => k_is); (case k8 => ktr_room); (case k9 => first | exact BindsTo.of_eq rfl | exact binds_K (by k_in) rfl (by k_is) rfl rfl rfl | fail "k_enter: no rule for these arguments"); (case kB => exact rfl); (case kD => decide +kernel); (case c2 => exact rfl); (case c3 => exact rfl); (case c4 => exact rfl); k_whole); intro g' L' h' tk' cells' xg' FG' F' N' Y' B' X' T' l1; (try k_lt l1); k_cells Y'; (try simp only [List.cons_append, List.nil_append] at N'); (try dsimp only); (try k_fold)))
local macro_rules | `(tactic| walk_at "m_keepA") => `(tactic| first | exact fun _ h => h | exact List.forall_mem_nil _ | (refine' List.forall_mem_cons.mpr ⟨?a, ?b⟩; (case a => k_mem); (case b => walk_at "m_keepA")) | (intro p hp; repeat (first | assumption | refine List.Mem.tail _ ?_)))
local macro_rules | `(tactic| walk_at "m_gd") => `(tactic| first | exact List.forall_mem_nil _ | (refine' List.forall_mem_cons.mpr ⟨?a, ?b⟩; (case a => k_cls); (case b => walk_at "m_gd")))
local macro_rules | `(tactic| walk_at "m_map") => `(tactic| first | (intro z hz; rfl) | (intro z hz; dsimp only; (repeat' (first | (rw [if_neg (by intro e; subst e; revert hz; decide)]) | (simp only [upd, hz, Bool.false_eq_true, if_false]) | rfl))))
local macro_rules | `(tactic| walk_at "m_neq") => `(tactic| (refine news_ne (by assumption) (by k_mem) (by k_mem) (by k_cls)))
local macro_rules | `(tactic| k_mem) => `(tactic| (refine mem_of ?_; ktr_member))
section
theorem fresh_C20 : True := by
  w_top off
  exact trivial
local macro_rules | `(tactic| walk_at "call builtin:callable") => `(tactic| (k_here; k_dflt (refine' callable_K ?X ?e ?_; (case X => k_in); (case e => k_is); k_whole)))
section
local macro_rules | `(tactic| walk_at "exec For Name Attribute cons nil") => `(tactic| (k_dflt (refine For_G ?_)))
abbrev idxObj (P : Params) (q : Tok) (t : Addr) : Obj := dictOf [⟨PyData.keyHash P (Str.ofString "indices"), .str (Str.ofString "indices") q, .ref t⟩] 1
abbrev tupObj (vs : List Value) (k : Nat) : Obj := { cls := .type "tuple", data := .seq vs.toArray k }
set_option maxRecDepth 100000 in
set_option maxHeartbeats 8000000 in
theorem idxup {w : World} {p : Program} {loose : List Str} {mean : ExcName → Option Value} {mg mb : Str → Option Value}
  {dp un : Nat} {gd : Option (List Code)} {cn : Str} {cs : Scope} {a : Addr} {ccd : Value} {cl : List (Str × Addr)} {outer : List Env} {A₀ : Around} {base h₀ : Heap} {L : Addr} {m : Str → Option Value} {s : Shared}
    {ix dx t r n k : Nat} {i : Int} {tki q1 : Tok} {vs : List Value} {xs : List Int} (hv : IntsAre vs xs) (hi : 1 ≤ i) (hi2 : i < xs.length)
    (hr1 : @Ne Nat r t) (hr2 : @Ne Nat r dx) (hr3 : @Ne Nat r ix) (hxl : xs.length ≤ 64)
    {Q E : Value → Shared → Prop}
    (B : Below A₀ base outer h₀) (F : Fr h₀ L s.heap m) (X : (hd.heap_39 w.params).In h₀) 
    (N : News h₀ L s.heap [(ix, instObj 648 dx), (dx, idxObj w.params q1 t), (t, tupObj [.int i tki] k), (r, listOf vs.toArray n)]) (T : Top p loose mean mg mb h₀) (hk : cs.kind = .function)
    (hdp : dp + 5 < recursionLimit) (hun : un + 50 < cLine)
    (hret : ∀ h' tki' vs' n', IntsAre vs' (xs.set i.toNat (xs.getD i.toNat 0 + xs.getD (i - 1).toNat 0)) → Fr h₀ L h' m → News h₀ L h' [(ix, instObj 648 dx), (dx, idxObj w.params q1 t), (t, tupObj [.int i tki] k), (r, listOf vs'.toArray n')] → ExtB [ix, dx, t, r] s.heap h' → Q (.ref r) { s with heap := h', toks := tki' }) :
    wpAny (model PySem.Challenge.pw_ae5010_01 w) (ktrTop dp un gd cn cs L a ccd cl outer) (call (.ref 593) [.ref ix, .ref r, .ref 751]) Q E s := by
  refine wpAny_call ?_
  walk_at "m_enter2"
  k_steps
  rename Fr _ _ _ _ => lF
  rename News _ _ _ _ => lN
  k_dflt (refine iter_tup_one (lo := tupObj [.int i tki] k) (by rfl) (by rfl) (by rfl) lF lN (by k_mem) (by rfl) (by rfl) ?_)
  intro I oI h tki₁ E' hlt F₁ N₁
  (try k_lt hlt)
  clear lF lN
  k_steps
  exact hret _ _ _ _ (by assumption) (by assumption) (by assumption) (ext_of (by assumption) (by assumption))
end
end
section
theorem fresh_C30 : True := by
  w_top off
  exact trivial
local macro_rules | `(tactic| walk_at "call builtin:callable") => `(tactic| (k_here; k_dflt (refine' callable_K ?X ?e ?_; (case X => k_in); (case e => k_is); k_whole)))
local macro_rules | `(tactic| walk_at "subscriptTail Call Name cons nil Slice ref ref") => `(tactic| (k_here; k_dflt (refine kba_turn (value' := PySem.Expr.Name (PySem.Str.ofString "_") ⟨0, 0, 0, 0⟩) (fun _ => rfl) ?_)))
local macro_rules | `(tactic| walk_at "subscriptTail Name Slice ref ref") => `(tactic| (k_here; (rename IsRange _ _ _ _ _ _ _ _ => R'); k_dflt (refine' range_slice_tail ?F ?N R' ?k ?b ?b2 ?_ ?hs ?ht; (case F => k_asm); (case N => k_asm); (case k => omega); (case b => omega); (case b2 => omega); (case hs => with_unfolding_all rfl); (case ht => kmk_pure)); clear R'; intro D' h' tk' t' u' v' R' F' N'; (try k_sweep)))
section
local macro_rules | `(tactic| walk_at "eval ListComp") => `(tactic| (k_here; k_dflt (refine LCg.ListComp_U (F₀ := by k_asm) (by with_unfolding_all rfl) (by decide) (by rfl) (by decide) (by rfl) ?_)))
abbrev datObj (P : Params) (q1 q2 q3 : Tok) (v : Value) (px : Addr) (c : Value) : Obj := dictOf [⟨PyData.keyHash P (Str.ofString "_value"), .str (Str.ofString "_value") q1, v⟩, ⟨PyData.keyHash P (Str.ofString "path"), .str (Str.ofString "path") q2, .ref px⟩, ⟨PyData.keyHash P (Str.ofString "context"), .str (Str.ofString "context") q3, c⟩] 3
abbrev slObj (P : Params) (q1 q2 q3 q4 u : Tok) : Obj := dictOf [⟨PyData.keyHash P (Str.ofString "_deprecated_wildcard_use"), .str (Str.ofString "_deprecated_wildcard_use") q1, .bool false⟩, ⟨PyData.keyHash P (Str.ofString "start"), .str (Str.ofString "start") q2, .int 1 u⟩, ⟨PyData.keyHash P (Str.ofString "end"), .str (Str.ofString "end") q3, .none⟩, ⟨PyData.keyHash P (Str.ofString "step"), .str (Str.ofString "step") q4, .none⟩] 4
local macro_rules | `(tactic| walk_at "CompSrc") => `(tactic| refine hold ?_)
noncomputable def MkD (P : Params) (i : Nat) (y : Value) (o : List (Addr × Obj)) : Prop := ∃ x dx px dpx t k tk q q1 q2 q3 v c j, y = .ref x ∧ j = (i : Int) + 1 ∧ (x, instObj 203 dx) ∈ o ∧ (dx, datObj P q1 q2 q3 v px c) ∈ o ∧ (px, instObj 648 dpx) ∈ o ∧ (dpx, idxObj P q t) ∈ o ∧ (t, tupObj [.int j tk] k) ∈ o
theorem MkD.mono {P : Params} {i : Nat} {y : Value} {o o' : List (Addr × Obj)} : MkD P i y o → (∀ p ∈ o, p ∈ o') → MkD P i y o' := by
  rintro ⟨x, dx, px, dpx, t, k, tk, q, q1, q2, q3, v, c, j, h1, h2, h3, h4, h5, h6, h7⟩ hs
  exact ⟨x, dx, px, dpx, t, k, tk, q, q1, q2, q3, v, c, j, h1, h2, hs _ h3, hs _ h4, hs _ h5, hs _ h6, hs _ h7⟩
set_option maxRecDepth 100000 in
set_option maxHeartbeats 8000000 in
theorem slfind {w : World} {p : Program} {loose : List Str} {mean : ExcName → Option Value} {mg mb : Str → Option Value}
  {dp un : Nat} {gd : Option (List Code)} {cn : Str} {cs : Scope} {a : Addr} {ccd : Value} {cl : List (Str × Addr)} {outer : List Env} {A₀ : Around} {base h₀ : Heap} {L : Addr} {m : Str → Option Value} {s : Shared}
    {sx sd r n : Nat} {q1 q2 q3 q4 u : Tok} {vs : List Value} {xs : List Int} (hv : IntsAre vs xs)
    (hr2 : @Ne Nat r sd) (hr3 : @Ne Nat r sx) (hr4 : @Ne Nat sd sx) (hxl : xs.length ≤ 64)
    {Q E : Value → Shared → Prop}
    (B : Below A₀ base outer h₀) (F : Fr h₀ L s.heap m) (X : (hd.heap_39 w.params).In h₀) 
    (N : News h₀ L s.heap [(sx, instObj 717 sd), (sd, slObj w.params q1 q2 q3 q4 u), (r, listOf vs.toArray n)]) (T : Top p loose mean mg mb h₀) (hk : cs.kind = .function)
    (hdp : dp + 9 < recursionLimit) (hun : un + 90 < cLine)
    (hret : ∀ D ys objs h' tk', Fr h₀ L h' m → News h₀ L h' ((D, LCg.lst ys) :: (sx, instObj 717 sd) :: (sd, slObj w.params q1 q2 q3 q4 u) :: (r, listOf vs.toArray n) :: objs) → ExtB [sx, sd, r] s.heap h' → @Ne Nat r D → ys.length = xs.length - 1 → (∀ p ∈ objs, p.2.cls ≠ .type "list") → (∀ i y, ys[i]? = some y → MkD w.params i y objs) → Q (.ref D) { s with heap := h', toks := tk' }) :
    wpAny (model PySem.Challenge.pw_ae5010_01 w) (ktrTop dp un gd cn cs L a ccd cl outer) (call (.ref 681) [.ref sx, .ref r]) Q E s := by
  refine wpAny_call ?_
  walk_at "m_enterC"
  k_steps
  unfold Hold
  rename IsRange _ _ _ _ _ _ _ _ => R9
  rename Fr _ _ _ _ => F9
  rename News _ _ _ _ => N9
  k_dflt (refine LCg.CompSrc.range (n := xs.length - 1) (by rfl) F9 N9 R9 (small_nat _ _ (by omega) (by omega) (by omega)) (rangeSize_min _) (by rw [sizeLine_eq]; omega) ?_)
  intro g9
  clear R9 F9 N9
  refine compRest_grow (fun p => p.2.cls ≠ .type "list") (MkD w.params) (fun _ _ _ _ => MkD.mono) (fun _ => trivial) ?step ?fin
  case step =>
    intro i9 v9 I9 oI9 C9 oC9 D9 ys9 objs9 m9 h9 tk9 E9 hi9 hP9 hC9 hx9 F9 N9 off9 ne9
    obtain ⟨t9, rfl⟩ := hP9
    simp only [List.cons_append, List.nil_append] at N9 off9
    k_steps
    rename News _ _ _ _ => N8
    k_dflt (refine ⟨_, _, [(_, instObj 203 _), (_, datObj w.params _ _ _ _ _ _), (_, tupObj [.int _ _] _), (_, instObj 648 _), (_, idxObj w.params _ _)], rfl, by assumption, KStt.news_of N8 (by walk_at "m_keep"), KStt.news_of N8 (fun p hp => .tail _ (.tail _ (.tail _ (.tail _ (.tail _ hp))))), by lcg_off, by walk_at "m_gd", ⟨_, _, _, _, _, _, _, _, _, _, _, _, _, _, rfl, ?j, by k_mem, by k_mem, by k_mem, by k_mem, by k_mem⟩⟩)
    case j => omega
  case fin =>
    intro ys objs hl hgd hMk
    unfold LCg.FinE
    intro D9 h9 tk9 F9 N9 off9
    simp only [List.cons_append, List.nil_append] at N9
    k_steps
    exact hret D9 ys objs _ _ (by assumption) (KStt.news_of (by assumption) (by walk_at "m_keepA")) (ext_of (by assumption) (by assumption)) (off1_mem off9 (r, listOf vs.toArray n) (by k_mem)) hl hgd hMk
end
end
section
theorem fresh_C40 : True := by
  w_top off
  exact trivial
local macro_rules | `(tactic| walk_at "call builtin:callable") => `(tactic| (k_here; k_dflt (refine' callable_K ?X ?e ?_; (case X => k_in); (case e => k_is); k_whole)))
local macro_rules | `(tactic| walk_at "subscriptTail Call Name cons nil Slice ref ref") => `(tactic| (k_here; k_dflt (refine kba_turn (value' := PySem.Expr.Name (PySem.Str.ofString "_") ⟨0, 0, 0, 0⟩) (fun _ => rfl) ?_)))
local macro_rules | `(tactic| walk_at "subscriptTail Name Slice ref ref") => `(tactic| (k_here; (rename IsRange _ _ _ _ _ _ _ _ => R'); k_dflt (refine' range_slice_tail ?F ?N R' ?k ?b ?b2 ?_ ?hs ?ht; (case F => k_asm); (case N => k_asm); (case k => omega); (case b => omega); (case b2 => omega); (case hs => with_unfolding_all rfl); (case ht => kmk_pure)); clear R'; intro D' h' tk' t' u' v' R' F' N'; (try k_sweep)))
/-- the running sums, i of them taken -/
noncomputable def cum : Nat → List Int → List Int
  | 0, xs => xs
  | i + 1, xs => (cum i xs).set (i + 1) ((cum i xs).getD (i + 1) 0 + (cum i xs).getD i 0)
theorem cum_length : ∀ (i : Nat) (xs : List Int), (cum i xs).length = xs.length
  | 0, _ => rfl
  | i + 1, xs => by show ((cum i xs).set _ _).length = _; rw [List.length_set]; exact cum_length i xs
section
local macro_rules | `(tactic| walk_at "exec For Name Call cons nil") => `(tactic| (k_dflt (refine For_G ?_)))
local macro_rules | `(tactic| walk_at "call ref") => `(tactic| ((with_reducible show wpAny _ _ (call (Value.ref 681) _ _) _ _ _); refine hold ?_))
local macro_rules | `(tactic| walk_at "call ref") => `(tactic| ((with_reducible show wpAny _ _ (call (Value.ref 593) _ _) _ _ _); refine hold ?_))
set_option maxRecDepth 100000 in
set_option maxHeartbeats 8000000 in
theorem slupd {w : World} {p : Program} {loose : List Str} {mean : ExcName → Option Value} {mg mb : Str → Option Value}
  {dp un : Nat} {gd : Option (List Code)} {cn : Str} {cs : Scope} {a : Addr} {ccd : Value} {cl : List (Str × Addr)} {outer : List Env} {A₀ : Around} {base h₀ : Heap} {L : Addr} {m : Str → Option Value} {s : Shared}
    {sx sd r n : Nat} {q1 q2 q3 q4 u : Tok} {vs : List Value} {xs : List Int} (hv : IntsAre vs xs)
    (hr2 : @Ne Nat r sd) (hr3 : @Ne Nat r sx) (hr4 : @Ne Nat sd sx) (hxl : xs.length ≤ 64)
    {Q E : Value → Shared → Prop}
    (B : Below A₀ base outer h₀) (F : Fr h₀ L s.heap m) (X : (hd.heap_39 w.params).In h₀) 
    (N : News h₀ L s.heap [(sx, instObj 717 sd), (sd, slObj w.params q1 q2 q3 q4 u), (r, listOf vs.toArray n)]) (T : Top p loose mean mg mb h₀) (hk : cs.kind = .function)
    (hdp : dp + 15 < recursionLimit) (hun : un + 150 < cLine)
    (hret : ∀ h' tk' vs' n', IntsAre vs' (cum (xs.length - 1) xs) → Fr h₀ L h' m → News h₀ L h' [(sx, instObj 717 sd), (sd, slObj w.params q1 q2 q3 q4 u), (r, listOf vs'.toArray n')] → ExtB [sx, sd, r] s.heap h' → Q (.ref r) { s with heap := h', toks := tk' }) :
    wpAny (model PySem.Challenge.pw_ae5010_01 w) (ktrTop dp un gd cn cs L a ccd cl outer) (call (.ref 688) [.ref sx, .ref r, .ref 751]) Q E s := by
  refine wpAny_call ?_
  walk_at "m_enter2"
  k_steps
  unfold Hold
  rename Fr _ _ _ _ => F9
  rename News _ _ _ _ => N9
  k_dflt (refine slfind hv hr2 hr3 hr4 hxl (by k_asm) F9 (by k_asm) (KStt.news_of N9 (by walk_at "m_keep")) (by k_asm) (by rfl) (by ktr_room) (by ktr_units) ?_)
  intro D ys objs h' tk' F' N' x' hDr hl hgd hM
  clear F9 N9
  k_steps
  rename Fr _ _ _ _ => F9
  rename News _ _ _ _ => N9
  k_dflt (refine iter_list_M (lo := LCg.lst ys) (vs := ys) [Str.ofString "datum"] (fun i₁ news₁ g => g = s.gens ∧ ∃ vs' n', IntsAre vs' (cum i₁ xs) ∧ news₁ = (D, LCg.lst ys) :: (sx, instObj 717 sd) :: (sd, slObj w.params q1 q2 q3 q4 u) :: (r, listOf vs'.toArray n') :: objs) (by rfl) (by rfl) (by rfl) F9 N9 (by k_mem) (by rfl) (by rfl) ⟨rfl, vs, n, hv, rfl⟩ ?turn ?done)
  case turn =>
    clear F9 N9
    rintro i v I oI u₉ news₁ h tk₉ g E' hv₁ hlt ⟨rfl, vs', n', hI', rfl⟩ hin hoff F9 N9
    obtain ⟨x, dx, px, dpx, t, k, tki, q, q1', q2', q3', v', c, j, rfl, rfl, m1, m2, m3, m4, m5⟩ := hM i v hv₁
    have hil : i < xs.length - 1 := by rw [← hl]; exact (List.getElem?_eq_some_iff.mp hv₁).1
    k_steps
    unfold Hold
    rename Fr _ _ _ _ => F8
    rename News _ _ _ _ => N8
    have hxI : r < I := hlt (r, listOf vs.toArray n) (by k_mem)
    k_dflt (refine idxup (n := n') (i := (i : Int) + 1) (ix := px) (dx := dpx) (t := t) (k := k) (tki := tki) (q1 := q) hI' (by omega) (by rw [cum_length]; omega) (by walk_at "m_neq") (by walk_at "m_neq") (by walk_at "m_neq") (by rw [cum_length]; exact hxl) (by k_asm) F8 (by k_asm) (KStt.news_of N8 (by walk_at "m_keep")) (by k_asm) (by rfl) (by ktr_room) (by ktr_units) ?_)
    intro h2 tk2 vs2 n2 hI2 F2 N2 x2
    have x3 : ExtB [r] h h2 := ext_one (led := [(px, instObj 648 dpx), (dpx, idxObj w.params q t), (t, tupObj [.int ((i : Int) + 1) tki] k)]) (KStt.news_of N8 (by walk_at "m_keep")) (KStt.news_of N2 (by walk_at "m_keep")) x2 (by simp)
    have N3 := news_swap (pre := [(I, oI), (D, LCg.lst ys), (sx, instObj 717 sd), (sd, slObj w.params q1 q2 q3 q4 u)]) (post := objs) N8 x3 (KStt.news_of N2 (by walk_at "m_keep"))
      (List.forall_mem_cons.mpr ⟨by show @Ne Nat I r; omega, List.forall_mem_cons.mpr ⟨Ne.symm hDr, List.forall_mem_cons.mpr ⟨Ne.symm hr3, List.forall_mem_cons.mpr ⟨Ne.symm hr2, List.forall_mem_nil _⟩⟩⟩⟩)
      (fun p hp => by simpa using news_ne_all N8 (a := r) (o := listOf vs'.toArray n') (by k_mem) (fun p hp => List.mem_cons_of_mem _ (List.mem_cons_of_mem _ (List.mem_cons_of_mem _ (List.mem_cons_of_mem _ (List.mem_cons_of_mem _ hp))))) hgd p hp)
    simp only [List.cons_append, List.nil_append] at N3
    clear N8 F8 N2
    k_steps
    have e1 : ((i : Int) + 1).toNat = i + 1 := by omega
    have e2 : ((i : Int) + 1 - 1).toNat = i := by omega
    rw [e1, e2] at hI2
    k_dflt (dsimp only [StepM]; refine ⟨_, _, _, _, _, rfl, by assumption, by walk_at "m_map", N3, swap_all (P := fun a => a ≠ I) (pre := [(D, LCg.lst ys), (sx, instObj 717 sd), (sd, slObj w.params q1 q2 q3 q4 u)]) (post := objs) hoff, by walk_at "m_keep", rfl, vs2, n2, hI2, rfl⟩)
  case done =>
    clear F9 N9
    rintro u₉ news₁ h tk₉ g ⟨rfl, vs', n', hI', rfl⟩ hin F9 N9
    rw [hl] at hI'
    k_steps
    exact hret _ _ vs' n' hI' (by assumption) (KStt.news_of (by assumption) (by walk_at "m_keep")) (ext_of (by assumption) (by assumption))
end
end
section
theorem fresh_C48 : True := by
  w_top off
  exact trivial
local macro_rules | `(tactic| walk_at "call builtin:callable") => `(tactic| (k_here; k_dflt (refine' callable_K ?X ?e ?_; (case X => k_in); (case e => k_is); k_whole)))
section
open PyProof.V
variable {prog : Program} {w : World} {K : Type} [DecidableEq K] {knd : KeyKind prog w K} {A : Around} {E : Value → Shared → Prop} {s : Shared} {h₀ : Heap} {L d C : Addr} {news : List (Addr × Obj)} {o : Obj} {kvs : List (K × Value)} {KK : Frag}
theorem isn_dictOf {Q : Value → Shared → Prop} (X : KK.In s.heap) (N : News h₀ L s.heap news) (hp : (d, o) ∈ news) (hd : o.IsDictOf knd kvs) (e : isNotIn KK "dict" C = true) (h : Q (.bool false) { s with toks := s.toks + 1 }) :
    wpAny (model prog w) A (call (.builtin "isinstance") [.ref d, .ref C]) Q E s :=
  have p : KitAt d "dict" s.heap := ⟨o, N.get hp, hd.choose_spec.choose_spec.1.1⟩
  isn_call X (fun M => kitAt_ty M _ p) e (by intro q; cases q) p (fun p k => dict_cls p k) h
theorem isn_listOf {Q : Value → Shared → Prop} (X : KK.In s.heap) (N : News h₀ L s.heap news) (hp : (d, o) ∈ news) (hd : o.cls = .type "list") (e : isNotIn KK "list" C = true) (h : Q (.bool false) { s with toks := s.toks + 1 }) :
    wpAny (model prog w) A (call (.builtin "isinstance") [.ref d, .ref C]) Q E s :=
  have p : KitAt d "list" s.heap := ⟨o, N.get hp, hd⟩
  isn_call X (fun M => kitAt_ty M _ p) e (by intro q; cases q) p (fun p k => list_cls p k) h
end
theorem ext_none {h₀ h h' : Heap} {L : Addr} {mods : List Addr} {led : List (Addr × Obj)} (N : News h₀ L h led) (N' : News h₀ L h' led) (x : ExtB mods h h') (hm : ∀ b ∈ mods, b ∈ led.map (·.1)) : ExtB [] h h' := fun b o e _ => by
  by_cases q : b ∈ mods
  · obtain ⟨p, hp, rfl⟩ := List.mem_map.mp (hm b q)
    have z := (N p hp).1
    rw [e] at z
    rw [Option.some.inj z]
    exact (N' p hp).1
  · exact x b o e q
theorem ext_all {h₀ h h' : Heap} {L : Addr} {led led' : List (Addr × Obj)} (N : News h₀ L h led) (x : ExtB [] h h') (N' : News h₀ L h' led') : News h₀ L h' (led' ++ led) :=
  ext_news N x (fun _ _ q => by cases q) N'
theorem off3_mem {I C D : Addr} : ∀ {l : List (Addr × Obj)}, LCg.Off3 I C D l → ∀ p ∈ l, (@Ne Nat p.1 I ∧ @Ne Nat p.1 C ∧ @Ne Nat p.1 D)
  | [], _, _, h => nomatch h
  | _ :: _, x, p, h => by
    rcases List.mem_cons.mp h with rfl | h
    · exact x.1
    · exact off3_mem x.2 p h
theorem off3_of {I C D : Addr} : ∀ {l : List (Addr × Obj)}, (∀ p ∈ l, (@Ne Nat p.1 I ∧ @Ne Nat p.1 C ∧ @Ne Nat p.1 D)) → LCg.Off3 I C D l
  | [], _ => trivial
  | _ :: _, h => ⟨h _ (.head _), off3_of fun p hp => h p (.tail _ hp)⟩
theorem off3_app {I C D : Addr} {l l' led : List (Addr × Obj)} (a : LCg.Off3 I C D l) (b : LCg.Off3 I C D led) (h : ∀ p ∈ l', p ∈ led) : LCg.Off3 I C D (l ++ l') := off3_of fun p hp =>
  (List.mem_append.mp hp).elim (off3_mem a p) fun q => off3_mem b p (h p q)
local macro_rules | `(tactic| walk_at "call builtin:isinstance") => `(tactic| (k_here; (with_reducible show wpAny _ _ (call _ [Value.ref _, Value.ref _]) _ _ _); k_dflt (refine isn_dictOf (knd := PySem.strKind _ _) (hd := by with_reducible assumption) (by k_in) (by k_asm) (by k_mem) (by k_not) ?_)))
local macro_rules | `(tactic| walk_at "call builtin:isinstance") => `(tactic| (k_here; (with_reducible show wpAny _ _ (call _ [Value.ref _, Value.ref _]) _ _ _); k_dflt (refine' isi_call ?k1 ?k2 ?k3 ?k4 ?_; (case k1 => k_in); (case k2 => k_types); (case k3 => k_is); (case k4 => intro e; cases e); k_whole)))
section
abbrev fldObj (P : Params) (q1 q2 : Tok) (t : Addr) : Obj := dictOf [⟨PyData.keyHash P (Str.ofString "_deprecated_wildcard_use"), .str (Str.ofString "_deprecated_wildcard_use") q1, .bool false⟩, ⟨PyData.keyHash P (Str.ofString "fields"), .str (Str.ofString "fields") q2, .ref t⟩] 2
local macro_rules | `(tactic| walk_at "getMethod ref") => `(tactic| (k_here; (with_reducible show wpAny _ _ (getMethod (Value.ref _) (Str.ofString "get") _) _ _ _); refine hold ?_))
set_option maxRecDepth 100000 in
set_option maxHeartbeats 0 in
set_option rowWalk.seconds 0 in
theorem gfd {w : World} {p : Program} {loose : List Str} {mean : ExcName → Option Value} {mg mb : Str → Option Value}
  {dp un : Nat} {gd : Option (List Code)} {cn : Str} {cs : Scope} {a : Addr} {ccd : Value} {cl : List (Str × Addr)} {outer : List Env} {A₀ : Around} {base h₀ : Heap} {L : Addr} {m : Str → Option Value} {s : Shared}
    {x dx px d b r : Nat} {cx : Value} {q1 q2 q3 q5 : Tok} {od o1 o2 o3 : Obj} {e1 e2 e3 : Nat} {rv : Array Value} {rn : Nat} (hdoc : od.IsDictOf (PySem.strKind PySem.Challenge.pw_ae5010_01 w) [(Str.ofString "beside", .ref b), (Str.ofString "row", .ref r)]) (lo : (d == sysModules) = false)
    {Q E : Value → Shared → Prop}
    (B : Below A₀ base outer h₀) (F : Fr h₀ L s.heap m) (X : (hd.heap_39 w.params).In h₀) 
    (N : News h₀ L s.heap [(x, instObj 203 dx), (dx, datObj w.params q1 q2 q3 (.ref d) px cx), (d, od), (r, listOf rv rn), (e1, o1), (e2, o2), (e3, o3)]) (T : Top p loose mean mg mb h₀) (hk : cs.kind = .function)
    (hdp : dp + 10 < recursionLimit) (hun : un + 100 < cLine)
    (hret : ∀ y dy py q1' q2' q3' h' tk', Fr h₀ L h' m → News h₀ L h' [(y, instObj 203 dy), (dy, datObj w.params q1' q2' q3' (.ref r) py (.ref x)), (x, instObj 203 dx), (dx, datObj w.params q1 q2 q3 (.ref d) px cx), (d, od), (r, listOf rv rn)] → ExtB [] s.heap h' → LCg.Off3 e1 e2 e3 [(y, instObj 203 dy), (dy, datObj w.params q1' q2' q3' (.ref r) py (.ref x))] → Q (.ref y) { s with heap := h', toks := tk' }) :
    wpAny (model PySem.Challenge.pw_ae5010_01 w) (ktrTop dp un gd cn cs L a ccd cl outer) (call (.ref 461) [.ref x, .str (Str.ofString "row") q5, .bool false]) Q E s := by
  refine wpAny_call ?_
  walk_at "m_enter2"
  k_steps
  unfold Hold
  rename News _ _ _ _ => N9
  k_dflt (refine kdg_method (knd := PySem.strKind PySem.Challenge.pw_ae5010_01 w) N9 (by k_mem) hdoc ?_)
  k_steps
  rename News h₀ _ _ _ => N9
  k_dflt (refine hret _ _ _ _ _ _ _ _ (by assumption) (KStt.news_of N9 (by walk_at "m_keep")) (ext_none N (KStt.news_of N9 (by walk_at "m_keep")) (ext_of (by assumption) (by assumption)) (by simp)) ?off)
  case off => lcg_off
end
end
section
theorem fresh_C50 : True := by
  w_top off
  exact trivial
local macro_rules | `(tactic| walk_at "call builtin:callable") => `(tactic| (k_here; k_dflt (refine' callable_K ?X ?e ?_; (case X => k_in); (case e => k_is); k_whole)))
local macro_rules | `(tactic| walk_at "call builtin:isinstance") => `(tactic| (k_here; (with_reducible show wpAny _ _ (call _ [Value.ref _, Value.ref _]) _ _ _); k_dflt (refine isn_dictOf (knd := PySem.strKind _ _) (hd := by with_reducible assumption) (by k_in) (by k_asm) (by k_mem) (by k_not) ?_)))
local macro_rules | `(tactic| walk_at "call builtin:isinstance") => `(tactic| (k_here; (with_reducible show wpAny _ _ (call _ [Value.ref _, Value.ref _]) _ _ _); k_dflt (refine' isi_call ?k1 ?k2 ?k3 ?k4 ?_; (case k1 => k_in); (case k2 => k_types); (case k3 => k_is); (case k4 => intro e; cases e); k_whole)))
section
abbrev docKvs (b r : Addr) : List (Str × Value) := [(Str.ofString "beside", .ref b), (Str.ofString "row", .ref r)]
local macro_rules | `(tactic| walk_at "exec Assign cons ListComp") => `(tactic| (k_here; k_dflt (refine Assign_ListComp_T (F₀ := by k_asm) (by rfl) (by with_unfolding_all rfl) (by with_unfolding_all rfl) (by decide) (by rfl) (by decide) (by rfl) (by rfl) (by rfl) ?_)))
local macro_rules | `(tactic| walk_at "SrcTup") => `(tactic| (k_here; k_dflt (refine SrcTup.intro (by rfl) (by k_asm) (by k_asm) (by k_mem) (by first | size_fits | exact Nat.le_of_ble_eq_true rfl) ?_; intro g'; lcg_lit)))
local macro_rules | `(tactic| lcg_src) => `(tactic| exact ⟨_, by k_mem, rfl, _, rfl⟩)
local macro_rules | `(tactic| walk_at "call ref") => `(tactic| (k_here; (with_reducible show wpAny _ _ (call (Value.ref 461) _ _) _ _ _); refine hold ?_))
local macro_rules | `(tactic| walk_at "CompRest") => `(tactic| (refine LCg.CompRest.succ ?_; refine hold ?_))
local macro_rules | `(tactic| walk_at "CompRest") => `(tactic| (refine LCg.CompRest.zero ?_))
local macro_rules | `(tactic| walk_at "FinA") => `(tactic| ((unfold LCg.FinA); refine hold ?_))
local macro_rules | `(tactic| walk_at "CompRestT") => `(tactic| (refine hold ?_))
local macro_rules | `(tactic| walk_at "CompEnd") => `(tactic| refine hold ?_)
local macro_rules | `(tactic| walk_at "eval ListComp") => `(tactic| refine hold ?_)
set_option maxRecDepth 100000 in
set_option maxHeartbeats 0 in
set_option rowWalk.seconds 0 in
theorem ffind {w : World} {p : Program} {loose : List Str} {mean : ExcName → Option Value} {mg mb : Str → Option Value}
  {dp un : Nat} {gd : Option (List Code)} {cn : Str} {cs : Scope} {a : Addr} {ccd : Value} {cl : List (Str × Addr)} {outer : List Env} {A₀ : Around} {base h₀ : Heap} {L : Addr} {m : Str → Option Value} {s : Shared}
    {fx fd t d b r k S : Nat} {oS : Obj} {q1 q2 q5 : Tok} {od : Obj} {rv : Array Value} {rn : Nat} (hdoc : od.IsDictOf (PySem.strKind PySem.Challenge.pw_ae5010_01 w) [(Str.ofString "beside", .ref b), (Str.ofString "row", .ref r)]) (lo : (d == sysModules) = false)
    {Q E : Value → Shared → Prop}
    (B : Below A₀ base outer h₀) (F : Fr h₀ L s.heap m) (X : (hd.heap_39 w.params).In h₀) 
    (N : News h₀ L s.heap [(fx, instObj 549 fd), (fd, fldObj w.params q1 q2 t), (t, tupObj [.str (Str.ofString "row") q5] k), (d, od), (r, listOf rv rn), (S, oS)]) (T : Top p loose mean mg mb h₀) (hk : cs.kind = .function)
    (hdp : dp + 15 < recursionLimit) (hun : un + 150 < cLine)
    (hret : ∀ D y dy py q1' q2' q3' cx h' tk', Fr h₀ L h' m → News h₀ L h' [(D, LCg.lst [.ref y]), (y, instObj 203 dy), (dy, datObj w.params q1' q2' q3' (.ref r) py cx), (fx, instObj 549 fd), (fd, fldObj w.params q1 q2 t), (t, tupObj [.str (Str.ofString "row") q5] k), (d, od), (r, listOf rv rn), (S, oS)] → ExtB [] s.heap h' → @Ne Nat r D → @Ne Nat S D → Q (.ref D) { s with heap := h', toks := tk' }) :
    wpAny (model PySem.Challenge.pw_ae5010_01 w) (ktrTop dp un gd cn cs L a ccd cl outer) (call (.ref 478) [.ref fx, .ref d]) Q E s := by
  refine wpAny_call ?_
  walk_at "m_enter2"
  k_steps
  unfold Hold
  intro v9 I9 oI9 C9 oC9 D9 m9 h9 tk9 E9 hv9 hC9 hx9 F9 N9 off9 ne9
  lcg_open hv9
  have off9' := off9
  simp only [List.cons_append, List.nil_append, LCg.Off3, and_true] at off9'
  k_steps
  unfold Hold
  rename News _ _ _ ((_, _) :: _) => N9
  rename Fr _ _ _ _ => F9
  k_dflt (refine gfd (e1 := I9) (e2 := C9) (e3 := D9) (o1 := oI9) (o2 := oC9) (d := d) (b := b) (r := r) (rv := rv) (rn := rn) hdoc lo (by k_asm) F9 (by k_asm) (KStt.news_of N9 (by walk_at "m_keep")) (by k_asm) (by rfl) (by ktr_room) (by ktr_units) ?_)
  intro y dy py q1' q2' q3' h' tk' F8 N8 x8 of8
  have N7 := ext_all N9 x8 (led' := [(y, instObj 203 dy), (dy, datObj w.params q1' q2' q3' (.ref r) py _)]) (KStt.news_of N8 (by walk_at "m_keep"))
  simp only [List.cons_append, List.nil_append] at N7
  clear N9 F9
  k_dflt (refine LCg.CompEnd.intro (by assumption) N7 [(y, instObj 203 dy), (dy, datObj w.params q1' q2' q3' (.ref r) py _), (t, tupObj [.str (Str.ofString "row") q5] k), (fx, instObj 549 fd), (fd, fldObj w.params q1 q2 t), (d, od), (r, listOf rv rn), (S, oS)] (by walk_at "m_keep") ?hoff (by lcg_src) ?_)
  case hoff => exact off3_app of8 off9 (by walk_at "m_keep")
  k_steps
  unfold Hold
  intro DD hh tkk F9 N9 of9
  simp only [List.nil_append, List.cons_append] at N9
  k_steps
  unfold Hold
  k_dflt (refine LCt.ListComp_T (F₀ := by k_asm) (by with_unfolding_all rfl) (by decide) (by rfl) (by decide) (by rfl) ?_)
  clear F8 N8 x8 N7
  k_steps
  unfold Hold
  rename News _ _ _ _ => N7
  with_unfolding_all refine LCt.CompRestT.succ ?_
  intro v8 I8 oI8 C8 oC8 D8 m8 h8 tk8 E8 hv8 hC8 hx8 F8 N8 off8 ne8
  lcg_open hv8
  (try simp only [List.cons_append, List.nil_append] at N8)
  have off8' := off8
  simp only [LCg.Off3, and_true] at off8'
  k_steps
  unfold Hold
  rename News _ _ _ _ => N9
  rename Fr _ _ _ _ => F9
  k_dflt (refine LCg.CompEnd.intro F9 N9 [(y, instObj 203 dy), (dy, datObj w.params q1' q2' q3' (.ref r) py _), (DD, LCg.lst [.ref y]), (fx, instObj 549 fd), (fd, fldObj w.params q1 q2 t), (t, tupObj [.str (Str.ofString "row") q5] k), (d, od), (r, listOf rv rn), (S, oS)] (by walk_at "m_keep") ?hoff (Or.inr ⟨LCg.lst [.ref y], by k_mem, rfl, _, rfl⟩) ?_)
  case hoff => exact off3_app (l := []) trivial off8 (by walk_at "m_keep")
  clear F9 N9
  with_unfolding_all refine LCt.CompRestT.zero ?_
  k_steps
  rename News h₀ _ _ _ => N9
  k_dflt (refine hret _ _ _ _ _ _ _ _ _ _ (by assumption) (KStt.news_of N9 (by walk_at "m_keep")) (ext_none N (KStt.news_of N9 (by walk_at "m_keep")) (ext_of (by assumption) (by assumption)) (by simp)) ?ner ?ner2)
  case ner => k_ne
  case ner2 => k_ne
end
end
section
theorem fresh_C60 : True := by
  w_top off
  exact trivial
local macro_rules | `(tactic| walk_at "call builtin:callable") => `(tactic| (k_here; k_dflt (refine' callable_K ?X ?e ?_; (case X => k_in); (case e => k_is); k_whole)))
local macro_rules | `(tactic| walk_at "call builtin:isinstance") => `(tactic| (k_here; (with_reducible show wpAny _ _ (call _ [Value.ref _, Value.ref _]) _ _ _); k_dflt (refine isn_dictOf (knd := PySem.strKind _ _) (hd := by with_reducible assumption) (by k_in) (by k_asm) (by k_mem) (by k_not) ?_)))
local macro_rules | `(tactic| walk_at "call builtin:isinstance") => `(tactic| (k_here; (with_reducible show wpAny _ _ (call _ [Value.ref _, Value.ref _]) _ _ _); k_dflt (refine' isi_call ?k1 ?k2 ?k3 ?k4 ?_; (case k1 => k_in); (case k2 => k_types); (case k3 => k_is); (case k4 => intro e; cases e); k_whole)))
section
abbrev chObj (P : Params) (q1 q2 : Tok) (l r : Addr) : Obj := dictOf [⟨PyData.keyHash P (Str.ofString "left"), .str (Str.ofString "left") q1, .ref l⟩, ⟨PyData.keyHash P (Str.ofString "right"), .str (Str.ofString "right") q2, .ref r⟩] 2
local macro_rules | `(tactic| walk_at "call ref") => `(tactic| (k_here; (with_reducible show wpAny _ _ (call (Value.ref 478) _ _) _ _ _); refine hold ?_))
local macro_rules | `(tactic| walk_at "call ref") => `(tactic| (k_here; (with_reducible show wpAny _ _ (call (Value.ref 688) _ _) _ _ _); refine hold ?_))
local macro_rules | `(tactic| walk_at "exec For Name Call cons nil") => `(tactic| (k_dflt (refine For_G ?_)))
set_option maxRecDepth 100000 in
set_option maxHeartbeats 0 in
set_option rowWalk.seconds 0 in
theorem chup {w : World} {p : Program} {loose : List Str} {mean : ExcName → Option Value} {mg mb : Str → Option Value}
  {dp un : Nat} {gd : Option (List Code)} {cn : Str} {cs : Scope} {a : Addr} {ccd : Value} {cl : List (Str × Addr)} {outer : List Env} {A₀ : Around} {base h₀ : Heap} {L : Addr} {m : Str → Option Value} {s : Shared}
    {cx cd fx fd t sx sd d b r k n : Nat} {q1 q2 q5 q6 q7 q11 q12 q13 q14 u : Tok} {od : Obj} {vs : List Value} {xs : List Int} (hv : IntsAre vs xs) (hxl : xs.length ≤ 64) (hdoc : od.IsDictOf (PySem.strKind PySem.Challenge.pw_ae5010_01 w) [(Str.ofString "beside", .ref b), (Str.ofString "row", .ref r)]) (lo : (d == sysModules) = false)
    {Q E : Value → Shared → Prop}
    (B : Below A₀ base outer h₀) (F : Fr h₀ L s.heap m) (X : (hd.heap_39 w.params).In h₀) 
    (N : News h₀ L s.heap [(cx, instObj 421 cd), (cd, chObj w.params q6 q7 fx sx), (fx, instObj 549 fd), (fd, fldObj w.params q1 q2 t), (t, tupObj [.str (Str.ofString "row") q5] k), (sx, instObj 717 sd), (sd, slObj w.params q11 q12 q13 q14 u), (d, od), (r, listOf vs.toArray n)]) (T : Top p loose mean mg mb h₀) (hk : cs.kind = .function)
    (hdp : dp + 30 < recursionLimit) (hun : un + 300 < cLine)
    (hret : ∀ h' tk' vs' n', IntsAre vs' (cum (xs.length - 1) xs) → Fr h₀ L h' m → News h₀ L h' [(cx, instObj 421 cd), (cd, chObj w.params q6 q7 fx sx), (fx, instObj 549 fd), (fd, fldObj w.params q1 q2 t), (t, tupObj [.str (Str.ofString "row") q5] k), (sx, instObj 717 sd), (sd, slObj w.params q11 q12 q13 q14 u), (d, od), (r, listOf vs'.toArray n')] → ExtB [r] s.heap h' → Q (.ref d) { s with heap := h', toks := tk' }) :
    wpAny (model PySem.Challenge.pw_ae5010_01 w) (ktrTop dp un gd cn cs L a ccd cl outer) (call (.ref 355) [.ref cx, .ref d, .ref 751]) Q E s := by
  refine wpAny_call ?_
  walk_at "m_enter2"
  k_steps
  unfold Hold
  rename News _ _ _ _ => N9
  rename Fr _ _ _ _ => F9
  k_dflt (refine ffind (d := d) (b := b) (r := r) (t := t) (S := r) (oS := listOf vs.toArray n) hdoc lo (by k_asm) F9 (by k_asm) (KStt.news_of N9 (by walk_at "m_keep")) (by k_asm) (by rfl) (by ktr_room) (by ktr_units) ?_)
  intro D y dy py q1' q2' q3' cxx h' tk' F8 N8 x8 hrD _
  have N7 := ext_all N9 x8 (led' := [(D, LCg.lst [.ref y]), (y, instObj 203 dy), (dy, datObj w.params q1' q2' q3' (.ref r) py cxx)]) (KStt.news_of N8 (by walk_at "m_keep"))
  simp only [List.cons_append, List.nil_append] at N7
  clear N9 F9 N8
  k_steps
  rename News _ _ _ _ => N9
  rename Fr _ _ _ _ => F9
  k_dflt (refine iter_list_one (lo := LCg.lst [.ref y]) (v := .ref y) (by rfl) (by rfl) (by rfl) F9 N9 (by k_mem) (by rfl) (by rfl) ?_)
  intro I oI h1 tk1 E1 hlt F1 N1
  have hrI : r < I := hlt (r, listOf vs.toArray n) (by k_mem)
  (try k_lt hlt)
  clear F9 N9
  k_steps
  unfold Hold
  rename News _ _ _ _ => N9
  rename Fr _ _ _ _ => F9
  k_dflt (refine slupd (n := n) (r := r) (sx := sx) (sd := sd) (q1 := q11) (q2 := q12) (q3 := q13) (q4 := q14) (u := u) hv (by walk_at "m_neq") (by walk_at "m_neq") (by walk_at "m_neq") hxl (by k_asm) F9 (by k_asm) (KStt.news_of N9 (by walk_at "m_keep")) (by k_asm) (by rfl) (by ktr_room) (by ktr_units) ?_)
  intro h2 tk2 vs2 n2 hI2 F2 N2 x2
  have hdc : od.cls = .type "dict" := hdoc.choose_spec.choose_spec.1.1
  have x3 := ext_one (r := r) (led := [(sx, instObj 717 sd), (sd, slObj w.params q11 q12 q13 q14 u)]) (KStt.news_of N9 (by walk_at "m_keep")) (KStt.news_of N2 (by walk_at "m_keep")) x2 (by simp)
  have hdr : @Ne Nat d r := news_ne N9 (o := od) (o' := listOf vs.toArray n) (by k_mem) (by k_mem) (by rw [hdc]; exact (by decide : Value.type "dict" ≠ Value.type "list"))
  have N3 := news_swap (pre := [(I, oI), (D, LCg.lst [.ref y]), (y, instObj 203 dy), (dy, datObj w.params q1' q2' q3' (.ref r) py cxx), (cx, instObj 421 cd), (cd, chObj w.params q6 q7 fx sx), (fx, instObj 549 fd), (fd, fldObj w.params q1 q2 t), (t, tupObj [.str (Str.ofString "row") q5] k), (sx, instObj 717 sd), (sd, slObj w.params q11 q12 q13 q14 u), (d, od)]) (post := []) N9 x3 (KStt.news_of N2 (by walk_at "m_keep"))
    (List.forall_mem_cons.mpr ⟨by show @Ne Nat I r; omega, List.forall_mem_cons.mpr ⟨Ne.symm hrD, List.forall_mem_cons.mpr ⟨news_ne N9 (o' := listOf vs.toArray n) (by k_mem) (by k_mem) (by k_cls), List.forall_mem_cons.mpr ⟨news_ne N9 (o' := listOf vs.toArray n) (by k_mem) (by k_mem) (by k_cls), List.forall_mem_cons.mpr ⟨news_ne N9 (o' := listOf vs.toArray n) (by k_mem) (by k_mem) (by k_cls), List.forall_mem_cons.mpr ⟨news_ne N9 (o' := listOf vs.toArray n) (by k_mem) (by k_mem) (by k_cls), List.forall_mem_cons.mpr ⟨news_ne N9 (o' := listOf vs.toArray n) (by k_mem) (by k_mem) (by k_cls), List.forall_mem_cons.mpr ⟨news_ne N9 (o' := listOf vs.toArray n) (by k_mem) (by k_mem) (by k_cls), List.forall_mem_cons.mpr ⟨news_ne N9 (o' := listOf vs.toArray n) (by k_mem) (by k_mem) (by k_cls), List.forall_mem_cons.mpr ⟨news_ne N9 (o' := listOf vs.toArray n) (by k_mem) (by k_mem) (by k_cls), List.forall_mem_cons.mpr ⟨news_ne N9 (o' := listOf vs.toArray n) (by k_mem) (by k_mem) (by k_cls), List.forall_mem_cons.mpr ⟨hdr, List.forall_mem_nil _⟩⟩⟩⟩⟩⟩⟩⟩⟩⟩⟩⟩)
    (List.forall_mem_nil _)
  simp only [List.cons_append, List.nil_append] at N3
  clear N9 F9 N2 N1 F1
  k_steps
  rename News h₀ _ _ _ => N8
  k_dflt (refine hret _ _ vs2 n2 hI2 (by assumption) (KStt.news_of N8 (by walk_at "m_keep")) ?_)
  exact ext_one (led := [(cx, instObj 421 cd), (cd, chObj w.params q6 q7 fx sx), (fx, instObj 549 fd), (fd, fldObj w.params q1 q2 t), (t, tupObj [.str (Str.ofString "row") q5] k), (sx, instObj 717 sd), (sd, slObj w.params q11 q12 q13 q14 u), (d, od)]) (KStt.news_of N (by walk_at "m_keep")) (KStt.news_of N8 (by walk_at "m_keep")) (ext_of (by assumption) (by assumption)) (by simp)
end
end
section
section
open PyProof.Rows
variable {prog : Program} {w : World} {A : Around}
/-- what a turn of a generator may change -/
noncomputable def Since (mods : List Addr) (s₀ s : Shared) : Prop := (∃ h' tk, s = { s₀ with heap := h', toks := tk }) ∧ ExtB mods s₀.heap s.heap
theorem Since.refl (mods : List Addr) (s : Shared) : Since mods s s := ⟨⟨s.heap, s.toks, rfl⟩, ExtB.refl _ _⟩
theorem Since.step {mods : List Addr} {s₀ s s' : Shared} (x : Since mods s₀ s) (y : Since mods s s') : Since mods s₀ s' := by
  obtain ⟨⟨h₁, tk₁, rfl⟩, x⟩ := x
  obtain ⟨⟨h₂, tk₂, rfl⟩, y⟩ := y
  exact ⟨⟨h₂, tk₂, rfl⟩, x.trans y fun b hb => .inl hb⟩
noncomputable def gProto (mods : List Addr) (n₀ : Nat) (V : Nat → Value → Prop) (Inv : Nat → Heap → Prop) : Protocol := fun m s₀ v s kap =>
  ∃ i, i + 1 + m = n₀ ∧ V i v ∧ Since mods s₀ s ∧ Inv (i + 1) s.heap ∧ ∀ s'' : Shared, Inv (i + 1) s''.heap → kap (.send .none) s''
noncomputable def gEnd (mods : List Addr) (Fin : Heap → Prop) : Nat → Shared → Shared → Prop := fun n s₀ s₁ => n = 0 ∧ Since mods s₀ s₁ ∧ Fin s₁.heap
/-- the turns of a generator with one test, which may change things and holds always -/
structure GTurn (prog : Program) (w : World) (A : Around) (elt iter : Expr) (x : Str) (px : Pos) (c : Expr) (scope : Scope) (pos : Pos) (I : Addr) (cenv : Env) (mods : List Addr) (n₀ : Nat) (V : Nat → Value → Prop) (Inv : Nat → Heap → Prop) (Fin : Heap → Prop) (k₀ : Code) : Prop where
  turn : ∀ i (s : Shared) (E : Value → Shared → Prop), i < n₀ → Inv i s.heap → wpAny (model prog w) (A.over k₀ []) (pyNext (.ref I)) (fun o s₁ => ∃ v, o = some v ∧ wpAny (model prog w) (A.over k₀ []) (assign (.Name x px) cenv v) (fun _ s₂ =>
    wpAny (model prog w) (A.over k₀ []) (isTrue c cenv (eval c cenv)) (fun ok s₃ => ok = true ∧ ∀ E', wpAny (model prog w) (A.over k₀ []) (eval elt cenv) (fun y s₄ => V i y ∧ Since mods s s₄ ∧ Inv (i + 1) s₄.heap) E' s₃) E s₂) E s₁) E s
  stop : ∀ (s : Shared) (E : Value → Shared → Prop), Inv n₀ s.heap → wpAny (model prog w) (A.over k₀ []) (pyNext (.ref I)) (fun o s₁ => o = none ∧ Since mods s s₁ ∧ Fin s₁.heap) E s

theorem seg_gen {elt iter c : Expr} {x : Str} {px : Pos} {scope : Scope} {pos : Pos} {I : Addr} {cenv : Env} {mods : List Addr} {n₀ : Nat} {V : Nat → Value → Prop} {Inv : Nat → Heap → Prop} {Fin : Heap → Prop} (hco : cenv.scope.isCoroutine = false)
    (G : GTurn prog w A elt iter x px c scope pos I cenv mods n₀ V Inv Fin (.compLoop (.GeneratorExp elt [⟨.Name x px, iter, [c], 0⟩] scope pos) 0 (.ref I) .none cenv)) :
    ∀ (k i : Nat) (s₀ s : Shared), i + k = n₀ → Inv i s.heap → Since mods s₀ s →
      Seg (model prog w) A (fun n s₀ r s₁ => r = .ok .next ∧ gEnd mods Fin n s₀ s₁) (gProto mods n₀ V Inv) k s₀
        (.compLoop (.GeneratorExp elt [⟨.Name x px, iter, [c], 0⟩] scope pos) 0 (.ref I) .none cenv)
        ((model prog w).den (.compLoop (.GeneratorExp elt [⟨.Name x px, iter, [c], 0⟩] scope pos) 0 (.ref I) .none cenv)) [] s := by
  intro k
  induction k with
  | zero =>
    intro i s₀ s hk hI hS
    obtain rfl : i = n₀ := hk
    show Seg _ A _ _ _ s₀ _ ((compTurn (.GeneratorExp elt [⟨.Name x px, iter, [c], 0⟩] scope pos) 0 (.ref I) .none cenv).onRaise (leaving cenv)) [] s
    rw [compTurn_gen, Sem.onRaise_eq_wrap]
    refine seg_bind_wrap (wpAny_standAt ?_)
    refine seg_bind_wrap (wpAny_mono (G.stop s _ hI) (fun o s₁ h₁ => ?_) fun _ _ e => e)
    obtain ⟨rfl, h₁, hF⟩ := h₁
    exact seg_end (.ok .next) ⟨rfl, rfl, hS.step h₁, hF⟩
  | succ k ih =>
    intro i s₀ s hk hI hS
    show Seg _ A _ _ _ s₀ _ ((compTurn (.GeneratorExp elt [⟨.Name x px, iter, [c], 0⟩] scope pos) 0 (.ref I) .none cenv).onRaise (leaving cenv)) [] s
    rw [compTurn_gen, Sem.onRaise_eq_wrap]
    refine seg_bind_wrap (wpAny_standAt ?_)
    refine seg_bind_wrap (wpAny_mono (G.turn i s _ (by omega) hI) (fun o s₁ h₁ => ?_) fun _ _ e => e)
    obtain ⟨v, rfl, h₁⟩ := h₁
    refine seg_bind_wrap (wpAny_of_eq (rfl : letOwnedTupleGo (.Name x px) (.ref I) v = pure ()) ?_)
    refine seg_bind_wrap (wpAny_mono h₁ (fun _ s₂ h₂ => ?_) fun _ _ e => e)
    refine seg_bind_wrap (wpAny_tests_one (wpAny_mono h₂ (fun ok s₃ h₃ => ?_) fun _ _ e => e))
    obtain ⟨rfl, h₃⟩ := h₃
    simp only [if_true]
    have hy : ∀ v, yieldOut cenv v = yieldValue v := fun v => by simp only [yieldOut, hco, Bool.false_eq_true, if_false]
    simp only [hy]
    rw [Sem.bind_eq_wrap', Sem.bind_eq_wrap', Sem.wrap_wrap, Sem.wrap_wrap]
    refine seg_wrap (wpAny_mono (h₃ _) (fun y s₄ h₄ => ?_) fun _ _ e => e)
    obtain ⟨hV, hS₄, hI₄⟩ := h₄
    refine seg_at (seg_yield rfl rfl rfl ⟨i, by omega, hV, hS.step hS₄, hI₄, fun s'' h'' => ?_⟩)
    exact seg_again rfl (ih (i + 1) s'' s'' (by omega) h'' (Since.refl _ _))

theorem seg_gen0 {elt iter c : Expr} {x : Str} {px : Pos} {scope : Scope} {pos : Pos} {I : Addr} {cenv : Env} {mods : List Addr} {n₀ : Nat} {V : Nat → Value → Prop} {Inv : Nat → Heap → Prop} {Fin : Heap → Prop} (hco : cenv.scope.isCoroutine = false)
    (G : GTurn prog w A elt iter x px c scope pos I cenv mods n₀ V Inv Fin (.compLoop (.GeneratorExp elt [⟨.Name x px, iter, [c], 0⟩] scope pos) 0 (.ref I) .none cenv))
    (self : ∀ (A' : Around) (s : Shared) (Q : Value → Shared → Prop) (E : Value → Shared → Prop), Inv 0 s.heap → Q (.ref I) s → wpAny (model prog w) A' (pyIter (.ref I)) Q E s)
    (s₀ s : Shared) (hI : Inv 0 s.heap) (hS : Since mods s₀ s) :
    Seg (model prog w) A (fun n s₀ r s₁ => r = .ok .next ∧ gEnd mods Fin n s₀ s₁) (gProto mods n₀ V Inv) n₀ s₀
      (.compStart (.GeneratorExp elt [⟨.Name x px, iter, [c], 0⟩] scope pos) 0 (.ref I) .none cenv)
      ((model prog w).den (.compStart (.GeneratorExp elt [⟨.Name x px, iter, [c], 0⟩] scope pos) 0 (.ref I) .none cenv)) [] s := by
  have loop := seg_gen hco G n₀ 0 s₀ s (Nat.zero_add _) hI hS
  show Seg _ A _ _ _ s₀ _ ((compStart (.GeneratorExp elt [⟨.Name x px, iter, [c], 0⟩] scope pos) 0 (.ref I) .none cenv).onRaise (leaving cenv)) [] s
  unfold compStart
  rw [Sem.onRaise_eq_wrap]
  show Seg _ A _ _ _ s₀ _ ((ask >>= _).wrap _ _ _ _) [] s
  refine seg_bind_wrap (wpAny_askSetting ?_)
  split
  · exact seg_again rfl loop
  · refine seg_bind_wrap (wpAny_rule ?_)
    show Seg _ A _ _ _ s₀ _ ((standAt iter.pos >>= _).wrap _ _ _ _) [] s
    exact seg_bind_wrap (wpAny_standAt (seg_bind_wrap (self _ _ _ _ hI (seg_again rfl loop))))

/-- a generator that waits before its item i -/
noncomputable def GenS (prog : Program) (w : World) (A : Around) (g : Nat) (mods : List Addr) (n₀ : Nat) (V : Nat → Value → Prop) (Inv : Nat → Heap → Prop) (Fin : Heap → Prop) (i : Nat) (s : Shared) : Prop :=
  ∃ gs, s.gens[g]? = some gs ∧ ∀ s'' : Shared, Inv i s''.heap → gs.Goes (model prog w) A.in1 (fun n s₀ r s₁ => r = .ok .next ∧ gEnd mods Fin n s₀ s₁) (gProto mods n₀ V Inv) (n₀ - i) (.send .none) s''

variable {E : Value → Shared → Prop} {s : Shared} {a : Addr} {g : Nat} {mods : List Addr} {n₀ : Nat} {V : Nat → Value → Prop} {Inv : Nat → Heap → Prop} {Fin : Heap → Prop}
theorem gens_next (hh : A.handled = none) (hroom : A.depth < recursionLimit) {i : Nat} {Q : Option Value → Shared → Prop} (hi : i < n₀) (hg : s.heap.IsGen a g) (hl : s.heap.NoLimit) (hI : Inv i s.heap) (G : GenS prog w A g mods n₀ V Inv Fin i s)
    (hQ : ∀ v h' tk gens', V i v → Inv (i + 1) h' → ExtB mods s.heap h' → GenOnlyQ g s.gens gens' → GenS prog w A g mods n₀ V Inv Fin (i + 1) { s with heap := h', toks := tk, gens := gens' } → Q (some v) { s with heap := h', toks := tk, gens := gens' }) :
    wpAny (model prog w) A (pyNext (.ref a)) Q E s := by
  obtain ⟨gs, hgs, hgo⟩ := G
  obtain ⟨m, hm⟩ : ∃ m, n₀ - i = m + 1 := ⟨n₀ - i - 1, by omega⟩
  rw [hm] at hgo
  refine wpAny_pyNext_genexpQ (P := gEnd mods Fin) hh hl hroom hg hgs (hgo _ hI) (fun v s₁ gs' hb hv => ?_) (fun s₁ hp h' hk => ?_)
  · obtain ⟨j, hj, hV, ⟨⟨h₁, tk₁, rfl⟩, hx⟩, hI₁, hkap⟩ := hv
    obtain rfl : j = i := by omega
    refine hQ v _ _ _ hV hI₁ hx (GenOnlyQ.of ((GenOnly.setGen s g .running).trans (GenOnly.setGen _ g gs')) (setGen_self (gs := .running) (setGen_self hgs)) hb) ⟨gs', setGen_self (gs := .running) (setGen_self hgs), fun s'' h'' => ?_⟩
    have e : n₀ - (j + 1) = m := by omega
    rw [e]
    exact hkap s'' h''
  · exact absurd hp.1 (Nat.succ_ne_zero m)
theorem gens_done (hh : A.handled = none) (hroom : A.depth < recursionLimit) {Q : Option Value → Shared → Prop} (hg : s.heap.IsGen a g) (hl : s.heap.NoLimit) (hI : Inv n₀ s.heap) (G : GenS prog w A g mods n₀ V Inv Fin n₀ s)
    (hQ : ∀ h₁ h' tk gens', Fin h₁ → ExtB mods s.heap h₁ → (∀ b o, h₁.get? b = some o → h'.get? b = some o) → GenOnlyQ g s.gens gens' → Q none { s with heap := h', toks := tk, gens := gens' }) :
    wpAny (model prog w) A (pyNext (.ref a)) Q E s := by
  obtain ⟨gs, hgs, hgo⟩ := G
  rw [Nat.sub_self] at hgo
  refine wpAny_pyNext_genexpQ (P := gEnd mods Fin) hh hl hroom hg hgs (hgo _ hI) (fun v s₁ gs' hb hv => ?_) (fun s₁ hp h' hk => ?_)
  · obtain ⟨j, hj, _, _, hI', hkap⟩ := hv
    exact (hkap s₁ hI').elim
  · obtain ⟨_, ⟨⟨h₁, tk₁, rfl⟩, hx⟩, hF⟩ := hp
    exact hQ h₁ h' _ _ hF hx hk (GenOnlyQ.of ((GenOnly.setGen s g .running).trans (GenOnly.setGen _ g .finished)) (setGen_self (gs := .running) (setGen_self hgs)) rfl)

theorem ext_loop_gen (hh : A.handled = none) (hroom : A.depth < recursionLimit) (hn : n₀ ≤ sizeLine) (S : Addr) (res : Value) {R : Result → Shared → Prop} (hSm : S ∉ mods) (hG : ∀ i h, Inv i h → h.IsGen a g ∧ h.NoLimit)
    (hfr : ∀ i h h', Inv i h → (∀ b o, b ≠ S → h.get? b = some o → h'.get? b = some o) → Inv i h') :
    ∀ (k i : Nat) (s : Shared) (acc : Array Value) (c : Nat), i + k = n₀ → Inv i s.heap → GenS prog w A.in1 g mods n₀ V Inv Fin i s → s.heap.get? S = some { cls := .type "list", dict := none, data := .seq acc c, slots := #[] } → ItemsOf V acc i →
    (∀ h₁ h' tk gens' acc' c', Fin h₁ → (∀ b o, b ≠ S → h₁.get? b = some o → h'.get? b = some o) → ExtB (S :: mods) s.heap h' → GenOnlyQ g s.gens gens' → h'.get? S = some { cls := .type "list", dict := none, data := .seq acc' c', slots := #[] } → ItemsOf V acc' n₀ → R (.ok (.ret res)) { s with heap := h', toks := tk, gens := gens' }) →
    codeAny (model prog w) A (.builtin "list.extend.loop" ⟨[.ref S, .ref a, res], []⟩) R s := by
  intro k
  induction k with
  | zero =>
    intro i s acc c hk hI hst hS hacc hR
    obtain rfl : i = n₀ := hk
    refine codeAny_builtin F.entry_extend_loop ?_
    rw [Around.under_plainId F.plain_extend_loop _]
    show wpAny _ A.in1 (pyNext (.ref a) >>= _) _ _ s
    refine wpAny_bind (gens_done (A := A.in1) hh hroom (hG _ _ hI).1 (hG _ _ hI).2 hI hst fun h₁ h' tk gens' hF hx hk hgo => ?_)
    exact wpAny_pure (hR h₁ h' tk gens' acc c hF (fun b o _ e => hk b o e) (fun b o e hb => hk b o (hx b o e fun q => hb (List.mem_cons_of_mem _ q))) hgo (hk _ _ (hx _ _ hS hSm)) hacc)
  | succ k ih =>
    intro i s acc c hk hI hst hS hacc hR
    have hlt : i < n₀ := by omega
    refine codeAny_builtin F.entry_extend_loop ?_
    rw [Around.under_plainId F.plain_extend_loop _]
    show wpAny _ A.in1 (pyNext (.ref a) >>= _) _ _ s
    refine wpAny_bind (gens_next (A := A.in1) hh hroom hlt (hG _ _ hI).1 (hG _ _ hI).2 hI hst fun v h' tk gens' hV hI' hx hgo hst' => ?_)
    have hS' := hx _ _ hS hSm
    show wpAny _ A.in1 (updateSeq S (·.push v) >>= _) _ _ _
    refine wpAny_bind ?_
    refine wpAny_updateSeq hS' rfl (wpAny_pure ⟨plainId_quiet F.plain_extend_loop _, ih (i + 1) _ (acc.push v) _ (by omega) (hfr _ _ _ hI' fun b o hb e => ?_) ?_ (Heap.get?_update_self _ hS' rfl) (hacc.push hV) fun h₁ h'' tk' gens'' acc' c' hF hk' hx' hgo' hS'' hacc' => ?_⟩)
      (by rw [hacc.1]; omega) (by show (acc.push v).size ≤ sizeLine + 1; rw [Array.size_push, hacc.1]; omega)
    · exact (Heap.get?_update_other _ _ (Ne.symm hb)).trans e
    · exact hst'
    · refine hR h₁ h'' tk' gens'' acc' c' hF hk' (fun b o e hb => ?_) (hgo.trans hgo') hS'' hacc'
      refine hx' b o ((Heap.get?_update_other _ _ fun q => hb (List.mem_cons.mpr (.inl q.symm))).trans (hx b o e fun q => hb (List.mem_cons_of_mem _ q))) hb

theorem collect_gen (hh : A.handled = none) (hroom : A.depth < recursionLimit) (hn : n₀ ≤ sizeLine) {Q : List Value → Shared → Prop} (hG : ∀ i h, Inv i h → h.IsGen a g ∧ h.NoLimit) (hms : ∀ b ∈ mods, b < s.heap.objs.size)
    (hfr : ∀ i h h', Inv i h → (∀ b o, b ≠ s.heap.objs.size → h.get? b = some o → h'.get? b = some o) → Inv i h') (hfF : ∀ h h', Fin h → (∀ b o, b ≠ s.heap.objs.size → h.get? b = some o → h'.get? b = some o) → Fin h')
    (hI : Inv 0 s.heap) (G : GenS prog w A.in1 g mods n₀ V Inv Fin 0 s)
    (hQ : ∀ h' tk gens' acc, Fin h' → ExtB mods s.heap h' → GenOnlyQ g s.gens gens' → ItemsOf V acc n₀ → Q acc.toList { s with heap := h', toks := tk, gens := gens' }) : wpAny (model prog w) A (collect (.ref a)) Q E s := by
  unfold collect
  refine wpAny_bind (wpAny_runValue (codeAny_builtin F.entry_proto_collect ?_))
  rw [Around.under_plainId F.plain_proto_collect _]
  show wpAny _ A.in1 (newList [] >>= fun l => again (.builtin "list.__iadd__" ⟨[l, .ref a], []⟩)) _ _ s
  refine wpAny_bind (wpAny_newObj_type ?_)
  refine wpAny_pure ⟨plainId_quiet F.plain_list_iadd _, codeAny_builtin F.entry_list_iadd ?_⟩
  rw [Around.under_plainId F.plain_list_iadd _]
  have hSm : s.heap.objs.size ∉ mods := fun q => Nat.lt_irrefl _ (hms _ q)
  have hI₁ : Inv 0 (s.heap.push { cls := .type "list", data := .seq ([] : List Value).toArray }) := hfr _ _ _ hI fun b o _ e => Heap.get?_push_of_some _ e
  have hSI : s.heap.objs.size ≠ a := fun e => by
    obtain ⟨o, nm, qn, ho, r⟩ := (hG _ _ hI).1
    exact Nat.lt_irrefl _ (e ▸ Heap.lt_size ho)
  show wpAny _ A.in1 (Builtin.List.listExtendWith (.ref s.heap.objs.size) (.ref a) (.ref s.heap.objs.size)) _ _ _
  unfold Builtin.List.listExtendWith
  have hT : ∀ s' : Shared, Inv 0 s'.heap → s'.TypeIs (.ref a) "generator" := fun s' h => (hG _ _ h).1.typeIs
  refine wpAny_bind (wpAny_typeOf (hT _ hI₁) ?_)
  have h1 : Builtin.List.listSameRef (.ref s.heap.objs.size) (.ref a) = false := by simp [Builtin.List.listSameRef, hSI]
  have h2 : (Value.type "generator" == Value.type "list") = false := by decide
  have h3 : (Value.type "generator" == Value.type "tuple") = false := by decide
  simp only [h1, h2, h3, Bool.or_false, Bool.false_eq_true, if_false]
  refine wpAny_bind (wpAny_pyIter_gen (hG _ _ hI₁).1 ?_)
  refine wpAny_bind (wpAny_holding ?_)
  unfold Builtin.List.listLengthHint
  refine wpAny_bind (wpAny_specialOf (hT _ hI₁) F.gen_no_len ?_)
  show wpAny _ A.in1 (specialOf (Value.ref a) (Str.ofString "__length_hint__") >>= _) _ _ _
  refine wpAny_bind (wpAny_specialOf (hT _ hI₁) F.gen_no_hint ?_)
  refine wpAny_pure ?_
  show wpAny _ A.in1 (rule "list.extend.makes-room" >>= fun _ => Builtin.List.listTouch (.ref s.heap.objs.size) >>= fun _ =>
    again (.builtin "list.extend.loop" ⟨[.ref s.heap.objs.size, .ref a, .ref s.heap.objs.size], []⟩)) _ _ _
  refine wpAny_bind (wpAny_rule ?_)
  have hS₁ : (s.heap.push { cls := .type "list", data := .seq ([] : List Value).toArray }).get? s.heap.objs.size = some { cls := .type "list", data := .seq ([] : List Value).toArray } := Heap.get?_push_size _ rfl
  refine wpAny_bind ?_
  show wpAny _ A.in1 (updateSeq s.heap.objs.size (·.push .none) >>= fun _ => updateSeq s.heap.objs.size (·.pop)) _ _ _
  refine wpAny_bind (wpAny_updateSeq hS₁ rfl ?_)
  have hS₂ := Heap.get?_update_self (Obj.mapSeq (·.push Value.none)) hS₁ rfl
  refine wpAny_updateSeq hS₂ rfl ?_
  have hS₃ := Heap.get?_update_self (Obj.mapSeq (·.pop)) hS₂ rfl
  have oth : ∀ b o, b ≠ s.heap.objs.size → (s.heap.push { cls := .type "list", data := .seq ([] : List Value).toArray }).get? b = some o →
      (((s.heap.push { cls := .type "list", data := .seq ([] : List Value).toArray }).update s.heap.objs.size (Obj.mapSeq (·.push Value.none))).update s.heap.objs.size (Obj.mapSeq (·.pop))).get? b = some o :=
    fun b o hb e => (Heap.get?_update_other _ _ (Ne.symm hb)).trans ((Heap.get?_update_other _ _ (Ne.symm hb)).trans e)
  refine wpAny_pure ⟨plainId_quiet F.plain_extend_loop _, ext_loop_gen (A := A) (Fin := Fin) hh hroom hn s.heap.objs.size _ hSm hG hfr n₀ 0 _ _ _ (Nat.zero_add _) (hfr _ _ _ hI₁ oth) ?_ hS₃ (ItemsOf.nil V) fun h₁ h' tk gens' acc c hF hk hx hgo hS' hacc => ?_⟩
  · exact G
  · show wpAny _ A (load s.heap.objs.size >>= _) _ _ _
    refine wpAny_bind (wpAny_load hS' ?_)
    refine wpAny_pure (hQ h' tk gens' acc (hfF _ _ hF hk) (fun b o e hb => ?_) hgo hacc)
    have hne : b ≠ s.heap.objs.size := Nat.ne_of_lt (Heap.lt_size e)
    exact hx b o (oth b o hne (Heap.get?_push_of_some _ e)) fun q => (List.mem_cons.mp q).elim hne hb
end
end
section
section
open LCg
variable {prog : Program} {w : World} {A : Around} {E : Value → Shared → Prop} {s : Shared} {h₀ : Heap} {L : Addr} {m : Str → Option Value} {env : Env}
/-- what a dict of a comprehension is made from: a tuple; the test always holds, the keys are ints, the values None -/
noncomputable def DSrc (prog : Program) (w : World) (A : Around) (h₀ : Heap) (L : Addr) (m : Str → Option Value) (env : Env) (kx vx : Expr) (x : Str) (c : Expr) (scope : Scope) (cl : List (Str × Addr)) (y : Str) (Q : Flow → Shared → Prop) (xv : Value) (s₁ : Shared) : Prop :=
  ∃ (t : Addr) (its : Array Value) (k : Nat) (news : List (Addr × Obj)), ∃ FK : Value → Int → Prop, xv = .ref t ∧ A.handled = none ∧ Fr h₀ L s₁.heap m ∧ News h₀ L s₁.heap news ∧ (t, ({ cls := .type "tuple", data := .seq its k } : Obj)) ∈ news ∧ its.size ≤ sizeLine ∧
    (∀ (i : Nat) (v : Value) (C : Addr) (oC : Obj) (m₂ : Str → Option Value) (s₃ : Shared) (E' : Value → Shared → Prop), its[i]? = some v → NsObj oC m₂ → m₂ x = some v → Fr h₀ L s₃.heap m → News h₀ L s₃.heap ((C, oC) :: news) → wpAny (model prog w) A (isTrue c (compEnvC scope cl C env) (eval c (compEnvC scope cl C env))) (fun ok s₄ => ok = true ∧ Keeps s₃ s₄) E' s₃) ∧
    (∀ (i : Nat) (v : Value) (C : Addr) (oC : Obj) (m₂ : Str → Option Value) (s₃ : Shared) (E' : Value → Shared → Prop), its[i]? = some v → NsObj oC m₂ → m₂ x = some v → Fr h₀ L s₃.heap m → News h₀ L s₃.heap ((C, oC) :: news) → wpAny (model prog w) A (eval kx (compEnvC scope cl C env)) (fun key s₄ => (∃ k, (intKind prog w).is k key = true ∧ FK v k) ∧ Keeps s₃ s₄) E' s₃) ∧
    (∀ (i : Nat) (v : Value) (C : Addr) (oC : Obj) (m₂ : Str → Option Value) (s₃ : Shared) (E' : Value → Shared → Prop), its[i]? = some v → NsObj oC m₂ → m₂ x = some v → Fr h₀ L s₃.heap m → News h₀ L s₃.heap ((C, oC) :: news) → wpAny (model prog w) A (eval vx (compEnvC scope cl C env)) (fun y s₄ => y = Value.none ∧ Keeps s₃ s₄) E' s₃) ∧
    ∀ D o h' tk kvs, Fr h₀ L h' (fun z => if z = y then some (.ref D) else m z) → News h₀ L h' ((D, o) :: news) → (∀ p ∈ news, p.1 < D) → (D == sysModules) = false → o.IsDictOf (intKind prog w) kvs → StoredAll FK (fun _ y => y = Value.none) its.toList kvs → Q .next { s₁ with heap := h', toks := tk }

theorem Assign_DictComp_K {kx vx iter c : Expr} {x y : Str} {px py : Pos} {scope : Scope} {cl : List (Str × Addr)} {pos spos : Pos} {Q : Flow → Shared → Prop} (_F₀ : Fr h₀ L s.heap m) (hLe : env.locals = L)
    (hsw : swapsWith (.DictComp kx vx [⟨.Name x px, iter, [c], 0⟩] scope pos) (some (.Name y py)) spos.line env = pure true)
    (hclos : closureFor scope env = pure cl) (hcell : ∀ y ∈ scope.names, y.2 ≠ .cell) (hkind : scope.kind = .function)
    (hnames : ∀ y ∈ scope.names, y.2 = .local → scope.names.lookup y.1 = some .local) (hx : scope.names.lookup x = some .local)
    (hy : env.kindOf y = some .local) (hp : (env.scope.kind == .class || (env.scope.kind == .module && env.locals != env.globals)) = false)
    (h : wpAny (model prog w) A (eval iter env) (DSrc prog w A h₀ L m env kx vx x c scope cl y Q) E s)
    (hs : ∀ x, foldedSetIterable iter env x = pure x := by intro _; rfl) :
    wpAny (model prog w) A (exec (.Assign [.Name y py] (.DictComp kx vx [⟨.Name x px, iter, [c], 0⟩] scope pos) spos) env) Q E s := by
  subst hLe
  rw [exec_Assign_Name_used _ _ _ _ hsw]
  refine wpAny_bind (wpAny_standAt (wpAny_bind ?_))
  show wpAny _ A (do let _ ← comprehension (.DictComp kx vx [⟨.Name x px, iter, [c], 0⟩] scope pos) scope env _ newDict false (eval iter env) (some (assign (.Name y py) env))) _ _ s
  refine wpAny_bind (wpAny_mono (wpAny_comprehension_free (use := some (assign (.Name y py) env)) (Q := fun _ s' => Q .next s') rfl hs hclos hkind hnames (wpAny_mono h (fun xv s₁ h₁ => ?_) fun _ _ e => e)) (fun _ s' hq => wpAny_pure (wpAny_pure hq)) fun _ _ e => e)
  obtain ⟨t, its, k, news, FK, rfl, hh, F, N, hm, hsz, htests, hkey, hval, fin⟩ := h₁
  have hl : s₁.heap.IsTuple t its := ⟨_, (N _ hm).1, rfl, _, rfl⟩
  have hlt : @LT.lt Nat _ t s₁.heap.objs.size := Heap.lt_size (N _ hm).1
  refine wpAny_pyIter_tuple hl ?_
  have W := Walks.tuple (prog := prog) (w := w) hh s₁.heap.objs.size t (Nat.ne_of_lt hlt) its
  refine wpAny_newObj_type (wpAny_newFunctionEnv hcell (by intro y hy; simp at hy) (fun h₂ hns₂ hsb₂ => ?_) hkind)
  dsimp only at hns₂ hsb₂ ⊢
  have hup : ∀ b o, s₁.heap.get? b = some o → (s₁.heap.push { cls := .type "tuple_iterator", data := .fields #[.ref t, .int 0 0] }).get? b = some o := fun b o e => Heap.get?_push_of_some _ e
  have hI : (s₁.heap.push { cls := .type "tuple_iterator", data := .fields #[.ref t, .int 0 0] }).get? s₁.heap.objs.size = some { cls := .type "tuple_iterator", data := .fields #[.ref t, .int 0 0] } := Heap.get?_push_size _ rfl
  have hs1 : (s₁.heap.push { cls := .type "tuple_iterator", data := .fields #[.ref t, .int 0 0] }).objs.size = s₁.heap.objs.size + 1 := Heap.size_push ..
  generalize hH1 : s₁.heap.push { cls := .type "tuple_iterator", data := .fields #[.ref t, .int 0 0] } = H1 at hup hI hs1 hns₂ hsb₂ ⊢
  have hnew : (H1.push { cls := .type "dict", dict := none, data := .dict #[] }).DictOf (intKind prog w) H1.objs.size [] := Heap.DictOf.new H1
  have hup2 : ∀ b o, H1.get? b = some o → (H1.push { cls := .type "dict", dict := none, data := .dict #[] }).get? b = some o := fun b o e => Heap.get?_push_of_some _ e
  have hs2 : (H1.push { cls := .type "dict", dict := none, data := .dict #[] }).objs.size = s₁.heap.objs.size + 2 := by rw [Heap.size_push, hs1]
  generalize hH2 : H1.push { cls := .type "dict", dict := none, data := .dict #[] } = H2 at hnew hup2 hs2 hns₂ hsb₂ ⊢
  rw [hs1] at hnew ⊢
  rw [hs2] at hns₂ hsb₂ ⊢
  have old2 : ∀ b o, b ≠ s₁.heap.objs.size + 2 → H2.get? b = some o → h₂.get? b = some o := fun b o hb e => hsb₂.extBut b o hb (Heap.get?_push_of_some _ e)
  have old : ∀ b o, s₁.heap.get? b = some o → h₂.get? b = some o := fun b o e => old2 b o (Nat.ne_of_lt (Nat.lt_succ_of_lt (Nat.lt_succ_of_lt (Heap.lt_size e)))) (hup2 b o (hup b o e))
  have hI₂ : h₂.get? s₁.heap.objs.size = some { cls := .type "tuple_iterator", data := .fields #[.ref t, .int 0 0] } := old2 _ _ (by show @Ne Nat _ _; omega) (hup2 _ _ hI)
  have hacc : h₂.DictOf (intKind prog w) (s₁.heap.objs.size + 1) [] := hnew.at fun o e => old2 _ _ (by show @Ne Nat _ _; omega) e
  have fresh₀ : ∀ a, s₁.heap.objs.size ≤ a → h₀.get? a = none := fun a ha => by
    cases e : h₀.get? a with
    | none => rfl
    | some o' => exact absurd (Heap.lt_size (F.keep a o' e)) (Nat.not_lt.mpr ha)
  have hLlt : @LT.lt Nat _ env.locals s₁.heap.objs.size := F.ns.lt
  have ground : ∀ (s₃ : Shared) m₂, s₃.heap.Ns (s₁.heap.objs.size + 2) m₂ → (∀ b o, b ≠ s₁.heap.objs.size + 2 → b ∉ [s₁.heap.objs.size] → b ≠ s₁.heap.objs.size + 1 → h₂.get? b = some o → s₃.heap.get? b = some o) →
      ∃ oC, NsObj oC m₂ ∧ Fr h₀ env.locals s₃.heap m ∧ News h₀ env.locals s₃.heap ((s₁.heap.objs.size + 2, oC) :: news) := by
    intro s₃ m₂ hn hk
    obtain ⟨oC, heC, hoC⟩ := ns_obj hn
    have up : ∀ b o, s₁.heap.get? b = some o → s₃.heap.get? b = some o := fun b o e => by
      have this : @LT.lt Nat _ b s₁.heap.objs.size := Heap.lt_size e
      exact hk b o (by show @Ne Nat _ _; omega) (fun q => Nat.ne_of_lt this (List.mem_singleton.mp q)) (by show @Ne Nat _ _; omega) (old b o e)
    refine ⟨oC, hoC, F.keeps up, fun p hp => ?_⟩
    rcases List.mem_cons.mp hp with rfl | hp
    · exact ⟨heC, by show @Ne Nat (s₁.heap.objs.size + 2) env.locals; omega, fresh₀ _ (by show s₁.heap.objs.size ≤ s₁.heap.objs.size + 2; omega)⟩
    · exact ⟨up _ _ (N p hp).1, (N p hp).2⟩
  have loop : ∀ tk, codeAny (model prog w) A (.compLoop (.DictComp kx vx [⟨.Name x px, iter, [c], 0⟩] scope pos) 0 (.ref s₁.heap.objs.size) (.ref (s₁.heap.objs.size + 1)) (compEnvC scope cl (s₁.heap.objs.size + 2) env))
      (compPost (model prog w) A E (some (assign (.Name y py) env)) (fun _ s' => Q .next s') (.ref (s₁.heap.objs.size + 1)) (s₁.heap.objs.size + 2)) { s₁ with heap := h₂, toks := tk } := by
    intro tk
    refine codeAny_compLoop_walkD (hsz := hsz) (knd := intKind prog w) (cenv := compEnvC scope cl (s₁.heap.objs.size + 2) env) W (fun _ => true) FK (fun _ y => y = Value.none) (lookup_relabel_local hx) (by simp [compEnvC, relabel, hkind])
      (by show @Ne Nat (s₁.heap.objs.size + 1) (s₁.heap.objs.size + 2); omega) (fun q => (List.mem_cons.mp q).elim (fun q => by have q : @Eq Nat (s₁.heap.objs.size + 1) s₁.heap.objs.size := q; omega) fun q => by have q : @Eq Nat (s₁.heap.objs.size + 1) t := List.mem_singleton.mp q; omega) (fun q => (List.mem_cons.mp q).elim (fun q => by have q : @Eq Nat (s₁.heap.objs.size + 2) s₁.heap.objs.size := q; omega) fun q => by have q : @Eq Nat (s₁.heap.objs.size + 2) t := List.mem_singleton.mp q; omega) ⟨⟨_, hI₂, rfl, rfl⟩, hl.at fun o e => old _ _ e⟩ hacc hns₂
      (fun i v s₃ m₃ hv hn hmx hk => ?_) (fun i v s₃ m₃ hv _ hn hmx hk => ?_) (fun i v s₃ m₃ hv _ hn hmx hk => ?_) fun h' tk' m' kvs vs hn' hd hlen hP hF hk => ?_
    · obtain ⟨oC, hoC, F₃, N₃⟩ := ground s₃ m₃ hn hk
      exact wpAny_tests_one (htests i v _ oC m₃ s₃ _ hv hoC hmx F₃ N₃)
    · obtain ⟨oC, hoC, F₃, N₃⟩ := ground s₃ m₃ hn hk
      exact hkey i v _ oC m₃ s₃ _ hv hoC hmx F₃ N₃
    · obtain ⟨oC, hoC, F₃, N₃⟩ := ground s₃ m₃ hn hk
      exact hval i v _ oC m₃ s₃ _ hv hoC hmx F₃ N₃
    · have hvs : vs = its.toList := by
        apply List.ext_getElem?
        intro j
        by_cases hj : j < vs.length
        · have := hP j vs[j] (List.getElem?_eq_getElem hj)
          rw [List.getElem?_eq_getElem hj, Array.getElem?_toList, this]
        · rw [List.getElem?_eq_none (Nat.le_of_not_lt hj), List.getElem?_eq_none (by simp; omega)]
      subst hvs
      rw [List.filter_eq_self.mpr (fun _ _ => rfl)] at hF
      obtain ⟨o, ho, hdo⟩ := Heap.dictOf_iff.mp hd
      have up : ∀ b o, s₁.heap.get? b = some o → h'.get? b = some o := fun b o e => by
        have this : @LT.lt Nat _ b s₁.heap.objs.size := Heap.lt_size e
        exact hk b o (by show @Ne Nat b (s₁.heap.objs.size + 2); omega) (fun q => Nat.ne_of_lt this (List.mem_singleton.mp q)) (by show @Ne Nat _ _; omega) (old b o e)
      show wpAny _ A (assign (.Name y py) env (.ref (s₁.heap.objs.size + 1))) _ _ _
      have F' := F.keeps up
      refine wpAny_assign_Name (wpAny_storeName_local hy F'.ns (fun h₅ hn₅ hs₅ => ?_) hp)
      have hL₀ : h₀.get? env.locals = none := Heap.get?_none_of_le F.above
      have F₅ : Fr h₀ env.locals h₅ (fun z => if z = y then some (.ref (s₁.heap.objs.size + 1)) else m z) := ⟨hn₅, fun b o e => hs₅.extBut b o (fun q => by rw [q, hL₀] at e; cases e) (F'.keep b o e), F'.above⟩
      refine ⟨m', hn'.sameBut hs₅ (by show @Ne Nat (s₁.heap.objs.size + 2) env.locals; omega), fun h'' hs'' => ?_⟩
      have up' : ∀ b o, b ≠ env.locals → s₁.heap.get? b = some o → h''.get? b = some o := fun b o hb e => by
        have this : @LT.lt Nat _ b s₁.heap.objs.size := Heap.lt_size e
        exact hs''.extBut b o (by show @Ne Nat b (s₁.heap.objs.size + 2); omega) (hs₅.extBut b o hb (up b o e))
      refine fin (s₁.heap.objs.size + 1) o h'' _ kvs (F₅.change hs'' (by show @Ne Nat (s₁.heap.objs.size + 2) env.locals; omega) (fresh₀ _ (by show s₁.heap.objs.size ≤ s₁.heap.objs.size + 2; omega))) (fun p hp => ?_) (fun p hp => Nat.lt_succ_of_lt (Heap.lt_size (N p hp).1)) ?_ hdo hF
      · rcases List.mem_cons.mp hp with rfl | hp
        · exact ⟨hs''.extBut _ _ (by show @Ne Nat (s₁.heap.objs.size + 1) (s₁.heap.objs.size + 2); omega) (hs₅.extBut _ _ (by show @Ne Nat (s₁.heap.objs.size + 1) env.locals; omega) ho), by show @Ne Nat (s₁.heap.objs.size + 1) env.locals; omega, fresh₀ _ (by show s₁.heap.objs.size ≤ s₁.heap.objs.size + 1; omega)⟩
        · exact ⟨up' _ _ (N p hp).2.1 (N p hp).1, (N p hp).2⟩
      · exact beq_eq_false_iff_ne.mpr (by show @Ne Nat (s₁.heap.objs.size + 1) 1; omega)
  refine codeAny_compStart_dict (loop _) ?_
  exact W.self 0 _ _ _ ⟨⟨_, hI₂, rfl, rfl⟩, hl.at fun o e => old _ _ e⟩ (loop _)
end
end
section
section
open LCg
variable {prog : Program} {w : World} {A : Around} {E : Value → Shared → Prop} {s : Shared} {h₀ : Heap} {L c P : Addr} {m mg mb : Str → Option Value} {env : Env} {ps : Array Value} {news : List (Addr × Obj)} {gg : Obj → List (Addr × Obj)} {p : Program} {loose : List Str} {mean : ExcName → Option Value}

theorem genexprCode_any {pos : Pos} {qualname : Str} {scope : Scope} {Q : Value → Shared → Prop} (hc : env.code = .ref c) (hok : s.heap.IsCode c P ps) (htab : s.heap.TableAt c P ps)
    (hQ : ∀ cv h' tk ps', Heap.ExtBut P s.heap h' → s.heap.objs.size ≤ h'.objs.size → h'.get? P = some (tabObj ps') → TriplesOk ps'.toList → Q cv { s with heap := h', toks := tk }) :
    wpAny (model prog w) A (genexprCode env pos qualname scope) Q E s := by
  cases hf : codeAmong pos ps.toList with
  | none =>
    refine wpAny_genexprCodeX hc hok htab hf fun c' h' tk hx hge hlt hcode _ ht _ => ?_
    obtain ⟨o, vs, file, tf, flags, tg, inF, text, tt, op, ho, hd, h11, h2, h7, h9, h10, hop, hpd, htr, hne⟩ := hcode
    exact hQ _ h' tk _ hx (Nat.le_of_lt (Nat.lt_of_le_of_lt hge hlt)) ht.2 htr
  | some cv =>
    obtain ⟨o, vs, file, tf, flags, tg, inF, text, tt, op, ho, hd, h11, h2, h7, h9, h10, hop, hpd, htr, hne⟩ := id hok
    unfold genexprCode codeAt
    rw [hc, if_neg (show ¬ ((Value.ref c == Value.none) = true) from Bool.false_ne_true)]
    refine wpAny_bind (wpAny_fieldsOf ho hd ?_)
    rw [h11]
    refine wpAny_bind (wpAny_fieldsOf hop hpd ?_)
    rw [hf]
    exact wpAny_pure (hQ cv s.heap s.toks ps (Heap.ExtBut.refl _ _) (Nat.le_refl _) htab.2 htr)

theorem GenExp_K {elt iter : Expr} {x : Str} {px : Pos} {ifs : List Expr} {scope : Scope} {cl : List (Str × Addr)} {pos : Pos} {Q : Value → Shared → Prop} {d : Addr} {od : Obj} {kvs : List (Int × Value)}
    (F : Fr h₀ L s.heap m) (N : News h₀ L s.heap news) (T : Top p loose mean mg mb h₀) (C : CodeHd h₀ c P) (hcd : env.code = .ref c) (hgl : env.globals = mainGlobals) (U : UpdF P (tabObj ps) news gg) (ht : TriplesOk ps.toList)
    (he : ∀ Q' : Value → Shared → Prop, Q' (.ref d) s → wpAny (model prog w) A (eval iter env) Q' E s)
    (hd : (d, od) ∈ news) (hdo : od.IsDictOf (intKind prog w) kvs) (hds : (d == sysModules) = false)
    (hco : scope.isCoroutine = false) (hclos : closureFor scope env = pure cl) (hcell : ∀ y ∈ scope.names, y.2 ≠ .cell) (h0 : scope.names.lookup (".0" : Str) = some NameKind.local) (hkind : scope.kind = .function) (hroom : A.depth < recursionLimit)
    (h : ∀ a og Cx oC I oI ep ps' h' tk code, Fr h₀ L h' m → News h₀ L h' ((a, og) :: (Cx, oC) :: (I, oI) :: gg (tabObj ps')) → TriplesOk ps'.toList → NsObj oC (fun y => if y = ".0" then some (.ref I) else none) → og.cls = .type "generator" →
      (∀ H : Heap, H.get? a = some og → H.IsGen a s.gens.size) → (∀ H : Heap, H.get? I = some oI → H.IsKeyIter I d 0 kvs.length ep) → (∀ H : Heap, H.get? d = some od → H.DictAt (intKind prog w) d kvs ep) →
      (∀ q ∈ news, @LT.lt Nat _ q.1 I) → @LT.lt Nat _ I Cx → @LT.lt Nat _ Cx a → @LT.lt Nat _ P I → Q (.ref a) { s with heap := h', toks := tk, gens := s.gens.push (.fresh (.compStart (.GeneratorExp elt [⟨.Name x px, iter, ifs, 0⟩] scope pos) 0 (.ref I) .none (genEnv scope cl Cx code builtinsNs env))) })
    (hs : ∀ x, genFold iter env x = pure x) :
    wpAny (model prog w) A (eval (.GeneratorExp elt [⟨.Name x px, iter, ifs, 0⟩] scope pos) env) Q E s := by
  obtain ⟨pre, post, rfl, hgg, hpre, hpost⟩ := U.split
  have hP := N (P, tabObj ps) (List.mem_append_right _ (.head _))
  have hdn := N _ hd
  obtain ⟨es, ep, hrest⟩ := id hdo
  have hat : ∀ H : Heap, H.get? d = some od → H.DictAt (intKind prog w) d kvs ep := fun H e => ⟨od, es, e, hrest⟩
  have hlim := T.nolimit.keeps F.keep
  refine wpAny_GeneratorExp_make hco hclos hcell h0 hkind hroom (he _ ?_) hs
  refine wpAny_pyIter_dict hds (hat _ hdn.1) ⟨hlim.push _, ?_⟩
  have up : ∀ b o, s.heap.get? b = some o → (s.heap.push { cls := .type "dict_keyiterator", data := .fields #[.ref d, .int 0 0, .int kvs.length 0, .int ep 0] }).get? b = some o := fun b o e => Heap.get?_push_of_some _ e
  have hIt : (s.heap.push { cls := .type "dict_keyiterator", data := .fields #[.ref d, .int 0 0, .int kvs.length 0, .int ep 0] }).get? s.heap.objs.size = some { cls := .type "dict_keyiterator", data := .fields #[.ref d, .int 0 0, .int kvs.length 0, .int ep 0] } := Heap.get?_push_size _ rfl
  have hs1 : (s.heap.push { cls := .type "dict_keyiterator", data := .fields #[.ref d, .int 0 0, .int kvs.length 0, .int ep 0] }).objs.size = s.heap.objs.size + 1 := Heap.size_push ..
  have hPs : @LT.lt Nat _ P s.heap.objs.size := Heap.lt_size hP.1
  have hLs : @LT.lt Nat _ L s.heap.objs.size := F.ns.lt
  have C1 : CodeHd (s.heap.push { cls := .type "dict_keyiterator", data := .fields #[.ref d, .int 0 0, .int kvs.length 0, .int ep 0] }) c P := (C.keeps F.keep).keeps up
  refine genexprCode_any hcd (C1.code (up _ _ hP.1) ht) (C1.tab (up _ _ hP.1)) fun cv h₂ tk₂ ps' hx hge hPt htr => ?_
  obtain ⟨bm, ob, b1, b2, b3, b4, b5, b6⟩ := T.bmain
  have hbP : bm ≠ P := fun q => by
    have e := F.keep _ _ b3
    rw [q, hP.1] at e; cases e; cases b4
  have hgP : mainGlobals ≠ P := fun q => by
    obtain ⟨o, es, ep, e, hd, _⟩ := T.g
    have e := F.keep _ _ e
    rw [q, hP.1] at e; cases e; cases hd
  rw [hgl]
  have hg2 : h₂.Ns mainGlobals mg := (T.g.keeps F.keep).at' fun o e => hx _ _ hgP (up _ _ e)
  refine wpAny_builtinsFor (m := mg) hg2 b1 b2 (hx _ _ hbP (up _ _ (F.keep _ _ b3))) b4 b5 b6 ?_
  intro h₃ hn₃ hs₃
  have keep₃ : ∀ b o, h₂.get? b = some o → h₃.get? b = some o := fun b o e => hs₃.extBut b o (Nat.ne_of_lt (Heap.lt_size e)) (Heap.get?_push_of_some _ e)
  have hsz₃ : h₃.objs.size = h₂.objs.size + 1 := by rw [hs₃.1]; exact Heap.size_push ..
  have hge' : @LE.le Nat _ (s.heap.objs.size + 1) h₂.objs.size := hs1 ▸ hge
  obtain ⟨oC, heC, hoC⟩ := ns_obj hn₃
  have upA : ∀ (og : Obj) b o, b ≠ P → s.heap.get? b = some o → (h₃.push og).get? b = some o := fun og b o hb e => Heap.get?_push_of_some _ (keep₃ _ _ (hx b o hb (up _ _ e)))
  have fresh₀ : ∀ a, @LE.le Nat _ s.heap.objs.size a → h₀.get? a = none := fun a ha => by
    cases e : h₀.get? a with
    | none => rfl
    | some o' => exact absurd (Heap.lt_size (F.keep a o' e)) (Nat.not_lt.mpr ha)
  refine h h₃.objs.size { cls := .type "generator", data := .fields #[.int s.gens.size 0, .str "<genexpr>" (tk₂ + 1), .str (env.qual ++ "<genexpr>") (tk₂ + 1 + 1)] } h₂.objs.size oC s.heap.objs.size { cls := .type "dict_keyiterator", data := .fields #[.ref d, .int 0 0, .int kvs.length 0, .int ep 0] } ep ps' _ _ cv ⟨F.ns.at' fun o e => upA _ L o hP.2.1.symm e, fun b o e => upA _ b o (fun q => by rw [q, hP.2.2] at e; cases e) (F.keep b o e), F.above⟩ (fun q hq => ?_) htr hoC rfl
    (fun H e => ⟨_, _, _, e, rfl, rfl, rfl⟩) (fun H e => ⟨_, e, rfl, rfl⟩) hat (fun q hq => Heap.lt_size (N q hq).1) hge' ?_ hPs
  · rcases List.mem_cons.mp hq with rfl | hq
    · exact ⟨Heap.get?_push_size _ rfl, by show @Ne Nat h₃.objs.size L; omega, fresh₀ _ (by show @LE.le Nat _ s.heap.objs.size h₃.objs.size; omega)⟩
    rcases List.mem_cons.mp hq with rfl | hq
    · exact ⟨Heap.get?_push_of_some _ heC, by show @Ne Nat h₂.objs.size L; omega, fresh₀ _ (by show @LE.le Nat _ s.heap.objs.size h₂.objs.size; omega)⟩
    rcases List.mem_cons.mp hq with rfl | hq
    · exact ⟨Heap.get?_push_of_some _ (keep₃ _ _ (hx _ _ (by show @Ne Nat s.heap.objs.size P; omega) hIt)), by show @Ne Nat s.heap.objs.size L; omega, fresh₀ _ (Nat.le_refl _)⟩
    rw [hgg] at hq
    rcases List.mem_append.mp hq with hq | hq
    · have n := N q (List.mem_append_left _ hq)
      exact ⟨upA _ _ _ (hpre q hq) n.1, n.2⟩
    rcases List.mem_cons.mp hq with rfl | hq
    · exact ⟨Heap.get?_push_of_some _ (keep₃ _ _ hPt), hP.2⟩
    · have n := N q (List.mem_append_right _ (.tail _ hq))
      exact ⟨upA _ _ _ (hpost q hq) n.1, n.2⟩
  · show @LT.lt Nat _ h₂.objs.size h₃.objs.size
    omega

theorem sorted_gen {a : Addr} {g : Nat} {mods : List Addr} {n₀ : Nat} {V : Nat → Value → Prop} {Inv : Nat → Heap → Prop} {Fin : Heap → Prop} {ns : List Int} {Q : Value → Shared → Prop}
    (hh : A.handled = none) (hroom : A.depth < recursionLimit) (hn : n₀ ≤ sizeLine) (hn64 : n₀ < 64) (hG : ∀ i h, Inv i h → h.IsGen a g ∧ h.NoLimit) (hms : ∀ b ∈ mods, b < s.heap.objs.size)
    (hfr : ∀ i h h', Inv i h → (∀ b o, b ≠ s.heap.objs.size → h.get? b = some o → h'.get? b = some o) → Inv i h') (hfF : ∀ h h', Fin h → (∀ b o, b ≠ s.heap.objs.size → h.get? b = some o → h'.get? b = some o) → Fin h')
    (hI : Inv 0 s.heap) (G : GenS prog w A.in1.in1 g mods n₀ V Inv Fin 0 s) (hvals : ∀ acc, ItemsOf V acc n₀ → IntsAre acc.toList ns)
    (hQ : ∀ l h₁ h' tk gens' vs' ns' e, Fin h₁ → ExtB mods s.heap h₁ → (∀ b o, h₁.get? b = some o → h'.get? b = some o) → h₁.objs.size ≤ l → h'.get? l = some (seqObj "list" vs'.toArray e) → IntsAre vs' ns' → ns'.Perm ns → Ordered true ns' → GenOnlyQ g s.gens gens' → Q (.ref l) { s with heap := h', toks := tk, gens := gens' }) :
    wpAny (model prog w) A (call (.builtin "sorted") [.ref a] [(Str.ofString "reverse", .bool true)]) Q E s := by
  refine call_function_entry_kw kind_sorted plain_sorted entry_sorted (args_sorted_rev _ _) ?_
  unfold Builtin.«sorted»
  refine wpAny_bind (m := checkCount "sorted" 1 1 _) (wpAny_pure ?_)
  refine wpAny_bind (collect_gen (A := A.in1) (Fin := Fin) (V := V) (Inv := Inv) hh hroom hn hG hms hfr hfF hI G fun h₁ tk gens' acc hF hx hgo hacc => ?_)
  refine wpAny_bind (wpAny_newList (hsz := by rw [Array.length_toList, hacc.1]; exact hn) ?_)
  have hoL : (h₁.push (seqObj "list" acc.toList.toArray 0)).get? h₁.objs.size = some (seqObj "list" acc.toList.toArray 0) := Heap.get?_push_size _ rfl
  refine wpAny_bind (wpAny_holding (wpAny_call_entry_kw slot_list_sort ⟨_, hoL, rfl⟩ entry_list_sort (list_sort_tree_rev hoL (hvals acc hacc) (by rw [Array.length_toList, hacc.1]; exact hn64) fun out ns' a1 a2 a3 => ⟨_, rfl, ?_⟩) (args_list_sort_rev _ _)))
  refine wpAny_pure ⟨_, rfl, ?_⟩
  obtain ⟨e, he⟩ := sortedHeap_at (out := out) hoL
  refine hQ h₁.objs.size h₁ _ tk gens' out.toList ns' e hF hx (fun b o e => ?_) (Nat.le_refl _) (by rw [Array.toArray_toList]; exact he) a1 a2 a3 hgo
  have hb : @LT.lt Nat _ b h₁.objs.size := Heap.lt_size e
  rw [sortedHeap_old (by show @Ne Nat b h₁.objs.size; omega) (by rw [size_push']; exact Nat.lt_succ_of_lt hb), Heap.get?_push_ne _ _ _ (by show @Ne Nat b h₁.objs.size; omega)]
  exact e
end
section
variable {prog : Program} {w : World} {A : Around} {E : Value → Shared → Prop} {s : Shared}
/-- the function that a filter is given: it takes note of what it is given, and says True -/
noncomputable def FnSpec (prog : Program) (w : World) (f : Addr) (fo : Obj) (c1 : Addr) (oc : Obj) (cc : Addr) (co : Obj) (S : Addr) : Prop :=
  ∀ (A : Around) (s : Shared) (v : Value) (ws : List Value) (n : Nat) (Q : Value → Shared → Prop) (E : Value → Shared → Prop), A.handled = none → A.depth + 4 < recursionLimit → A.units + 40 < cLine → s.heap.NoLimit → ws.length ≤ 64 →
    s.heap.get? f = some fo → s.heap.get? c1 = some oc → s.heap.get? cc = some co → s.heap.get? S = some (W.listOf ws.toArray n) →
    (∀ h' tk' n', ExtB [S] s.heap h' → h'.get? S = some (W.listOf (ws ++ [v]).toArray n') → Q (.bool true) { s with heap := h', toks := tk' }) → wpAny (model prog w) A (call (.ref f) [v]) Q E s
section
variable {M : Model} {scope : Scope} {cl : List (Str × Addr)} {C c bi : Addr} {code : Value} {env0 : Env} {x : Str} {pos : Pos} {v : Value} {mC : Str → Option Value} {o : Obj} {Q : Value → Shared → Prop}
theorem nameG_L (hk : scope.kind = .function) (hx : scope.names.lookup x = some .local) (hn : s.heap.Ns C mC) (hv : mC x = some v) (hd : (x == ("__debug__" : Str)) = false) (h : Q v s) : wpAny M A (eval (.Name x pos) (genEnv scope cl C code bi env0)) Q E s :=
  wpAny_Name (wpAny_loadName_local hk hx hn hv h) hd
theorem nameG_F (hk : scope.kind = .function) (hx : scope.names.lookup x = some .free) (hc : cl.lookup x = some c) (ho : s.heap.get? c = some o) (hd : o.data = .cell (some v)) (hb : (x == ("__debug__" : Str)) = false) (hb2 : (x == ("__classdict__" : Str)) = false) (h : Q v s) : wpAny M A (eval (.Name x pos) (genEnv scope cl C code bi env0)) Q E s :=
  wpAny_Name (wpAny_loadName_free hk hx hc ⟨o, ho, hd⟩ h hb2) hb
end

theorem fil_turns {scope : Scope} {cl : List (Str × Addr)} {C cf cd I D S r f c1 cc : Addr} {code : Value} {env0 : Env} {x fnm dnm : Str} {px p1 pf pd px2 psb pc pos : Pos} {iter : Expr} {k₀ : Code} {ks : List Int} {ep nr : Nat} {H₀ : Heap} {vs ws pk : List Value} {fo oc co ocf ocd : Obj}
    (hh : (A.over k₀ []).handled = none) (hdp : (A.over k₀ []).depth + 4 < recursionLimit) (hun : (A.over k₀ []).units + 40 < cLine)
    (hk : scope.kind = .function) (hx : scope.names.lookup x = some .local) (hxf : scope.names.lookup fnm = some .free) (hxd : scope.names.lookup dnm = some .free) (hcf : cl.lookup fnm = some cf) (hcd : cl.lookup dnm = some cd)
    (bx : (x == ("__debug__" : Str)) = false) (bf : (fnm == ("__debug__" : Str)) = false) (bf2 : (fnm == ("__classdict__" : Str)) = false) (bd : (dnm == ("__debug__" : Str)) = false) (bd2 : (dnm == ("__classdict__" : Str)) = false)
    (gcf : H₀.get? cf = some ocf) (dcf : ocf.data = .cell (some (.ref f))) (gcd : H₀.get? cd = some ocd) (dcd : ocd.data = .cell (some (.ref r))) (gr : H₀.get? r = some (W.listOf vs.toArray nr))
    (gf : H₀.get? f = some fo) (hfo : ∃ oc od fd sl, fo = ⟨oc, od, .func fd, sl⟩) (g1 : H₀.get? c1 = some oc) (g2 : H₀.get? cc = some co) (gD : H₀.DictAt (intKind prog w) D (ks.map fun k => (k, Value.none)) ep) (hlim : H₀.NoLimit)
    (n1 : cf ∉ [I, C, S]) (n2 : cd ∉ [I, C, S]) (n3 : r ∉ [I, C, S]) (n4 : f ∉ [I, C, S]) (n5 : c1 ∉ [I, C, S]) (n6 : cc ∉ [I, C, S]) (n7 : D ∉ [I, C, S]) (n8 : cStatics ∉ [I, C, S]) (hIC : I ≠ C) (hIS : I ≠ S) (hCS : C ≠ S)
    (hpk : pk.length = ks.length) (hks : ∀ (i : Nat) (k : Int), ks[i]? = some k → 0 ≤ k ∧ k < 2 ^ 63 ∧ ∃ y, vs[k.toNat]? = some y ∧ pk[i]? = some y) (hws : ws.length + ks.length ≤ 64) (hfn : FnSpec prog w f fo c1 oc cc co S) :
    GTurn prog w A (.Name x p1) iter x px (.Call (.Name fnm pf) [.Subscript (.Name dnm pd) (.Name x px2) psb] [] pc) scope pos I (genEnv scope cl C code builtinsNs env0) [I, C, S] ks.length (fun i v => ∃ (k : Int) (t : Tok), ks[i]? = some k ∧ v = .int k t)
      (fun i h => ExtB [I, C, S] H₀ h ∧ h.IsKeyIter I D i ks.length ep ∧ (∃ mC, h.Ns C mC) ∧ ∃ n, h.get? S = some (W.listOf (ws ++ pk.take i).toArray n)) (fun h => ∃ n, h.get? S = some (W.listOf (ws ++ pk).toArray n)) k₀ where
  turn := by
    rintro i s E hi ⟨hX, hit, ⟨mC, hn⟩, n, hS⟩
    have hki : ks[i]? = some ks[i] := List.getElem?_eq_getElem hi
    obtain ⟨h0, h1, y, hy, hyp⟩ := hks i _ hki
    have hat : s.heap.DictAt (intKind prog w) D (ks.map fun k => (k, Value.none)) ep := gD.at' fun o e => hX _ _ e n7
    refine wpAny_pyNext_dict_item (knd := intKind prog w) (kvs := ks.map fun k => (k, Value.none)) (k := ks[i]) (v := .none) (by rw [List.length_map]; exact hit) hat (by rw [List.getElem?_map, hki]; rfl) fun key h₁ hkey hit₁ hs₁ => ⟨key, rfl, ?_⟩
    obtain ⟨t, rfl⟩ := Value.isInt_shape hkey
    refine wpAny_assign_Name (wpAny_storeName_local hx (hn.sameBut hs₁ (Ne.symm hIC)) (fun h₂ hn₂ hs₂ => ?_) (by show (scope.kind == .class || (scope.kind == .module && C != env0.globals)) = false; rw [hk]; rfl))
    have up : ∀ b o, b ∉ [I, C, S] → H₀.get? b = some o → h₂.get? b = some o := fun b o hb e => by
      have hbI : b ≠ I := fun q => hb (q ▸ List.mem_cons_self)
      have hbC : b ≠ C := fun q => hb (q ▸ List.mem_cons_of_mem _ List.mem_cons_self)
      exact hs₂.extBut b o hbC (hs₁.extBut b o hbI (hX b o e hb))
    have hS₂ : h₂.get? S = some (W.listOf (ws ++ pk.take i).toArray n) := hs₂.extBut _ _ (Ne.symm hCS) (hs₁.extBut _ _ (Ne.symm hIS) hS)
    have hit₂ : h₂.IsKeyIter I D (i + 1) ks.length ep := by
      rw [List.length_map] at hit₁
      exact hit₁.at fun o e => hs₂.extBut _ _ hIC e
    have hF : FnAt f h₂ := by
      obtain ⟨a1, a2, a3, a4, rfl⟩ := hfo
      exact ⟨_, _, _, _, up _ _ n4 gf⟩
    refine isTrue_plain ?_
    refine Call_ ?_
    refine nameG_F hk hxf hcf (up _ _ n1 gcf) dcf bf bf2 ?_
    refine callWith_F hF ?_
    refine spliced_more ?_
    refine Subscript_ ?_
    refine nameG_F hk hxd hcd (up _ _ n2 gcd) dcd bd bd2 ?_
    refine nameG_L (v := .int ks[i] t) hk hx hn₂ (by simp) bx ?_
    refine item_listL (l := vs) ⟨_, up _ _ n3 gr, rfl, _, rfl⟩ h0 h1 hy ?_
    refine spliced_none ⟨hF, ?_⟩
    refine hfn _ _ y _ n _ _ hh hdp hun ?_ (by rw [List.length_append, List.length_take]; omega) (up _ _ n4 gf) (up _ _ n5 g1) (up _ _ n6 g2) hS₂ fun h₃ tk₃ n₃ hx₃ hS₃ => ?_
    · obtain ⟨mc, hns, hnn⟩ := hlim
      exact ⟨mc, hns.at' fun o e => up _ _ n8 e, hnn⟩
    refine wpAny_truthy_bool ⟨rfl, fun E' => ?_⟩
    have hnot : ∀ b, b ≠ S → b ∉ [S] := fun b hb q => hb (List.mem_singleton.mp q)
    have hn₃ := hn₂.at' fun o e => hx₃ _ _ e (hnot _ hCS)
    refine nameG_L (v := .int ks[i] t) hk hx hn₃ (by simp) bx ?_
    have hext : ExtB [I, C, S] s.heap h₃ := fun b o e hb => by
      have hbI : b ≠ I := fun q => hb (q ▸ List.mem_cons_self)
      have hbC : b ≠ C := fun q => hb (q ▸ List.mem_cons_of_mem _ List.mem_cons_self)
      have hbS : b ≠ S := fun q => hb (q ▸ List.mem_cons_of_mem _ (List.mem_cons_of_mem _ List.mem_cons_self))
      exact hx₃ _ _ (hs₂.extBut b o hbC (hs₁.extBut b o hbI e)) (hnot _ hbS)
    refine ⟨⟨_, t, hki, rfl⟩, ⟨⟨_, _, rfl⟩, hext⟩, hX.trans hext fun b hb => .inl hb, hit₂.at fun o e => hx₃ _ _ e (hnot _ hIS), ⟨_, hn₃⟩, n₃, ?_⟩
    rw [List.take_add_one, hyp, ← List.append_assoc]
    exact hS₃
  stop := by
    rintro s E ⟨hX, hit, ⟨mC, hn⟩, n, hS⟩
    have hat : s.heap.DictAt (intKind prog w) D (ks.map fun k => (k, Value.none)) ep := gD.at' fun o e => hX _ _ e n7
    refine wpAny_pyNext_dict_end (knd := intKind prog w) (kvs := ks.map fun k => (k, Value.none)) hh (by rw [List.length_map]; exact hit) hat (by simp) fun h' he => ⟨rfl, ⟨⟨_, _, rfl⟩, fun b o e hb => he b o (fun q => hb (q ▸ List.mem_cons_self)) e⟩, n, ?_⟩
    rw [← hpk, List.take_length] at hS
    exact he _ _ (Ne.symm hIS) hS
end
section
variable {prog : Program} {w : World} {A : Around} {E : Value → Shared → Prop} {s : Shared}
theorem ints_of_at : ∀ {l : List Value} {ks : List Int}, l.length = ks.length → (∀ (j : Nat) (v : Value), l[j]? = some v → ∃ (k : Int) (t : Tok), ks[j]? = some k ∧ v = .int k t) → IntsAre l ks
  | [], [], _, _ => .nil
  | [], _ :: _, h, _ => by simp at h
  | _ :: _, [], h, _ => by simp at h
  | v :: l, k :: ks, h, hj => by
    obtain ⟨k', t, e1, rfl⟩ := hj 0 v rfl
    simp at e1
    subst e1
    exact .cons _ _ (ints_of_at (by simpa using h) fun j v hv => hj (j + 1) v (by simpa using hv))

theorem fil_sorted {scope : Scope} {cl : List (Str × Addr)} {C cf cd I D S r f c1 cc a : Addr} {g : Nat} {code : Value} {env0 : Env} {x fnm dnm : Str} {px p1 pf pd px2 psb pc pos : Pos} {iter : Expr} {ks : List Int} {ep nr nS : Nat} {vs ws pk : List Value} {fo oc co ocf ocd og : Obj} {Q : Value → Shared → Prop}
    (hh : A.handled = none) (hdp : A.depth + 10 < recursionLimit) (hun : A.units + 60 < cLine)
    (hgs : s.gens[g]? = some (.fresh (.compStart (.GeneratorExp (.Name x p1) [⟨.Name x px, iter, [.Call (.Name fnm pf) [.Subscript (.Name dnm pd) (.Name x px2) psb] [] pc], 0⟩] scope pos) 0 (.ref I) .none (genEnv scope cl C code builtinsNs env0))))
    (hgen : ∀ H : Heap, H.get? a = some og → H.IsGen a g) (ga : s.heap.get? a = some og) (hit : s.heap.IsKeyIter I D 0 ks.length ep) (hC : ∃ mC, s.heap.Ns C mC) (gS : s.heap.get? S = some (W.listOf ws.toArray nS))
    (hco : scope.isCoroutine = false)
    (hk : scope.kind = .function) (hx : scope.names.lookup x = some .local) (hxf : scope.names.lookup fnm = some .free) (hxd : scope.names.lookup dnm = some .free) (hcf : cl.lookup fnm = some cf) (hcd : cl.lookup dnm = some cd)
    (bx : (x == ("__debug__" : Str)) = false) (bf : (fnm == ("__debug__" : Str)) = false) (bf2 : (fnm == ("__classdict__" : Str)) = false) (bd : (dnm == ("__debug__" : Str)) = false) (bd2 : (dnm == ("__classdict__" : Str)) = false)
    (gcf : s.heap.get? cf = some ocf) (dcf : ocf.data = .cell (some (.ref f))) (gcd : s.heap.get? cd = some ocd) (dcd : ocd.data = .cell (some (.ref r))) (gr : s.heap.get? r = some (W.listOf vs.toArray nr))
    (gf : s.heap.get? f = some fo) (hfo : ∃ oc od fd sl, fo = ⟨oc, od, .func fd, sl⟩) (g1 : s.heap.get? c1 = some oc) (g2 : s.heap.get? cc = some co) (gD : s.heap.DictAt (intKind prog w) D (ks.map fun k => (k, Value.none)) ep) (hlim : s.heap.NoLimit)
    (n1 : cf ∉ [I, C, S]) (n2 : cd ∉ [I, C, S]) (n3 : r ∉ [I, C, S]) (n4 : f ∉ [I, C, S]) (n5 : c1 ∉ [I, C, S]) (n6 : cc ∉ [I, C, S]) (n7 : D ∉ [I, C, S]) (n8 : cStatics ∉ [I, C, S]) (n9 : a ∉ [I, C, S]) (hIC : I ≠ C) (hIS : I ≠ S) (hCS : C ≠ S)
    (hpk : pk.length = ks.length) (hks : ∀ (i : Nat) (k : Int), ks[i]? = some k → 0 ≤ k ∧ k < 2 ^ 63 ∧ ∃ y, vs[k.toNat]? = some y ∧ pk[i]? = some y) (hws : ws.length + ks.length < 64) (hfn : FnSpec prog w f fo c1 oc cc co S)
    (hQ : ∀ l h' tk gens' vs' ns' e nS', ExtB [I, C, S] s.heap h' → h'.get? S = some (W.listOf (ws ++ pk).toArray nS') → (∀ b o, s.heap.get? b = some o → b ∉ [I, C] → @Ne Nat b l) → h'.get? l = some (seqObj "list" vs'.toArray e) → IntsAre vs' ns' → ns'.Perm ks → Ordered true ns' → GenOnlyQ g s.gens gens' → Q (.ref l) { s with heap := h', toks := tk, gens := gens' }) :
    wpAny (model prog w) A (call (.builtin "sorted") [.ref a] [(Str.ofString "reverse", .bool true)]) Q E s := by
  have lt : ∀ {b : Addr} {o : Obj}, s.heap.get? b = some o → @LT.lt Nat _ b s.heap.objs.size := fun e => Heap.lt_size e
  obtain ⟨mC, hC⟩ := hC
  have hCl : @LT.lt Nat _ C s.heap.objs.size := hC.lt
  have hIl : @LT.lt Nat _ I s.heap.objs.size := by obtain ⟨o, e, _⟩ := hit; exact lt e
  have hSl := lt gS
  have hms : ∀ b ∈ [I, C, S], b < s.heap.objs.size := by
    intro b hb
    rcases List.mem_cons.mp hb with rfl | hb
    · exact hIl
    rcases List.mem_cons.mp hb with rfl | hb
    · exact hCl
    · rw [List.mem_singleton.mp hb]; exact hSl
  have old : ∀ {h h' : Heap}, ExtB [I, C, S] s.heap h → (∀ b o, b ≠ s.heap.objs.size → h.get? b = some o → h'.get? b = some o) → ExtB [I, C, S] s.heap h' := fun X k b o e hb => k b o (Nat.ne_of_lt (lt e)) (X b o e hb)
  have GT := fil_turns (prog := prog) (w := w) (A := A.in1.in1.in1) (scope := scope) (cl := cl) (C := C) (cf := cf) (cd := cd) (I := I) (D := D) (S := S) (code := code) (env0 := env0) (x := x) (fnm := fnm) (dnm := dnm) (px := px) (p1 := p1) (pf := pf) (pd := pd) (px2 := px2) (psb := psb) (pc := pc) (pos := pos) (iter := iter) (ks := ks) (ws := ws) (pk := pk)
    (k₀ := .compLoop (.GeneratorExp (.Name x p1) [⟨.Name x px, iter, [.Call (.Name fnm pf) [.Subscript (.Name dnm pd) (.Name x px2) psb] [] pc], 0⟩] scope pos) 0 (.ref I) .none (genEnv scope cl C code builtinsNs env0))
    hh (by show A.depth + 0 + 1 + 4 < recursionLimit; omega) (by show A.units + 1 + 1 + 1 + 0 + 3 + 40 < cLine; omega) hk hx hxf hxd hcf hcd bx bf bf2 bd bd2 gcf dcf gcd dcd gr gf hfo g1 g2 gD hlim n1 n2 n3 n4 n5 n6 n7 n8 hIC hIS hCS hpk hks (by omega) hfn
  refine sorted_gen (a := a) (g := g) (mods := [I, C, S]) (n₀ := ks.length) (ns := ks) hh (by omega) (by rw [sizeLine_eq]; omega) (by omega) (fun i h hI => ⟨?_, ?_⟩) hms (fun i h h' hI k => ?_) (fun h h' hF k => ?_) ⟨ExtB.refl _ _, hit, ⟨mC, hC⟩, nS, by simpa using gS⟩
    ⟨_, hgs, fun s'' h'' => ⟨rfl, seg_gen0 (A := A.in1.in1.in1) hco GT (fun A' s' Q' E' hI q => wpAny_pyIter_keyiter hI.2.1 q) s'' s'' h'' (Since.refl _ _)⟩⟩ (fun acc hacc => ints_of_at (by rw [Array.length_toList]; exact hacc.1) fun j v hv => hacc.2 j v (by simpa using hv)) ?_
  · exact hgen _ (hI.1 _ _ ga n9)
  · obtain ⟨mc, hns, hnn⟩ := hlim
    exact ⟨mc, hns.at' fun o e => hI.1 _ _ e n8, hnn⟩
  · obtain ⟨h1, h2, ⟨m', h3⟩, n', h4⟩ := hI
    exact ⟨old h1 k, h2.at fun o e => k _ _ (Nat.ne_of_lt hIl) e, ⟨m', h3.at' fun o e => k _ _ (Nat.ne_of_lt hCl) e⟩, n', k _ _ (Nat.ne_of_lt hSl) h4⟩
  · obtain ⟨n', h4⟩ := hF
    exact ⟨n', k _ _ (Nat.ne_of_lt hSl) h4⟩
  · rintro l h₁ h' tk gens' vs' ns' e ⟨n', hS'⟩ hx₁ hk₁ hl hl' hI' hp' ho' hgo
    refine hQ l h' tk gens' vs' ns' e n' (fun b o e hb => hk₁ _ _ (hx₁ b o e hb)) (hk₁ _ _ hS') ?_ hl' hI' hp' ho' hgo
    intro b o e hb q
    have hn : h₁.get? l = none := Heap.get?_none_of_le hl
    by_cases hbS : b = S
    · subst hbS
      rw [← (show b = l from q), hS'] at hn
      cases hn
    · rw [← (show b = l from q), hx₁ b o e (fun z => (List.mem_cons.mp z).elim (fun z => hb (z ▸ List.mem_cons_self)) fun z => (List.mem_cons.mp z).elim (fun z => hb (z ▸ List.mem_cons_of_mem _ List.mem_cons_self)) fun z => hbS (List.mem_singleton.mp z))] at hn
      cases hn
end
end
section
section
theorem snoc_ints {l : List Value} {v : Value} {ns : List Int} (h : IntsAre (l ++ [v]) ns) : ∃ ns' n t, ns = ns' ++ [n] ∧ v = .int n t ∧ IntsAre l ns' := by
  have hl : ns.length = l.length + 1 := by rw [← IntsAre.length h]; simp
  obtain ⟨n, t, e1, e2⟩ := h.at l.length v (by simp)
  refine ⟨ns.take l.length, n, t, ?_, e1, ?_⟩
  · have hlt : l.length < ns.length := by omega
    have e3 : ns[l.length] = n := by rw [List.getElem?_eq_getElem hlt] at e2; exact Option.some.inj e2
    have e4 : ns.take (l.length + 1) = ns.take l.length ++ [ns[l.length]] := by rw [List.take_add_one, List.getElem?_eq_getElem hlt]; rfl
    rw [← e3, ← e4, List.take_of_length_le (by omega)]
  · have := h.take l.length
    rwa [List.take_left'] at this
    rfl
/-- the places that are to be struck out, as keys -/
theorem stored_ens {N : Int} {l : List Value} {kvs : List (Int × Value)} (h : StoredAll (fun v k => ∃ (i : Int) (u : Tok), v = .int i u ∧ k = i % N) (fun _ y => y = Value.none) l kvs) :
    ∀ es : List Int, IntsAre l es → es.Nodup → (∀ e ∈ es, 0 ≤ e ∧ e < N) → kvs = es.map fun e => (e, Value.none) := by
  induction h with
  | nil => intro es h _ _; cases h; rfl
  | @snoc l kvs v k y hl hk hy ih =>
    intro es hI hn hb
    obtain ⟨es', n, t, rfl, rfl, hI'⟩ := snoc_ints hI
    obtain ⟨i, u, e1, rfl⟩ := hk
    obtain ⟨rfl, _⟩ := Value.int.inj e1
    subst hy
    have hnd := List.nodup_append.mp hn
    have hn' := hb n (List.mem_append_right _ (List.mem_singleton.mpr rfl))
    have := ih es' hI' hnd.1 fun e he => hb e (List.mem_append_left _ he)
    subst this
    rw [Int.emod_eq_of_lt hn'.1 hn'.2]
    unfold stored
    rw [if_neg]
    · simp
    · intro q
      obtain ⟨p, hp, e⟩ := List.any_eq_true.mp q
      obtain ⟨e', he', rfl⟩ := List.mem_map.mp hp
      have e2 : e' = n := by simpa using e
      exact hnd.2.2 e' he' n (List.mem_singleton.mpr rfl) e2
/-- what is struck out from the row: the places in falling order -/
noncomputable def strikeOut {α : Type} (ens : List Nat) (xs : List α) : List α := ens.foldr (fun e ys => ys.eraseIdx e) xs
theorem desc_unique {as bs : List Int} (h : as.Perm bs) (h1 : as.Pairwise (· ≥ ·)) (h2 : bs.Pairwise (· < ·)) : as = bs.reverse := by
  have h3 : bs.reverse.Pairwise (· ≥ ·) := by
    rw [List.pairwise_reverse]
    exact h2.imp fun h => Int.le_of_lt h
  exact List.Perm.eq_of_pairwise (le := (· ≥ ·)) (fun a b _ _ x y => Int.le_antisymm y x) h1 h3 (h.trans (List.reverse_perm _).symm)
end
section
noncomputable def delN {α : Type} (ens : List Nat) (i : Nat) (xs : List α) : List α := (ens.reverse.take i).foldl (fun ys e => ys.eraseIdx e) xs
theorem delN_full {α : Type} (ens : List Nat) (xs : List α) : delN ens ens.length xs = strikeOut ens xs := by
  unfold delN strikeOut
  rw [List.take_of_length_le (by simp), List.foldl_reverse]
theorem delN_succ {α : Type} {ens : List Nat} {i e : Nat} (h : ens.reverse[i]? = some e) (xs : List α) : delN ens (i + 1) xs = (delN ens i xs).eraseIdx e := by
  unfold delN
  rw [List.take_add_one, h, List.foldl_append]
  rfl
theorem rev_bound {ens : List Nat} {N : Nat} (hs : ens.Pairwise (· < ·)) (hb : ∀ e ∈ ens, e < N) : ∀ (i e : Nat), ens.reverse[i]? = some e → e + i < N
  | 0, e, h => hb e (List.mem_reverse.mp (List.mem_of_getElem? h))
  | i + 1, e, h => by
    have hlt := (List.getElem?_eq_some_iff.mp h).1
    have hp : ens.reverse.Pairwise (· > ·) := by rw [List.pairwise_reverse]; exact hs
    have h0 : ens.reverse[i]? = some ens.reverse[i] := List.getElem?_eq_getElem (by omega)
    have ih := rev_bound hs hb i _ h0
    have h2 := List.pairwise_iff_getElem.mp hp i (i + 1) (by omega) hlt (by omega)
    have h3 : ens.reverse[i + 1] = e := (List.getElem?_eq_some_iff.mp h).2
    rw [h3] at h2
    omega
theorem delN_length {α : Type} {ens : List Nat} {xs : List α} (hs : ens.Pairwise (· < ·)) (hb : ∀ e ∈ ens, e < xs.length) : ∀ i, i ≤ ens.length → (delN ens i xs).length = xs.length - i
  | 0, _ => rfl
  | i + 1, h => by
    have h0 : ens.reverse[i]? = some (ens.reverse[i]'(by simp; omega)) := List.getElem?_eq_getElem (by simp; omega)
    have ih := delN_length hs hb i (by omega)
    have := rev_bound hs hb i _ h0
    rw [delN_succ h0, List.length_eraseIdx_of_lt (by omega), ih]
    omega
theorem ints_erase : ∀ {vs : List Value} {xs : List Int}, IntsAre vs xs → ∀ e : Nat, IntsAre (vs.eraseIdx e) (xs.eraseIdx e)
  | _, _, .nil, _ => .nil
  | _, _, .cons _ _ h, 0 => h
  | _, _, .cons n t h, e + 1 => .cons n t (ints_erase h e)
theorem pick_ints {vs : List Value} {xs : List Int} (h : IntsAre vs xs) : ∀ ens : List Nat, (∀ e ∈ ens, e < xs.length) → IntsAre (ens.map fun e => vs.getD e .none) (ens.map fun e => xs.getD e 0)
  | [], _ => .nil
  | e :: ens, hb => by
    have he : e < vs.length := by rw [IntsAre.length h]; exact hb e (.head _)
    obtain ⟨n, t, h1, h2⟩ := h.at e vs[e] (List.getElem?_eq_getElem he)
    have e1 : vs.getD e .none = .int n t := by rw [List.getD_eq_getElem?_getD, List.getElem?_eq_getElem he, h1]; rfl
    have e2 : xs.getD e 0 = n := by rw [List.getD_eq_getElem?_getD, h2]; rfl
    simp only [List.map_cons]
    rw [e1, e2]
    exact .cons _ _ (pick_ints h ens fun e he => hb e (.tail _ he))
theorem fil_ks {vs : List Value} {N : Nat} {ens : List Nat} (hN : vs.length = N) (h64 : N ≤ 64) (hb : ∀ e ∈ ens, e < N) : ∀ (i : Nat) (k : Int), (ens.map Int.ofNat)[i]? = some k → 0 ≤ k ∧ k < 2 ^ 63 ∧ ∃ y, vs[k.toNat]? = some y ∧ (ens.map fun e => vs.getD e .none)[i]? = some y := by
  intro i k h
  rw [List.getElem?_map] at h
  obtain ⟨e, he, rfl⟩ := Option.map_eq_some_iff.mp h
  have hl := hb e (List.mem_of_getElem? he)
  refine ⟨Int.natCast_nonneg e, Int.lt_of_lt_of_le (Int.ofNat_lt.mpr hl) (by omega), vs[e]'(by omega), ?_, ?_⟩
  · rw [show (Int.ofNat e).toNat = e from rfl, List.getElem?_eq_getElem]
  · rw [List.getElem?_map, he, Option.map_some, List.getD_eq_getElem?_getD, List.getElem?_eq_getElem (by omega)]
    rfl
theorem notMem3 {b I C S : Addr} (h1 : @Ne Nat b I) (h2 : @Ne Nat b C) (h3 : @Ne Nat b S) : b ∉ [I, C, S] := fun q =>
  (List.mem_cons.mp q).elim h1 fun q => (List.mem_cons.mp q).elim h2 fun q => h3 (List.mem_singleton.mp q)
section
variable {prog : Program} {w : World} {A : Around} {E : Value → Shared → Prop} {s : Shared} {h₀ : Heap} {L D : Addr} {m : Str → Option Value} {news : List (Addr × Obj)} {gg : Obj → List (Addr × Obj)}
theorem del_K {e n : Nat} {u : Tok} {vs : List Value} {Q : Unit → Shared → Prop} (F : Fr h₀ L s.heap m) (N : News h₀ L s.heap news) (U : UpdF D (W.listOf vs.toArray n) news gg) (he : e < vs.length) (hl : vs.length ≤ 64)
    (h : ∀ h' n', Fr h₀ L h' m → News h₀ L h' (gg (W.listOf (vs.eraseIdx e).toArray n')) → Q () { s with heap := h' }) : wpAny (model prog w) A (delItem (.ref D) (.int (Int.ofNat e) u)) Q E s := by
  obtain ⟨pre, post, rfl, hg, a, b⟩ := U.split
  have z := N (D, W.listOf vs.toArray n) (List.mem_append_right _ (.head _))
  have hl' : (vs.toArray.size : Int) ≤ 64 := by rw [List.size_toArray]; omega
  have he' : (Int.ofNat e) < (vs.toArray.size : Int) := by rw [List.size_toArray]; exact Int.ofNat_lt.mpr he
  have h0 : 0 ≤ Int.ofNat e := Int.natCast_nonneg e
  have hfit : Builtin.List.listFitsIndex (Int.ofNat e) = true := by
    unfold Builtin.List.listFitsIndex
    simp only [Bool.and_eq_true, decide_eq_true_eq]
    omega
  have hix : seqIndex? (Int.ofNat e) vs.toArray.size = some e := by
    unfold seqIndex?
    simp only [show ¬ (Int.ofNat e < 0) by omega, if_false]
    rw [if_pos (by simp only [Bool.and_eq_true, decide_eq_true_eq]; omega)]
    rfl
  refine P.delItem_list (n := n) z.1 hfit hix ?_ (by rw [List.size_toArray, sizeLine_eq]; omega)
  have hs := Heap.SameBut.update s.heap D (Obj.mapSeq fun xs => xs.eraseIdxIfInBounds e)
  obtain ⟨n', hn'⟩ : ∃ n', (s.heap.update D (Obj.mapSeq fun xs => xs.eraseIdxIfInBounds e)).get? D = some (W.listOf (vs.eraseIdx e).toArray n') := by
    obtain ⟨n', hn'⟩ : ∃ n', (s.heap.update D (Obj.mapSeq fun xs => xs.eraseIdxIfInBounds e)).get? D = some (W.listOf (vs.toArray.eraseIdxIfInBounds e) n') := ⟨_, get?_update_seq z.1 fun xs => xs.eraseIdxIfInBounds e⟩
    refine ⟨n', hn'.trans ?_⟩
    have : vs.toArray.eraseIdxIfInBounds e = (vs.eraseIdx e).toArray := by
      apply Array.toList_inj.mp
      simp [Array.toList_eraseIdxIfInBounds]
    rw [this]
  exact h _ n' (F.change hs z.2.1 z.2.2) (hg _ ▸ N.setAt a b hs hn')
end
end
section
variable {prog : Program} {w : World} {A : Around} {E : Value → Shared → Prop} {s : Shared} {h₀ : Heap} {L a : Addr} {m : Str → Option Value} {cn : Str} {cs : Scope} {ccd : Value} {cl : List (Str × Addr)}
theorem fil_loop {x dnm : Str} {pd px2 psb pdel : Pos} {Q : Flow → Shared → Prop} {l cd r : Addr} {lo ocd : Obj} {lvs : List Value} {ln n : Nat} {vs : List Value} {xs : List Int} {ens : List Nat} {rest : List (Addr × Obj)}
    (hh : A.handled = none) (hk : cs.kind = .function) (hx : (envX cn cs L a ccd cl).kindOf x = some .local) (hd : (envX cn cs L a ccd cl).kindOf dnm = some .cell) (hcd : cl.lookup dnm = some cd)
    (bx : (x == ("__debug__" : Str)) = false) (bd : (dnm == ("__debug__" : Str)) = false)
    (F : Fr h₀ L s.heap m) (N : News h₀ L s.heap ((l, lo) :: (cd, ocd) :: (r, W.listOf vs.toArray n) :: rest)) (hc : lo.cls = .type "list") (hld : lo.data = .seq lvs.toArray ln) (hl : IntsAre lvs (ens.map Int.ofNat).reverse) (docd : ocd.data = .cell (some (.ref r)))
    (hlr : @Ne Nat l r) (hcr : @Ne Nat cd r) (hrest : ∀ p ∈ rest, p.1 ≠ r)
    (hv : IntsAre vs xs) (hxl : xs.length ≤ 64) (hlt : ∀ e ∈ ens, e < xs.length) (hso : ens.Pairwise (· < ·))
    (done : ∀ u vs' n' h tk, IntsAre vs' (strikeOut ens xs) → Fr h₀ L h (upd [x] u m) → News h₀ L h ((l, lo) :: (cd, ocd) :: (r, W.listOf vs'.toArray n') :: rest) → Q .next { s with heap := h, toks := tk }) :
    wpAny (model prog w) A (pyIter (.ref l)) (fun it s₂ => LoopG prog w A (envX cn cs L a ccd cl) x [.Delete [.Subscript (.Name dnm pd) (.Name x px2) psb] pdel] Q it s₂) E s := by
  have hlen : lvs.length = ens.length := by rw [IntsAre.length hl]; simp
  refine iter_list_M (env := envX cn cs L a ccd cl) (vs := lvs) [x] (fun i news₁ g => g = s.gens ∧ ∃ vs' n', IntsAre vs' (delN ens i xs) ∧ news₁ = (l, lo) :: (cd, ocd) :: (r, W.listOf vs'.toArray n') :: rest) hh hx (by show (cs.kind == .class || (cs.kind == .module && L != mainGlobals)) = false; rw [hk]; rfl) F N (.head _) hc hld ⟨rfl, vs, n, hv, rfl⟩ ?turn ?done
  case turn =>
    rintro i v I oI u news₁ h tk g E' hvi hltI ⟨rfl, vs', n', hI', rfl⟩ hin hoff F₁ N₁
    obtain ⟨k, t, rfl, hk'⟩ := hl.at i v hvi
    rw [← List.map_reverse, List.getElem?_map] at hk'
    obtain ⟨e, he, rfl⟩ := Option.map_eq_some_iff.mp hk'
    have hi : i < ens.length := by have := (List.getElem?_eq_some_iff.mp he).1; simpa using this
    have hb := rev_bound hso hlt i e he
    have hl' : vs'.length = xs.length - i := by rw [IntsAre.length hI', delN_length hso hlt i (by omega)]
    have hrI : @Ne Nat I r := Nat.ne_of_gt (hltI (r, W.listOf vs.toArray n) (.tail _ (.tail _ (.head _))))
    refine wpAny_execs_cons (wpAny_Delete (wpAny_deleteEach_cons ?_))
    refine wpAny_delete_Subscript ?_
    refine nameX_C (cl := cl) N₁ hcd (.tail _ (.tail _ (.head _))) docd ?_ hk hd bd
    refine nameX_L (v := .int (Int.ofNat e) t) F₁ (by simp) ?_ hk hx bx
    refine del_K (e := e) (vs := vs') F₁ N₁ (.tail (by exact hrI) (.tail (by exact hlr) (.tail (by exact hcr) (.head hrest)))) (by omega) (by omega) fun h' n₂ F₂ N₂ => ?_
    refine wpAny_deleteEach_nil ?_
    refine wpAny_execs_nil ?_
    refine ⟨_, _, _, _, _, rfl, F₂, ?_, N₂, ?_, ?_, rfl, _, n₂, ?_, rfl⟩
    · intro z hz
      have hzx : z ≠ x := by rintro rfl; simp at hz
      simp only [hzx, if_false]
      unfold upd
      rw [if_neg (by rw [hz]; decide)]
    · exact swap_all (P := fun a => a ≠ I) (pre := [(l, lo), (cd, ocd)]) (post := rest) (o := W.listOf vs'.toArray n') hoff
    · intro p hp
      rw [List.mem_singleton.mp hp]
      exact .head _
    · rw [delN_succ he]
      exact ints_erase hI' e
  case done =>
    rintro u news₁ h tk g ⟨rfl, vs', n', hI', rfl⟩ hin F₁ N₁
    rw [hlen, delN_full] at hI'
    exact done u vs' n' h tk hI' F₁ N₁
end
section
variable {h₀ h h' : Heap} {L : Addr} {m : Str → Option Value} {mods mods' : List Addr} {news led led' : List (Addr × Obj)}
theorem news_mix (N : News h₀ L h news) (x : ExtB mods h h') (N' : News h₀ L h' led') (hs : ∀ p ∈ led, p ∈ led' ∨ (p ∈ news ∧ p.1 ∉ mods)) : News h₀ L h' led := fun p hp =>
  (hs p hp).elim (N' p) fun q => ⟨x _ _ (N p q.1).1 q.2, (N p q.1).2⟩
/-- of what may be turned, all but some came back as it was -/
theorem ext_some (N : News h₀ L h led) (N' : News h₀ L h' led) (x : ExtB mods h h') (hm : ∀ b ∈ mods, b ∈ mods' ∨ b ∈ led.map (·.1)) : ExtB mods' h h' := fun b o e hb => by
  by_cases q : b ∈ mods
  · rcases hm b q with q | q
    · exact absurd q hb
    · obtain ⟨p, hp, rfl⟩ := List.mem_map.mp q
      have z := (N p hp).1
      rw [e] at z
      rw [Option.some.inj z]
      exact (N' p hp).1
  · exact x b o e q
theorem fresh_in {I C l : Addr} (F : Fr h₀ L h m) (hI : I ≠ L ∧ h₀.get? I = none) (hC : C ≠ L ∧ h₀.get? C = none) (hl : ∀ b o, h.get? b = some o → b ∉ [I, C] → @Ne Nat b l) : l ≠ L ∧ h₀.get? l = none := by
  refine ⟨fun q => ?_, ?_⟩
  · obtain ⟨o, es, ep, e, _⟩ := F.ns
    exact hl L o e (fun z => (List.mem_cons.mp z).elim (fun z => hI.1 z.symm) fun z => hC.1 (List.mem_singleton.mp z).symm) q.symm
  · cases e : h₀.get? l with
    | none => rfl
    | some o =>
      refine absurd rfl (hl l o (F.keep _ _ e) fun z => (List.mem_cons.mp z).elim (fun z => ?_) fun z => ?_)
      · rw [z, hI.2] at e; cases e
      · rw [List.mem_singleton.mp z, hC.2] at e; cases e
theorem news_two {l S : Addr} {lo so : Obj} (hl : h.get? l = some lo) (h1 : l ≠ L ∧ h₀.get? l = none) (hS : h.get? S = some so) (h2 : S ≠ L ∧ h₀.get? S = none) : News h₀ L h [(l, lo), (S, so)] := fun p hp => by
  rcases List.mem_cons.mp hp with rfl | hp
  · exact ⟨hl, h1⟩
  · rw [List.mem_singleton.mp hp]; exact ⟨hS, h2⟩
theorem mods3 {P : Addr → Prop} {I C S : Addr} (h1 : P I) (h2 : P C) (h3 : P S) : ∀ b ∈ [I, C, S], P b := fun b hb => by
  rcases List.mem_cons.mp hb with rfl | hb
  · exact h1
  rcases List.mem_cons.mp hb with rfl | hb
  · exact h2
  · rw [List.mem_singleton.mp hb]; exact h3
theorem two_not {b I C : Addr} (h1 : @Ne Nat b I) (h2 : @Ne Nat b C) : b ∉ [I, C] := fun z => (List.mem_cons.mp z).elim h1 fun z => h2 (List.mem_singleton.mp z)
end
end
section
theorem fresh_C70 : True := by
  w_top off
  exact trivial
local macro_rules | `(tactic| walk_at "call builtin:callable") => `(tactic| (k_here; k_dflt (refine' callable_K ?X ?e ?_; (case X => k_in); (case e => k_is); k_whole)))
local macro_rules | `(tactic| walk_at "call builtin:isinstance") => `(tactic| (k_here; (with_reducible show wpAny _ _ (call _ [Value.ref _, Value.ref _]) _ _ _); k_dflt (refine isn_dictOf (knd := PySem.strKind _ _) (hd := by with_reducible assumption) (by k_in) (by k_asm) (by k_mem) (by k_not) ?_)))
local macro_rules | `(tactic| walk_at "call builtin:isinstance") => `(tactic| (k_here; (with_reducible show wpAny _ _ (call _ [Value.ref _, Value.ref _]) _ _ _); k_dflt (refine' isi_call ?k1 ?k2 ?k3 ?k4 ?_; (case k1 => k_in); (case k2 => k_types); (case k3 => k_is); (case k4 => intro e; cases e); k_whole)))
section
local macro_rules | `(tactic| walk_at "exec Assign cons DictComp") => `(tactic| (k_here; k_dflt (refine Assign_DictComp_K (by k_asm) (by rfl) (by with_unfolding_all rfl) (by with_unfolding_all rfl) (by decide) (by rfl) (by decide) (by rfl) (by rfl) (by rfl) ?_)))
local macro_rules | `(tactic| walk_at "DSrc") => `(tactic| refine hold ?_)
local macro_rules | `(tactic| walk_at "eval GeneratorExp") => `(tactic| refine hold ?_)
local macro_rules | `(tactic| walk_at "call builtin:sorted") => `(tactic| (k_here; refine hold ?_))
local macro_rules | `(tactic| walk_at "exec For Name Call cons nil") => `(tactic| (k_dflt (refine For_G ?_)))
local macro_rules | `(tactic| walk_at "And") => `(tactic| (k_here; (with_reducible show _ ∧ Keeps _ _); refine hold ?_))
local macro_rules | `(tactic| walk_at "m_mix") => `(tactic| first | exact List.forall_mem_nil _ | (refine' List.forall_mem_cons.mpr ⟨?a, ?b⟩; (case a => first | exact Or.inl (List.Mem.head _) | exact Or.inl (List.Mem.tail _ (List.Mem.head _)) | exact Or.inr ⟨by k_mem, notMem3 (by k_ne) (by k_ne) (by k_ne)⟩); (case b => walk_at "m_mix")))
set_option maxRecDepth 100000 in
set_option maxHeartbeats 0 in
set_option rowWalk.seconds 0 in
theorem idxfil {w : World} {p : Program} {loose : List Str} {mean : ExcName → Option Value} {mg mb : Str → Option Value}
  {dp un : Nat} {gd : Option (List Code)} {cn : Str} {cs : Scope} {a : Addr} {ccd : Value} {cl : List (Str × Addr)} {outer : List Env} {A₀ : Around} {base h₀ : Heap} {L : Addr} {m : Str → Option Value} {s : Shared}
    {ix dx t r f c1 cc S n k sn : Nat} {q1 : Tok} {vs ws : List Value} {xs : List Int} {es : List Value} {ens : List Nat} {fo oc co : Obj} {ps : Array Value} (hv : IntsAre vs xs) (hxl : xs.length ≤ 64) (hes : IntsAre es (ens.map Int.ofNat)) (hlt : ∀ e ∈ ens, e < xs.length) (hso : ens.Pairwise (· < ·)) (hln : ws.length + ens.length < 64)
    (hfn : FnSpec PySem.Challenge.pw_ae5010_01 w f fo c1 oc cc co S) (hfo : ∃ oc od fd sl, fo = ⟨oc, od, .func fd, sl⟩) (hps : TriplesOk ps.toList)
    (hr : @Ne Nat r ix ∧ @Ne Nat r dx ∧ @Ne Nat r t ∧ @Ne Nat r f ∧ @Ne Nat r c1 ∧ @Ne Nat r cc ∧ @Ne Nat r S) (hS : @Ne Nat S f ∧ @Ne Nat S c1 ∧ @Ne Nat S cc ∧ @Ne Nat S ix ∧ @Ne Nat S dx ∧ @Ne Nat S t) (h9 : @LT.lt Nat _ 609 ix ∧ @LT.lt Nat _ 609 dx ∧ @LT.lt Nat _ 609 t ∧ @LT.lt Nat _ 609 f ∧ @Ne Nat 609 c1 ∧ @LT.lt Nat _ 609 cc ∧ @LT.lt Nat _ 609 S ∧ @Ne Nat 609 r)
    {Q E : Value → Shared → Prop}
    (B : Below A₀ base outer h₀) (F : Fr h₀ L s.heap m) (X : (hd.heap_39 w.params).In h₀) 
    (N : News h₀ L s.heap [(ix, instObj 648 dx), (dx, idxObj w.params q1 t), (t, tupObj es k), (f, fo), (c1, oc), (cc, co), (609, tabObj ps), (S, listOf ws.toArray sn), (r, listOf vs.toArray n)]) (T : Top p loose mean mg mb h₀) (hk : cs.kind = .function)
    (hdp : dp + 20 < recursionLimit) (hun : un + 200 < cLine)
    (hret : ∀ h' tk' gens' vs' n' sn' ps', IntsAre vs' (strikeOut ens xs) → Fr h₀ L h' m → News h₀ L h' [(ix, instObj 648 dx), (dx, idxObj w.params q1 t), (t, tupObj es k), (f, fo), (c1, oc), (cc, co), (609, tabObj ps'), (S, listOf (ws ++ ens.map fun e => vs.getD e .none).toArray sn'), (r, listOf vs'.toArray n')] → TriplesOk ps'.toList → ExtB [609, S, r] s.heap h' → (AllBare s.gens → AllBare gens') → Q (.ref r) { s with heap := h', toks := tk', gens := gens' }) :
    wpAny (model PySem.Challenge.pw_ae5010_01 w) (ktrTop dp un gd cn cs L a ccd cl outer) (call (.ref 612) [.ref ix, .ref f, .ref r]) Q E s := by
  obtain ⟨hr1, hr2, hr3, hr4, hr5, hr6, hr7⟩ := hr
  obtain ⟨hS1, hS2, hS3, hS4, hS5, hS6⟩ := hS
  obtain ⟨h91, h92, h93, h94, h95, h96, h97, h98⟩ := h9
  refine wpAny_call ?_
  walk_at "m_enterC"
  k_steps
  unfold Hold
  rename Fr _ _ _ _ => F9
  rename News _ _ _ _ => N9
  k_dflt (refine ⟨t, es.toArray, k, _, fun v k => ∃ (i : Int) (u : Tok), v = .int i u ∧ k = i % (xs.length : Int), rfl, rfl, F9, N9, by k_mem, ?dsz, ?dtest, ?dkey, ?dval, ?dfin⟩)
  case dsz =>
    have e1 := IntsAre.length hes
    rw [List.size_toArray, e1, List.length_map, sizeLine_eq]
    omega
  case dtest =>
    intro i v C oC m₂ s₃ E' hiv hC hx F₃ N₃
    clear F9 N9
    obtain ⟨n', u, rfl, hn'⟩ := hes.at i v (by simpa using hiv)
    rw [List.getElem?_map] at hn'
    obtain ⟨e, he, rfl⟩ := Option.map_eq_some_iff.mp hn'
    have hel : (Int.ofNat e) < (xs.length : Int) ∧ 0 ≤ Int.ofNat e := ⟨Int.ofNat_lt.mpr (hlt e (List.mem_of_getElem? he)), Int.natCast_nonneg e⟩
    generalize Int.ofNat e = e9 at *
    k_steps
    all_goals unfold Hold
    exact ⟨decide_eq_true (by omega), ⟨_, _, rfl, fun _ _ e => e⟩⟩
  case dkey =>
    intro i v C oC m₂ s₃ E' hiv hC hx F₃ N₃
    clear F9 N9
    obtain ⟨n', u, rfl, hn'⟩ := hes.at i v (by simpa using hiv)
    rw [List.getElem?_map] at hn'
    obtain ⟨e, he, rfl⟩ := Option.map_eq_some_iff.mp hn'
    have hel : (Int.ofNat e) < (xs.length : Int) ∧ 0 ≤ Int.ofNat e := ⟨Int.ofNat_lt.mpr (hlt e (List.mem_of_getElem? he)), Int.natCast_nonneg e⟩
    generalize Int.ofNat e = e9 at *
    k_steps
    all_goals unfold Hold
    exact ⟨⟨_, intKind_is _ _ _ _, _, _, rfl, Int.fmod_eq_emod_of_nonneg _ (by omega)⟩, ⟨_, _, rfl, fun _ _ e => e⟩⟩
  case dval =>
    intro i v C oC m₂ s₃ E' hiv hC hx F₃ N₃
    clear F9 N9
    k_steps
    all_goals unfold Hold
    exact ⟨rfl, ⟨_, _, rfl, fun _ _ e => e⟩⟩
  intro D oD h' tk' kvs F' N' l1 hds hdo hst
  obtain rfl : kvs = (ens.map Int.ofNat).map fun e => (e, Value.none) := by
    refine stored_ens hst _ (by simpa using hes) ?_ ?_
    · refine List.Pairwise.map Int.ofNat (fun a b h e => ?_) hso
      exact absurd (Int.ofNat.inj e) (Nat.ne_of_lt h)
    · intro e he
      obtain ⟨e', he', rfl⟩ := List.mem_map.mp he
      exact ⟨Int.natCast_nonneg e', Int.ofNat_lt.mpr (hlt e' he')⟩
  clear F9 N9 hst
  k_steps
  unfold Hold
  rename Fr _ _ _ _ => F9
  rename News _ _ _ _ => N9
  k_lt l1
  k_dflt (refine GenExp_K (c := 611) (P := 609) (d := D) F9 N9 (by k_asm) (codeHd_of_K (by k_asm) (by kernel_rfl)) (by rfl) (by rfl) (by k_updF) hps (fun Q' q => nameX_L F9 (by rfl) q) (by k_mem) hdo hds (by rfl) (by with_unfolding_all rfl) (by decide) (by rfl) (by rfl) (by ktr_room) ?_ (by intro _; with_unfolding_all rfl))
  intro a9 og C9 oC I9 oI ep ps9 h9 tk9 code9 F8 N8 htr9 hoC hogc hogen hoI hoD hltI hIC hCa hPI
  clear F9 N9
  k_lt hltI
  k_steps
  unfold Hold
  rename Fr _ _ _ _ => F9
  rename News _ _ _ _ => N9
  show wpAny _ _ (call (Value.builtin "sorted") [Value.ref a9] [(Str.ofString "reverse", Value.bool true)]) _ _ _
  have hvl : vs.length = xs.length := IntsAre.length hv
  k_dflt (refine fil_sorted (a := a9) (S := S) (r := r) (f := f) (c1 := c1) (cc := cc) (D := D) (I := I9) (C := C9) (ks := ens.map Int.ofNat) (vs := vs) (ws := ws) (pk := ens.map fun e => vs.getD e .none) (by rfl) (by show dp + 1 + 10 < recursionLimit; omega) (by show un + 3 + 60 < cLine; omega) (Array.getElem?_push_size ..) hogen (N9 (a9, og) (by k_mem)).1 (by have := hoI _ (N9 (I9, oI) (by k_mem)).1; rw [List.length_map] at this; exact this) ⟨_, hoC.ns (N9 (C9, oC) (by k_mem)).1⟩ (N9 (S, _) (by k_mem)).1 (by rfl) (by rfl) (by rfl) (by rfl) (by rfl) (by rfl) (by rfl) (by decide) (by decide) (by decide) (by decide) (by decide) (N9 (_, _) (by k_mem)).1 (by assumption) (N9 (_, _) (by k_mem)).1 (by assumption) (N9 (r, _) (by k_mem)).1 (N9 (f, fo) (by k_mem)).1 hfo (N9 (c1, oc) (by k_mem)).1 (N9 (cc, co) (by k_mem)).1 (hoD _ (N9 (D, oD) (by k_mem)).1) (Heap.NoLimit.keeps (TopRead.nolimit (by k_asm)) F9.keep) (notMem3 (by k_ne) (by k_ne) (by k_ne)) (notMem3 (by k_ne) (by k_ne) (by k_ne)) (notMem3 (by k_ne) (by k_ne) (by k_ne)) (notMem3 (by k_ne) (by k_ne) (by k_ne)) (notMem3 (by k_ne) (by k_ne) (by k_ne)) (notMem3 (by k_ne) (by k_ne) (by k_ne)) (notMem3 (by k_ne) (by k_ne) (by k_ne)) (notMem3 (by show @Ne Nat 2 I9; omega) (by show @Ne Nat 2 C9; omega) (by show @Ne Nat 2 S; omega)) (notMem3 (by k_ne) (by k_ne) (by k_ne)) (by show @Ne Nat I9 C9; omega) (by show @Ne Nat I9 S; omega) (by show @Ne Nat C9 S; omega) (by rw [List.length_map, List.length_map]) (fil_ks hvl hxl hlt) (by rw [List.length_map]; omega) hfn ?_)
  intro l hh tkh gens' vs' ns' e nS' hx hS' hlne hl hI' hp' ho' hgo
  obtain rfl : ns' = (ens.map Int.ofNat).reverse := desc_unique hp' ho' (List.Pairwise.map Int.ofNat (fun a b h => Int.ofNat_lt.mpr h) hso)
  have hfresh := fresh_in F9 (N9 (I9, oI) (by k_mem)).2 (N9 (C9, oC) (by k_mem)).2 hlne
  have F10 := ext_fr F9 hx (mods3 ⟨(N9 (I9, oI) (by k_mem)).2.2, (N9 (I9, oI) (by k_mem)).2.1⟩ ⟨(N9 (C9, oC) (by k_mem)).2.2, (N9 (C9, oC) (by k_mem)).2.1⟩ ⟨(N9 (S, _) (by k_mem)).2.2, (N9 (S, _) (by k_mem)).2.1⟩)
  have N10 := news_two hl hfresh hS' (N9 (S, _) (by k_mem)).2
  have hlr := hlne r _ (N9 (r, _) (by k_mem)).1 (two_not (by k_ne) (by k_ne))
  k_dflt (refine fil_loop (lo := seqObj "list" vs'.toArray e) (r := r) (n := n) (vs := vs) (xs := xs) (ens := ens) (rest := [(S, listOf (ws ++ ens.map fun e => vs.getD e .none).toArray nS'), (609, tabObj ps9), (ix, instObj 648 dx), (dx, idxObj w.params q1 t), (t, tupObj es k), (f, fo), (c1, oc), (cc, co)]) (by rfl) (by rfl) (by rfl) (by rfl) (by rfl) (by decide) (by decide) F10 (news_mix N9 hx N10 (by walk_at "m_mix")) (by rfl) (by rfl) hI' (by assumption) (Ne.symm hlr) (by k_ne) (List.forall_mem_cons.mpr ⟨Ne.symm hr7, List.forall_mem_cons.mpr ⟨(by k_ne), List.forall_mem_cons.mpr ⟨Ne.symm hr1, List.forall_mem_cons.mpr ⟨Ne.symm hr2, List.forall_mem_cons.mpr ⟨Ne.symm hr3, List.forall_mem_cons.mpr ⟨Ne.symm hr4, List.forall_mem_cons.mpr ⟨Ne.symm hr5, List.forall_mem_cons.mpr ⟨Ne.symm hr6, List.forall_mem_nil _⟩⟩⟩⟩⟩⟩⟩⟩) hv hxl hlt hso ?_)
  intro u vs'' n'' h'' tk'' hI'' F'' N''
  clear N9 F9 N10 F10
  k_steps
  rename News h₀ _ _ _ => N8
  k_dflt (refine hret _ _ _ vs'' n'' nS' ps9 hI'' (by assumption) (KStt.news_of N8 (by walk_at "m_keep")) htr9 ?_ (fun hb => GenOnlyQ.bare hgo (AllBare.push hb rfl)))
  exact ext_some (led := [(ix, instObj 648 dx), (dx, idxObj w.params q1 t), (t, tupObj es k), (f, fo), (c1, oc), (cc, co)]) (KStt.news_of N (by walk_at "m_keep")) (KStt.news_of N8 (by walk_at "m_keep")) (ext_of (by assumption) (by assumption)) (by simp)
end
end
section
theorem fresh_C71 : True := by
  w_top off
  exact trivial
local macro_rules | `(tactic| walk_at "call builtin:callable") => `(tactic| (k_here; k_dflt (refine' callable_K ?X ?e ?_; (case X => k_in); (case e => k_is); k_whole)))
local macro_rules | `(tactic| walk_at "call builtin:isinstance") => `(tactic| (k_here; (with_reducible show wpAny _ _ (call _ [Value.ref _, Value.ref _]) _ _ _); k_dflt (refine isn_dictOf (knd := PySem.strKind _ _) (hd := by with_reducible assumption) (by k_in) (by k_asm) (by k_mem) (by k_not) ?_)))
local macro_rules | `(tactic| walk_at "call builtin:isinstance") => `(tactic| (k_here; (with_reducible show wpAny _ _ (call _ [Value.ref _, Value.ref _]) _ _ _); k_dflt (refine' isi_call ?k1 ?k2 ?k3 ?k4 ?_; (case k1 => k_in); (case k2 => k_types); (case k3 => k_is); (case k4 => intro e; cases e); k_whole)))
section
local macro_rules | `(tactic| walk_at "call ref") => `(tactic| (k_here; (with_reducible show wpAny _ _ (call (Value.ref 478) _ _) _ _ _); refine hold ?_))
local macro_rules | `(tactic| walk_at "call ref") => `(tactic| (k_here; (with_reducible show wpAny _ _ (call (Value.ref 612) _ _) _ _ _); refine hold ?_))
local macro_rules | `(tactic| walk_at "exec For Name Call cons nil") => `(tactic| (k_dflt (refine For_G ?_)))
local macro_rules | `(tactic| walk_at "m_mix") => `(tactic| first | exact List.forall_mem_nil _ | (refine' List.forall_mem_cons.mpr ⟨?a, ?b⟩; (case a => first | exact Or.inl (by k_mem) | exact Or.inr ⟨by k_mem, notMem3 (by k_ne) (by k_ne) (by k_ne)⟩); (case b => walk_at "m_mix")))
set_option maxRecDepth 100000 in
set_option maxHeartbeats 0 in
set_option rowWalk.seconds 0 in
theorem chfil {w : World} {p : Program} {loose : List Str} {mean : ExcName → Option Value} {mg mb : Str → Option Value}
  {dp un : Nat} {gd : Option (List Code)} {cn : Str} {cs : Scope} {a : Addr} {ccd : Value} {cl : List (Str × Addr)} {outer : List Env} {A₀ : Around} {base h₀ : Heap} {L : Addr} {m : Str → Option Value} {s : Shared}
    {cx cd fx fd ft ix dx t r f c1 cc S d b n k fk sn : Nat} {q1 q2 q5 q6 q7 qi : Tok} {od : Obj} {vs ws : List Value} {xs : List Int} {es : List Value} {ens : List Nat} {fo oc co : Obj} {ps : Array Value} (hv : IntsAre vs xs) (hxl : xs.length ≤ 64) (hes : IntsAre es (ens.map Int.ofNat)) (hlt : ∀ e ∈ ens, e < xs.length) (hso : ens.Pairwise (· < ·)) (hln : ws.length + ens.length < 64)
    (hdoc : od.IsDictOf (PySem.strKind PySem.Challenge.pw_ae5010_01 w) [(Str.ofString "beside", .ref b), (Str.ofString "row", .ref r)]) (lo : (d == sysModules) = false)
    (hfn : FnSpec PySem.Challenge.pw_ae5010_01 w f fo c1 oc cc co S) (hfo : ∃ oc od fd sl, fo = ⟨oc, od, .func fd, sl⟩) (hps : TriplesOk ps.toList)
    (o1 : @Ne Nat 609 r) (o1' : @LT.lt Nat _ 609 S) (o2 : @LT.lt Nat _ r S) (o3 : @LT.lt Nat _ S cx ∧ @LT.lt Nat _ S cd ∧ @LT.lt Nat _ S fx ∧ @LT.lt Nat _ S fd ∧ @LT.lt Nat _ S ft ∧ @LT.lt Nat _ S ix ∧ @LT.lt Nat _ S dx ∧ @LT.lt Nat _ S t ∧ @LT.lt Nat _ S f ∧ (@Ne Nat S c1 ∧ @Ne Nat 609 c1 ∧ @Ne Nat r c1) ∧ @LT.lt Nat _ S cc)
    {Q E : Value → Shared → Prop}
    (B : Below A₀ base outer h₀) (F : Fr h₀ L s.heap m) (X : (hd.heap_39 w.params).In h₀)
    (N : News h₀ L s.heap [(cx, instObj 421 cd), (cd, chObj w.params q6 q7 fx ix), (fx, instObj 549 fd), (fd, fldObj w.params q1 q2 ft), (ft, tupObj [.str (Str.ofString "row") q5] fk), (ix, instObj 648 dx), (dx, idxObj w.params qi t), (t, tupObj es k), (f, fo), (c1, oc), (cc, co), (609, tabObj ps), (S, listOf ws.toArray sn), (d, od), (r, listOf vs.toArray n)]) (T : Top p loose mean mg mb h₀) (hk : cs.kind = .function)
    (hdp : dp + 40 < recursionLimit) (hun : un + 400 < cLine)
    (hret : ∀ h' tk' gens' vs' n' sn' ps', IntsAre vs' (strikeOut ens xs) → Fr h₀ L h' m → News h₀ L h' [(cx, instObj 421 cd), (cd, chObj w.params q6 q7 fx ix), (fx, instObj 549 fd), (fd, fldObj w.params q1 q2 ft), (ft, tupObj [.str (Str.ofString "row") q5] fk), (ix, instObj 648 dx), (dx, idxObj w.params qi t), (t, tupObj es k), (f, fo), (c1, oc), (cc, co), (609, tabObj ps'), (S, listOf (ws ++ ens.map fun e => vs.getD e .none).toArray sn'), (d, od), (r, listOf vs'.toArray n')] → TriplesOk ps'.toList → ExtB [609, S, r] s.heap h' → (AllBare s.gens → AllBare gens') → Q (.ref d) { s with heap := h', toks := tk', gens := gens' }) :
    wpAny (model PySem.Challenge.pw_ae5010_01 w) (ktrTop dp un gd cn cs L a ccd cl outer) (call (.ref 383) [.ref cx, .ref f, .ref d]) Q E s := by
  obtain ⟨o31, o32, o33, o34, o35, o36, o37, o38, o39, ⟨o3a, o3a2, o3a3⟩, o3b⟩ := o3
  have hdc : od.cls = .type "dict" := hdoc.choose_spec.choose_spec.1.1
  have hdr : @Ne Nat d r := news_ne N (o := od) (o' := listOf vs.toArray n) (by k_mem) (by k_mem) (by rw [hdc]; exact (by decide : Value.type "dict" ≠ Value.type "list"))
  have hdS : @Ne Nat d S := news_ne N (o := od) (o' := listOf ws.toArray sn) (by k_mem) (by k_mem) (by rw [hdc]; exact (by decide : Value.type "dict" ≠ Value.type "list"))
  have hd9 : @Ne Nat d 609 := news_ne N (o := od) (o' := tabObj ps) (by k_mem) (by k_mem) (by rw [hdc]; exact (by decide : Value.type "dict" ≠ Value.none))
  refine wpAny_call ?_
  walk_at "m_enter2"
  k_steps
  unfold Hold
  rename News _ _ _ _ => N9
  rename Fr _ _ _ _ => F9
  k_dflt (refine ffind (d := d) (b := b) (r := r) (t := ft) (S := S) (oS := listOf ws.toArray sn) hdoc lo (by k_asm) F9 (by k_asm) (KStt.news_of N9 (by walk_at "m_keep")) (by k_asm) (by rfl) (by ktr_room) (by ktr_units) ?_)
  intro D y dy py q1' q2' q3' cxx h' tk' F8 N8 x8 hrD hSD
  have N7 := ext_all N9 x8 (led' := [(D, LCg.lst [.ref y]), (y, instObj 203 dy), (dy, datObj w.params q1' q2' q3' (.ref r) py cxx)]) (KStt.news_of N8 (by walk_at "m_keep"))
  simp only [List.cons_append, List.nil_append] at N7
  have hD9 : @Ne Nat D 609 := news_ne N7 (o := LCg.lst [.ref y]) (o' := tabObj ps) (by k_mem) (by k_mem) (by exact (by decide : Value.type "list" ≠ Value.none))
  have hy1 : @Ne Nat y 609 := news_ne N7 (o := instObj 203 dy) (o' := tabObj ps) (by k_mem) (by k_mem) (by exact (by decide : Value.ref 203 ≠ Value.none))
  have hy2 : @Ne Nat y S := news_ne N7 (o := instObj 203 dy) (o' := listOf ws.toArray sn) (by k_mem) (by k_mem) (by exact (by decide : Value.ref 203 ≠ Value.type "list"))
  have hy3 : @Ne Nat y r := news_ne N7 (o := instObj 203 dy) (o' := listOf vs.toArray n) (by k_mem) (by k_mem) (by exact (by decide : Value.ref 203 ≠ Value.type "list"))
  have hy4 : @Ne Nat dy 609 := news_ne N7 (o := datObj w.params q1' q2' q3' (.ref r) py cxx) (o' := tabObj ps) (by k_mem) (by k_mem) (by exact (by decide : Value.type "dict" ≠ Value.none))
  have hy5 : @Ne Nat dy S := news_ne N7 (o := datObj w.params q1' q2' q3' (.ref r) py cxx) (o' := listOf ws.toArray sn) (by k_mem) (by k_mem) (by exact (by decide : Value.type "dict" ≠ Value.type "list"))
  have hy6 : @Ne Nat dy r := news_ne N7 (o := datObj w.params q1' q2' q3' (.ref r) py cxx) (o' := listOf vs.toArray n) (by k_mem) (by k_mem) (by exact (by decide : Value.type "dict" ≠ Value.type "list"))
  clear N9 F9 N8
  k_steps
  rename News _ _ _ _ => N9
  rename Fr _ _ _ _ => F9
  k_dflt (refine iter_list_one (lo := LCg.lst [.ref y]) (v := .ref y) (by rfl) (by rfl) (by rfl) F9 N9 (by k_mem) (by rfl) (by rfl) ?_)
  intro I oI h1 tk1 E1 hltI F1 N1
  (try k_lt hltI)
  clear F9 N9
  k_steps
  unfold Hold
  rename News _ _ _ _ => N9
  rename Fr _ _ _ _ => F9
  k_dflt (refine idxfil (r := r) (S := S) (dx := dx) (k := k) (q1 := qi) (t := t) (f := f) (c1 := c1) (cc := cc) (fo := fo) (oc := oc) (co := co) (ps := ps) (n := n) (ws := ws) (sn := sn) (vs := vs) hv hxl hes hlt hso hln hfn hfo hps ⟨by k_ne, by k_ne, by k_ne, by k_ne, by k_ne, by k_ne, by k_ne⟩ ⟨by k_ne, by k_ne, by k_ne, by k_ne, by k_ne, by k_ne⟩ ⟨by omega, by omega, by omega, by omega, by omega, by omega, by omega, by omega⟩ (by k_asm) F9 (by k_asm) (KStt.news_of N9 (by walk_at "m_keep")) (by k_asm) (by rfl) (by ktr_room) (by ktr_units) ?_)
  intro h2 tk2 gens2 vs2 n2 sn2 ps2 hI2 F2 N2 htr2 x2 hb2
  have N3 := news_mix (led := [(I, oI), (D, LCg.lst [.ref y]), (y, instObj 203 dy), (dy, datObj w.params q1' q2' q3' (.ref r) py cxx), (cx, instObj 421 cd), (cd, chObj w.params q6 q7 fx ix), (fx, instObj 549 fd), (fd, fldObj w.params q1 q2 ft), (ft, tupObj [.str (Str.ofString "row") q5] fk), (ix, instObj 648 dx), (dx, idxObj w.params qi t), (t, tupObj es k), (f, fo), (c1, oc), (cc, co), (609, tabObj ps2), (S, listOf (ws ++ ens.map fun e => vs.getD e .none).toArray sn2), (d, od), (r, listOf vs2.toArray n2)]) N9 x2 N2 (by walk_at "m_mix")
  clear N9 F9 N2 N1 F1
  k_steps
  rename News h₀ _ _ _ => N8
  k_dflt (refine hret _ _ _ vs2 n2 sn2 ps2 hI2 (by assumption) (KStt.news_of N8 (by walk_at "m_keep")) htr2 ?_ hb2)
  exact ext_some (led := [(cx, instObj 421 cd), (cd, chObj w.params q6 q7 fx ix), (fx, instObj 549 fd), (fd, fldObj w.params q1 q2 ft), (ft, tupObj [.str (Str.ofString "row") q5] fk), (ix, instObj 648 dx), (dx, idxObj w.params qi t), (t, tupObj es k), (f, fo), (c1, oc), (cc, co), (d, od)]) (KStt.news_of N (by walk_at "m_keep")) (KStt.news_of N8 (by walk_at "m_keep")) (ext_of (by assumption) (by assumption)) (by simp)
end
end
section
theorem fresh_C72 : True := by
  w_top off
  exact trivial
local macro_rules | `(tactic| walk_at "call builtin:callable") => `(tactic| (k_here; k_dflt (refine' callable_K ?X ?e ?_; (case X => k_in); (case e => k_is); k_whole)))
section
variable {prog : Program} {w : World} {A : Around} {s : Shared} {led : List (Addr × Obj)}
  {R : Result → Shared → Prop} {name qual : Str} {params : Arguments} {body : List Stmt} {scope : Scope} {cl : List (Str × Addr)} {dV kV doc pm cdv ct : Value} {an : Option Addr} {fo : Obj} {f : Addr} {args : Args} {binds : List (Str × Value)}
/-- a call of a def with no word about who calls -/
theorem enter_free (hlim : s.heap.NoLimit) (ho : s.heap.get? f = some fo) (hd : fo.data = .func (fnX name qual params body scope cl dV kV doc pm an cdv ct)) (hcd : s.heap.CodeRec cdv qual) (hroom : A.depth < recursionLimit)
    (hbind : BindsTo s (fnX name qual params body scope cl dV kV doc pm an cdv ct) args binds) (hloc : ∀ y ∈ binds, scope.names.lookup y.1 = some .local) (gl : ∀ p ∈ led, s.heap.get? p.1 = some p.2)
    (h : ∀ g L' h₁, Fr g L' h₁ (fun y => binds.reverse.lookup y) → News g L' h₁ led → ExtB (led.map (·.1)) s.heap g → (∀ p ∈ led, p.1 < L') →
      wpAny (model prog w) (A.deeper (envX qual scope L' f cdv cl)) (execs body (envX qual scope L' f cdv cl))
        (fun fl s' => R (.ok (.ret (match fl with | .ret v => v | _ => .none))) s')
        (fun e s' => wpAny (model prog w) (A.deeper (envX qual scope L' f cdv cl)) (leaving (envX qual scope L' f cdv cl) e) (fun _ s'' => R (.error e) s'') (fun e' s'' => R (.error e') s'') s')
        { s with heap := h₁, toks := s.toks + binds.length })
    (hcell : ∀ x ∈ scope.names, x.2 ≠ .cell) (hco : scope.isCoroutine = false := by rfl) (hgen : scope.isGenerator = false := by rfl) (hk : scope.kind = .function := by rfl) : codeAny (model prog w) A (.call (.ref f) args) R s := by
  refine codeAny_call_def (fd := fnX name qual params body scope cl dV kV doc pm an cdv ct) (body := body) (binds := binds) hroom ho hd hlim hcd rfl hbind hcell hloc (fun h₁ hns hk₁ => ?_) hco hgen hk
  exact h (hideAll s.heap (led.map (·.1))) s.heap.objs.size h₁ ⟨hns, fun b o e => hk₁ b o (of_hideAll _ e), Nat.le_of_eq (hideAll_size _ _)⟩
    (fun p hp => ⟨hk₁ _ _ (gl p hp), Nat.ne_of_lt (Heap.lt_size (gl p hp)), hideAll_none _ (List.mem_map_of_mem hp)⟩) (fun b o e hb => hideAll_get _ e hb) (fun p hp => Heap.lt_size (gl p hp))
end
theorem free_ext {g h h' : Heap} {L c S : Addr} {co so : Obj} {m : Str → Option Value} (gl : h.get? c = some co) (N : News g L h' [(c, co), (S, so)]) (x : ExtB [c, S] h g) (F : Fr g L h' m) : ExtB [S] h h' := fun b o e hb => by
  by_cases q : b = c
  · subst q
    rw [gl] at e
    cases e
    exact (N _ (.head _)).1
  · exact F.keep b o (x b o e fun z => (List.mem_cons.mp z).elim q fun z => hb z)
section
noncomputable def noteTab (c : Addr) : Array Value := #[rawInt 444, rawInt 4, .ref c]
abbrev noteQual : Str := Str.ofString "_law_noting.<locals>.strike"
noncomputable def NoteOk (ps : Array Value) (c0 : Addr) (oc0 : Obj) : Prop := ps = #[] ∨ (ps = #[rawInt 444, rawInt 4, .ref c0] ∧ ∃ vs t, oc0.data = .fields vs ∧ vs[1]? = some (.str noteQual t))
local macro_rules | `(tactic| walk_at "qk") => `(tactic| refine hold ?_)
set_option maxRecDepth 100000 in
set_option maxHeartbeats 0 in
set_option rowWalk.seconds 0 in
theorem noting {w : World} {p : Program} {loose : List Str} {mean : ExcName → Option Value} {mg mb : Str → Option Value}
  {dp un : Nat} {gd : Option (List Code)} {cn : Str} {cs : Scope} {a : Addr} {ccd : Value} {cl : List (Str × Addr)} {outer : List Env} {A₀ : Around} {base h₀ : Heap} {L : Addr} {m : Str → Option Value} {s : Shared}
    {S c0 sn : Nat} {oc0 : Obj} {ps : Array Value} {ws : List Value} (hc : NoteOk ps c0 oc0) (o1 : @LT.lt Nat _ 753 S) (o2 : @Ne Nat c0 753) (o3 : @Ne Nat c0 S)
    {Q E : Value → Shared → Prop}
    (B : Below A₀ base outer h₀) (F : Fr h₀ L s.heap m) (X : (hd.heap_39 w.params).In h₀)
    (N : News h₀ L s.heap [(753, tabObj ps), (S, listOf ws.toArray sn), (c0, oc0)]) (T : Top p loose mean mg mb h₀) (hk : cs.kind = .function)
    (hdp : dp + 10 < recursionLimit) (hun : un + 100 < cLine)
    (hret : ∀ f fo c1 oc cc co ps' h' tk', Fr h₀ L h' m → News h₀ L h' [(753, tabObj ps'), (f, fo), (c1, oc), (cc, co), (S, listOf ws.toArray sn), (c0, oc0)] → ExtB [753] s.heap h' → FnSpec PySem.Challenge.pw_ae5010_01 w f fo c1 oc cc co S → (∃ oc od fd sl, fo = ⟨oc, od, .func fd, sl⟩) → NoteOk ps' c1 oc → @LT.lt Nat _ S f → @LT.lt Nat _ S cc → (c1 = c0 ∨ @LT.lt Nat _ S c1) → ps' ≠ #[] → Q (.ref f) { s with heap := h', toks := tk' }) :
    wpAny (model PySem.Challenge.pw_ae5010_01 w) (ktrTop dp un gd cn cs L a ccd cl outer) (call (.ref 758) [.ref S]) Q E s := by
  rcases hc with rfl | ⟨rfl, vs0, t0, d0, d1⟩
  · refine wpAny_call ?_
    (k_dflt (refine' code_extC ?k1 ?k2 ?k3 ?k4 ?k5 ?kA ?kF ?kK ?k6 ?k7 ?k8 ?k9 ?kB ?kD ?_ ?c2 ?c3 ?c4; (case kA => exact rfl); (case kF => exact rfl); (case kK => first | assumption | exact rfl); (case k1 => k_asm); (case k2 => k_asm); (case k3 => k_asm); (case k4 => k_asm); (case k5 => k_asm); (case k6 => k_is); (case k7 => k_is); (case k8 => ktr_room); (case k9 => first | exact BindsTo.of_eq rfl | exact binds_K (by k_in) rfl (by k_is) rfl rfl rfl | fail "k_enter: no rule for these arguments"); (case kB => exact rfl); (case kD => decide +kernel); (case c2 => exact rfl); (case c3 => exact rfl); (case c4 => exact rfl); k_whole))
    intro g1 L1 h1 tk1 cells1 xg1 FG1 F1 N1 Y1 B1 X1 T1 l1x
    k_lt l1x
    k_cells Y1
    (try simp only [List.cons_append, List.nil_append] at N1)
    (try dsimp only)
    (try k_fold)
    have CH := codeHd_of_K (c := 757) (P := 753) X1 (by kernel_rfl)
    k_steps
    rename News h₀ _ _ _ => N8
    k_dflt (refine' hret _ _ ?c1 _ (L1 + 1) _ #[rawInt 444, rawInt 4, .ref ?c1] _ _ (by assumption) (KStt.news_of N8 (by walk_at "m_keep")) ?ext ?spec ⟨_, _, _, _, rfl⟩ ?note ?lt1 ?lt2 ?lc1 ?ne)
    case ext => exact ext_some (mods' := [753]) (led := [(S, listOf ws.toArray sn), (c0, oc0)]) (KStt.news_of N (by walk_at "m_keep")) (KStt.news_of N8 (by walk_at "m_keep")) (ext_of xg1 (by assumption)) (by simp)
    case lt1 => omega
    case lt2 => omega
    case ne => intro q; exact Nat.noConfusion (congrArg Array.size q)
    case note =>
      rename _ = some (Value.str _ _) => q9
      exact Or.inr ⟨rfl, _, _, by assumption, q9⟩
    case lc1 => exact Or.inr (by omega)
    case spec =>
      intro A9 s9 v9 ws9 n9 Q9 E9 hh9 hd9 hu9 hl9 hw9 gf9 gc9 gcc9 gS9 hq9
      refine wpAny_call ?_
      refine enter_free (led := [(L1 + 1, _), (S, listOf ws9.toArray n9)]) hl9 gf9 rfl ⟨_, _, _, _, rfl, gc9, by assumption, by assumption⟩ (by omega) (BindsTo.of_eq rfl) (locs rfl) (List.forall_mem_cons.mpr ⟨gcc9, List.forall_mem_cons.mpr ⟨gS9, List.forall_mem_nil _⟩⟩) ?_ (by decide)
      intro g2 L2 h2 F2 N2 x2 l2
      k_steps
      rename Fr g2 _ _ _ => F7
      rename News g2 _ _ _ => N7
      rw [List.push_toArray] at N7
      exact hq9 _ _ _ (free_ext gcc9 (KStt.news_of N7 (by walk_at "m_keep")) x2 F7) (N7 (S, _) (by k_mem)).1
  · refine wpAny_call ?_
    (k_dflt (refine' code_extC ?k1 ?k2 ?k3 ?k4 ?k5 ?kA ?kF ?kK ?k6 ?k7 ?k8 ?k9 ?kB ?kD ?_ ?c2 ?c3 ?c4; (case kA => exact rfl); (case kF => exact rfl); (case kK => first | assumption | exact rfl); (case k1 => k_asm); (case k2 => k_asm); (case k3 => k_asm); (case k4 => k_asm); (case k5 => k_asm); (case k6 => k_is); (case k7 => k_is); (case k8 => ktr_room); (case k9 => first | exact BindsTo.of_eq rfl | exact binds_K (by k_in) rfl (by k_is) rfl rfl rfl | fail "k_enter: no rule for these arguments"); (case kB => exact rfl); (case kD => decide +kernel); (case c2 => exact rfl); (case c3 => exact rfl); (case c4 => exact rfl); k_whole))
    intro g1 L1 h1 tk1 cells1 xg1 FG1 F1 N1 Y1 B1 X1 T1 l1x
    k_lt l1x
    k_cells Y1
    (try simp only [List.cons_append, List.nil_append] at N1)
    (try dsimp only)
    (try k_fold)
    have CH := codeHd_of_K (c := 757) (P := 753) X1 (by kernel_rfl)
    k_steps
    rename News h₀ _ _ _ => N8
    k_dflt (refine' hret _ _ c0 _ (L1 + 1) _ #[rawInt 444, rawInt 4, .ref c0] _ _ (by assumption) (KStt.news_of N8 (by walk_at "m_keep")) ?ext2 ?spec2 ⟨_, _, _, _, rfl⟩ ?note2 ?lt12 ?lt22 ?lc12 ?ne2)
    case ext2 => exact ext_some (mods' := [753]) (led := [(S, listOf ws.toArray sn), (c0, oc0)]) (KStt.news_of N (by walk_at "m_keep")) (KStt.news_of N8 (by walk_at "m_keep")) (ext_of xg1 (by assumption)) (by simp)
    case lt12 => omega
    case lt22 => omega
    case ne2 => intro q; exact Nat.noConfusion (congrArg Array.size q)
    case note2 =>
      exact Or.inr ⟨rfl, _, _, by assumption, d1⟩
    case lc12 => exact Or.inl rfl
    case spec2 =>
      intro A9 s9 v9 ws9 n9 Q9 E9 hh9 hd9 hu9 hl9 hw9 gf9 gc9 gcc9 gS9 hq9
      refine wpAny_call ?_
      refine enter_free (led := [(L1 + 1, _), (S, listOf ws9.toArray n9)]) hl9 gf9 rfl ⟨_, _, _, _, rfl, gc9, by assumption, d1⟩ (by omega) (BindsTo.of_eq rfl) (locs rfl) (List.forall_mem_cons.mpr ⟨gcc9, List.forall_mem_cons.mpr ⟨gS9, List.forall_mem_nil _⟩⟩) ?_ (by decide)
      intro g2 L2 h2 F2 N2 x2 l2
      k_steps
      rename Fr g2 _ _ _ => F7
      rename News g2 _ _ _ => N7
      rw [List.push_toArray] at N7
      exact hq9 _ _ _ (free_ext gcc9 (KStt.news_of N7 (by walk_at "m_keep")) x2 F7) (N7 (S, _) (by k_mem)).1
end
end
section
section
open LCg
variable {prog : Program} {w : World} {A : Around} {s : Shared} {h₀ : Heap} {L : Addr} {m : Str → Option Value} {env : Env}
noncomputable def ValEnd (h₀ : Heap) (L : Addr) (m : Str → Option Value) (s : Shared) (old : List (Addr × Obj)) (R : Value → Prop) (y : Value) (s₂ : Shared) : Prop :=
  ∃ h' tk', s₂ = { s with heap := h', toks := tk' } ∧ Fr h₀ L h' m ∧ News h₀ L h' old ∧ R y
/-- a comprehension whose turns make nothing -/
theorem compRest_vals {elt : Expr} {x : Str} {scope : Scope} {cl : List (Str × Addr)} {S : List (Addr × Obj) → Prop} {P : Nat → Value → Prop} {Fin : List Value → List (Addr × Obj) → Prop} {news₀ : List (Addr × Obj)} {n : Nat} (R : Nat → Value → Prop) (hS : S news₀)
    (step : ∀ i v I oI C oC D ys m₂ h tk (E' : Value → Shared → Prop), i < n → P i v → NsObj oC m₂ → m₂ x = some v → Fr h₀ L h m → News h₀ L h ((I, oI) :: (C, oC) :: (D, lst ys) :: news₀) → Off3 I C D news₀ → ((@Ne Nat I C) ∧ (@Ne Nat I D) ∧ (@Ne Nat C D)) →
      wpAny (model prog w) A (eval elt (compEnvC scope cl C env)) (ValEnd h₀ L m s ((I, oI) :: (C, oC) :: (D, lst ys) :: news₀) (R i)) E' { s with heap := h, toks := tk })
    (fin : ∀ ys, ys.length = n → (∀ i y, ys[i]? = some y → R i y) → Fin ys news₀) : CompRest prog w A h₀ L m env elt x scope cl s S P Fin n 0 [] news₀ := by
  refine compRest_ind (fun i ys news => news = news₀ ∧ ys.length = i ∧ ∀ j y, ys[j]? = some y → R j y) n ?_ ?_ n 0 [] news₀ (by omega) ⟨rfl, rfl, fun _ _ h => by simp at h⟩
  · rintro i ys news hi ⟨rfl, hl, hR⟩ v I oI C oC D m₂ h tk E' hv hC hx F N off ne
    refine wpAny_mono (step i v I oI C oC D ys m₂ h tk E' hi hv hC hx F N off ne) (fun y s₂ q => ?_) fun _ _ e => e
    obtain ⟨h', tk', rfl, F', N', r⟩ := q
    refine ⟨h', tk', _, rfl, F', N', off, hS, rfl, by simp [hl], fun j z hz => ?_⟩
    by_cases hj : j < ys.length
    · rw [List.getElem?_append_left hj] at hz
      exact hR j z hz
    · have hj2 : j = ys.length := by
        have := (List.getElem?_eq_some_iff.mp hz).1
        simp at this; omega
      subst hj2
      rw [List.getElem?_append_right (Nat.le_refl _), Nat.sub_self] at hz
      cases hz
      rw [hl]
      exact r
  · rintro ys news ⟨rfl, hl, hR⟩
    exact fin ys hl hR
theorem ints_of_vals {ys : List Value} {n : Nat} {f : Nat → Int} (hl : ys.length = n) (h : ∀ (i : Nat) (y : Value), ys[i]? = some y → ∃ (t : Tok), y = .int (f i) t) : IntsAre ys ((List.range n).map f) := by
  have go : ∀ (l : List Value) (ks : List Int), l.length = ks.length → (∀ (j : Nat) (v : Value), l[j]? = some v → ∃ (k : Int) (t : Tok), ks[j]? = some k ∧ v = .int k t) → IntsAre l ks := by
    intro l
    induction l with
    | nil => intro ks h _; cases ks with | nil => exact .nil | cons _ _ => simp at h
    | cons v l ih =>
      intro ks h hj
      cases ks with
      | nil => simp at h
      | cons k ks =>
        obtain ⟨k', t, e1, rfl⟩ := hj 0 v rfl
        simp at e1
        subst e1
        exact .cons _ _ (ih ks (by simpa using h) fun j v hv => hj (j + 1) v (by simpa using hv))
  refine go ys _ (by simp [hl]) fun j v hv => ?_
  obtain ⟨t, rfl⟩ := h j v hv
  have hj : j < n := by rw [← hl]; exact (List.getElem?_eq_some_iff.mp hv).1
  exact ⟨f j, t, by simp [hj], rfl⟩
end
section
theorem small_int {a b : Int} (h0 : 0 ≤ a) (h1 : a < 2 ^ 30) (h2 : 0 ≤ b) (h3 : b < 2 ^ 30) : Builtin.Range.small a b 1 = true := by
  obtain ⟨N, rfl⟩ := Int.eq_ofNat_of_zero_le h2
  exact small_nat a N h0 h1 (by omega)
theorem size_int {a b : Int} (n : Nat) (h : n = (b - a).toNat) : Builtin.Range.rangeSize a b 1 = (n : Int) := by
  rw [PySem.rangeSize_one]
  split <;> omega
theorem fmod_bounds (a : Int) {b : Int} (hb : 0 < b) : 0 ≤ a.fmod b ∧ a.fmod b < b := ⟨Int.fmod_nonneg_of_pos a hb, Int.fmod_lt_of_pos a hb⟩
end
end
section
section
open LCg
variable {prog : Program} {w : World} {A : Around} {s : Shared} {h₀ : Heap} {L : Addr} {m : Str → Option Value} {env : Env}
/-- the end of a turn whose test fails -/
noncomputable def NoEnd (h₀ : Heap) (L : Addr) (m : Str → Option Value) (s : Shared) (old : List (Addr × Obj)) (b : Bool) (s₂ : Shared) : Prop :=
  b = false ∧ ∃ h' tk', s₂ = { s with heap := h', toks := tk' } ∧ Fr h₀ L h' m ∧ News h₀ L h' old
theorem filter_succ {p : Nat → Bool} (i : Nat) : (List.range (i + 1)).filter p = (List.range i).filter p ++ (if p i = true then [i] else []) := by
  rw [List.range_succ, List.filter_append]
  cases h : p i <;> simp [h]
/-- a comprehension with a test, whose turns make things that stay -/
theorem compRestT_grow {ct elt : Expr} {x : Str} {scope : Scope} {cl : List (Str × Addr)} {P : Nat → Value → Prop} {Fin : List Value → List (Addr × Obj) → Prop} {news₀ : List (Addr × Obj)} {n : Nat} (p : Nat → Bool) (Gd : Addr × Obj → Prop) (Mk : Nat → Value → List (Addr × Obj) → Prop)
    (mono : ∀ i y o o', Mk i y o → (∀ p ∈ o, p ∈ o') → Mk i y o')
    (step : ∀ i v I oI C oC D ys objs m₂ h tk (E' : Value → Shared → Prop), i < n → P i v → NsObj oC m₂ → m₂ x = some v → Fr h₀ L h m → News h₀ L h ((I, oI) :: (C, oC) :: (D, lst ys) :: (news₀ ++ objs)) → Off3 I C D (news₀ ++ objs) → ((@Ne Nat I C) ∧ (@Ne Nat I D) ∧ (@Ne Nat C D)) →
      wpAny (model prog w) A (isTrue ct (compEnvC scope cl C env) (eval ct (compEnvC scope cl C env))) (fun ok s' => if ok = true then
        wpAny (model prog w) A (eval elt (compEnvC scope cl C env)) (GrowEnd h₀ L m s ((I, oI) :: (C, oC) :: (D, lst ys) :: (news₀ ++ objs)) I C D Gd (fun y o => p i = true ∧ Mk i y o)) E' s'
        else NoEnd h₀ L m s ((I, oI) :: (C, oC) :: (D, lst ys) :: (news₀ ++ objs)) (p i) s') E' { s with heap := h, toks := tk })
    (fin : ∀ ys objs, ys.length = ((List.range n).filter p).length → (∀ p ∈ objs, Gd p) → (∀ (j : Nat) (y : Value), ys[j]? = some y → ∃ (i : Nat), ((List.range n).filter p)[j]? = some i ∧ Mk i y objs) → Fin ys (news₀ ++ objs)) :
    LCt.CompRestT prog w A h₀ L m env ct elt x scope cl s (fun _ => True) P Fin n 0 [] news₀ := by
  have offA : ∀ {I C D : Addr} {a b : List (Addr × Obj)}, Off3 I C D a → Off3 I C D b → Off3 I C D (a ++ b) := fun x y => Off3.of fun p hp => (List.mem_append.mp hp).elim (x.mem p) (y.mem p)
  have offL : ∀ {I C D : Addr} {a b : List (Addr × Obj)}, Off3 I C D (a ++ b) → Off3 I C D b := fun x => Off3.of fun p hp => x.mem p (List.mem_append_right _ hp)
  have offF : ∀ {I C D : Addr} {a b : List (Addr × Obj)}, Off3 I C D (a ++ b) → Off3 I C D a := fun x => Off3.of fun p hp => x.mem p (List.mem_append_left _ hp)
  suffices key : ∀ k i ys objs, i + k = n → ys.length = ((List.range i).filter p).length → (∀ p ∈ objs, Gd p) → (∀ (j : Nat) (y : Value), ys[j]? = some y → ∃ (q : Nat), ((List.range i).filter p)[j]? = some q ∧ Mk q y objs) →
      LCt.CompRestT prog w A h₀ L m env ct elt x scope cl s (fun _ => True) P Fin k i ys (news₀ ++ objs) by
    have := key n 0 [] [] (Nat.zero_add n) rfl (fun _ h => nomatch h) (fun j y h => by simp at h)
    rwa [List.append_nil] at this
  intro k
  induction k with
  | zero =>
    intro i ys objs hi hl hg hm
    obtain rfl : i = n := hi
    exact LCt.CompRestT.zero (fin ys objs hl hg hm)
  | succ k ih =>
    intro i ys objs hi hl hg hm
    refine LCt.CompRestT.succ fun v I oI C oC D m₂ h tk E' hv hC hx F N off ne => ?_
    refine wpAny_mono (step i v I oI C oC D ys objs m₂ h tk E' (by omega) hv hC hx F N off ne) (fun ok s' q => ?_) fun _ _ e => e
    cases ok with
    | true =>
      simp only [if_true] at q ⊢
      refine wpAny_mono q (fun y s₂ q => ?_) fun _ _ e => e
      obtain ⟨h', tk', new, rfl, F', Nn, N', on, gn, hp, hk⟩ := q
      refine ⟨h', tk', news₀ ++ (objs ++ new), rfl, F', ?_, offA (offF off) (offA (offL off) on), trivial, ih (i + 1) _ (objs ++ new) (by omega) ?_ (fun p hp => (List.mem_append.mp hp).elim (hg p) (gn p)) ?_⟩
      · intro p hp
        rcases List.mem_cons.mp hp with rfl | hp
        · exact N' _ (by simp)
        rcases List.mem_cons.mp hp with rfl | hp
        · exact N' _ (by simp)
        rcases List.mem_cons.mp hp with rfl | hp
        · exact N' _ (by simp)
        rcases List.mem_append.mp hp with hp | hp
        · exact N' _ (by simp [hp])
        rcases List.mem_append.mp hp with hp | hp
        · exact N' _ (by simp [hp])
        · exact Nn p hp
      · rw [filter_succ, hp]; simp [hl]
      · intro j z hz
        rw [filter_succ, hp]
        by_cases hj : j < ys.length
        · rw [List.getElem?_append_left hj] at hz
          obtain ⟨q, hq, hq'⟩ := hm j z hz
          exact ⟨q, by rw [List.getElem?_append_left (by omega)]; exact hq, mono _ _ _ _ hq' fun p hp => List.mem_append_left _ hp⟩
        · have hj2 : j = ys.length := by
            have := (List.getElem?_eq_some_iff.mp hz).1
            simp at this; omega
          subst hj2
          rw [List.getElem?_append_right (Nat.le_refl _), Nat.sub_self] at hz
          cases hz
          refine ⟨i, ?_, mono _ _ _ _ hk fun p hp => List.mem_append_right _ hp⟩
          rw [hl, List.getElem?_append_right (Nat.le_refl _), Nat.sub_self]
          simp
    | false =>
      simp only [Bool.false_eq_true, if_false] at q ⊢
      obtain ⟨hp, h', tk', rfl, F', N'⟩ := q
      have e : (List.range (i + 1)).filter p = (List.range i).filter p := by rw [filter_succ, hp]; simp
      exact ⟨h', tk', news₀ ++ objs, rfl, F', N', off, trivial, ih (i + 1) ys objs (by omega) (by rw [e]; exact hl) hg (by rw [e]; exact hm)⟩

/-- a comprehension over pairs, whose turns make nothing -/
theorem compRestP_vals {elt : Expr} {x x₂ : Str} {scope : Scope} {cl : List (Str × Addr)} {S : List (Addr × Obj) → Prop} {P : Nat → Value → Prop} {Fin : List Value → List (Addr × Obj) → Prop} {news₀ : List (Addr × Obj)} {n : Nat} (R : Nat → Value → Prop) (hS : S news₀)
    (step : ∀ i v ys, i < n → P i v → ∃ (t : Addr) (ot : Obj) (v₁ v₂ : Value) (nt : Nat), v = .ref t ∧ (t, ot) ∈ news₀ ∧ ot.cls = .type "tuple" ∧ ot.data = .seq #[v₁, v₂] nt ∧
      ∀ I oI C oC D m₂ h tk (E' : Value → Shared → Prop), NsObj oC m₂ → m₂ x = some v₁ → m₂ x₂ = some v₂ → Fr h₀ L h m → News h₀ L h ((I, oI) :: (C, oC) :: (D, lst ys) :: news₀) → Off3 I C D news₀ → ((@Ne Nat I C) ∧ (@Ne Nat I D) ∧ (@Ne Nat C D)) →
      wpAny (model prog w) A (eval elt (compEnvC scope cl C env)) (ValEnd h₀ L m s ((I, oI) :: (C, oC) :: (D, lst ys) :: news₀) (R i)) E' { s with heap := h, toks := tk })
    (fin : ∀ ys, ys.length = n → (∀ (i : Nat) (y : Value), ys[i]? = some y → R i y) → Fin ys news₀) : LCp.CompRestP prog w A h₀ L m env elt x x₂ scope cl s S P Fin n 0 [] news₀ := by
  suffices key : ∀ k i ys, i + k = n → ys.length = i → (∀ (j : Nat) (y : Value), ys[j]? = some y → R j y) → LCp.CompRestP prog w A h₀ L m env elt x x₂ scope cl s S P Fin k i ys news₀ from key n 0 [] (Nat.zero_add n) rfl (fun _ _ h => by simp at h)
  intro k
  induction k with
  | zero =>
    intro i ys hi hl hR
    obtain rfl : i = n := hi
    exact LCp.CompRestP.zero (fin ys hl hR)
  | succ k ih =>
    intro i ys hi hl hR
    refine LCp.CompRestP.succ fun v hv => ?_
    obtain ⟨t, ot, v₁, v₂, nt, e1, e2, e3, e4, go⟩ := step i v ys (by omega) hv
    refine ⟨t, ot, v₁, v₂, nt, e1, e2, e3, e4, fun I oI C oC D m₂ h tk E' hC hx hx₂ F N off ne => ?_⟩
    refine wpAny_mono (go I oI C oC D m₂ h tk E' hC hx hx₂ F N off ne) (fun y s₂ q => ?_) fun _ _ e => e
    obtain ⟨h', tk', rfl, F', N', r⟩ := q
    refine ⟨h', tk', _, rfl, F', N', off, hS, ih (i + 1) _ (by omega) (by simp [hl]) fun j z hz => ?_⟩
    by_cases hj : j < ys.length
    · rw [List.getElem?_append_left hj] at hz
      exact hR j z hz
    · have hj2 : j = ys.length := by
        have := (List.getElem?_eq_some_iff.mp hz).1
        simp at this; omega
      subst hj2
      rw [List.getElem?_append_right (Nat.le_refl _), Nat.sub_self] at hz
      cases hz
      rw [hl]
      exact r
end
section
variable {prog : Program} {w : World} {A : Around} {E : Value → Shared → Prop} {s : Shared} {env : Env} {h₀ : Heap} {x : Str} {body : List Stmt} {Q : Flow → Shared → Prop}
/-- a turn's end, of a loop whose name is a cell -/
noncomputable def StepC (h₀ : Heap) (L I : Addr) (oI : Obj) (cx : Addr) (Jn : (Str → Option Value) → List (Addr × Obj) → Array GenState → Prop) (s : Shared) (Q : Flow → Shared → Prop) (f : Flow) (s₂ : Shared) : Prop :=
  match f with
  | .ret v => Q (.ret v) s₂
  | .brk => Q .next s₂
  | _ => ∃ h' tk g m' led' oc' v', s₂ = { s with heap := h', toks := tk, gens := g } ∧ Fr h₀ L h' m' ∧ News h₀ L h' ((I, oI) :: (cx, oc') :: led') ∧ oc'.data = .cell v' ∧ (∀ p ∈ led', p.1 ≠ I) ∧ (∀ p ∈ led', p.1 ≠ cx) ∧ Jn m' led' g
theorem iter_range_C {r cx : Addr} {a₀ b₀ : Int} {t₀ u₀ v₀ : Tok} {n : Nat} {m₀ : Str → Option Value} {oc₀ : Obj} {w₀ : Option Value} {led : List (Addr × Obj)} (J : Nat → (Str → Option Value) → List (Addr × Obj) → Array GenState → Prop)
    (hh : A.handled = none) (hk : env.scope.kind = .function) (hx : env.kindOf x = some .cell) (hcx : env.cells.lookup x = some cx)
    (hr : IsRange s.heap r a₀ b₀ 1 t₀ u₀ v₀) (hsmall : Builtin.Range.small a₀ b₀ 1 = true) (hn : Builtin.Range.rangeSize a₀ b₀ 1 = (n : Int)) (F : Fr h₀ env.locals s.heap m₀) (N : News h₀ env.locals s.heap ((cx, oc₀) :: led)) (hoc : oc₀.data = .cell w₀) (hcl : ∀ p ∈ led, p.1 ≠ cx) (h0 : J 0 m₀ led s.gens)
    (turn : ∀ i t I oI oc m₁ led₁ h tk g (E' : Value → Shared → Prop), i < n → (∀ p ∈ (cx, oc₀) :: led, p.1 < I) → J i m₁ led₁ g → (∀ p ∈ led₁, p.1 ≠ I) → (∀ p ∈ led₁, p.1 ≠ cx) → oc.data = .cell (some (.int (a₀ + (i : Int)) t)) → Fr h₀ env.locals h m₁ → News h₀ env.locals h ((I, oI) :: (cx, oc) :: led₁) →
      wpAny (model prog w) A (execs body env) (StepC h₀ env.locals I oI cx (J (i + 1)) s Q) E' { s with heap := h, toks := tk, gens := g })
    (done : ∀ m₁ led₁ oc v h tk g, J n m₁ led₁ g → oc.data = .cell v → (∀ p ∈ led₁, p.1 ≠ cx) → Fr h₀ env.locals h m₁ → News h₀ env.locals h ((cx, oc) :: led₁) → Q .next { s with heap := h, toks := tk, gens := g }) :
    wpAny (model prog w) A (pyIter (.ref r)) (fun it s₂ => LoopG prog w A env x body Q it s₂) E s := by
  refine wpAny_pyIter_range hr hsmall ?_
  have W := Walks.range (prog := prog) (w := w) hh s.heap.objs.size a₀ 1 n
  have hLs : @LT.lt Nat _ env.locals s.heap.objs.size := F.ns.lt
  have hI₀ : h₀.get? s.heap.objs.size = none := next_is_new F
  have hltI : ∀ p ∈ (cx, oc₀) :: led, p.1 < s.heap.objs.size := fun p hp => Heap.lt_size (N p hp).1
  have hcI : @LT.lt Nat _ cx s.heap.objs.size := hltI (cx, oc₀) (.head _)
  intro px
  refine codeAny_forLoop
    (fun k s' => ∃ h' tk g m' led' oc' v' i, s' = { s with heap := h', toks := tk, gens := g } ∧ IsRangeIter h' s.heap.objs.size (a₀ + (i : Nat) * 1) ((n : Int) - (i : Nat)) 1 ∧ Fr h₀ env.locals h' m' ∧ News h₀ env.locals h' ((cx, oc') :: led') ∧ oc'.data = .cell v' ∧ (∀ p ∈ led', p.1 ≠ s.heap.objs.size) ∧ (∀ p ∈ led', p.1 ≠ cx) ∧ J i m' led' g ∧ i ≤ n ∧ k = n + 1 - i) ?_ (n + 1)
    ⟨_, s.toks, s.gens, m₀, led, oc₀, w₀, 0, rfl, by show IsRangeIter _ _ _ _ _; rw [hn]; simpa using Heap.get?_push_size _ rfl, F.push _, fun p hp => ⟨Heap.get?_push_of_some _ (N p hp).1, (N p hp).2⟩, hoc, fun p hp => Nat.ne_of_lt (hltI p (.tail _ hp)), hcl, h0, Nat.zero_le _, rfl⟩
  rintro k s' ⟨h', tk, g, m', led', oc', v', i, rfl, hst', F', N', hoc', hnI, hnc, hJ, hi, rfl⟩
  have next : ∀ h₁ : Heap, (∀ b o, b ∉ [s.heap.objs.size] → h'.get? b = some o → h₁.get? b = some o) → Fr h₀ env.locals h₁ m' ∧ News h₀ env.locals h₁ ((cx, oc') :: led') := fun h₁ hk₁ =>
    ⟨⟨F'.ns.at' fun o e => hk₁ _ o (fun q => Nat.ne_of_lt hLs (List.mem_singleton.mp q)) e, fun b o e => hk₁ b o (fun q => by rw [List.mem_singleton.mp q, hI₀] at e; cases e) (F'.keep b o e), F'.above⟩,
      fun p hp => ⟨hk₁ _ _ (fun q => by
        have q' := List.mem_singleton.mp q
        rcases List.mem_cons.mp hp with rfl | hp
        · exact Nat.ne_of_lt hcI q'
        · exact hnI p hp q') (N' p hp).1, (N' p hp).2⟩⟩
  by_cases hlt : i < n
  · refine W.item i _ _ _ hlt hst' fun v h₁ tk₁ hP hst₁ hk₁ => ?_
    obtain ⟨t, rfl⟩ := hP
    obtain ⟨F₁, N₁⟩ := next h₁ hk₁
    have hcm := N₁ (cx, oc') (.head _)
    refine wpAny_assign_Name (wpAny_storeName_cell hk hx hcx ⟨oc', hcm.1, hoc'⟩ fun h₂ hv hs => ?_)
    obtain ⟨o₂, ho₂, hd₂⟩ := hv
    have hst₂ : IsRangeIter h₂ s.heap.objs.size (a₀ + ((i + 1 : Nat) : Nat) * 1) ((n : Int) - ((i + 1 : Nat) : Nat)) 1 := W.frame _ _ _ hst₁ fun b hb o e => hs.extBut b o (fun q => by
      have hb' := List.mem_singleton.mp hb
      exact Nat.ne_of_lt hcI (q.symm.trans hb')) e
    have F₂ : Fr h₀ env.locals h₂ m' := ⟨F₁.ns.sameBut hs (Ne.symm hcm.2.1), fun b ob e => hs.extBut b ob (fun q => by rw [q, hcm.2.2] at e; cases e) (F₁.keep b ob e), F₁.above⟩
    obtain ⟨oI, hoI⟩ : ∃ oI, h₂.get? s.heap.objs.size = some oI := ⟨_, hst₂⟩
    have N₃ : News h₀ env.locals h₂ ((s.heap.objs.size, oI) :: (cx, o₂) :: led') := fun p hp => by
      rcases List.mem_cons.mp hp with rfl | hp
      · exact ⟨hoI, Ne.symm (Nat.ne_of_lt hLs), hI₀⟩
      rcases List.mem_cons.mp hp with rfl | hp
      · exact ⟨ho₂, hcm.2⟩
      · exact ⟨hs.extBut _ _ (hnc p hp) (N₁ p (.tail _ hp)).1, (N₁ p (.tail _ hp)).2⟩
    have fin : ∀ s₃, (∃ h' tk g' m' led' oc' v', s₃ = { s with heap := h', toks := tk, gens := g' } ∧ Fr h₀ env.locals h' m' ∧ News h₀ env.locals h' ((s.heap.objs.size, oI) :: (cx, oc') :: led') ∧ oc'.data = .cell v' ∧ (∀ p ∈ led', p.1 ≠ s.heap.objs.size) ∧ (∀ p ∈ led', p.1 ≠ cx) ∧ J (i + 1) m' led' g') →
        ∃ k', k' < n + 1 - i ∧ ∃ h' tk g m' led' oc' v' i', s₃ = { s with heap := h', toks := tk, gens := g } ∧ IsRangeIter h' s.heap.objs.size (a₀ + (i' : Nat) * 1) ((n : Int) - (i' : Nat)) 1 ∧ Fr h₀ env.locals h' m' ∧ News h₀ env.locals h' ((cx, oc') :: led') ∧ oc'.data = .cell v' ∧ (∀ p ∈ led', p.1 ≠ s.heap.objs.size) ∧ (∀ p ∈ led', p.1 ≠ cx) ∧ J i' m' led' g ∧ i' ≤ n ∧ k' = n + 1 - i' := by
      rintro s₃ ⟨h₃, tk₃, g₃, m₃, led₃, oc₃, v₃, rfl, F₃, N₃', hoc₃, hI₃, hc₃, hJ₃⟩
      refine ⟨n + 1 - (i + 1), by omega, h₃, tk₃, g₃, m₃, led₃, oc₃, v₃, i + 1, rfl, ?_, F₃, fun p hp => N₃' p (.tail _ hp), hoc₃, hI₃, hc₃, hJ₃, hlt, rfl⟩
      refine W.frame _ _ _ hst₂ fun b hb o e => ?_
      rw [List.mem_singleton.mp hb] at e ⊢
      rw [hoI] at e; cases e
      exact (N₃' _ (.head _)).1
    refine wpAny_mono (turn i t s.heap.objs.size oI o₂ m' led' h₂ _ g _ hlt hltI hJ hnI hnc (by rw [Int.mul_one] at hd₂; exact hd₂) F₂ N₃) (fun f s₃ h₃ => ?_) fun _ _ e => e
    cases f with
    | ret v => exact h₃
    | brk => exact h₃
    | cont => exact fin s₃ h₃
    | next => exact fin s₃ h₃
  · have hin : i = n := by omega
    subst hin
    refine W.done _ _ _ hst' fun h₁ tk₁ hk₁ => wpAny_execs_nil ?_
    obtain ⟨F₁, N₁⟩ := next h₁ hk₁
    exact done m' led' oc' v' h₁ tk₁ g hJ hoc' hnc F₁ N₁
end
end
section
theorem fresh_LawA : True := by
  w_top off
  exact trivial
local macro_rules | `(tactic| walk_at "call builtin:callable") => `(tactic| (k_here; k_dflt (refine' callable_K ?X ?e ?_; (case X => k_in); (case e => k_is); k_whole)))
local macro_rules | `(tactic| walk_at "call builtin:isinstance") => `(tactic| (k_here; (with_reducible show wpAny _ _ (call _ [Value.ref _, Value.ref _]) _ _ _); k_dflt (refine isn_dictOf (knd := PySem.strKind _ _) (hd := by with_reducible assumption) (by k_in) (by k_asm) (by k_mem) (by k_not) ?_)))
local macro_rules | `(tactic| walk_at "call builtin:isinstance") => `(tactic| (k_here; (with_reducible show wpAny _ _ (call _ [Value.ref _, Value.ref _]) _ _ _); k_dflt (refine' isi_call ?k1 ?k2 ?k3 ?k4 ?_; (case k1 => k_in); (case k2 => k_types); (case k3 => k_is); (case k4 => intro e; cases e); k_whole)))
/-- the law's text and scope, as they stand in the heap -/
noncomputable def lawStmts (P : Params) : List Stmt := match (hd.heap_39 P).lookup 763 with
  | some ⟨_, _, .func fd, _⟩ => (match fd.body with | .stmts b => b | _ => [])
  | _ => []
noncomputable def lawScope (P : Params) : Scope := match (hd.heap_39 P).lookup 763 with
  | some ⟨_, _, .func fd, _⟩ => fd.scope
  | _ => default
abbrev cellAt (o : Obj) (v : Value) : Prop := o.data = .cell (some v)
/-- the powers that the law draws -/
noncomputable def PV (P : List Int) : Prop := 2 ≤ P.length ∧ P.length ≤ 5 ∧ (1 ≤ P.getD 0 0 ∧ P.getD 0 0 ≤ 3) ∧ ∀ i, 1 ≤ i → 0 ≤ P.getD i 0 ∧ P.getD i 0 ≤ 2
theorem PV.of {a : Int} {n : Nat} {f : Nat → Int} (ha : 1 ≤ a ∧ a ≤ 3) (hn : 1 ≤ n ∧ n ≤ 4) (hf : ∀ i, 0 ≤ f i ∧ f i ≤ 2) : PV ([a] ++ (List.range n).map f) := by
  refine ⟨by simp; omega, by simp; omega, by simpa using ha, fun i hi => ?_⟩
  obtain ⟨j, rfl⟩ : ∃ j, i = j + 1 := ⟨i - 1, by omega⟩
  simp only [List.singleton_append, List.getD_cons_succ]
  by_cases hj : j < n
  · rw [List.getD_eq_getElem?_getD, List.getElem?_map, List.getElem?_range hj]
    exact hf j
  · rw [List.getD_eq_getElem?_getD, List.getElem?_eq_none (by simp; omega)]
    decide
section
/-- how many numbers each group has -/
noncomputable def szs (pw : List Nat) : List Nat := (List.range pw.length).map fun i => (pw.take (i + 1)).sum
noncomputable def rests : Nat → List (List Nat)
  | 0 => [[]]
  | n + 1 => [0, 1, 2].flatMap fun x => (rests n).map (x :: ·)
/-- the 360 shapes of powers -/
noncomputable def shapes : List (List Nat) := [1, 2, 3].flatMap fun a => (rests 1 ++ rests 2 ++ rests 3 ++ rests 4).map (a :: ·)
theorem mem_rests : ∀ {l : List Nat}, (∀ x ∈ l, x ≤ 2) → l ∈ rests l.length
  | [], _ => .head _
  | x :: l, h => by
    have hx := h x (.head _)
    have ih := mem_rests fun y hy => h y (.tail _ hy)
    show x :: l ∈ [0, 1, 2].flatMap fun x => (rests l.length).map (x :: ·)
    refine List.mem_flatMap.mpr ⟨x, ?_, List.mem_map.mpr ⟨l, ih, rfl⟩⟩
    have : x = 0 ∨ x = 1 ∨ x = 2 := by omega
    rcases this with rfl | rfl | rfl <;> decide
theorem PV.shape {P : List Int} (h : PV P) : ∃ pw, pw ∈ shapes ∧ P = pw.map Int.ofNat := by
  obtain ⟨h2, h5, h0, hi⟩ := h
  match P, h2 with
  | a :: r, h2 =>
    have h0' : 1 ≤ a ∧ a ≤ 3 := by simpa using h0
    have hr : ∀ x ∈ r, 0 ≤ x ∧ x ≤ 2 := by
      intro x hx
      obtain ⟨i, hi', rfl⟩ := List.mem_iff_getElem.mp hx
      have := hi (i + 1) (by omega)
      rwa [List.getD_cons_succ, List.getD_eq_getElem?_getD, List.getElem?_eq_getElem hi', Option.getD_some] at this
    have e : r = (r.map Int.toNat).map Int.ofNat := by
      rw [List.map_map]
      refine (List.map_id _).symm.trans (List.map_congr_left fun x hx => ?_)
      exact (Int.toNat_of_nonneg (hr x hx).1).symm
    refine ⟨a.toNat :: r.map Int.toNat, ?_, ?_⟩
    · refine List.mem_flatMap.mpr ⟨a.toNat, ?_, List.mem_map.mpr ⟨r.map Int.toNat, ?_, rfl⟩⟩
      · have : a = 1 ∨ a = 2 ∨ a = 3 := by omega
        rcases this with rfl | rfl | rfl <;> decide
      · have hm := mem_rests (l := r.map Int.toNat) fun x hx => by
          obtain ⟨y, hy, rfl⟩ := List.mem_map.mp hx
          have := hr y hy
          omega
        rw [List.length_map] at hm
        simp only [List.length_cons] at h2 h5
        have : r.length = 1 ∨ r.length = 2 ∨ r.length = 3 ∨ r.length = 4 := by omega
        simp only [List.mem_append]
        rcases this with h | h | h | h <;> rw [h] at hm <;> simp [hm]
    · rw [List.map_cons, ← e]
      exact congrArg (· :: r) (Int.toNat_of_nonneg (by omega)).symm
theorem shape_facts : ∀ pw ∈ shapes, 2 ≤ pw.length ∧ pw.length ≤ 5 ∧ (szs pw).sum ≤ 64 := by decide +kernel
theorem sum_ints : ∀ l : List Nat, (l.map Int.ofNat).sum = Int.ofNat l.sum
  | [] => rfl
  | x :: l => by
    simp only [List.map_cons, List.sum_cons, sum_ints l]
    rfl
theorem szs_int (pw : List Nat) : ((List.range (pw.map Int.ofNat).length).map fun i => ((pw.map Int.ofNat).take (i + 1)).sum) = (szs pw).map Int.ofNat := by
  unfold szs
  rw [List.length_map, List.map_map]
  refine List.map_congr_left fun i _ => ?_
  show ((pw.map Int.ofNat).take (i + 1)).sum = Int.ofNat (pw.take (i + 1)).sum
  rw [← List.map_take, sum_ints]
end
section
local macro_rules | `(tactic| walk_at "eval ListComp") => `(tactic| (k_here; k_dflt (refine LCg.ListComp_U (F₀ := by k_asm) (by with_unfolding_all rfl) (by decide) (by rfl) (by decide) (by rfl) ?_)))
local macro_rules | `(tactic| walk_at "CompSrc") => `(tactic| refine hold ?_)
local macro_rules | `(tactic| walk_at "ValEnd") => `(tactic| refine hold ?_)
local macro_rules | `(tactic| walk_at "binaryOp Add ref ref") => `(tactic| (k_here; refine hold ?_))
local macro_rules | `(tactic| walk_at "execs cons") => `(tactic| ((with_reducible show wpAny _ _ (execs (Stmt.Assign [Expr.Name (PySem.Str.ofString "sizes") _] _ _ :: _) _) _ _ _); refine hold ?_))
set_option maxRecDepth 100000 in
set_option maxHeartbeats 0 in
set_option rowWalk.seconds 0 in
theorem lawA {w : World} {p : Program} {loose : List Str} {mean : ExcName → Option Value} {mg mb : Str → Option Value}
  {dp un : Nat} {gd : Option (List Code)} {cn : Str} {cs : Scope} {body : List Stmt} {a : Addr} {ccd : Value} {outer : List Env} {A₀ : Around} {base h₀ : Heap} {L : Addr} {m : Str → Option Value} {s : Shared}
    (hcs : cs = lawScope w.params) (hb : body = (lawStmts w.params).drop 1)
    {D : Nat} {ys : List Value} {dl : List Int} {o1 o2 o3 o4 o5 o6 o7 o8 : Obj} {v3 v4 v5 v6 v7 v8 : Option Value} (hI : IntsAre ys dl) (hl8 : dl.length = 8)
    (d2 : cellAt o2 (.ref D)) (d3 : o3.data = .cell v3) (d4 : o4.data = .cell v4) (d5 : o5.data = .cell v5) (d6 : o6.data = .cell v6) (d7 : o7.data = .cell v7) (d8 : o8.data = .cell v8) (hLD : @Ne Nat (L + 8) D ∧ @Ne Nat (L + 7) D ∧ @Ne Nat (L + 6) D ∧ @Ne Nat (L + 5) D ∧ @Ne Nat (L + 4) D ∧ @Ne Nat (L + 3) D ∧ @Ne Nat (L + 2) D ∧ @Ne Nat (L + 1) D) (h7 : @LT.lt Nat _ 753 L)
    {Q : Flow → Shared → Prop} {E : Value → Shared → Prop}
    (B : Below A₀ base outer h₀) (F : Fr h₀ L s.heap m) (X : (hd.heap_39 w.params).In h₀)
    (N : News h₀ L s.heap [(D, LCg.lst ys), (L + 8, o8), (L + 7, o7), (L + 6, o6), (L + 5, o5), (L + 4, o4), (L + 3, o3), (L + 2, o2), (L + 1, o1), (609, tabObj #[]), (753, tabObj #[])]) (T : Top p loose mean mg mb h₀)
    (hdp : dp + 100 < recursionLimit) (hun : un + 900 < cLine)
    (hnext : ∀ pA pws P first step t4 t5 o3' o4' o5' h' tk', PV P → IntsAre pws P → cellAt o3' (.ref pA) → cellAt o4' (.int first t4) → cellAt o5' (.int step t5) → @LT.lt Nat _ (L + 8) pA → Fr h₀ L h' m →
      News h₀ L h' [(pA, listOf pws.toArray 0), (L + 8, o8), (L + 7, o7), (L + 6, o6), (L + 5, o5'), (L + 4, o4'), (L + 3, o3'), (609, tabObj #[]), (753, tabObj #[])] →
      wpAny (model PySem.Challenge.pw_ae5010_01 w) (ktrTop dp un gd cn cs L a ccd (cellsFrom (L + 1) cs.names []) outer) (execs ((lawStmts w.params).drop 3) (envX cn cs L a ccd (cellsFrom (L + 1) cs.names []))) Q E { s with heap := h', toks := tk' }) :
    wpAny (model PySem.Challenge.pw_ae5010_01 w) (ktrTop dp un gd cn cs L a ccd (cellsFrom (L + 1) cs.names []) outer) (execs body (envX cn cs L a ccd (cellsFrom (L + 1) cs.names []))) Q E s := by
  conv at hcs => rhs; whnf
  conv at hb => rhs; whnf
  subst hcs hb
  obtain ⟨hD8, hD7, hD6, hD5, hD4, hD3, hD2, hD1⟩ := hLD
  k_steps
  unfold Hold
  rename IsRange _ _ _ _ _ _ _ _ => R9
  rename Fr _ _ _ _ => F9
  rename News _ _ _ _ => N9
  have hm4 := fmod_bounds (dl.getD 0 0) (b := 4) (by decide)
  have hm3 := fmod_bounds (dl.getD 1 0) (b := 3) (by decide)
  k_dflt (refine LCg.CompSrc.range (n := (1 + (dl.getD 0 0).fmod 4).toNat) (by rfl) F9 N9 R9 (small_int (by decide) (by decide) (by show (0:Int) ≤ 3 + (dl.getD 0 0).fmod 4; omega) (by show 3 + (dl.getD 0 0).fmod 4 < 2 ^ 30; omega)) (size_int _ (by show _ = (3 + (dl.getD 0 0).fmod 4 - 2).toNat; omega)) (by rw [sizeLine_eq]; omega) ?_)
  intro g9
  clear R9 F9 N9
  refine compRest_vals (fun i y => ∃ t, y = .int ((dl.getD (2 + (i : Int)).toNat 0).fmod 3) t) trivial ?step ?fin
  case step =>
    intro i9 v9 I9 oI9 C9 oC9 D9 ys9 m9 h9 tk9 E9 hi9 hP9 hC9 hx9 F9 N9 off9 ne9
    obtain ⟨t9, rfl⟩ := hP9
    try simp only [List.cons_append, List.nil_append] at N9 off9
    k_steps
    unfold Hold
    k_dflt (refine ⟨_, _, rfl, by k_asm, KStt.news_of (by k_asm) (by walk_at "m_keep"), _, rfl⟩)
  case fin =>
    intro ys1 hl1 hR1
    unfold LCg.FinE
    intro D1 h1 tk1 F1 N1 off1
    have hI1 := ints_of_vals hl1 hR1
    k_steps
    unfold Hold
    rename Fr _ _ _ _ => F9
    rename News _ _ _ _ => N9
    k_dflt (refine kmk_add_ints F9 N9 (News.isList N9 (by k_mem)) (News.isList N9 (by k_mem)) (.cons _ _ .nil) hI1 ?_ (by rw [sizeLine_eq]; simp only [List.length_cons, List.length_nil, List.length_map, List.length_range]; omega))
    intro pA pws h2 F2 N2 lt2 hP
    have N3 := KStt.news_of (b := [(pA, listOf (List.toArray pws) 0), (D, LCg.lst ys), (L + 8, o8), (L + 7, o7), (L + 6, o6), (L + 5, o5), (L + 4, o4), (L + 3, o3), (L + 2, o2), (L + 1, o1), (609, tabObj #[]), (753, tabObj #[])]) N2 (by walk_at "m_keep")
    k_lt lt2
    clear F9 N9 off1 N2
    k_steps
    unfold Hold
    rename Fr _ _ _ _ => F9
    rename News _ _ _ _ => N9
    k_dflt (refine' hnext pA pws _ _ _ _ _ _ _ _ _ _ (PV.of ⟨by show 1 ≤ 1 + (dl.getD 1 0).fmod 3; omega, by show 1 + (dl.getD 1 0).fmod 3 ≤ 3; omega⟩ ⟨by omega, by omega⟩ ?pf) hP ?c3 ?c4 ?c5 (by show @LT.lt Nat _ (L + 8) pA; omega) F9 (KStt.news_of N9 (by walk_at "m_keep")))
    case c3 => assumption
    case c4 => assumption
    case c5 => assumption
    case pf =>
      intro i
      have := fmod_bounds (dl.getD (2 + (i : Int)).toNat 0) (b := 3) (by decide)
      omega
end
end
section
theorem fresh_LawB : True := by
  w_top off
  exact trivial
local macro_rules | `(tactic| walk_at "call builtin:callable") => `(tactic| (k_here; k_dflt (refine' callable_K ?X ?e ?_; (case X => k_in); (case e => k_is); k_whole)))
local macro_rules | `(tactic| walk_at "subscriptTail Call Name cons nil Slice ref ref") => `(tactic| (k_here; k_dflt (refine kba_turn (value' := PySem.Expr.Name (PySem.Str.ofString "_") ⟨0, 0, 0, 0⟩) (fun _ => rfl) ?_)))
local macro_rules | `(tactic| walk_at "subscriptTail Name Slice ref ref") => `(tactic| (k_here; (rename IsRange _ _ _ _ _ _ _ _ => R'); k_dflt (refine' range_slice_tail ?F ?N R' ?k ?b ?b2 ?_ ?hs ?ht; (case F => k_asm); (case N => k_asm); (case k => omega); (case b => omega); (case b2 => omega); (case hs => with_unfolding_all rfl); (case ht => kmk_pure)); clear R'; intro D' h' tk' t' u' v' R' F' N'; (try k_sweep)))
local macro_rules | `(tactic| walk_at "call builtin:isinstance") => `(tactic| (k_here; (with_reducible show wpAny _ _ (call _ [Value.ref _, Value.ref _]) _ _ _); k_dflt (refine isn_dictOf (knd := PySem.strKind _ _) (hd := by with_reducible assumption) (by k_in) (by k_asm) (by k_mem) (by k_not) ?_)))
local macro_rules | `(tactic| walk_at "call builtin:isinstance") => `(tactic| (k_here; (with_reducible show wpAny _ _ (call _ [Value.ref _, Value.ref _]) _ _ _); k_dflt (refine' isi_call ?k1 ?k2 ?k3 ?k4 ?_; (case k1 => k_in); (case k2 => k_types); (case k3 => k_is); (case k4 => intro e; cases e); k_whole)))
section
local macro_rules | `(tactic| walk_at "eval ListComp") => `(tactic| (k_here; k_dflt (refine LCg.ListComp_U (F₀ := by k_asm) (by with_unfolding_all rfl) (by decide) (by rfl) (by decide) (by rfl) ?_)))
local macro_rules | `(tactic| walk_at "CompSrc") => `(tactic| refine hold ?_)
local macro_rules | `(tactic| walk_at "ValEnd") => `(tactic| refine hold ?_)
local macro_rules | `(tactic| walk_at "execs cons") => `(tactic| ((with_reducible show wpAny _ _ (execs (Stmt.For _ _ _ _ _ :: _) _) _ _ _); refine hold ?_))
local macro_rules | `(tactic| walk_at "binaryOp Mult ref int") => `(tactic| (k_here; refine hold ?_))
set_option maxRecDepth 100000 in
set_option maxHeartbeats 0 in
set_option rowWalk.seconds 0 in
theorem lawB {w : World} {p : Program} {loose : List Str} {mean : ExcName → Option Value} {mg mb : Str → Option Value}
  {dp un : Nat} {gd : Option (List Code)} {cn : Str} {cs : Scope} {body : List Stmt} {a : Addr} {ccd : Value} {outer : List Env} {A₀ : Around} {base h₀ : Heap} {L : Addr} {m : Str → Option Value} {s : Shared}
    (hcs : cs = lawScope w.params) (hb : body = (lawStmts w.params).drop 3)
    {pA : Nat} {pws : List Value} {P : List Int} {first step : Int} {t4 t5 : Tok} {o3 o4 o5 o6 o7 o8 : Obj} {v6 v7 v8 : Option Value} (hPV : PV P) (hI : IntsAre pws P)
    (d3 : cellAt o3 (.ref pA)) (d4 : cellAt o4 (.int first t4)) (d5 : cellAt o5 (.int step t5)) (d6 : o6.data = .cell v6) (d7 : o7.data = .cell v7) (d8 : o8.data = .cell v8) (hLD : @LT.lt Nat _ (L + 8) pA) (h7 : @LT.lt Nat _ 753 L)
    {Q : Flow → Shared → Prop} {E : Value → Shared → Prop}
    (B : Below A₀ base outer h₀) (F : Fr h₀ L s.heap m) (X : (hd.heap_39 w.params).In h₀)
    (N : News h₀ L s.heap [(pA, listOf pws.toArray 0), (L + 8, o8), (L + 7, o7), (L + 6, o6), (L + 5, o5), (L + 4, o4), (L + 3, o3), (609, tabObj #[]), (753, tabObj #[])]) (T : Top p loose mean mg mb h₀)
    (hdp : dp + 100 < recursionLimit) (hun : un + 900 < cLine)
    (hnext : ∀ pw lA dd od b bvs r rvs rn sA szv szn o6' h' tk', pw ∈ shapes → P = pw.map Int.ofNat → IntsAre szv ((szs pw).map Int.ofNat) → IntsAre rvs ((List.range (szs pw).sum).map fun (i : Nat) => first + step * (0 + (i : Int))) → IntsAre bvs [first, step] →
      od.IsDictOf (PySem.strKind PySem.Challenge.pw_ae5010_01 w) [(Str.ofString "beside", .ref b), (Str.ofString "row", .ref r)] → (dd == sysModules) = false → cellAt o6' (.ref sA) →
      (@Ne Nat sA (L + 8) ∧ @Ne Nat sA (L + 7) ∧ @Ne Nat sA (L + 6) ∧ @Ne Nat sA (L + 5) ∧ @Ne Nat sA (L + 4) ∧ @Ne Nat sA (L + 3) ∧ @Ne Nat sA 609 ∧ @Ne Nat sA 753 ∧ @Ne Nat sA pA ∧ @LT.lt Nat _ sA dd ∧ @LT.lt Nat _ (L + 8) dd ∧ @LT.lt Nat _ pA dd ∧ @LT.lt Nat _ dd b ∧ @LT.lt Nat _ b lA ∧ @LT.lt Nat _ r lA) →
      (@Ne Nat r (L + 8) ∧ @Ne Nat r (L + 7) ∧ @Ne Nat r (L + 6) ∧ @Ne Nat r (L + 5) ∧ @Ne Nat r (L + 4) ∧ @Ne Nat r (L + 3) ∧ @Ne Nat r 609 ∧ @Ne Nat r 753 ∧ @Ne Nat r sA ∧ @Ne Nat r dd ∧ @Ne Nat r b ∧ @Ne Nat r pA) →
      Fr h₀ L h' (fun y => if y = Str.ofString "last" then some (.ref lA) else if y = Str.ofString "document" then some (.ref dd) else m y) →
      News h₀ L h' [(lA, listOf (List.replicate pw.length Value.none).toArray 0), (r, listOf rvs.toArray rn), (b, listOf bvs.toArray 0), (dd, od), (sA, listOf szv.toArray szn), (pA, listOf pws.toArray 0), (L + 8, o8), (L + 7, o7), (L + 6, o6'), (L + 5, o5), (L + 4, o4), (L + 3, o3), (609, tabObj #[]), (753, tabObj #[])] →
      wpAny (model PySem.Challenge.pw_ae5010_01 w) (ktrTop dp un gd cn cs L a ccd (cellsFrom (L + 1) cs.names []) outer) (execs ((lawStmts w.params).drop 6) (envX cn cs L a ccd (cellsFrom (L + 1) cs.names []))) Q E { s with heap := h', toks := tk' }) :
    wpAny (model PySem.Challenge.pw_ae5010_01 w) (ktrTop dp un gd cn cs L a ccd (cellsFrom (L + 1) cs.names []) outer) (execs body (envX cn cs L a ccd (cellsFrom (L + 1) cs.names []))) Q E s := by
  conv at hcs => rhs; whnf
  conv at hb => rhs; whnf
  subst hcs hb
  obtain ⟨pw, hpw, rfl⟩ := hPV.shape
  obtain ⟨hP2, hP5, hsum⟩ := shape_facts pw hpw
  have hPl : (pw.map Int.ofNat).length = pw.length := List.length_map ..
  k_steps
  unfold Hold
  rename IsRange _ _ _ _ _ _ _ _ => R9
  rename Fr _ _ _ _ => F9
  rename News _ _ _ _ => N9
  k_dflt (refine LCg.CompSrc.range (n := (pw.map Int.ofNat).length) (by rfl) F9 N9 R9 (small_int (by decide) (by decide) (by omega) (by omega)) (size_int _ (by omega)) (by rw [sizeLine_eq]; omega) ?_)
  intro g9
  clear R9 F9 N9
  refine compRest_vals (fun i y => ∃ t, y = .int (((pw.map Int.ofNat).take (i + 1)).sum) t) trivial ?step ?fin
  case step =>
    intro i9 v9 I9 oI9 C9 oC9 D9 ys9 m9 h9 tk9 E9 hi9 hP9 hC9 hx9 F9 N9 off9 ne9
    obtain ⟨t9, rfl⟩ := hP9
    k_steps
    unfold Hold
    have e : (0 + (i9 : Int) + 1).toNat = i9 + 1 := by omega
    rw [e]
    k_dflt (refine ⟨_, _, rfl, by k_asm, KStt.news_of (by k_asm) (by walk_at "m_keep"), _, rfl⟩)
  case fin =>
    intro ys1 hl1 hR1
    unfold LCg.FinE
    intro D1 h1 tk1 F1 N1 off1
    have hI1 := ints_of_vals hl1 hR1
    simp only [LCg.Off1, and_true] at off1
    clear hR1
    rw [szs_int] at hI1
    have hsl : ((szs pw).map Int.ofNat).length = pw.length := by rw [List.length_map]; unfold szs; simp
    have hss : ((szs pw).map Int.ofNat).sum = Int.ofNat (szs pw).sum := sum_ints _
    k_steps
    unfold Hold
    rename IsRange _ _ _ _ _ _ _ _ => R9
    rename Fr _ _ _ _ => F9
    rename News _ _ _ _ => N9
    k_dflt (refine LCg.CompSrc.range (n := (szs pw).sum) (by rfl) F9 N9 R9 (small_int (by decide) (by decide) (by rw [hss]; exact Int.natCast_nonneg _) (by rw [hss]; show (((szs pw).sum : Nat) : Int) < 2 ^ 30; omega)) (size_int _ (by rw [hss]; show _ = ((((szs pw).sum : Nat) : Int) - 0).toNat; omega)) (by rw [sizeLine_eq]; omega) ?_)
    intro g8
    clear R9 F9 N9
    refine compRest_vals (fun i y => ∃ t, y = .int (first + step * (0 + (i : Int))) t) trivial ?step2 ?fin2
    case step2 =>
      intro i9 v9 I9 oI9 C9 oC9 D9 ys9 m9 h9 tk9 E9 hi9 hP9 hC9 hx9 F9 N9 off9 ne9
      obtain ⟨t9, rfl⟩ := hP9
      k_steps
      unfold Hold
      k_dflt (refine ⟨_, _, rfl, by k_asm, KStt.news_of (by k_asm) (by walk_at "m_keep"), _, rfl⟩)
    intro ys2 hl2 hR2
    unfold LCg.FinE
    intro D2 h2 tk2 F2 N2 off2
    have hI2 := ints_of_vals hl2 hR2
    simp only [LCg.Off1, and_true] at off2
    clear hR2
    k_steps
    rename News _ _ _ _ => N9
    k_dflt (refine len_list (items := ys1.toArray) (News.isList N9 (by k_mem)) (by rw [List.size_toArray, hl1]; omega) ?_)
    k_steps
    unfold Hold
    have e1 : ((ys1.toArray.size : Nat) : Int).toNat = pw.length := by rw [List.size_toArray, hl1, hPl]; rfl
    rename Fr _ _ _ _ => F8
    rename News _ _ _ _ => N8
    k_dflt (refine KMa.mul (ws := List.replicate pw.length Value.none) (vs := [Value.none]) F8 N8 (News.isList N8 (by k_mem)) (by omega) (by rw [List.size_toArray, hl1]; omega) (by rw [e1]; simp only [List.length_cons, List.length_nil]; omega) (by rw [e1]; simp) ?_)
    intro lA h6 F6 N6 lt6
    k_lt lt6
    clear N8 F8
    k_steps
    unfold Hold
    rename Fr _ _ _ _ => F9
    rename News _ _ _ _ => N9
    rename Obj.IsDictOf _ _ _ => hdoc
    have hdoc' := hdoc
    k_dflt (refine' hnext pw lA _ _ _ _ D2 ys2 _ D1 ys1 _ _ _ _ hpw rfl ?i1 ?i2 ?i3 hdoc' ?sysm ?c6 ⟨?_, ?_, ?_, ?_, ?_, ?_, ?_, ?_, ?_, ?_, ?_, ?_, ?_, ?_, ?_⟩ ⟨?_, ?_, ?_, ?_, ?_, ?_, ?_, ?_, ?_, ?_, ?_, ?_⟩ F9 (KStt.news_of N9 (by walk_at "m_keep")))
    case i1 => exact hI1
    case i2 => exact hI2
    case i3 => exact .cons _ _ (.cons _ _ .nil)
    case sysm => assumption
    case c6 => assumption
    all_goals omega
end
end
section
section
/-- the groups that still have numbers in round t -/
noncomputable def lft (sz : List Nat) (t : Nat) : List Nat := (List.range sz.length).filter fun n => decide (t < sz.getD n 0)
noncomputable def szt (sz : List Nat) (t : Nat) : List Nat := (lft sz t).map fun n => sz.getD n 0 - t
/-- the places of the last numbers of the groups -/
noncomputable def ensN (sz : List Nat) (t : Nat) : List Nat := (List.range (lft sz t).length).map fun k => ((szt sz t).take (k + 1)).sum - 1
noncomputable def rowI (sz : List Nat) (row0 : List Int) : Nat → List Int
  | 0 => row0
  | t + 1 => cum ((strikeOut (ensN sz t) (rowI sz row0 t)).length - 1) (strikeOut (ensN sz t) (rowI sz row0 t))
noncomputable def struckI (sz : List Nat) (row : List Int) (t : Nat) : List Int := (ensN sz t).map fun e => row.getD e 0
noncomputable def lastK (ls : List (Option Int)) (ns : List Nat) (zs : List Int) : Nat → List (Option Int)
  | 0 => ls
  | k + 1 => (lastK ls ns zs k).set (ns.getD k 0) (some (zs.getD k 0))
noncomputable def lastI (sz : List Nat) (row0 : List Int) : Nat → List (Option Int)
  | 0 => List.replicate sz.length none
  | t + 1 => lastK (lastI sz row0 t) (lft sz t) (struckI sz (rowI sz row0 t) t) (lft sz t).length
noncomputable def lenN (sz : List Nat) : Nat → Nat
  | 0 => sz.sum
  | t + 1 => lenN sz t - (ensN sz t).length
noncomputable def LastIs (vs : List Value) (ls : List (Option Int)) : Prop := vs.length = ls.length ∧ ∀ (i : Nat) (v : Value), vs[i]? = some v → (ls[i]? = some none ∧ v = .none) ∨ ∃ (z : Int) (t : Tok), ls[i]? = some (some z) ∧ v = .int z t
structure GoodAt (sz : List Nat) (t : Nat) : Prop where
  lt : ∀ e ∈ ensN sz t, e < lenN sz t
  up : (ensN sz t).Pairwise (· < ·)
  le : lenN sz t ≤ 64
theorem lastK_length (ls : List (Option Int)) (ns : List Nat) (zs : List Int) : ∀ k, (lastK ls ns zs k).length = ls.length
  | 0 => rfl
  | k + 1 => by show ((lastK ls ns zs k).set _ _).length = _; rw [List.length_set]; exact lastK_length ls ns zs k
theorem lastI_length (sz : List Nat) (row0 : List Int) : ∀ t, (lastI sz row0 t).length = sz.length
  | 0 => by simp [lastI]
  | t + 1 => by show (lastK _ _ _ _).length = _; rw [lastK_length]; exact lastI_length sz row0 t
theorem strikeOut_length {α : Type} {ens : List Nat} {xs : List α} (hs : ens.Pairwise (· < ·)) (hb : ∀ e ∈ ens, e < xs.length) : (strikeOut ens xs).length = xs.length - ens.length := by
  rw [← delN_full, delN_length hs hb _ (Nat.le_refl _)]
theorem rowI_length {sz : List Nat} {row0 : List Int} (h0 : row0.length = sz.sum) : ∀ t, (∀ i, i < t → GoodAt sz i) → (rowI sz row0 t).length = lenN sz t
  | 0, _ => h0
  | t + 1, g => by
    have ih := rowI_length h0 t fun i hi => g i (by omega)
    show (cum _ _).length = _
    rw [cum_length, strikeOut_length (g t (by omega)).up (by rw [ih]; exact (g t (by omega)).lt), ih]
    rfl
theorem LastIs.set {vs : List Value} {ls : List (Option Int)} (h : LastIs vs ls) (i : Nat) (z : Int) (t : Tok) : LastIs (vs.set i (.int z t)) (ls.set i (some z)) := by
  refine ⟨by rw [List.length_set, List.length_set, h.1], fun j v hv => ?_⟩
  by_cases q : i = j
  · subst q
    have hl : i < vs.length := by
      have := (List.getElem?_eq_some_iff.mp hv).1
      simpa using this
    rw [List.getElem?_set_self hl] at hv
    refine .inr ⟨z, t, ?_, (Option.some.inj hv).symm⟩
    rw [List.getElem?_set_self (by rw [← h.1]; exact hl)]
  · rw [List.getElem?_set_ne q] at hv ⊢
    exact h.2 j v hv
theorem LastIs.nones (n : Nat) : LastIs (List.replicate n Value.none) (List.replicate n none) := by
  refine ⟨by simp, fun i v hv => .inl ?_⟩
  have hi := (List.getElem?_eq_some_iff.mp hv).1
  rw [List.length_replicate] at hi
  rw [List.getElem?_replicate, if_pos hi] at hv ⊢
  exact ⟨rfl, (Option.some.inj hv).symm⟩
end
section
variable {h₀ h h' : Heap} {L : Addr} {led : List (Addr × Obj)}
theorem updF_mem {d : Addr} {o : Obj} {g : Obj → List (Addr × Obj)} (U : UpdF d o led g) (o' : Obj) : ∀ p ∈ g o', p = (d, o') ∨ (p ∈ led ∧ p.1 ≠ d) := by
  obtain ⟨pre, post, rfl, hg, h1, h2⟩ := U.split
  intro p hp
  rw [hg] at hp
  rcases List.mem_append.mp hp with hp | hp
  · exact .inr ⟨List.mem_append_left _ hp, h1 p hp⟩
  rcases List.mem_cons.mp hp with rfl | hp
  · exact .inl rfl
  · exact .inr ⟨List.mem_append_right _ (.tail _ hp), h2 p hp⟩
theorem news_upd1 {d : Addr} {o o' : Obj} {g : Obj → List (Addr × Obj)} (N : News h₀ L h led) (U : UpdF d o led g) (x : ExtB [d] h h') (N' : News h₀ L h' [(d, o')]) : News h₀ L h' (g o') := fun p hp => by
  rcases updF_mem U o' p hp with rfl | ⟨hp, hne⟩
  · exact N' _ (.head _)
  · exact ⟨x _ _ (N p hp).1 fun q => hne (List.mem_singleton.mp q), (N p hp).2⟩
theorem news_upd3 {d1 d2 d3 : Addr} {p1 p2 p3 q1 q2 q3 : Obj} {g1 g2 g3 : Obj → List (Addr × Obj)} (N : News h₀ L h led) (U1 : UpdF d1 p1 led g1) (U2 : UpdF d2 p2 (g1 q1) g2) (U3 : UpdF d3 p3 (g2 q2) g3) (x : ExtB [d1, d2, d3] h h') (N' : News h₀ L h' [(d1, q1), (d2, q2), (d3, q3)]) : News h₀ L h' (g3 q3) := fun p hp => by
  rcases updF_mem U3 q3 p hp with rfl | ⟨hp, n3⟩
  · exact N' _ (.tail _ (.tail _ (.head _)))
  rcases updF_mem U2 q2 p hp with rfl | ⟨hp, n2⟩
  · exact N' _ (.tail _ (.head _))
  rcases updF_mem U1 q1 p hp with rfl | ⟨hp, n1⟩
  · exact N' _ (.head _)
  · exact ⟨x _ _ (N p hp).1 (notMem3 n1 n2 n3), (N p hp).2⟩
theorem setL_some : ∀ {l : List Value} {k : Nat} {v : Value}, k < l.length → ki_setL l k v = some (l.set k v)
  | [], _, _, h => by simp at h
  | _ :: _, 0, _, _ => rfl
  | x :: l, k + 1, v, h => by
    unfold ki_setL
    rw [setL_some (by simpa using h)]
    rfl
end
section
variable {prog : Program} {w : World} {A : Around} {E : Value → Shared → Prop} {s : Shared} {h₀ : Heap} {L a : Addr} {m : Str → Option Value} {cn : Str} {cs : Scope} {ccd : Value} {cl : List (Str × Addr)}
theorem set_loop {x lN fN tN : Str} {p1 p2 p3 p4 p5 p6 p7 p8 p9 pl pf : Pos} {kd : Nat} {Q : Flow → Shared → Prop} {rr lA cL DL S : Addr} {b₀ : Int} {t₀ u₀ v₀ : Tok} {oL : Obj} {lvs ysL zsv : List Value} {zs : List Int} {ns : List Nat} {ls : List (Option Int)} {ln yn zn n : Nat} {rest : List (Addr × Obj)}
    (hh : A.handled = none) (hk : cs.kind = .function) (hx : (envX cn cs L a ccd cl).kindOf x = some .local) (hl : (envX cn cs L a ccd cl).kindOf lN = some .local) (ht : (envX cn cs L a ccd cl).kindOf tN = some .local) (hf : (envX cn cs L a ccd cl).kindOf fN = some .cell) (hcL : cl.lookup fN = some cL)
    (bx : (x == ("__debug__" : Str)) = false) (bl : (lN == ("__debug__" : Str)) = false) (bt : (tN == ("__debug__" : Str)) = false) (bf : (fN == ("__debug__" : Str)) = false) (nl : lN ≠ x) (nt : tN ≠ x)
    (hr : IsRange s.heap rr 0 b₀ 1 t₀ u₀ v₀) (hsmall : Builtin.Range.small 0 b₀ 1 = true) (hn : Builtin.Range.rangeSize 0 b₀ 1 = (n : Int)) (F : Fr h₀ L s.heap m) (ml : m lN = some (.ref lA)) (mt : m tN = some (.ref S))
    (N : News h₀ L s.heap ((lA, W.listOf lvs.toArray ln) :: (cL, oL) :: (DL, W.listOf ysL.toArray yn) :: (S, W.listOf zsv.toArray zn) :: rest)) (dL : oL.data = .cell (some (.ref DL))) (nA : @Ne Nat cL lA ∧ @Ne Nat DL lA ∧ @Ne Nat S lA) (nR : ∀ p ∈ rest, p.1 ≠ lA)
    (hz : IntsAre zsv zs) (hzn : zs.length = n) (hns : ns.length = n) (hyl : ysL.length = n) (hn5 : n ≤ 64) (hM : ∀ (j : Nat) (y : Value), ysL[j]? = some y → ∃ (i : Nat), ns[j]? = some i ∧ ∃ (a1 : Addr) (u1 u2 : Tok) (k : Nat) (x2 : Int), y = .ref a1 ∧ (a1, ({ cls := .type "tuple", data := .seq [Value.int (i : Int) u1, .int x2 u2].toArray k } : Obj)) ∈ rest)
    (hlv : LastIs lvs ls) (hnl : ∀ i ∈ ns, i < ls.length) (hls : ls.length ≤ 64)
    (done : ∀ u lvs' ln' h tk, LastIs lvs' (lastK ls ns zs n) → Fr h₀ L h (upd [x] u m) → News h₀ L h ((lA, W.listOf lvs'.toArray ln') :: (cL, oL) :: (DL, W.listOf ysL.toArray yn) :: (S, W.listOf zsv.toArray zn) :: rest) → Q .next { s with heap := h, toks := tk }) :
    wpAny (model prog w) A (pyIter (.ref rr)) (fun it s₂ => LoopG prog w A (envX cn cs L a ccd cl) x [.Assign [.Subscript (.Name lN pl) (.Subscript (.Subscript (.Name fN pf) (.Name x p1) p2) (.Constant (.int 0) kd p3) p4) p5] (.Subscript (.Name tN p6) (.Name x p7) p8) p9] Q it s₂) E s := by
  refine iter_range_M (env := envX cn cs L a ccd cl) (m₀ := m) [x] (fun i news₁ g => g = s.gens ∧ ∃ lvs' ln', LastIs lvs' (lastK ls ns zs i) ∧ news₁ = (lA, W.listOf lvs'.toArray ln') :: (cL, oL) :: (DL, W.listOf ysL.toArray yn) :: (S, W.listOf zsv.toArray zn) :: rest) hh hx (by show (cs.kind == .class || (cs.kind == .module && L != mainGlobals)) = false; rw [hk]; rfl) hr hsmall hn F N ⟨rfl, lvs, ln, hlv, rfl⟩ ?turn ?done
  case turn =>
    rintro i t I oI u news₁ h tk g E' hi hltI ⟨rfl, lvs', ln', hL', rfl⟩ hoff F₁ N₁
    have hmx : ∀ z, z ≠ x → (fun y => if y = x then some (Value.int (0 + (i : Int)) t) else upd [x] u m y) z = m z := fun z hz => by
      show (if z = x then _ else upd [x] u m z) = m z
      rw [if_neg hz]
      unfold upd
      rw [if_neg (by simpa using hz)]
    have hit : (0 + (i : Int)).toNat = i := by omega
    have hzl : zsv.length = n := by rw [IntsAre.length hz, hzn]
    obtain ⟨z, zt, hze, hzi⟩ := hz.at i zsv[i] (List.getElem?_eq_getElem (by omega))
    have hzv : zsv[i]? = some (.int z zt) := by rw [List.getElem?_eq_getElem (by omega), hze]
    obtain ⟨q, hq, a1, u1, u2, k1, x2, hy, hm⟩ := hM i ysL[i] (List.getElem?_eq_getElem (by omega))
    have hyv : ysL[i]? = some (.ref a1) := by rw [List.getElem?_eq_getElem (by omega), hy]
    have hql := hnl q (List.mem_of_getElem? hq)
    have hll : lvs'.length = ls.length := by rw [hL'.1, lastK_length]
    have hIA : @Ne Nat I lA := Nat.ne_of_gt (hltI (lA, W.listOf lvs.toArray ln) (.head _))
    refine wpAny_execs_cons (wpAny_Assign_Subscript ?_)
    refine Subscript_ ?_
    refine nameX_L (v := .ref S) F₁ ((hmx tN nt).trans mt) ?_ hk ht bt
    refine nameX_L (v := .int (0 + (i : Int)) t) F₁ (by simp) ?_ hk hx bx
    refine item_listL (l := zsv) (News.isList N₁ (.tail _ (.tail _ (.tail _ (.tail _ (.head _)))))) (by omega) (by omega) (by rw [hit]; exact hzv) ?_
    refine nameX_L (v := .ref lA) F₁ ((hmx lN nl).trans ml) ?_ hk hl bl
    refine Subscript_ ?_
    refine Subscript_ ?_
    refine nameX_C (cl := cl) N₁ hcL (.tail _ (.tail _ (.head _))) dL ?_ hk hf bf
    refine nameX_L (v := .int (0 + (i : Int)) t) F₁ (by simp) ?_ hk hx bx
    refine item_listL (l := ysL) (News.isList N₁ (.tail _ (.tail _ (.tail _ (.head _))))) (by omega) (by omega) (by rw [hit]; exact hyv) ?_
    refine wpAny_Constant_int ?_
    refine kba_turn (value' := PySem.Expr.Name (PySem.Str.ofString "_") ⟨0, 0, 0, 0⟩) (fun _ => rfl) ?_
    refine item_tupleL (l := [Value.int (q : Int) u1, .int x2 u2]) (j := 0) (News.isTup N₁ (.tail _ (.tail _ (.tail _ (.tail _ (.tail _ hm)))))) (by decide) (by decide) (by rfl) (by rfl) ?_
    refine ki_set (q := lvs'.set q (.int z zt)) F₁ N₁ (by omega) (by omega) (by
      rw [show ((q : Int)).toNat = q by omega]
      show ki_setL lvs' q (.int z zt) = some _
      exact setL_some (by omega)) (.tail (by exact hIA) (.head (by
        intro p hp
        rcases List.mem_cons.mp hp with rfl | hp
        · exact nA.1
        rcases List.mem_cons.mp hp with rfl | hp
        · exact nA.2.1
        rcases List.mem_cons.mp hp with rfl | hp
        · exact nA.2.2
        · exact nR p hp))) fun h' F₂ N₂ => ?_
    refine wpAny_execs_nil ?_
    refine ⟨_, _, _, _, _, rfl, F₂, ?_, N₂, ?_, (fun _ h => nomatch h), rfl, _, _, ?_, rfl⟩
    · intro y hy
      have hyx : y ≠ x := by rintro rfl; simp at hy
      exact hmx y hyx
    · exact swap_all (P := fun a => a ≠ I) (pre := []) (o := W.listOf lvs'.toArray ln') hoff
    · show LastIs _ ((lastK ls ns zs i).set (ns.getD i 0) (some (zs.getD i 0)))
      rw [show ns.getD i 0 = q by rw [List.getD_eq_getElem?_getD, hq]; rfl, show zs.getD i 0 = z by rw [List.getD_eq_getElem?_getD, hzi]; rfl]
      exact hL'.set q z zt
  case done =>
    rintro u news₁ h tk g ⟨rfl, lvs', ln', hL', rfl⟩ F₁ N₁
    exact done u lvs' ln' h tk hL' F₁ N₁
end
end
section
local macro_rules | `(tactic| walk_at "call builtin:callable") => `(tactic| (k_here; k_dflt (refine' callable_K ?X ?e ?_; (case X => k_in); (case e => k_is); k_whole)))
section
local macro_rules | `(tactic| walk_at "m_mkidx") => `(tactic| (refine' call_cls ?k1 ?k2 ?k3 ?k4 ?k5 ?k6 ?_; (case k1 => k_asm); (case k2 => k_asm); (case k3 => k_asm); (case k4 => k_is); (case k5 => k_is); (case k6 => k_is); k_whole; intro x' d' h' F' N' l1 l2; (try k_lt l1); (try k_lt2 l2); (refine' kp_rest ?k1 ?k2 ?k3 ?k4 ?k5 ?kA ?kF ?kK ?k6 ?k7 ?k8 ?kV ?kP ?kG ?kB ?_ ?c2 ?c3 ?c4 ?c5; (case kA => exact rfl); (case kF => exact rfl); (case kK => first | assumption | exact rfl); (case k1 => k_asm); (case k2 => k_asm); (case k3 => k_asm); (case k4 => k_asm); (case k5 => k_asm); (case k6 => k_is); (case k7 => k_is); (case k8 => ktr_room); (case kV => exact rfl); (case kP => exact rfl); (case kG => exact fun _ => rfl); (case kB => exact fun _ => locs rfl); (case c5 => decide); (case c2 => exact rfl); (case c3 => exact rfl); (case c4 => exact rfl); k_whole; intro D2 g2 L2 h2 l2 FG2 F2 N2 B2 X2 T2; (try k_lt l2); (try dsimp only); (try k_lift B2); (try k_fold)); k_steps))
set_option maxRecDepth 100000 in
set_option maxHeartbeats 0 in
set_option rowWalk.seconds 0 in
theorem mkidx {w : World} {p : Program} {loose : List Str} {mean : ExcName → Option Value} {mg mb : Str → Option Value}
  {dp un : Nat} {gd : Option (List Code)} {cn : Str} {cs : Scope} {a : Addr} {ccd : Value} {cl : List (Str × Addr)} {outer : List Env} {A₀ : Around} {base h₀ : Heap} {L : Addr} {m : Str → Option Value} {s : Shared}
    {es : List Value} (hl : es.length ≤ 5) {led : List (Addr × Obj)}
    {Q E : Value → Shared → Prop}
    (B : Below A₀ base outer h₀) (F : Fr h₀ L s.heap m) (X : (hd.heap_39 w.params).In h₀)
    (N : News h₀ L s.heap led) (T : Top p loose mean mg mb h₀) (hk : cs.kind = .function)
    (hdp : dp + 10 < recursionLimit) (hun : un + 100 < cLine)
    (hret : ∀ x1 d1 t1 qi k h' tk', Fr h₀ L h' m → News h₀ L h' [(x1, instObj 648 d1), (d1, idxObj w.params qi t1), (t1, tupObj es k)] → News h₀ L h' led → ((∀ p ∈ led, @LT.lt Nat _ p.1 d1) ∧ @LT.lt Nat _ d1 x1 ∧ @LT.lt Nat _ x1 t1) → Q (.ref x1) { s with heap := h', toks := tk' }) :
    wpAny (model PySem.Challenge.pw_ae5010_01 w) (ktrTop dp un gd cn cs L a ccd cl outer) (call (.ref 648) es) Q E s := by
  match es, hl with
  | [], _ => walk_at "m_mkidx"; rename News h₀ _ _ _ => N8; exact hret _ _ _ _ _ _ _ (by k_asm) (KStt.news_of N8 (by walk_at "m_keep")) (KStt.news_of N8 (by walk_at "m_keepA")) ⟨by assumption, by omega, by omega⟩
  | [_], _ => walk_at "m_mkidx"; rename News h₀ _ _ _ => N8; exact hret _ _ _ _ _ _ _ (by k_asm) (KStt.news_of N8 (by walk_at "m_keep")) (KStt.news_of N8 (by walk_at "m_keepA")) ⟨by assumption, by omega, by omega⟩
  | [_, _], _ => walk_at "m_mkidx"; rename News h₀ _ _ _ => N8; exact hret _ _ _ _ _ _ _ (by k_asm) (KStt.news_of N8 (by walk_at "m_keep")) (KStt.news_of N8 (by walk_at "m_keepA")) ⟨by assumption, by omega, by omega⟩
  | [_, _, _], _ => walk_at "m_mkidx"; rename News h₀ _ _ _ => N8; exact hret _ _ _ _ _ _ _ (by k_asm) (KStt.news_of N8 (by walk_at "m_keep")) (KStt.news_of N8 (by walk_at "m_keepA")) ⟨by assumption, by omega, by omega⟩
  | [_, _, _, _], _ => walk_at "m_mkidx"; rename News h₀ _ _ _ => N8; exact hret _ _ _ _ _ _ _ (by k_asm) (KStt.news_of N8 (by walk_at "m_keep")) (KStt.news_of N8 (by walk_at "m_keepA")) ⟨by assumption, by omega, by omega⟩
  | [_, _, _, _, _], _ => walk_at "m_mkidx"; rename News h₀ _ _ _ => N8; exact hret _ _ _ _ _ _ _ (by k_asm) (KStt.news_of N8 (by walk_at "m_keep")) (KStt.news_of N8 (by walk_at "m_keepA")) ⟨by assumption, by omega, by omega⟩
  | _ :: _ :: _ :: _ :: _ :: _ :: _, h => exact absurd h (by simp)
end
end
section
theorem fresh_Turn : True := by
  w_top off
  exact trivial
local macro_rules | `(tactic| walk_at "call builtin:callable") => `(tactic| (k_here; k_dflt (refine' callable_K ?X ?e ?_; (case X => k_in); (case e => k_is); k_whole)))
local macro_rules | `(tactic| walk_at "subscriptTail Call Name cons nil Slice ref ref") => `(tactic| (k_here; k_dflt (refine kba_turn (value' := PySem.Expr.Name (PySem.Str.ofString "_") ⟨0, 0, 0, 0⟩) (fun _ => rfl) ?_)))
local macro_rules | `(tactic| walk_at "subscriptTail Name Slice ref ref") => `(tactic| (k_here; (rename IsRange _ _ _ _ _ _ _ _ => R'); k_dflt (refine' range_slice_tail ?F ?N R' ?k ?b ?b2 ?_ ?hs ?ht; (case F => k_asm); (case N => k_asm); (case k => omega); (case b => omega); (case b2 => omega); (case hs => with_unfolding_all rfl); (case ht => kmk_pure)); clear R'; intro D' h' tk' t' u' v' R' F' N'; (try k_sweep)))
local macro_rules | `(tactic| walk_at "call builtin:isinstance") => `(tactic| (k_here; (with_reducible show wpAny _ _ (call _ [Value.ref _, Value.ref _]) _ _ _); k_dflt (refine isn_dictOf (knd := PySem.strKind _ _) (hd := by with_reducible assumption) (by k_in) (by k_asm) (by k_mem) (by k_not) ?_)))
local macro_rules | `(tactic| walk_at "call builtin:isinstance") => `(tactic| (k_here; (with_reducible show wpAny _ _ (call _ [Value.ref _, Value.ref _]) _ _ _); k_dflt (refine' isi_call ?k1 ?k2 ?k3 ?k4 ?_; (case k1 => k_in); (case k2 => k_types); (case k3 => k_is); (case k4 => intro e; cases e); k_whole)))
noncomputable def loopBody (P : Params) : List Stmt := match (lawStmts P).drop 6 with
  | .For _ _ b _ _ :: _ => b
  | _ => []
abbrev turnX : List Str := [Str.ofString "ends", Str.ofString "struck", Str.ofString "k"]
/-- the law's own locals, ahead of the rounds -/
abbrev lawM (lA dd : Addr) (m : Str → Option Value) : Str → Option Value := fun y => if y = Str.ofString "last" then some (.ref lA) else if y = Str.ofString "document" then some (.ref dd) else m y
noncomputable def MkL (sz : List Nat) (t : Nat) (i : Nat) (y : Value) (o : List (Addr × Obj)) : Prop := ∃ (a : Addr) (u1 u2 : Tok) (k : Nat), y = .ref a ∧ (a, tupObj [.int (i : Int) u1, .int ((sz.getD i 0 - t : Nat) : Int) u2] k) ∈ o
theorem MkL.mono {sz : List Nat} {t i : Nat} {y : Value} {o o' : List (Addr × Obj)} : MkL sz t i y o → (∀ p ∈ o, p ∈ o') → MkL sz t i y o' := by
  rintro ⟨a, u1, u2, k, h1, h2⟩ hs
  exact ⟨a, u1, u2, k, h1, hs _ h2⟩
theorem getD_ints (sz : List Nat) (i : Nat) : (sz.map Int.ofNat).getD i 0 = ((sz.getD i 0 : Nat) : Int) := by
  rw [List.getD_eq_getElem?_getD, List.getElem?_map, List.getD_eq_getElem?_getD]
  cases sz[i]? <;> rfl
theorem szt_get {sz : List Nat} {t j q : Nat} (h : (lft sz t)[j]? = some q) : (szt sz t).getD j 0 = sz.getD q 0 - t := by
  unfold szt
  rw [List.getD_eq_getElem?_getD, List.getElem?_map, h]
  rfl
theorem szt_length (sz : List Nat) (t : Nat) : (szt sz t).length = (lft sz t).length := by unfold szt; rw [List.length_map]
theorem range_get (l : List Nat) (n : Nat) (h : n ≤ l.length) : (List.range n).map (fun j => ((l.getD j 0 : Nat) : Int)) = (l.take n).map Int.ofNat := by
  apply List.ext_getElem?
  intro j
  rw [List.getElem?_map, List.getElem?_map]
  by_cases hj : j < n
  · rw [List.getElem?_range hj, List.getElem?_take_of_lt hj, List.getElem?_eq_getElem (by omega)]
    show some ((l.getD j 0 : Nat) : Int) = some (Int.ofNat l[j])
    rw [List.getD_eq_getElem?_getD, List.getElem?_eq_getElem (by omega)]
    rfl
  · rw [List.getElem?_eq_none (by simp; omega), List.getElem?_eq_none (by simp; omega)]
    rfl
theorem take_slice (ys : List Value) (i : Nat) : slicePick ys.toArray none (some (0 + (i : Int) + 1)) none = (ys.take (i + 1)).toArray := by
  rw [show (0 + (i : Int) + 1) = ((i + 1 : Nat) : Int) by omega]
  exact slicePick_upto' _ _
theorem take_get {ys : List Value} {n j : Nat} {v : Value} (h : (ys.take n).toArray[j]? = some v) : ys[j]? = some v := by
  have h' : (ys.take n)[j]? = some v := by simpa using h
  have := (List.getElem?_eq_some_iff.mp h').1
  rw [List.length_take] at this
  rwa [List.getElem?_take_of_lt (by omega)] at h'
theorem szt_pos {sz : List Nat} {t : Nat} : ∀ x ∈ szt sz t, 1 ≤ x := by
  intro x hx
  obtain ⟨n, hn, rfl⟩ := List.mem_map.mp hx
  have := (List.mem_filter.mp hn).2
  have := of_decide_eq_true this
  omega
theorem ens_int (sz : List Nat) (t : Nat) : ((List.range (lft sz t).length).map fun k => ((((szt sz t).take (k + 1)).sum : Nat) : Int) - 1) = (ensN sz t).map Int.ofNat := by
  unfold ensN
  rw [List.map_map]
  refine List.map_congr_left fun k hk => ?_
  have hk' : k < (szt sz t).length := by rw [szt_length]; exact List.mem_range.mp hk
  have h1 : 1 ≤ ((szt sz t).take (k + 1)).sum := by
    cases h : szt sz t with
    | nil => rw [h] at hk'; simp at hk'
    | cons x r =>
      have := szt_pos (sz := sz) (t := t) x (by rw [h]; exact .head _)
      simp only [List.take_succ_cons, List.sum_cons]
      omega
  show _ = Int.ofNat (((szt sz t).take (k + 1)).sum - 1)
  have e : Int.ofNat (((szt sz t).take (k + 1)).sum - 1) = ((((szt sz t).take (k + 1)).sum - 1 : Nat) : Int) := rfl
  rw [e]
  omega
theorem ensN_length (sz : List Nat) (t : Nat) : (ensN sz t).length = (lft sz t).length := by unfold ensN; simp
section
local macro_rules | `(tactic| walk_at "eval ListComp") => `(tactic| (k_here; (with_reducible show wpAny _ _ (eval (Expr.ListComp _ [⟨Expr.Name _ _, _, [_], _⟩] _ _) _) _ _ _); k_dflt (refine LCt.ListComp_T (F₀ := by k_asm) (by with_unfolding_all rfl) (by decide) (by rfl) (by decide) (by rfl) ?_)))
local macro_rules | `(tactic| walk_at "eval ListComp") => `(tactic| (k_here; (with_reducible show wpAny _ _ (eval (Expr.ListComp _ [⟨Expr.Tuple _ _ _, _, _, _⟩] _ _) _) _ _ _); k_dflt (refine LCp.ListComp_P (F₀ := by k_asm) (by with_unfolding_all rfl) (by decide) (by rfl) (by decide) (by rfl) (by rfl) (by decide) ?_)))
local macro_rules | `(tactic| walk_at "exec Assign cons ListComp") => `(tactic| (k_here; (with_reducible show wpAny _ _ (exec (Stmt.Assign [Expr.Name (PySem.Str.ofString "ends") _] _ _) _) _ _ _); k_dflt (refine LCg.Assign_ListComp_U (F₀ := by k_asm) (by rfl) (by with_unfolding_all rfl) (by with_unfolding_all rfl) (by decide) (by rfl) (by decide) (by rfl) (by rfl) (by rfl) ?_)))
local macro_rules | `(tactic| walk_at "exec Assign cons ListComp") => `(tactic| ((with_reducible show wpAny _ _ (exec (Stmt.Assign [Expr.Name (PySem.Str.ofString "left") _] _ _) _) _ _ _); refine wpAny_Assign_Name ?_))
local macro_rules | `(tactic| walk_at "CompSrcT") => `(tactic| refine hold ?_)
local macro_rules | `(tactic| walk_at "CompSrc") => `(tactic| refine hold ?_)
local macro_rules | `(tactic| walk_at "SrcLP") => `(tactic| refine hold ?_)
local macro_rules | `(tactic| walk_at "ValEnd") => `(tactic| refine hold ?_)
local macro_rules | `(tactic| walk_at "GrowEnd") => `(tactic| refine hold ?_)
local macro_rules | `(tactic| walk_at "NoEnd") => `(tactic| refine hold ?_)
local macro_rules | `(tactic| walk_at "StarOf ref") => `(tactic| refine hold ?_)
local macro_rules | `(tactic| walk_at "call builtin:len") => `(tactic| refine hold ?_)
local macro_rules | `(tactic| k_all) => `(tactic| assumption)
local macro_rules | `(tactic| walk_at "call ref") => `(tactic| (k_here; (with_reducible show wpAny _ _ (call (Value.ref 648) _ _) _ _ _); refine hold ?_))
local macro_rules | `(tactic| walk_at "call ref") => `(tactic| (k_here; (with_reducible show wpAny _ _ (call (Value.ref 758) _ _) _ _ _); refine hold ?_))
local macro_rules | `(tactic| walk_at "call ref") => `(tactic| (k_here; (with_reducible show wpAny _ _ (call (Value.ref 383) _ _) _ _ _); refine hold ?_))
local macro_rules | `(tactic| walk_at "call ref") => `(tactic| (k_here; (with_reducible show wpAny _ _ (call (Value.ref 355) _ _) _ _ _); refine hold ?_))
local macro_rules | `(tactic| walk_at "execs cons") => `(tactic| ((with_reducible show wpAny _ _ (execs (Stmt.Assign [Expr.Name (PySem.Str.ofString "struck") _] _ _ :: _) _) _ _ _); refine hold ?_))
theorem le_of_eqle {a b c : Nat} (h : a = b) (k : b ≤ c) : a ≤ c := h ▸ k
theorem fit63 {n : Nat} (h : n ≤ 5) : (n : Int) < 2 ^ 63 := by omega
theorem fit30 {n : Nat} (h : n ≤ 5) : (n : Int) < 2 ^ 30 := by omega
theorem fitLine {n : Nat} (h : n ≤ 5) : n ≤ sizeLine := by rw [sizeLine_eq]; omega
theorem size0 {m n : Nat} (h : m = n) : n = ((m : Int) - 0).toNat := by omega
set_option maxRecDepth 100000 in
set_option maxHeartbeats 0 in
set_option rowWalk.seconds 0 in
theorem lawTurn1 {w : World} {p : Program} {loose : List Str} {mean : ExcName → Option Value} {mg mb : Str → Option Value}
  {dp un : Nat} {gd : Option (List Code)} {cn : Str} {cs : Scope} {body : List Stmt} {a : Addr} {ccd : Value} {outer : List Env} {A₀ : Around} {base h₀ : Heap} {L : Addr} {m u : Str → Option Value} {s : Shared}
    (hcs : cs = lawScope w.params) (hb : body = loopBody w.params)
    {sz : List Nat} {row0 : List Int} {t : Nat} {tt : Tok} {I lA r b dd sA c0 ln rn szn : Nat} {oI o6 o7 o8 od bo oc0 : Obj} {lvs rvs szv : List Value} {pA : Nat} {po o3 o4 o5 : Obj} {v8 : Option Value} {ps1 ps2 : Array Value}
    (h0 : row0.length = sz.sum) (hsl : 2 ≤ sz.length ∧ sz.length ≤ 5) (hgood : ∀ i, i ≤ t → GoodAt sz i) (hsz : IntsAre szv (sz.map Int.ofNat)) (hrv : IntsAre rvs (rowI sz row0 t)) (hlv : LastIs lvs (lastI sz row0 t))
    (hdoc : od.IsDictOf (PySem.strKind PySem.Challenge.pw_ae5010_01 w) [(Str.ofString "beside", .ref b), (Str.ofString "row", .ref r)]) (lo : (dd == sysModules) = false)
    (d6 : cellAt o6 (.ref sA)) (d7 : cellAt o7 (.int (0 + (t : Int)) tt)) (d8 : o8.data = .cell v8) (hps : TriplesOk ps1.toList) (hnote : NoteOk ps2 c0 oc0)
    (h7 : @LT.lt Nat _ 753 L) (hpA : @LT.lt Nat _ pA lA ∧ @LT.lt Nat _ (L + 8) pA)
    (hI : @LT.lt Nat _ lA I ∧ @LT.lt Nat _ r I ∧ @LT.lt Nat _ b I ∧ @LT.lt Nat _ dd I ∧ @LT.lt Nat _ sA I ∧ @LT.lt Nat _ (L + 8) I)
    (hlA : @LT.lt Nat _ r lA ∧ @LT.lt Nat _ b lA ∧ @LT.lt Nat _ dd lA ∧ @LT.lt Nat _ sA lA ∧ @LT.lt Nat _ (L + 8) lA)
    (hr : @Ne Nat r (L + 8) ∧ @Ne Nat r (L + 7) ∧ @Ne Nat r (L + 6) ∧ @Ne Nat r 609 ∧ @Ne Nat r 753 ∧ @Ne Nat r sA ∧ @Ne Nat r dd ∧ @Ne Nat r b)
    (hsA : @Ne Nat sA (L + 8) ∧ @Ne Nat sA (L + 7) ∧ @Ne Nat sA (L + 6) ∧ @Ne Nat sA 609 ∧ @Ne Nat sA 753 ∧ @LT.lt Nat _ (L + 8) dd ∧ @LT.lt Nat _ dd b)
    (hc0 : @Ne Nat c0 (L + 8) ∧ @Ne Nat c0 (L + 7) ∧ @Ne Nat c0 (L + 6) ∧ @Ne Nat c0 609 ∧ @Ne Nat c0 753 ∧ @Ne Nat c0 r ∧ @Ne Nat c0 lA ∧ @Ne Nat c0 I ∧ @Ne Nat c0 sA)
    {Q : Flow → Shared → Prop} {E : Value → Shared → Prop}
    (B : Below A₀ base outer h₀) (F : Fr h₀ L s.heap (upd turnX u (lawM lA dd m))) (X : (hd.heap_39 w.params).In h₀)
    (N : News h₀ L s.heap [(I, oI), (L + 7, o7), (lA, listOf lvs.toArray ln), (r, listOf rvs.toArray rn), (b, bo), (dd, od), (sA, listOf szv.toArray szn), (L + 8, o8), (L + 6, o6), (609, tabObj ps1), (753, tabObj ps2), (c0, oc0), (pA, po), (L + 5, o5), (L + 4, o4), (L + 3, o3)]) (T : Top p loose mean mg mb h₀)
    (hdp : dp + 100 < recursionLimit) (hun : un + 900 < cLine)
    (hnext : ∀ DL ysL objs DE ysE o8' h' tk', ysL.length = (lft sz t).length → (∀ (j : Nat) (y : Value), ysL[j]? = some y → ∃ (i : Nat), (lft sz t)[j]? = some i ∧ MkL sz t i y objs) → IntsAre ysE ((ensN sz t).map Int.ofNat) → (∀ p ∈ objs, @LT.lt Nat _ lA p.1) →
      (@Ne Nat DL 609 ∧ @Ne Nat DL 753 ∧ @Ne Nat DL r ∧ @Ne Nat DL lA ∧ @Ne Nat DL (L + 7) ∧ @Ne Nat DL (L + 8) ∧ @Ne Nat DL I) → (@Ne Nat DE 609 ∧ @Ne Nat DE 753 ∧ @Ne Nat DE r ∧ @Ne Nat DE lA ∧ @Ne Nat DE (L + 7) ∧ @Ne Nat DE (L + 8) ∧ @Ne Nat DE I ∧ @Ne Nat DE DL) → cellAt o8' (.ref DL) →
      Fr h₀ L h' (fun z => if z = Str.ofString "ends" then some (.ref DE) else upd turnX u (lawM lA dd m) z) →
      News h₀ L h' ([(DE, LCg.lst ysE), (DL, LCg.lst ysL), (I, oI), (L + 7, o7), (lA, listOf lvs.toArray ln), (r, listOf rvs.toArray rn), (b, bo), (dd, od), (sA, listOf szv.toArray szn), (L + 8, o8'), (L + 6, o6), (609, tabObj ps1), (753, tabObj ps2), (c0, oc0), (pA, po), (L + 5, o5), (L + 4, o4), (L + 3, o3)] ++ objs) →
      wpAny (model PySem.Challenge.pw_ae5010_01 w) (ktrTop dp un gd cn cs L a ccd (cellsFrom (L + 1) cs.names []) outer) (execs ((loopBody w.params).drop 2) (envX cn cs L a ccd (cellsFrom (L + 1) cs.names []))) Q E { s with heap := h', toks := tk' }) :
    wpAny (model PySem.Challenge.pw_ae5010_01 w) (ktrTop dp un gd cn cs L a ccd (cellsFrom (L + 1) cs.names []) outer) (execs body (envX cn cs L a ccd (cellsFrom (L + 1) cs.names []))) Q E s := by
  conv at hcs => rhs; whnf
  conv at hb => rhs; whnf
  subst hcs hb
  obtain ⟨hI1, hI2, hI3, hI4, hI5, hI6⟩ := hI
  obtain ⟨hA1, hA2, hA3, hA4, hA5⟩ := hlA
  obtain ⟨hr1, hr2, hr3, hr4, hr5, hr6, hr7, hr8⟩ := hr
  obtain ⟨hs1, hs2, hs3, hs4, hs5, hs6, hs7⟩ := hsA
  obtain ⟨hc1, hc2, hc3, hc4, hc5, hc6, hc7, hc8, hc9⟩ := hc0
  obtain ⟨hsl2, hsl5⟩ := hsl
  obtain ⟨hp1, hp2⟩ := hpA
  have hszl : szv.length = sz.length := by rw [IntsAre.length hsz, List.length_map]
  k_steps
  unfold Hold
  rename News _ _ _ _ => N9
  k_dflt (refine len_list (items := szv.toArray) (News.isList N9 (by k_mem)) (by rw [List.size_toArray, hszl]; exact fit63 hsl5) ?_)
  k_steps
  unfold Hold
  rename IsRange _ _ _ _ _ _ _ _ => R9
  rename Fr _ _ _ _ => F9
  rename News _ _ _ _ => N9
  k_dflt (refine LCt.CompSrcT.range (n := sz.length) (by rfl) F9 N9 R9 (small_int (by decide) (by decide) (Int.natCast_nonneg _) (fit30 (le_of_eqle hszl hsl5))) (size_int _ (size0 hszl)) (fitLine hsl5) ?_)
  intro g9
  clear R9 F9 N9
  refine compRestT_grow (fun i => decide (t < sz.getD i 0)) (fun p => @LT.lt Nat _ lA p.1) (MkL sz t) (fun _ _ _ _ => MkL.mono) ?step ?fin
  case step =>
    intro i9 v9 I9 oI9 C9 oC9 D9 ys9 objs9 m9 h9 tk9 E9 hi9 hP9 hC9 hx9 F9 N9 off9 ne9
    obtain ⟨t9, rfl⟩ := hP9
    simp only [List.cons_append, List.nil_append] at N9 off9
    have eg : (sz.map Int.ofNat).getD (0 + (i9 : Int)).toNat 0 = ((sz.getD i9 0 : Nat) : Int) := by
      rw [show (0 + (i9 : Int)).toNat = i9 by omega]
      exact getD_ints sz i9
    have hml : (sz.map Int.ofNat).length = sz.length := List.length_map ..
    k_steps
    all_goals unfold Hold
    · have e2 : (sz.map Int.ofNat).getD (0 + (i9 : Int)).toNat 0 - (0 + (t : Int)) = ((sz.getD i9 0 - t : Nat) : Int) := by rw [eg]; omega
      rename News _ _ _ _ => N8
      rw [e2] at N8
      rw [Int.zero_add] at N8
      k_dflt (refine ⟨_, _, [(_, tupObj [.int _ _, .int _ _] _)], rfl, by k_asm, KStt.news_of N8 (by walk_at "m_keep"), KStt.news_of N8 (fun p hp => .tail _ hp), by lcg_off, List.forall_mem_cons.mpr ⟨by dsimp only; omega, List.forall_mem_nil _⟩, decide_eq_true (by omega), ⟨_, _, _, _, rfl, .head _⟩⟩)
    · exact ⟨decide_eq_false (by omega), _, _, rfl, by k_asm, by k_asm⟩
  intro ysL objs hlL hgd hML
  have hoC : ∀ p ∈ objs, p.1 ≠ L + 8 := fun p hp => Nat.ne_of_gt (Nat.lt_trans hA5 (hgd p hp))
  have hoA : ∀ p ∈ objs, p.1 ≠ lA := fun p hp => Nat.ne_of_gt (hgd p hp)
  unfold LCg.FinE
  intro DL hL tkL FL NL offL
  simp only [List.cons_append, List.nil_append, LCg.Off1] at NL offL
  have hlft : ysL.length = (lft sz t).length := hlL
  have hll5 : (lft sz t).length ≤ 5 := by
    have := List.length_filter_le (fun n => decide (t < sz.getD n 0)) (List.range sz.length)
    rw [List.length_range] at this
    exact Nat.le_trans this hsl5
  k_steps
  unfold Hold
  rename News _ _ _ _ => N9
  k_dflt (refine len_list (items := ysL.toArray) (News.isList N9 (by k_mem)) (by rw [List.size_toArray]; exact fit63 (le_of_eqle hlft hll5)) ?_)
  k_steps
  unfold Hold
  rename IsRange _ _ _ _ _ _ _ _ => R9
  rename Fr _ _ _ _ => F9
  rename News _ _ _ _ => N9
  k_dflt (refine LCg.CompSrc.range (n := (lft sz t).length) (by rfl) F9 N9 R9 (small_int (by decide) (by decide) (Int.natCast_nonneg _) (fit30 (le_of_eqle hlft hll5))) (size_int _ (size0 hlft)) (fitLine hll5) ?_)
  intro g8
  clear R9 F9 N9
  refine compRest_vals (fun k y => ∃ u, y = .int (((((szt sz t).take (k + 1)).sum : Nat) : Int) - 1) u) trivial ?step2 ?fin2
  case step2 =>
    intro i9 v9 I9 oI9 C9 oC9 D9 ys9 m9 h9 tk9 E9 hi9 hP9 hC9 hx9 F9 N9 off9 ne9
    obtain ⟨t9, rfl⟩ := hP9
    k_steps
    unfold Hold
    rename News _ _ _ _ => N8
    rename Fr _ _ _ _ => F8
    rw [take_slice] at N8
    have htl : (ysL.take (i9 + 1)).toArray.size = i9 + 1 := by rw [List.size_toArray, List.length_take]; omega
    k_dflt (refine LCp.SrcLP.ledger (its := (ysL.take (i9 + 1)).toArray) (by rfl) F8 N8 (.head _) (by rw [htl, sizeLine_eq]; omega) ?_)
    intro g7
    refine compRestP_vals (fun j y => ∃ u, y = .int (((szt sz t).getD j 0 : Nat) : Int) u) (Or.inr ⟨_, .head _, rfl, _, rfl⟩) ?stepP ?finP
    case stepP =>
      intro j v ys hj hv
      obtain ⟨q, hq, a1, u1, u2, k1, rfl, hm⟩ := hML j v (take_get hv)
      refine ⟨a1, _, _, _, _, rfl, by repeat (first | exact hm | refine List.Mem.tail _ ?_), rfl, rfl, ?_⟩
      intro I7 oI7 C7 oC7 D7 m7 h7' tk7 E7 hC7 hx7 hy7 F7 N7 off7 ne7
      k_steps
      unfold Hold
      rw [szt_get hq]
      exact ⟨_, _, rfl, by k_asm, by k_asm, _, rfl⟩
    intro ys7 hl7 hR7
    have hI7 := ints_of_vals hl7 hR7
    rw [htl, range_get _ _ (by rw [szt_length]; omega)] at hI7
    have hs7 := sum_ints ((szt sz t).take (i9 + 1))
    unfold LCg.FinE
    intro D7 h7' tk7 F7 N7 off7
    k_steps
    unfold Hold
    rw [hs7]
    exact ⟨_, _, rfl, by k_asm, KStt.news_of (by k_asm) (by walk_at "m_keepA"), _, rfl⟩
  intro ysE hlE hRE
  have hIE := ints_of_vals hlE hRE
  rw [ens_int] at hIE
  unfold LCg.FinA
  intro DE hE tkE FE NE offE
  simp only [LCg.Off1] at offE
  clear hRE
  k_steps
  unfold Hold
  rename Fr _ _ _ _ => F9
  rename News _ _ _ _ => N9
  k_dflt (refine' hnext DL ysL objs DE ysE _ _ _ hlL hML hIE hgd ⟨?_, ?_, ?_, ?_, ?_, ?_, ?_⟩ ⟨?_, ?_, ?_, ?_, ?_, ?_, ?_, ?_⟩ ?c8 F9 N9)
  case c8 => assumption
  all_goals (obtain ⟨l1, l2, l3, l4, l5, l6, l7, l8, l9, lA, lB, _⟩ := offL; obtain ⟨e0, e1, e2, e3, e4, e5, e6, e7, e8, e9, eA, eB, _⟩ := offE; exact Ne.symm (by assumption))
end
end
section
theorem fresh_TurnB : True := by
  w_top off
  exact trivial
local macro_rules | `(tactic| walk_at "call builtin:callable") => `(tactic| (k_here; k_dflt (refine' callable_K ?X ?e ?_; (case X => k_in); (case e => k_is); k_whole)))
local macro_rules | `(tactic| walk_at "subscriptTail Call Name cons nil Slice ref ref") => `(tactic| (k_here; k_dflt (refine kba_turn (value' := PySem.Expr.Name (PySem.Str.ofString "_") ⟨0, 0, 0, 0⟩) (fun _ => rfl) ?_)))
local macro_rules | `(tactic| walk_at "subscriptTail Name Slice ref ref") => `(tactic| (k_here; (rename IsRange _ _ _ _ _ _ _ _ => R'); k_dflt (refine' range_slice_tail ?F ?N R' ?k ?b ?b2 ?_ ?hs ?ht; (case F => k_asm); (case N => k_asm); (case k => omega); (case b => omega); (case b2 => omega); (case hs => with_unfolding_all rfl); (case ht => kmk_pure)); clear R'; intro D' h' tk' t' u' v' R' F' N'; (try k_sweep)))
local macro_rules | `(tactic| walk_at "call builtin:isinstance") => `(tactic| (k_here; (with_reducible show wpAny _ _ (call _ [Value.ref _, Value.ref _]) _ _ _); k_dflt (refine isn_dictOf (knd := PySem.strKind _ _) (hd := by with_reducible assumption) (by k_in) (by k_asm) (by k_mem) (by k_not) ?_)))
local macro_rules | `(tactic| walk_at "call builtin:isinstance") => `(tactic| (k_here; (with_reducible show wpAny _ _ (call _ [Value.ref _, Value.ref _]) _ _ _); k_dflt (refine' isi_call ?k1 ?k2 ?k3 ?k4 ?_; (case k1 => k_in); (case k2 => k_types); (case k3 => k_is); (case k4 => intro e; cases e); k_whole)))
section
theorem updTurn {h₀ h : Heap} {L : Addr} {u v M : Str → Option Value} {x y : Option Value} (F : Fr h₀ L h (upd [Str.ofString "k"] v (fun z => if z = Str.ofString "struck" then x else if z = Str.ofString "ends" then y else upd turnX u M z))) : Fr h₀ L h (upd turnX (fun z => if z = Str.ofString "k" then v z else if z = Str.ofString "struck" then x else y) M) := by
  have e : (upd [Str.ofString "k"] v (fun z => if z = Str.ofString "struck" then x else if z = Str.ofString "ends" then y else upd turnX u M z)) = upd turnX (fun z => if z = Str.ofString "k" then v z else if z = Str.ofString "struck" then x else y) M := by
    funext z
    unfold upd turnX
    by_cases h1 : z = Str.ofString "k"
    · subst h1; rfl
    by_cases h2 : z = Str.ofString "struck"
    · subst h2; rfl
    by_cases h3 : z = Str.ofString "ends"
    · subst h3; rfl
    have n1 : ¬ ([Str.ofString "k"].contains z = true) := by simpa using h1
    have n2 : ¬ ([Str.ofString "ends", Str.ofString "struck", Str.ofString "k"].contains z = true) := by simp [h1, h2, h3]
    rw [if_neg n1, if_neg n2]
    dsimp only
    rw [if_neg h2, if_neg h3, if_neg n2]
  rw [← e]
  exact F
local macro_rules | `(tactic| walk_at "StarOf ref") => `(tactic| refine hold ?_)
local macro_rules | `(tactic| walk_at "call builtin:len") => `(tactic| refine hold ?_)
local macro_rules | `(tactic| k_all) => `(tactic| assumption)
local macro_rules | `(tactic| walk_at "call ref") => `(tactic| (k_here; (with_reducible show wpAny _ _ (call (Value.ref 648) _ _) _ _ _); refine hold ?_))
local macro_rules | `(tactic| walk_at "call ref") => `(tactic| (k_here; (with_reducible show wpAny _ _ (call (Value.ref 758) _ _) _ _ _); refine hold ?_))
local macro_rules | `(tactic| walk_at "call ref") => `(tactic| (k_here; (with_reducible show wpAny _ _ (call (Value.ref 383) _ _) _ _ _); refine hold ?_))
local macro_rules | `(tactic| walk_at "call ref") => `(tactic| (k_here; (with_reducible show wpAny _ _ (call (Value.ref 355) _ _) _ _ _); refine hold ?_))
local macro_rules | `(tactic| walk_at "newList") => `(tactic| (k_here; (with_reducible show wpAny _ _ (newList []) _ _ _); refine hold ?_))
local macro_rules | `(tactic| walk_at "exec For Name Call cons nil") => `(tactic| (k_dflt (refine For_G ?_)))
local macro_rules | `(tactic| walk_at "m_mix") => `(tactic| first | exact List.forall_mem_nil _ | (refine' List.forall_mem_cons.mpr ⟨?a, ?b⟩; (case a => first | exact Or.inl (by k_mem) | exact Or.inr ⟨by k_mem, notMem3 (by k_ne) (by k_ne) (by k_ne)⟩); (case b => walk_at "m_mix")) | assumption)
set_option maxRecDepth 100000 in
set_option maxHeartbeats 0 in
set_option rowWalk.seconds 0 in
theorem lawTurn2 {w : World} {p : Program} {loose : List Str} {mean : ExcName → Option Value} {mg mb : Str → Option Value}
  {dp un : Nat} {gd : Option (List Code)} {cn : Str} {cs : Scope} {body : List Stmt} {a : Addr} {ccd : Value} {outer : List Env} {A₀ : Around} {base h₀ : Heap} {L : Addr} {m u : Str → Option Value} {s : Shared}
    (hcs : cs = lawScope w.params) (hb : body = (loopBody w.params).drop 2)
    {sz : List Nat} {row0 : List Int} {t : Nat} {tt : Tok} {I lA r b dd sA c0 ln rn szn DL DE : Nat} {oI o6 o7 o8 od bo oc0 : Obj} {lvs rvs szv ysL ysE : List Value} {objs : List (Addr × Obj)} {ps1 ps2 : Array Value}
    (h0 : row0.length = sz.sum) (hsl : 2 ≤ sz.length ∧ sz.length ≤ 5) (hgood : ∀ i, i ≤ t → GoodAt sz i) (hrv : IntsAre rvs (rowI sz row0 t)) (hlv : LastIs lvs (lastI sz row0 t))
    (hdoc : od.IsDictOf (PySem.strKind PySem.Challenge.pw_ae5010_01 w) [(Str.ofString "beside", .ref b), (Str.ofString "row", .ref r)]) (lo : (dd == sysModules) = false)
    (d8 : cellAt o8 (.ref DL)) (hps : TriplesOk ps1.toList) (hnote : NoteOk ps2 c0 oc0)
    (hlL : ysL.length = (lft sz t).length) (hML : ∀ (j : Nat) (y : Value), ysL[j]? = some y → ∃ (i : Nat), (lft sz t)[j]? = some i ∧ MkL sz t i y objs) (hIE : IntsAre ysE ((ensN sz t).map Int.ofNat)) (hob : ∀ p ∈ objs, @Ne Nat p.1 609 ∧ @Ne Nat p.1 753 ∧ @Ne Nat p.1 r ∧ @Ne Nat p.1 lA)
    (hDL : @Ne Nat DL 609 ∧ @Ne Nat DL 753 ∧ @Ne Nat DL r ∧ @Ne Nat DL lA ∧ @Ne Nat DL (L + 7) ∧ @Ne Nat DL (L + 8) ∧ @Ne Nat DL I) (hDE : @Ne Nat DE 609 ∧ @Ne Nat DE 753 ∧ @Ne Nat DE r ∧ @Ne Nat DE lA ∧ @Ne Nat DE (L + 7) ∧ @Ne Nat DE (L + 8) ∧ @Ne Nat DE I ∧ @Ne Nat DE DL)
    (h7 : @LT.lt Nat _ 753 L)
    (hI : @LT.lt Nat _ lA I ∧ @LT.lt Nat _ r I ∧ @LT.lt Nat _ b I ∧ @LT.lt Nat _ dd I ∧ @LT.lt Nat _ sA I ∧ @LT.lt Nat _ (L + 8) I)
    (hlA : @LT.lt Nat _ r lA ∧ @LT.lt Nat _ b lA ∧ @LT.lt Nat _ dd lA ∧ @LT.lt Nat _ sA lA ∧ @LT.lt Nat _ (L + 8) lA)
    (hr : @Ne Nat r (L + 8) ∧ @Ne Nat r (L + 7) ∧ @Ne Nat r (L + 6) ∧ @Ne Nat r 609 ∧ @Ne Nat r 753 ∧ @Ne Nat r sA ∧ @Ne Nat r dd ∧ @Ne Nat r b)
    (hsA : @Ne Nat sA (L + 8) ∧ @Ne Nat sA (L + 7) ∧ @Ne Nat sA (L + 6) ∧ @Ne Nat sA 609 ∧ @Ne Nat sA 753 ∧ @LT.lt Nat _ (L + 8) dd ∧ @LT.lt Nat _ dd b)
    (hc0 : @Ne Nat c0 (L + 8) ∧ @Ne Nat c0 (L + 7) ∧ @Ne Nat c0 (L + 6) ∧ @Ne Nat c0 609 ∧ @Ne Nat c0 753 ∧ @Ne Nat c0 r ∧ @Ne Nat c0 lA ∧ @Ne Nat c0 I ∧ @Ne Nat c0 sA)
    {Q : Flow → Shared → Prop} {E : Value → Shared → Prop}
    (B : Below A₀ base outer h₀) (F : Fr h₀ L s.heap (fun z => if z = Str.ofString "ends" then some (.ref DE) else upd turnX u (lawM lA dd m) z)) (X : (hd.heap_39 w.params).In h₀)
    (N : News h₀ L s.heap ([(DE, LCg.lst ysE), (DL, LCg.lst ysL), (I, oI), (L + 7, o7), (lA, listOf lvs.toArray ln), (r, listOf rvs.toArray rn), (b, bo), (dd, od), (sA, listOf szv.toArray szn), (L + 8, o8), (L + 6, o6), (609, tabObj ps1), (753, tabObj ps2), (c0, oc0)] ++ objs)) (T : Top p loose mean mg mb h₀)
    (hdp : dp + 100 < recursionLimit) (hun : un + 900 < cLine)
    (hret : ∀ u' lvs' ln' rvs' rn' ps1' ps2' c0' oc0' gens' h' tk', LastIs lvs' (lastI sz row0 (t + 1)) → IntsAre rvs' (rowI sz row0 (t + 1)) → TriplesOk ps1'.toList → NoteOk ps2' c0' oc0' → ps2' ≠ #[] → (c0' = c0 ∨ @LT.lt Nat _ I c0') → (AllBare s.gens → AllBare gens') → Fr h₀ L h' (upd turnX u' (lawM lA dd m)) → News h₀ L h' ([(I, oI), (L + 7, o7), (lA, listOf lvs'.toArray ln'), (r, listOf rvs'.toArray rn'), (b, bo), (dd, od), (sA, listOf szv.toArray szn), (L + 8, o8), (L + 6, o6), (609, tabObj ps1'), (753, tabObj ps2'), (c0', oc0')] ++ objs) → Q .next { s with heap := h', toks := tk', gens := gens' }) :
    wpAny (model PySem.Challenge.pw_ae5010_01 w) (ktrTop dp un gd cn cs L a ccd (cellsFrom (L + 1) cs.names []) outer) (execs body (envX cn cs L a ccd (cellsFrom (L + 1) cs.names []))) Q E s := by
  conv at hcs => rhs; whnf
  conv at hb => rhs; whnf
  subst hcs hb
  obtain ⟨hI1, hI2, hI3, hI4, hI5, hI6⟩ := hI
  obtain ⟨hA1, hA2, hA3, hA4, hA5⟩ := hlA
  obtain ⟨hr1, hr2, hr3, hr4, hr5, hr6, hr7, hr8⟩ := hr
  obtain ⟨hs1, hs2, hs3, hs4, hs5, hs6, hs7⟩ := hsA
  obtain ⟨hc1, hc2, hc3, hc4, hc5, hc6, hc7, hc8, hc9⟩ := hc0
  obtain ⟨hL1, hL2, hL3, hL4, hL5, hL6, hL7⟩ := hDL
  obtain ⟨hE1, hE2, hE3, hE4, hE5, hE6, hE7, hE8⟩ := hDE
  obtain ⟨hsl2, hsl5⟩ := hsl
  have hll5 : (lft sz t).length ≤ 5 := by
    have := List.length_filter_le (fun n => decide (t < sz.getD n 0)) (List.range sz.length)
    rw [List.length_range] at this
    exact Nat.le_trans this hsl5
  have hel : ysE.length ≤ 5 := by rw [IntsAre.length hIE, List.length_map, ensN_length]; exact hll5
  simp only [List.cons_append, List.nil_append] at N
  have hg := hgood t (Nat.le_refl t)
  have hrl : (rowI sz row0 t).length = lenN sz t := rowI_length h0 t fun i hi => hgood i (by omega)
  have hxl : (rowI sz row0 t).length ≤ 64 := by rw [hrl]; exact hg.le
  have hrlt : ∀ e ∈ ensN sz t, e < (rowI sz row0 t).length := by rw [hrl]; exact hg.lt
  have hru := hg.up
  clear hg
  k_steps
  unfold Hold
  rename Fr _ _ _ _ => F9
  rename News _ _ _ _ => N9
  refine newList_K F9 N9 ?_ (by decide)
  intro S hS' FS' NS' lS
  have hSo : ∀ p ∈ objs, @LT.lt Nat _ p.1 S := fun p hp => lS p (by repeat (first | exact hp | refine List.Mem.tail _ ?_))
  k_lt lS
  obtain ⟨lS1, lS2, lS3, lS4, lS5, lS6, lS7, lS8, lS9, lSa, lSb, lSc, lSd, lSe, -⟩ := lS
  clear F9 N9
  k_steps
  unfold Hold
  rename (@LT.lt Nat _ _ _) ∧ _ => lFt
  rename @LT.lt Nat _ _ _ => lFx
  rename (@LT.lt Nat _ S _) ∧ _ => lFd
  rename Fr _ _ _ _ => F9
  rename News _ _ _ _ => N9
  k_dflt (refine star_seq (ws := ysE) (a := DE) F9 N9 (by k_mem) (by rfl) (by rfl) (.inl rfl) (by rfl) (by rw [List.size_toArray, sizeLine_eq]; omega) ?_)
  intro hS FS NS
  clear F9 N9
  k_steps
  unfold Hold
  rename Fr _ _ _ _ => F9
  rename News _ _ _ _ => N9
  k_dflt (refine mkidx hel (by k_asm) F9 (by k_asm) N9 (by k_asm) (by rfl) (by ktr_room) (by ktr_units) ?_)
  intro ix dx tx qi kx hX tkX FX NX NX2 ⟨ltX, lt2, lt3⟩
  have N9 : News _ _ hX (_ ++ _) := fun p hp => (List.mem_append.mp hp).elim (NX p) (NX2 p)
  simp only [List.cons_append, List.nil_append] at N9
  clear NX NX2
  k_lt ltX
  k_steps
  unfold Hold
  rename @LT.lt Nat _ _ _ => lCx
  rename (@LT.lt Nat _ _ _) ∧ _ => lCd
  have g1 := lFd.1
  have g2 := Nat.lt_trans lFd.1 lFx
  have g3 := lFt.2.2.1
  have g4 := ltX.2.2.2.1
  have g5 := Nat.lt_trans g4 lt2
  have g6 := Nat.lt_trans g5 lt3
  have g7 := lCd.2.2.2.2.2.2.1
  have g8 := Nat.lt_trans g7 lCx
  rename Fr _ _ _ _ => F9
  rename News _ _ _ _ => N9
  k_dflt (refine noting (S := S) (c0 := c0) (oc0 := oc0) (ps := ps2) (ws := []) (sn := 0) hnote lSd hc5 (Nat.ne_of_lt lSe) (by k_asm) F9 (by k_asm) (KStt.news_of N9 (List.forall_mem_cons.mpr ⟨by k_mem, List.forall_mem_cons.mpr ⟨by k_mem, List.forall_mem_cons.mpr ⟨by k_mem, List.forall_mem_nil _⟩⟩⟩)) (by k_asm) (by rfl) (by ktr_room) (by ktr_units) ?_)
  intro f fo c1 oc cc co ps3 hN tkN FN NN xN hfn hfo hok lf lcc lc1 hne
  have ho3 : ∀ p ∈ objs, @Ne Nat p.1 753 := fun p hp => (hob p hp).2.1
  have NU := news_upd1 N9 (by k_updF) xN (KStt.news_of NN (List.forall_mem_cons.mpr ⟨.head _, List.forall_mem_nil _⟩))
  have NV : News _ _ hN ([(f, fo), (c1, oc), (cc, co)] ++ _) := fun p hp => (List.mem_append.mp hp).elim (fun q => NN p (.tail _ (by revert q; intro q; rcases List.mem_cons.mp q with rfl | q; exact .head _; rcases List.mem_cons.mp q with rfl | q; exact .tail _ (.head _); rcases List.mem_cons.mp q with rfl | q; exact .tail _ (.tail _ (.head _)); exact absurd q List.not_mem_nil))) (NU p)
  simp only [List.cons_append, List.nil_append] at NV
  try dsimp only at NV
  clear NU NN N9
  k_steps
  unfold Hold
  rename Fr _ _ _ _ => F9
  rename News _ _ _ _ => N9
  have hc1 : @Ne Nat S c1 ∧ @Ne Nat 609 c1 ∧ @Ne Nat r c1 := by
    rcases lc1 with e | e
    · exact ⟨fun q => Nat.ne_of_gt lSe (q.trans e), fun q => hc4 (q.trans e).symm, fun q => hc6 (q.trans e).symm⟩
    · exact ⟨Nat.ne_of_lt e, Nat.ne_of_lt (Nat.lt_trans lSc e), Nat.ne_of_lt (Nat.lt_trans lS6 e)⟩
  have q9A : @LT.lt Nat _ 753 lA := Nat.lt_trans h7 (Nat.lt_of_le_of_lt (Nat.le_add_right L 8) hA5)
  have ho6 : ∀ p ∈ objs, @Ne Nat p.1 609 := fun p hp => (hob p hp).1
  have hoS : ∀ p ∈ objs, @Ne Nat p.1 S := fun p hp => Nat.ne_of_lt (hSo p hp)
  have hor : ∀ p ∈ objs, @Ne Nat p.1 r := fun p hp => (hob p hp).2.2.1
  have hoA : ∀ p ∈ objs, @Ne Nat p.1 lA := fun p hp => (hob p hp).2.2.2
  k_dflt (refine chfil (fo := fo) (c1 := c1) (oc := oc) (cc := cc) (co := co) (S := S) (ws := []) (b := b) (od := od) hrv hxl hIE hrlt hru (by simp only [List.length_nil]; rw [ensN_length]; omega) hdoc lo hfn hfo hps (Ne.symm hr4) lSc lS6 ⟨g8, g7, g2, g1, g3, g5, g4, g6, lf, hc1, lcc⟩ (by k_asm) F9 (by k_asm) (KStt.news_of N9 (by walk_at "m_keep")) (by k_asm) (by rfl) (by ktr_room) (by ktr_units) ?_)
  intro hF tkF gensF vsF nF snF psF hvF FF NF hpsF xF hbare
  have w6 : ∀ x, @LT.lt Nat _ 753 x → @Ne Nat x 609 := fun x q => Nat.ne_of_gt (Nat.lt_trans (by decide) q)
  have w8 : ∀ k, @LT.lt Nat _ 753 (L + k) := fun k => Nat.lt_of_lt_of_le h7 (Nat.le_add_right L k)
  have NU : News h₀ L hF ([(lA, listOf lvs.toArray ln), (L + 8, o8), (DL, LCg.lst ysL), (S, listOf ([] ++ (ensN sz t).map fun e => rvs.getD e .none).toArray snF), (I, oI), (L + 7, o7), (r, listOf vsF.toArray nF), (b, bo), (dd, od), (sA, listOf szv.toArray szn), (L + 6, o6), (609, tabObj psF), (753, tabObj ps3), (c1, oc)] ++ objs) := by
    refine news_mix N9 xF NF (List.forall_mem_append.mpr ⟨?_, fun p hp => .inr ⟨by repeat (first | exact hp | refine List.Mem.tail _ ?_), notMem3 (ho6 p hp) (hoS p hp) (hor p hp)⟩⟩)
    refine List.forall_mem_cons.mpr ⟨.inr ⟨by k_mem, notMem3 (w6 _ q9A) (Nat.ne_of_lt lS5) (Nat.ne_of_gt hA1)⟩, ?_⟩
    refine List.forall_mem_cons.mpr ⟨.inr ⟨by k_mem, notMem3 (w6 _ (w8 8)) (Nat.ne_of_lt lSa) (Ne.symm hr1)⟩, ?_⟩
    refine List.forall_mem_cons.mpr ⟨.inr ⟨by k_mem, notMem3 hL1 (Nat.ne_of_lt lS2) hL3⟩, ?_⟩
    refine List.forall_mem_cons.mpr ⟨.inl (by k_mem), ?_⟩
    refine List.forall_mem_cons.mpr ⟨.inr ⟨by k_mem, notMem3 (w6 _ (Nat.lt_trans q9A hI1)) (Nat.ne_of_lt lS3) (Nat.ne_of_gt hI2)⟩, ?_⟩
    refine List.forall_mem_cons.mpr ⟨.inr ⟨by k_mem, notMem3 (w6 _ (w8 7)) (Nat.ne_of_lt lS4) (Ne.symm hr2)⟩, ?_⟩
    refine List.forall_mem_cons.mpr ⟨.inl (by k_mem), ?_⟩
    refine List.forall_mem_cons.mpr ⟨.inr ⟨by k_mem, notMem3 (w6 _ (Nat.lt_trans (Nat.lt_trans (w8 8) hs6) hs7)) (Nat.ne_of_lt lS7) (Ne.symm hr8)⟩, ?_⟩
    refine List.forall_mem_cons.mpr ⟨.inl (by k_mem), ?_⟩
    refine List.forall_mem_cons.mpr ⟨.inr ⟨by k_mem, notMem3 hs4 (Nat.ne_of_lt lS9) (Ne.symm hr6)⟩, ?_⟩
    refine List.forall_mem_cons.mpr ⟨.inr ⟨by k_mem, notMem3 (w6 _ (w8 6)) (Nat.ne_of_lt lSb) (Ne.symm hr3)⟩, ?_⟩
    refine List.forall_mem_cons.mpr ⟨.inl (by k_mem), ?_⟩
    refine List.forall_mem_cons.mpr ⟨.inr ⟨by k_mem, notMem3 (fun q => absurd (show (753 : Nat) = 609 from q) (by decide)) (Nat.ne_of_lt lSd) (Ne.symm hr5)⟩, ?_⟩
    refine List.forall_mem_cons.mpr ⟨.inr ⟨by k_mem, notMem3 (Ne.symm hc1.2.1) (Ne.symm hc1.1) (Ne.symm hc1.2.2)⟩, List.forall_mem_nil _⟩
  clear N9 NF
  simp only [List.nil_append, List.cons_append] at NU
  have hSl : ((ensN sz t).map fun e => rvs.getD e .none).length = (lft sz t).length := by rw [List.length_map, ensN_length]
  k_steps
  unfold Hold
  rename News _ _ _ _ => N9
  k_dflt (refine len_list (items := ((ensN sz t).map fun e => rvs.getD e .none).toArray) (News.isList N9 (by k_mem)) (by rw [List.size_toArray, hSl]; omega) ?_)
  k_steps
  unfold Hold
  rename News _ _ _ _ => N9
  k_dflt (refine len_list (items := ysL.toArray) (News.isList N9 (by k_mem)) (by rw [List.size_toArray, hlL]; omega) ?_)
  rw [List.size_toArray, List.size_toArray, hSl, hlL]
  k_steps
  · exact absurd rfl (by assumption)
  unfold Hold
  rename News _ _ _ _ => N9
  k_dflt (refine len_list (items := ysL.toArray) (News.isList N9 (by k_mem)) (by rw [List.size_toArray, hlL]; omega) ?_)
  rw [List.size_toArray, hlL]
  k_steps
  rename IsRange _ _ _ _ _ _ _ _ => R9
  rename Fr _ _ _ _ => F9
  rename News _ _ _ _ => N9
  have hzl : (struckI sz (rowI sz row0 t) t).length = (lft sz t).length := by rw [struckI, List.length_map, ensN_length]
  k_dflt (refine set_loop (lA := lA) (cL := L + 8) (DL := DL) (S := S) (zs := struckI sz (rowI sz row0 t) t) (ns := lft sz t) (ls := lastI sz row0 t) (n := (lft sz t).length) (rest := [(I, oI), (L + 7, o7), (r, listOf vsF.toArray nF), (b, bo), (dd, od), (sA, listOf szv.toArray szn), (L + 6, o6), (609, tabObj psF), (753, tabObj ps3), (c1, oc)] ++ objs) (by rfl) (by rfl) (by rfl) (by rfl) (by rfl) (by rfl) (by with_unfolding_all rfl) (by rfl) (by rfl) (by rfl) (by rfl) (by decide) (by decide) R9 (small_int (by decide) (by decide) (by omega) (by omega)) (size_int _ (by omega)) F9 (by rfl) (by rfl) (KStt.news_of N9 fun p hp => by repeat (first | exact hp | refine List.Mem.tail _ ?_)) d8 ⟨Nat.ne_of_lt hA5, hL4, Nat.ne_of_gt lS5⟩ ?nr (pick_ints hrv _ hrlt) hzl rfl hlL (by omega) ?hm hlv ?hnl (by rw [lastI_length]; omega) ?_)
  case nr =>
    refine List.forall_mem_append.mpr ⟨?_, hoA⟩
    refine List.forall_mem_cons.mpr ⟨Nat.ne_of_gt hI1, ?_⟩
    refine List.forall_mem_cons.mpr ⟨Nat.ne_of_lt (Nat.lt_trans (Nat.lt_succ_self (L + 7)) hA5), ?_⟩
    refine List.forall_mem_cons.mpr ⟨Nat.ne_of_lt hA1, ?_⟩
    refine List.forall_mem_cons.mpr ⟨Nat.ne_of_lt hA2, ?_⟩
    refine List.forall_mem_cons.mpr ⟨Nat.ne_of_lt hA3, ?_⟩
    refine List.forall_mem_cons.mpr ⟨Nat.ne_of_lt hA4, ?_⟩
    refine List.forall_mem_cons.mpr ⟨Nat.ne_of_lt (Nat.lt_trans (Nat.add_lt_add_left (by decide) L) hA5), ?_⟩
    refine List.forall_mem_cons.mpr ⟨Nat.ne_of_lt (Nat.lt_trans (by decide : 609 < 753) q9A), ?_⟩
    refine List.forall_mem_cons.mpr ⟨Nat.ne_of_lt q9A, ?_⟩
    refine List.forall_mem_cons.mpr ⟨?_, List.forall_mem_nil _⟩
    exact lc1.elim (fun e q => hc7 (e.symm.trans q)) fun e => Nat.ne_of_gt (Nat.lt_trans lS5 e)
  case hm =>
    intro j y hy
    obtain ⟨i, hi, a1, u1, u2, k1, h1, h2⟩ := hML j y hy
    exact ⟨i, hi, a1, u1, u2, k1, _, h1, List.mem_append_right _ h2⟩
  case hnl =>
    intro i hi
    rw [lastI_length]
    exact List.mem_range.mp (List.mem_filter.mp hi).1
  intro u9 lvs' ln' h9 tk9 hL9 FL NL
  clear F9 N9 R9
  k_steps
  unfold Hold
  rename Fr _ _ _ _ => F9
  rename News _ _ _ _ => N9
  have hsl9 : (strikeOut (ensN sz t) (rowI sz row0 t)).length ≤ 64 := by rw [strikeOut_length hru hrlt]; omega
  k_dflt (refine chup (b := b) (od := od) hvF hsl9 hdoc lo (by k_asm) F9 (by k_asm) (KStt.news_of N9 (by walk_at "m_keep")) (by k_asm) (by rfl) (by ktr_room) (by ktr_units) ?_)
  intro hC tkC vsC nC hvC FC NC xC
  have NU : News h₀ L hC ([(I, oI), (L + 7, o7), (lA, listOf lvs'.toArray ln'), (r, listOf vsC.toArray nC), (b, bo), (dd, od), (sA, listOf szv.toArray szn), (L + 8, o8), (L + 6, o6), (609, tabObj psF), (753, tabObj ps3), (c1, oc)] ++ objs) := by
    refine news_mix N9 xC NC (List.forall_mem_append.mpr ⟨?_, fun p hp => .inr ⟨by repeat (first | exact hp | refine List.Mem.tail _ ?_), fun q => hor p hp (List.mem_singleton.mp q)⟩⟩)
    refine List.forall_mem_cons.mpr ⟨.inr ⟨by k_mem, fun q => Nat.ne_of_gt hI2 (List.mem_singleton.mp q)⟩, ?_⟩
    refine List.forall_mem_cons.mpr ⟨.inr ⟨by k_mem, fun q => hr2 (List.mem_singleton.mp q).symm⟩, ?_⟩
    refine List.forall_mem_cons.mpr ⟨.inr ⟨by k_mem, fun q => Nat.ne_of_gt hA1 (List.mem_singleton.mp q)⟩, ?_⟩
    refine List.forall_mem_cons.mpr ⟨.inl (by k_mem), ?_⟩
    refine List.forall_mem_cons.mpr ⟨.inr ⟨by k_mem, fun q => hr8 (List.mem_singleton.mp q).symm⟩, ?_⟩
    refine List.forall_mem_cons.mpr ⟨.inl (by k_mem), ?_⟩
    refine List.forall_mem_cons.mpr ⟨.inr ⟨by k_mem, fun q => hr6 (List.mem_singleton.mp q).symm⟩, ?_⟩
    refine List.forall_mem_cons.mpr ⟨.inr ⟨by k_mem, fun q => hr1 (List.mem_singleton.mp q).symm⟩, ?_⟩
    refine List.forall_mem_cons.mpr ⟨.inr ⟨by k_mem, fun q => hr3 (List.mem_singleton.mp q).symm⟩, ?_⟩
    refine List.forall_mem_cons.mpr ⟨.inr ⟨by k_mem, fun q => hr4 (List.mem_singleton.mp q).symm⟩, ?_⟩
    refine List.forall_mem_cons.mpr ⟨.inr ⟨by k_mem, fun q => hr5 (List.mem_singleton.mp q).symm⟩, ?_⟩
    refine List.forall_mem_cons.mpr ⟨.inr ⟨by k_mem, fun q => hc1.2.2 (List.mem_singleton.mp q).symm⟩, List.forall_mem_nil _⟩
  clear N9 NC
  k_steps
  k_dflt (refine hret _ _ _ _ _ _ _ _ _ _ _ _ hL9 hvC hpsF hok hne (lc1.imp (fun e => e) fun e => Nat.lt_trans lS3 e) hbare (updTurn FC) NU)
end
end
section
theorem fresh_LawC : True := by
  w_top off
  exact trivial
local macro_rules | `(tactic| walk_at "call builtin:callable") => `(tactic| (k_here; k_dflt (refine' callable_K ?X ?e ?_; (case X => k_in); (case e => k_is); k_whole)))
local macro_rules | `(tactic| walk_at "subscriptTail Call Name cons nil Slice ref ref") => `(tactic| (k_here; k_dflt (refine kba_turn (value' := PySem.Expr.Name (PySem.Str.ofString "_") ⟨0, 0, 0, 0⟩) (fun _ => rfl) ?_)))
local macro_rules | `(tactic| walk_at "subscriptTail Name Slice ref ref") => `(tactic| (k_here; (rename IsRange _ _ _ _ _ _ _ _ => R'); k_dflt (refine' range_slice_tail ?F ?N R' ?k ?b ?b2 ?_ ?hs ?ht; (case F => k_asm); (case N => k_asm); (case k => omega); (case b => omega); (case b2 => omega); (case hs => with_unfolding_all rfl); (case ht => kmk_pure)); clear R'; intro D' h' tk' t' u' v' R' F' N'; (try k_sweep)))
local macro_rules | `(tactic| walk_at "call builtin:isinstance") => `(tactic| (k_here; (with_reducible show wpAny _ _ (call _ [Value.ref _, Value.ref _]) _ _ _); k_dflt (refine isn_dictOf (knd := PySem.strKind _ _) (hd := by with_reducible assumption) (by k_in) (by k_asm) (by k_mem) (by k_not) ?_)))
local macro_rules | `(tactic| walk_at "call builtin:isinstance") => `(tactic| (k_here; (with_reducible show wpAny _ _ (call _ [Value.ref _, Value.ref _]) _ _ _); k_dflt (refine' isi_call ?k1 ?k2 ?k3 ?k4 ?_; (case k1 => k_in); (case k2 => k_types); (case k3 => k_is); (case k4 => intro e; cases e); k_whole)))
section
theorem upd_self (xs : List Str) (M : Str → Option Value) : upd xs M M = M := by
  funext z
  unfold upd
  split <;> rfl
theorem last_size {sz : List Nat} (h2 : 2 ≤ sz.length) : (sz.map Int.ofNat).getD (-1 + ((sz.map Int.ofNat).length : Int)).toNat 0 = ((sz.getD (sz.length - 1) 0 : Nat) : Int) := by
  rw [show (-1 + ((sz.map Int.ofNat).length : Int)).toNat = sz.length - 1 by rw [List.length_map]; omega]
  exact getD_ints sz _
/-- what stands after the rounds -/
structure Rounds (w : World) (sz : List Nat) (row0 : List Int) (L lA r b dd sA pA : Addr) (bo od po o6 o5 o4 o3 : Obj) (szv : List Value) (szn : Nat) (M : Str → Option Value) (g₀ : Array GenState) (i : Nat) (m₁ : Str → Option Value) (led : List (Addr × Obj)) (g : Array GenState) : Prop where
  bare : AllBare g₀ → AllBare g
  ex : ∃ (u : Str → Option Value) (lvs rvs : List Value) (ln rn : Nat) (ps1 ps2 : Array Value) (c0 : Nat) (oc0 o8 : Obj) (v8 : Option Value), m₁ = upd turnX u M ∧
    led = [(lA, listOf lvs.toArray ln), (r, listOf rvs.toArray rn), (b, bo), (dd, od), (sA, listOf szv.toArray szn), (L + 8, o8), (L + 6, o6), (609, tabObj ps1), (753, tabObj ps2), (c0, oc0), (pA, po), (L + 5, o5), (L + 4, o4), (L + 3, o3)] ∧
    LastIs lvs (lastI sz row0 i) ∧ IntsAre rvs (rowI sz row0 i) ∧ TriplesOk ps1.toList ∧ NoteOk ps2 c0 oc0 ∧ o8.data = .cell v8 ∧
    (@Ne Nat c0 (L + 8) ∧ @Ne Nat c0 (L + 7) ∧ @Ne Nat c0 (L + 6) ∧ @Ne Nat c0 609 ∧ @Ne Nat c0 753 ∧ @Ne Nat c0 r ∧ @Ne Nat c0 lA ∧ @Ne Nat c0 sA)
local macro_rules | `(tactic| walk_at "exec For Name Call cons nil") => `(tactic| (k_dflt (refine For_G ?_)))
set_option maxRecDepth 100000 in
set_option maxHeartbeats 0 in
set_option rowWalk.seconds 0 in
theorem lawC {w : World} {p : Program} {loose : List Str} {mean : ExcName → Option Value} {mg mb : Str → Option Value}
  {dp un : Nat} {gd : Option (List Code)} {cn : Str} {cs : Scope} {body : List Stmt} {a : Addr} {ccd : Value} {outer : List Env} {A₀ : Around} {base h₀ : Heap} {L : Addr} {m : Str → Option Value} {s : Shared}
    (hcs : cs = lawScope w.params) (hb : body = (lawStmts w.params).drop 6)
    {sz : List Nat} {row0 : List Int} {lA dd b r sA pA rn szn : Nat} {od bo po : Obj} {rvs szv : List Value} {o3 o4 o5 o6 o7 o8 : Obj} {v7 v8 : Option Value}
    (hsl : 2 ≤ sz.length ∧ sz.length ≤ 5) (hsum : sz.sum ≤ 64) (hgood : ∀ i, i < sz.getD (sz.length - 1) 0 → GoodAt sz i) (hT : sz.getD (sz.length - 1) 0 ≤ 64) (h0 : row0.length = sz.sum) (hsz : IntsAre szv (sz.map Int.ofNat)) (hrv : IntsAre rvs row0)
    (hdoc : od.IsDictOf (PySem.strKind PySem.Challenge.pw_ae5010_01 w) [(Str.ofString "beside", .ref b), (Str.ofString "row", .ref r)]) (lo : (dd == sysModules) = false) (d6 : cellAt o6 (.ref sA)) (d7 : o7.data = .cell v7) (d8 : o8.data = .cell v8)
    (h7 : @LT.lt Nat _ 753 L) (hpA : @LT.lt Nat _ (L + 8) pA)
    (hsA : @Ne Nat sA (L + 8) ∧ @Ne Nat sA (L + 7) ∧ @Ne Nat sA (L + 6) ∧ @Ne Nat sA (L + 5) ∧ @Ne Nat sA (L + 4) ∧ @Ne Nat sA (L + 3) ∧ @Ne Nat sA 609 ∧ @Ne Nat sA 753 ∧ @Ne Nat sA pA ∧ @LT.lt Nat _ sA dd ∧ @LT.lt Nat _ (L + 8) dd ∧ @LT.lt Nat _ pA dd ∧ @LT.lt Nat _ dd b ∧ @LT.lt Nat _ b lA ∧ @LT.lt Nat _ r lA)
    (hr : @Ne Nat r (L + 8) ∧ @Ne Nat r (L + 7) ∧ @Ne Nat r (L + 6) ∧ @Ne Nat r (L + 5) ∧ @Ne Nat r (L + 4) ∧ @Ne Nat r (L + 3) ∧ @Ne Nat r 609 ∧ @Ne Nat r 753 ∧ @Ne Nat r sA ∧ @Ne Nat r dd ∧ @Ne Nat r b ∧ @Ne Nat r pA)
    {Q : Flow → Shared → Prop} {E : Value → Shared → Prop}
    (B : Below A₀ base outer h₀) (F : Fr h₀ L s.heap (lawM lA dd m)) (X : (hd.heap_39 w.params).In h₀)
    (N : News h₀ L s.heap [(lA, listOf (List.replicate sz.length Value.none).toArray 0), (r, listOf rvs.toArray rn), (b, bo), (dd, od), (sA, listOf szv.toArray szn), (pA, po), (L + 8, o8), (L + 7, o7), (L + 6, o6), (L + 5, o5), (L + 4, o4), (L + 3, o3), (609, tabObj #[]), (753, tabObj #[])]) (T : Top p loose mean mg mb h₀)
    (hdp : dp + 100 < recursionLimit) (hun : un + 900 < cLine)
    (hnext : ∀ m₁ led o7' v7' h' tk' g', Rounds w sz row0 L lA r b dd sA pA bo od po o6 o5 o4 o3 szv szn (lawM lA dd m) s.gens (sz.getD (sz.length - 1) 0) m₁ led g' → o7'.data = .cell v7' → Fr h₀ L h' m₁ → News h₀ L h' ((L + 7, o7') :: led) →
      wpAny (model PySem.Challenge.pw_ae5010_01 w) (ktrTop dp un gd cn cs L a ccd (cellsFrom (L + 1) cs.names []) outer) (execs ((lawStmts w.params).drop 7) (envX cn cs L a ccd (cellsFrom (L + 1) cs.names []))) Q E { s with heap := h', toks := tk', gens := g' }) :
    wpAny (model PySem.Challenge.pw_ae5010_01 w) (ktrTop dp un gd cn cs L a ccd (cellsFrom (L + 1) cs.names []) outer) (execs body (envX cn cs L a ccd (cellsFrom (L + 1) cs.names []))) Q E s := by
  have hcs0 := hcs
  have hb0 := hb
  conv at hcs => rhs; whnf
  conv at hb => rhs; whnf
  subst hcs hb
  obtain ⟨hs1, hs2, hs3, hs4, hs5, hs6, hs7, hs8, hs9, hsa, hsb, hsc, hsd, hse, hsf⟩ := hsA
  obtain ⟨hr1, hr2, hr3, hr4, hr5, hr6, hr7, hr8, hr9, hra, hrb, hrc⟩ := hr
  k_steps
  rename IsRange _ _ _ _ _ _ _ _ => R9
  rename Fr _ _ _ _ => F9
  rename News _ _ _ _ => N9
  rw [last_size hsl.1] at R9
  have hF : ∀ {h : Heap}, Fr h₀ L h (lawM lA dd m) → Fr h₀ L h (upd turnX (lawM lA dd m) (lawM lA dd m)) := fun F => by rw [upd_self]; exact F
  have hcx : ∀ k, @Ne Nat (L + 7) (L + k) → @Ne Nat (L + k) (L + 7) := fun k q => Ne.symm q
  k_dflt (refine iter_range_C (cx := L + 7) (oc₀ := o7) (w₀ := v7) (n := sz.getD (sz.length - 1) 0) (m₀ := upd turnX (lawM lA dd m) (lawM lA dd m)) (led := [(lA, listOf (List.replicate sz.length Value.none).toArray 0), (r, listOf rvs.toArray rn), (b, bo), (dd, od), (sA, listOf szv.toArray szn), (L + 8, o8), (L + 6, o6), (609, tabObj #[]), (753, tabObj #[]), (b, bo), (pA, po), (L + 5, o5), (L + 4, o4), (L + 3, o3)]) (Rounds w sz row0 L lA r b dd sA pA bo od po o6 o5 o4 o3 szv szn (lawM lA dd m) s.gens) (by rfl) (by rfl) (by rfl) (by with_unfolding_all rfl) R9 (small_int (by decide) (by decide) (by omega) (by omega)) (size_int _ (by omega)) (hF F9) (KStt.news_of N9 (by walk_at "m_keep")) d7 ?hcl ⟨fun q => q, _, _, _, _, _, _, _, _, _, _, _, rfl, rfl, LastIs.nones _, hrv, ?tri, .inl rfl, d8, ?c0⟩ ?turn ?done)
  case hcl =>
    refine List.forall_mem_cons.mpr ⟨by show @Ne Nat _ _; omega, ?_⟩
    refine List.forall_mem_cons.mpr ⟨hr2, ?_⟩
    refine List.forall_mem_cons.mpr ⟨by show @Ne Nat _ _; omega, ?_⟩
    refine List.forall_mem_cons.mpr ⟨by show @Ne Nat _ _; omega, ?_⟩
    refine List.forall_mem_cons.mpr ⟨hs2, ?_⟩
    refine List.forall_mem_cons.mpr ⟨by show @Ne Nat _ _; omega, ?_⟩
    refine List.forall_mem_cons.mpr ⟨by show @Ne Nat _ _; omega, ?_⟩
    refine List.forall_mem_cons.mpr ⟨by show @Ne Nat _ _; omega, ?_⟩
    refine List.forall_mem_cons.mpr ⟨by show @Ne Nat _ _; omega, ?_⟩
    refine List.forall_mem_cons.mpr ⟨by show @Ne Nat _ _; omega, ?_⟩
    refine List.forall_mem_cons.mpr ⟨by show @Ne Nat _ _; omega, ?_⟩
    refine List.forall_mem_cons.mpr ⟨by show @Ne Nat _ _; omega, ?_⟩
    refine List.forall_mem_cons.mpr ⟨by show @Ne Nat _ _; omega, ?_⟩
    refine List.forall_mem_cons.mpr ⟨by show @Ne Nat _ _; omega, List.forall_mem_nil _⟩
  case tri => trivial
  case c0 => refine ⟨?_, ?_, ?_, ?_, ?_, ?_, ?_, ?_⟩ <;> omega
  case turn =>
    rintro i t I oI oc m₁ led₁ h tk g E' hi hltI ⟨hbare, u, lvs, rvs', ln, rn', ps1, ps2, c0, oc0, o8', v8', rfl, rfl, hL, hR, htr, hnote, d8', hc1, hc2, hc3, hc4, hc5, hc6, hc7, hc8⟩ hnI hnc hoc F₁ N₁
    have hlI : @LT.lt Nat _ lA I := hltI (lA, _) (.tail _ (.head _))
    have hcI : @Ne Nat c0 I := hnI (c0, oc0) (.tail _ (.tail _ (.tail _ (.tail _ (.tail _ (.tail _ (.tail _ (.tail _ (.tail _ (.head _))))))))))
    have g1 : @LT.lt Nat _ pA lA ∧ @LT.lt Nat _ (L + 8) pA := by omega
    have g2 : @LT.lt Nat _ lA I ∧ @LT.lt Nat _ r I ∧ @LT.lt Nat _ b I ∧ @LT.lt Nat _ dd I ∧ @LT.lt Nat _ sA I ∧ @LT.lt Nat _ (L + 8) I := by omega
    have g3 : @LT.lt Nat _ r lA ∧ @LT.lt Nat _ b lA ∧ @LT.lt Nat _ dd lA ∧ @LT.lt Nat _ sA lA ∧ @LT.lt Nat _ (L + 8) lA := by omega
    refine lawTurn1 (po := po) (o3 := o3) (o4 := o4) (o5 := o5) hcs0 (by unfold loopBody; rw [← hb0]) h0 hsl (fun j hj => hgood j (by omega)) hsz hR hL hdoc lo d6 hoc d8' htr hnote h7 g1 g2 g3 ⟨hr1, hr2, hr3, hr7, hr8, hr9, hra, hrb⟩ ⟨hs1, hs2, hs3, hs7, hs8, hsb, hsd⟩ ⟨hc1, hc2, hc3, hc4, hc5, hc6, hc7, hcI, hc8⟩ B F₁ X N₁ T hdp hun ?_
    intro DL ysL objs DE ysE o8'' h' tk' hlen hML hIE hob hDL hDE d8'' F₂ N₂
    simp only [List.cons_append, List.nil_append] at N₂
    refine lawTurn2 (tt := t) (objs := [(pA, po), (L + 5, o5), (L + 4, o4), (L + 3, o3)] ++ objs) hcs0 rfl h0 hsl (fun j hj => hgood j (by omega)) hR hL hdoc lo d8'' htr hnote hlen (fun j y hy => (hML j y hy).imp fun q hq => ⟨hq.1, MkL.mono hq.2 fun p hp => List.mem_append_right _ hp⟩) hIE (List.forall_mem_append.mpr ⟨?_, fun p hp => ?_⟩) hDL hDE h7 g2 g3 ⟨hr1, hr2, hr3, hr7, hr8, hr9, hra, hrb⟩ ⟨hs1, hs2, hs3, hs7, hs8, hsb, hsd⟩ ⟨hc1, hc2, hc3, hc4, hc5, hc6, hc7, hcI, hc8⟩ B F₂ X (by simp only [List.cons_append, List.nil_append]; exact N₂) T hdp hun ?_
    · have w5 : ∀ k, @LT.lt Nat _ 753 (L + k) := fun k => Nat.lt_of_lt_of_le h7 (Nat.le_add_right L k)
      have w6 : ∀ k, k ≤ 8 → @LT.lt Nat _ (L + k) lA := fun k hk => Nat.lt_of_le_of_lt (Nat.add_le_add_left hk L) g3.2.2.2.2
      have w7 : ∀ x, @LT.lt Nat _ 753 x → @Ne Nat x 609 ∧ @Ne Nat x 753 := fun x q => ⟨Nat.ne_of_gt (Nat.lt_trans (by decide) q), Nat.ne_of_gt q⟩
      have wp := w7 pA (Nat.lt_trans (w5 8) hpA)
      refine List.forall_mem_cons.mpr ⟨⟨wp.1, wp.2, Ne.symm hrc, Nat.ne_of_lt g1.1⟩, ?_⟩
      refine List.forall_mem_cons.mpr ⟨⟨(w7 _ (w5 5)).1, (w7 _ (w5 5)).2, Ne.symm hr4, Nat.ne_of_lt (w6 5 (by decide))⟩, ?_⟩
      refine List.forall_mem_cons.mpr ⟨⟨(w7 _ (w5 4)).1, (w7 _ (w5 4)).2, Ne.symm hr5, Nat.ne_of_lt (w6 4 (by decide))⟩, ?_⟩
      refine List.forall_mem_cons.mpr ⟨⟨(w7 _ (w5 3)).1, (w7 _ (w5 3)).2, Ne.symm hr6, Nat.ne_of_lt (w6 3 (by decide))⟩, List.forall_mem_nil _⟩
    · have q1 := hob p hp
      have q2 : @LT.lt Nat _ 753 lA := Nat.lt_trans (Nat.lt_of_lt_of_le h7 (Nat.le_add_right L 8)) g3.2.2.2.2
      exact ⟨Nat.ne_of_gt (Nat.lt_trans (Nat.lt_trans (by decide) q2) q1), Nat.ne_of_gt (Nat.lt_trans q2 q1), Nat.ne_of_gt (Nat.lt_trans g3.1 q1), Nat.ne_of_gt q1⟩
    intro u' lvs' ln' rvs'' rn'' ps1' ps2' c0' oc0' gens' h'' tk'' hL' hR' htr' hn' hne' hc' hb' F' N'
    have hcc : @Ne Nat c0' (L + 8) ∧ @Ne Nat c0' (L + 7) ∧ @Ne Nat c0' (L + 6) ∧ @Ne Nat c0' 609 ∧ @Ne Nat c0' 753 ∧ @Ne Nat c0' r ∧ @Ne Nat c0' lA ∧ @Ne Nat c0' sA ∧ @Ne Nat c0' I := by
      rcases hc' with e | e
      · rw [e]; exact ⟨hc1, hc2, hc3, hc4, hc5, hc6, hc7, hc8, hcI⟩
      · have q1 : ∀ k, k ≤ 8 → @LT.lt Nat _ (L + k) c0' := fun k hk => Nat.lt_of_le_of_lt (Nat.add_le_add_left hk L) (Nat.lt_trans g2.2.2.2.2.2 e)
        have q2 : @LT.lt Nat _ 753 c0' := Nat.lt_of_lt_of_le h7 (Nat.le_of_lt (q1 0 (by decide)))
        exact ⟨Nat.ne_of_gt (q1 8 (by decide)), Nat.ne_of_gt (q1 7 (by decide)), Nat.ne_of_gt (q1 6 (by decide)), Nat.ne_of_gt (Nat.lt_trans (by decide) q2), Nat.ne_of_gt q2, Nat.ne_of_gt (Nat.lt_trans g2.2.1 e), Nat.ne_of_gt (Nat.lt_trans g2.1 e), Nat.ne_of_gt (Nat.lt_trans g2.2.2.2.2.1 e), Nat.ne_of_gt e⟩
    refine ⟨h'', tk'', gens', _, [(lA, listOf lvs'.toArray ln'), (r, listOf rvs''.toArray rn''), (b, bo), (dd, od), (sA, listOf szv.toArray szn), (L + 8, o8''), (L + 6, o6), (609, tabObj ps1'), (753, tabObj ps2'), (c0', oc0'), (pA, po), (L + 5, o5), (L + 4, o4), (L + 3, o3)], oc, _, rfl, F', fun p hp => N' p (List.mem_append_left objs hp), hoc, ?_, ?_, ⟨fun q => hb' (hbare q), _, _, _, _, _, _, _, _, _, _, _, rfl, rfl, hL', hR', htr', hn', d8'', hcc.1, hcc.2.1, hcc.2.2.1, hcc.2.2.2.1, hcc.2.2.2.2.1, hcc.2.2.2.2.2.1, hcc.2.2.2.2.2.2.1, hcc.2.2.2.2.2.2.2.1⟩⟩
    · refine List.forall_mem_cons.mpr ⟨by show @Ne Nat _ _; omega, ?_⟩
      refine List.forall_mem_cons.mpr ⟨by show @Ne Nat _ _; omega, ?_⟩
      refine List.forall_mem_cons.mpr ⟨by show @Ne Nat _ _; omega, ?_⟩
      refine List.forall_mem_cons.mpr ⟨by show @Ne Nat _ _; omega, ?_⟩
      refine List.forall_mem_cons.mpr ⟨by show @Ne Nat _ _; omega, ?_⟩
      refine List.forall_mem_cons.mpr ⟨by show @Ne Nat _ _; omega, ?_⟩
      refine List.forall_mem_cons.mpr ⟨by show @Ne Nat _ _; omega, ?_⟩
      refine List.forall_mem_cons.mpr ⟨by show @Ne Nat _ _; omega, ?_⟩
      refine List.forall_mem_cons.mpr ⟨by show @Ne Nat _ _; omega, ?_⟩
      refine List.forall_mem_cons.mpr ⟨hcc.2.2.2.2.2.2.2.2, ?_⟩
      refine List.forall_mem_cons.mpr ⟨by show @Ne Nat _ _; omega, ?_⟩
      refine List.forall_mem_cons.mpr ⟨by show @Ne Nat _ _; omega, ?_⟩
      refine List.forall_mem_cons.mpr ⟨by show @Ne Nat _ _; omega, ?_⟩
      refine List.forall_mem_cons.mpr ⟨by show @Ne Nat _ _; omega, List.forall_mem_nil _⟩
    · refine List.forall_mem_cons.mpr ⟨by show @Ne Nat _ _; omega, ?_⟩
      refine List.forall_mem_cons.mpr ⟨hr2, ?_⟩
      refine List.forall_mem_cons.mpr ⟨by show @Ne Nat _ _; omega, ?_⟩
      refine List.forall_mem_cons.mpr ⟨by show @Ne Nat _ _; omega, ?_⟩
      refine List.forall_mem_cons.mpr ⟨hs2, ?_⟩
      refine List.forall_mem_cons.mpr ⟨by show @Ne Nat _ _; omega, ?_⟩
      refine List.forall_mem_cons.mpr ⟨by show @Ne Nat _ _; omega, ?_⟩
      refine List.forall_mem_cons.mpr ⟨by show @Ne Nat _ _; omega, ?_⟩
      refine List.forall_mem_cons.mpr ⟨by show @Ne Nat _ _; omega, ?_⟩
      refine List.forall_mem_cons.mpr ⟨hcc.2.1, ?_⟩
      refine List.forall_mem_cons.mpr ⟨by show @Ne Nat _ _; omega, ?_⟩
      refine List.forall_mem_cons.mpr ⟨by show @Ne Nat _ _; omega, ?_⟩
      refine List.forall_mem_cons.mpr ⟨by show @Ne Nat _ _; omega, ?_⟩
      refine List.forall_mem_cons.mpr ⟨by show @Ne Nat _ _; omega, List.forall_mem_nil _⟩
  case done =>
    intro m₁ led₁ oc v h tk g hJ hoc hnc F₁ N₁
    exact hnext m₁ led₁ oc v h tk g hJ hoc F₁ N₁
end
end
section
theorem fresh_LawD : True := by
  w_top off
  exact trivial
local macro_rules | `(tactic| walk_at "call builtin:callable") => `(tactic| (k_here; k_dflt (refine' callable_K ?X ?e ?_; (case X => k_in); (case e => k_is); k_whole)))
local macro_rules | `(tactic| walk_at "subscriptTail Call Name cons nil Slice ref ref") => `(tactic| (k_here; k_dflt (refine kba_turn (value' := PySem.Expr.Name (PySem.Str.ofString "_") ⟨0, 0, 0, 0⟩) (fun _ => rfl) ?_)))
local macro_rules | `(tactic| walk_at "subscriptTail Name Slice ref ref") => `(tactic| (k_here; (rename IsRange _ _ _ _ _ _ _ _ => R'); k_dflt (refine' range_slice_tail ?F ?N R' ?k ?b ?b2 ?_ ?hs ?ht; (case F => k_asm); (case N => k_asm); (case k => omega); (case b => omega); (case b2 => omega); (case hs => with_unfolding_all rfl); (case ht => kmk_pure)); clear R'; intro D' h' tk' t' u' v' R' F' N'; (try k_sweep)))
local macro_rules | `(tactic| walk_at "call builtin:isinstance") => `(tactic| (k_here; (with_reducible show wpAny _ _ (call _ [Value.ref _, Value.ref _]) _ _ _); k_dflt (refine isn_dictOf (knd := PySem.strKind _ _) (hd := by with_reducible assumption) (by k_in) (by k_asm) (by k_mem) (by k_not) ?_)))
local macro_rules | `(tactic| walk_at "call builtin:isinstance") => `(tactic| (k_here; (with_reducible show wpAny _ _ (call _ [Value.ref _, Value.ref _]) _ _ _); k_dflt (refine' isi_call ?k1 ?k2 ?k3 ?k4 ?_; (case k1 => k_in); (case k2 => k_types); (case k3 => k_is); (case k4 => intro e; cases e); k_whole)))
section
variable {prog : Program} {w : World} {A : Around} {E : Value → Shared → Prop} {s : Shared} {env : Env} {h₀ : Heap} {x : Str} {body : List Stmt} {Q : Flow → Shared → Prop}
/-- a turn's end, of a loop that keeps a number under a local name -/
noncomputable def StepV (h₀ : Heap) (L I : Addr) (oI : Obj) (news : List (Addr × Obj)) (X : List Str) (m₀ : Str → Option Value) (nm : Str) (v : Int) (s : Shared) (Q : Flow → Shared → Prop) (f : Flow) (s₂ : Shared) : Prop :=
  match f with
  | .ret v => Q (.ret v) s₂
  | .brk => Q .next s₂
  | _ => ∃ h' tk m' t, s₂ = { s with heap := h', toks := tk } ∧ Fr h₀ L h' m' ∧ (∀ z, X.contains z = false → m' z = m₀ z) ∧ m' nm = some (.int v t) ∧ News h₀ L h' ((I, oI) :: news)
theorem upd_num {X : List Str} {m₀ m₁ : Str → Option Value} {nm : Str} {v : Value} (h : ∀ z, X.contains z = false → m₁ z = m₀ z) (hn : m₁ nm = some v) : m₁ = fun y => if y = nm then some v else upd X m₁ m₀ y := by
  funext z
  by_cases q : z = nm
  · rw [if_pos q, q, hn]
  · rw [if_neg q, ← upd_of h]
theorem iter_range_V {r : Addr} {a₀ b₀ : Int} {t₀ u₀ v₀ : Tok} {n : Nat} {m₀ : Str → Option Value} {news : List (Addr × Obj)} (X : List Str) (nm : Str) (val : Nat → Int)
    (hh : A.handled = none) (hx : env.kindOf x = some .local) (hp : (env.scope.kind == .class || (env.scope.kind == .module && env.locals != env.globals)) = false)
    (hr : IsRange s.heap r a₀ b₀ 1 t₀ u₀ v₀) (hsmall : Builtin.Range.small a₀ b₀ 1 = true) (hn : Builtin.Range.rangeSize a₀ b₀ 1 = (n : Int)) (F : Fr h₀ env.locals s.heap m₀) (N : News h₀ env.locals s.heap news) (h0 : ∃ t, m₀ nm = some (.int (val 0) t))
    (turn : ∀ i t t' I oI u h tk (E' : Value → Shared → Prop), i < n → (∀ p ∈ news, p.1 < I) → Fr h₀ env.locals h (fun y => if y = x then some (.int (a₀ + (i : Int)) t) else if y = nm then some (.int (val i) t') else upd X u m₀ y) → News h₀ env.locals h ((I, oI) :: news) →
      wpAny (model prog w) A (execs body env) (StepV h₀ env.locals I oI news X m₀ nm (val (i + 1)) s Q) E' { s with heap := h, toks := tk })
    (done : ∀ u t' h tk, Fr h₀ env.locals h (fun y => if y = nm then some (.int (val n) t') else upd X u m₀ y) → News h₀ env.locals h news → Q .next { s with heap := h, toks := tk }) :
    wpAny (model prog w) A (pyIter (.ref r)) (fun it s₂ => LoopG prog w A env x body Q it s₂) E s := by
  refine iter_range_G (fun i m₁ n₁ g => n₁ = news ∧ g = s.gens ∧ (∃ t, m₁ nm = some (.int (val i) t)) ∧ ∀ z, X.contains z = false → m₁ z = m₀ z) hh hx hp hr hsmall hn F N ⟨rfl, rfl, h0, fun _ _ => rfl⟩ ?_ ?_
  · rintro i t I oI m₁ news₁ h tk g E' hi hlt ⟨rfl, rfl, ⟨t', ht⟩, hm⟩ hnI F₁ N₁
    rw [upd_num hm ht] at F₁
    refine wpAny_mono (turn i t t' I oI m₁ h tk E' hi hlt F₁ N₁) (fun f s₂ q => ?_) fun _ _ e => e
    cases f with
    | ret v => exact q
    | brk => exact q
    | next => obtain ⟨h', tk', m', t2, e, F', z, v, N'⟩ := q; exact ⟨h', tk', _, m', _, e, F', N', hnI, List.forall_mem_nil _, rfl, rfl, ⟨t2, v⟩, z⟩
    | cont => obtain ⟨h', tk', m', t2, e, F', z, v, N'⟩ := q; exact ⟨h', tk', _, m', _, e, F', N', hnI, List.forall_mem_nil _, rfl, rfl, ⟨t2, v⟩, z⟩
  · rintro m₁ news₁ h tk g ⟨rfl, rfl, ⟨t', ht⟩, hm⟩ F₁ N₁
    rw [upd_num hm ht] at F₁
    exact done m₁ t' h tk F₁ N₁
end
section
/-- how often the law multiplies -/
noncomputable def eK (pw : List Nat) (k : Nat) : Nat := if k = 0 then pw.getD 0 0 - 1 else pw.getD k 0
noncomputable def numK (pw : List Nat) (v : Int) (n : Nat) : Nat → Int
  | 0 => v
  | k + 1 => numK pw v n k * ((n : Int) + 1 - (k : Int)) ^ eK pw k
/-- what the law says of the number of the n-th group -/
noncomputable def dueN (pw : List Nat) (first step : Int) (n : Nat) : Int := numK pw (first + (n : Int) * step) n (n + 1)
noncomputable def dueI (pw : List Nat) (first step : Int) : List Int := (List.range pw.length).map (dueN pw first step)
theorem ints_snoc {vs : List Value} {xs : List Int} (h : IntsAre vs xs) (z : Int) (t : Tok) : IntsAre (vs ++ [.int z t]) (xs ++ [z]) := by
  induction h with
  | nil => exact .cons _ _ .nil
  | cons a u _ ih => exact .cons _ _ ih
theorem range_snoc (f : Nat → Int) (n : Nat) : (List.range (n + 1)).map f = (List.range n).map f ++ [f n] := by
  rw [List.range_succ, List.map_append]; rfl
theorem ne_out {X : List Str} {z y : Str} (hz : X.contains z = false) (hy : X.contains y = true) : z ≠ y := by
  rintro rfl
  rw [hy] at hz
  cases hz
theorem upd_out {X Y : List Str} {z : Str} {u M : Str → Option Value} (hz : X.contains z = false) (hs : Y.all (fun y => X.contains y) = true) : upd Y u M z = M z := by
  unfold upd
  refine if_neg fun q => ?_
  have := List.all_eq_true.mp hs z (List.contains_iff_mem.mp q)
  rw [hz] at this
  cases this
local macro_rules | `(tactic| walk_at "exec For Name Call cons nil") => `(tactic| (k_dflt (refine For_G ?_)))
local macro_rules | `(tactic| walk_at "newList") => `(tactic| (k_here; (with_reducible show wpAny _ _ (newList []) _ _ _); refine hold ?_))
local macro_rules | `(tactic| walk_at "call builtin:len") => `(tactic| refine hold ?_)
set_option maxRecDepth 100000 in
set_option maxHeartbeats 0 in
set_option rowWalk.seconds 0 in
theorem lawD {w : World} {p : Program} {loose : List Str} {mean : ExcName → Option Value} {mg mb : Str → Option Value}
  {dp un : Nat} {gd : Option (List Code)} {cn : Str} {cs : Scope} {body : List Stmt} {a : Addr} {ccd : Value} {outer : List Env} {A₀ : Around} {base h₀ : Heap} {L : Addr} {m u : Str → Option Value} {s : Shared}
    (hcs : cs = lawScope w.params) (hb : body = (lawStmts w.params).drop 7)
    {pw : List Nat} {first step : Int} {t4 t5 : Tok} {lA dd b r sA pA c0 ln rn szn : Nat} {od oc0 : Obj} {lvs rvs bvs szv pws : List Value} {o3 o4 o5 o6 o7 o8 : Obj} {ps1 ps2 : Array Value}
    (hpl : 2 ≤ pw.length ∧ pw.length ≤ 5) (hszl : szv.length = pw.length) (hI : IntsAre pws (pw.map Int.ofNat)) (hpw0 : 1 ≤ pw.getD 0 0) (hpm : ∀ i, pw.getD i 0 ≤ 3)
    (d3 : cellAt o3 (.ref pA)) (d4 : cellAt o4 (.int first t4)) (d5 : cellAt o5 (.int step t5)) (d6 : cellAt o6 (.ref sA))
    (hlv : IntsAre lvs (dueI pw first step)) (hrv : IntsAre rvs []) (hbv : IntsAre bvs [first, step])
    (hdoc : od.IsDictOf (PySem.strKind PySem.Challenge.pw_ae5010_01 w) [(Str.ofString "beside", .ref b), (Str.ofString "row", .ref r)]) (lo : (dd == sysModules) = false)
    (h7 : @LT.lt Nat _ 753 L)
    {Q : Flow → Shared → Prop} {E : Value → Shared → Prop}
    (B : Below A₀ base outer h₀) (F : Fr h₀ L s.heap (upd turnX u (lawM lA dd m))) (X : (hd.heap_39 w.params).In h₀)
    (N : News h₀ L s.heap [(L + 7, o7), (lA, listOf lvs.toArray ln), (r, listOf rvs.toArray rn), (b, listOf bvs.toArray 0), (dd, od), (sA, listOf szv.toArray szn), (L + 8, o8), (L + 6, o6), (609, tabObj ps1), (753, tabObj ps2), (c0, oc0), (pA, listOf pws.toArray 0), (L + 5, o5), (L + 4, o4), (L + 3, o3)]) (T : Top p loose mean mg mb h₀)
    (hdp : dp + 100 < recursionLimit) (hun : un + 900 < cLine)
    (hret : ∀ h' tk' m', Fr h₀ L h' m' → News h₀ L h' [(609, tabObj ps1), (753, tabObj ps2), (c0, oc0)] → Q (.ret (.bool true)) { s with heap := h', toks := tk' }) :
    wpAny (model PySem.Challenge.pw_ae5010_01 w) (ktrTop dp un gd cn cs L a ccd (cellsFrom (L + 1) cs.names []) outer) (execs body (envX cn cs L a ccd (cellsFrom (L + 1) cs.names []))) Q E s := by
  conv at hcs => rhs; whnf
  conv at hb => rhs; whnf
  subst hcs hb
  obtain ⟨hpl2, hpl5⟩ := hpl
  have hml : (pw.map Int.ofNat).length = pw.length := List.length_map ..
  k_steps
  unfold Hold
  rename Fr _ _ _ _ => F9
  rename News _ _ _ _ => N9
  refine newList_K F9 N9 ?_ (by decide)
  intro D hD FD ND lD
  k_lt lD
  clear F9 N9
  k_steps
  unfold Hold
  rename News _ _ _ _ => N9
  k_dflt (refine len_list (items := szv.toArray) (News.isList N9 (by k_mem)) (by rw [List.size_toArray, hszl]; omega) ?_)
  rw [List.size_toArray, hszl]
  k_steps
  rename IsRange _ _ _ _ _ _ _ _ => R9
  rename Fr _ _ _ _ => F9
  rename News _ _ _ _ => N9
  k_dflt (refine iter_range_M (n := pw.length) [Str.ofString "n", Str.ofString "number", Str.ofString "k", Str.ofString "again"] (fun i news₁ g => g = s.gens ∧ ∃ dvs dn, IntsAre dvs ((List.range i).map (dueN pw first step)) ∧ news₁ = [(D, listOf dvs.toArray dn), (L + 7, o7), (lA, listOf lvs.toArray ln), (r, listOf rvs.toArray rn), (b, listOf bvs.toArray 0), (dd, od), (sA, listOf szv.toArray szn), (L + 8, o8), (L + 6, o6), (609, tabObj ps1), (753, tabObj ps2), (c0, oc0), (pA, listOf pws.toArray 0), (L + 5, o5), (L + 4, o4), (L + 3, o3)]) (by rfl) (by rfl) (by rfl) R9 (small_int (by decide) (by decide) (by omega) (by omega)) (size_int _ (by omega)) F9 N9 ⟨rfl, [], 0, .nil, rfl⟩ ?turn ?done)
  case turn =>
    clear R9 F9 N9
    rintro i t I oI u1 news₁ h tk1 g E' hi hltI ⟨rfl, dvs, dn, hdv, rfl⟩ hnI F₁ N₁
    have hnI' : ∀ o', ∀ p ∈ [(D, o'), (L + 7, o7), (lA, listOf lvs.toArray ln), (r, listOf rvs.toArray rn), (b, listOf bvs.toArray 0), (dd, od), (sA, listOf szv.toArray szn), (L + 8, o8), (L + 6, o6), (609, tabObj ps1), (753, tabObj ps2), (c0, oc0), (pA, listOf pws.toArray 0), (L + 5, o5), (L + 4, o4), (L + 3, o3)], p.1 ≠ I := fun o' p hp => by
      rcases List.mem_cons.mp hp with rfl | hp
      · exact hnI (D, listOf dvs.toArray dn) (.head _)
      · exact hnI p (.tail _ hp)
    have hdl : dvs.length = i := by rw [IntsAre.length hdv, List.length_map, List.length_range]
    k_steps
    rename IsRange _ _ _ _ _ _ _ _ => R9
    rename Fr _ _ _ _ => F9
    rename News _ _ _ _ => N9
    simp only [Int.zero_add] at F9 R9
    k_dflt (refine iter_range_V (n := i + 1) [Str.ofString "k", Str.ofString "again", Str.ofString "number"] (Str.ofString "number") (numK pw (first + (i : Int) * step) i) (by rfl) (by rfl) (by rfl) R9 (small_int (by decide) (by decide) (by omega) (by omega)) (size_int _ (by omega)) F9 N9 ⟨_, by rfl⟩ ?turnk ?donek)
    case turnk =>
      clear R9 F9 N9
      intro k t2 t3 I2 oI2 u2 h2 tk2 E2 hk hltI2 F₂ N₂
      have eb : (pw.map Int.ofNat).getD (0 + (k : Int)).toNat 0 = ((pw.getD k 0 : Nat) : Int) := by
        rw [show (0 + (k : Int)).toNat = k by omega]
        exact getD_ints pw k
      k_steps
      · rename IsRange _ _ _ _ _ _ _ _ => R9
        have e0 : ((pw.getD k 0 : Nat) : Int) - 1 = ((eK pw k : Nat) : Int) := by
          have hk0 : k = 0 := by omega
          subst hk0
          unfold eK
          rw [if_pos rfl]
          omega
        rw [eb, e0] at R9
        have he3 : eK pw k ≤ 3 := by have := hpm k; unfold eK; split <;> (try (rename k = 0 => q; subst q)) <;> omega
        rename Fr _ _ _ _ => F9
        rename News _ _ _ _ => N9
        k_dflt (refine iter_range_V (n := eK pw k) [Str.ofString "again", Str.ofString "number"] (Str.ofString "number") (fun j => numK pw (first + (i : Int) * step) i k * ((i : Int) + 1 - (k : Int)) ^ j) (by rfl) (by rfl) (by rfl) R9 (small_int (by decide) (by decide) (by omega) (by omega)) (size_int _ (by omega)) F9 N9 ⟨t3, by show some (Value.int (numK pw (first + (i : Int) * step) i k) t3) = _; rw [Int.pow_zero, Int.mul_one]⟩ ?_ ?_)
        · clear R9 F9 N9
          intro j t4 t5 I3 oI3 u3 h3 tk3 E3 hj hltI3 F₃ N₃
          k_steps
          rename Fr _ _ _ _ => F9
          rename News _ _ _ _ => N9
          have ev : numK pw (first + (i : Int) * step) i k * ((i : Int) + 1 - (k : Int)) ^ j * ((i : Int) + 1 - (0 + (k : Int))) = numK pw (first + (i : Int) * step) i k * ((i : Int) + 1 - (k : Int)) ^ (j + 1) := by rw [Int.zero_add, Int.pow_succ, ← Int.mul_assoc]
          refine ⟨_, _, _, _, rfl, F9, ?_, congrArg (fun v => some (Value.int v _)) ev, N9⟩
          · intro z hz
            have oa := ne_out (y := Str.ofString "again") hz (by rfl)
            have om := ne_out (y := Str.ofString "number") hz (by rfl)
            show (if z = Str.ofString "number" then _ else if z = Str.ofString "again" then _ else if z = Str.ofString "number" then _ else upd _ u3 _ z) = _
            rw [if_neg om, if_neg oa, if_neg om, upd_out hz (by rfl)]
        · clear R9 F9 N9
          intro u3 t5 h3 tk3 F₃ N₃
          k_steps
          rename Fr _ _ _ _ => F9
          rename News _ _ _ _ => N9
          refine ⟨_, _, _, t5, rfl, F9, ?_, rfl, N9⟩
          · intro z hz
            have ok := ne_out (y := Str.ofString "k") hz (by rfl)
            have om := ne_out (y := Str.ofString "number") hz (by rfl)
            show (if z = Str.ofString "number" then _ else upd _ u3 _ z) = _
            rw [if_neg om, upd_out hz (by rfl)]
            show (if z = Str.ofString "k" then _ else if z = Str.ofString "number" then _ else upd _ u2 _ z) = _
            rw [if_neg ok, if_neg om, upd_out hz (by rfl)]
      · rename IsRange _ _ _ _ _ _ _ _ => R9
        have e0 : ((pw.getD k 0 : Nat) : Int) = ((eK pw k : Nat) : Int) := by
          unfold eK
          rw [if_neg (by omega)]
        rw [eb, e0] at R9
        have he3 : eK pw k ≤ 3 := by have := hpm k; unfold eK; split <;> (try (rename k = 0 => q; subst q)) <;> omega
        rename Fr _ _ _ _ => F9
        rename News _ _ _ _ => N9
        k_dflt (refine iter_range_V (n := eK pw k) [Str.ofString "again", Str.ofString "number"] (Str.ofString "number") (fun j => numK pw (first + (i : Int) * step) i k * ((i : Int) + 1 - (k : Int)) ^ j) (by rfl) (by rfl) (by rfl) R9 (small_int (by decide) (by decide) (by omega) (by omega)) (size_int _ (by omega)) F9 N9 ⟨t3, by show some (Value.int (numK pw (first + (i : Int) * step) i k) t3) = _; rw [Int.pow_zero, Int.mul_one]⟩ ?_ ?_)
        · clear R9 F9 N9
          intro j t4 t5 I3 oI3 u3 h3 tk3 E3 hj hltI3 F₃ N₃
          k_steps
          rename Fr _ _ _ _ => F9
          rename News _ _ _ _ => N9
          have ev : numK pw (first + (i : Int) * step) i k * ((i : Int) + 1 - (k : Int)) ^ j * ((i : Int) + 1 - (0 + (k : Int))) = numK pw (first + (i : Int) * step) i k * ((i : Int) + 1 - (k : Int)) ^ (j + 1) := by rw [Int.zero_add, Int.pow_succ, ← Int.mul_assoc]
          refine ⟨_, _, _, _, rfl, F9, ?_, congrArg (fun v => some (Value.int v _)) ev, N9⟩
          · intro z hz
            have oa := ne_out (y := Str.ofString "again") hz (by rfl)
            have om := ne_out (y := Str.ofString "number") hz (by rfl)
            show (if z = Str.ofString "number" then _ else if z = Str.ofString "again" then _ else if z = Str.ofString "number" then _ else upd _ u3 _ z) = _
            rw [if_neg om, if_neg oa, if_neg om, upd_out hz (by rfl)]
        · clear R9 F9 N9
          intro u3 t5 h3 tk3 F₃ N₃
          k_steps
          rename Fr _ _ _ _ => F9
          rename News _ _ _ _ => N9
          refine ⟨_, _, _, t5, rfl, F9, ?_, rfl, N9⟩
          · intro z hz
            have ok := ne_out (y := Str.ofString "k") hz (by rfl)
            have om := ne_out (y := Str.ofString "number") hz (by rfl)
            show (if z = Str.ofString "number" then _ else upd _ u3 _ z) = _
            rw [if_neg om, upd_out hz (by rfl)]
            show (if z = Str.ofString "k" then _ else if z = Str.ofString "number" then _ else upd _ u2 _ z) = _
            rw [if_neg ok, if_neg om, upd_out hz (by rfl)]
    case donek =>
      clear R9 F9 N9
      intro u2 t2 h2 tk2 F₂ N₂
      k_steps
      rename Fr _ _ _ _ => F9
      rename News _ _ _ _ => N9
      refine append_K F9 N9 (.tail (Ne.symm (hnI _ (.head _))) (.head (by k_all))) ?_ (by rw [List.size_toArray, hdl, sizeLine_eq]; omega)
      intro h4 F4 N4
      rw [List.push_toArray] at N4
      k_steps
      rename Fr _ _ _ _ => F9
      rename News _ _ _ _ => N9
      refine ⟨_, _, _, _, _, rfl, F9, ?_, N9, hnI' _, List.forall_mem_nil _, rfl, _, _, ?_, rfl⟩
      · intro z hz
        have on := ne_out (y := Str.ofString "n") hz (by rfl)
        have om := ne_out (y := Str.ofString "number") hz (by rfl)
        show (if z = Str.ofString "number" then _ else upd _ u2 _ z) = _
        rw [if_neg om, upd_out hz (by rfl)]
        show (if z = Str.ofString "number" then _ else if z = Str.ofString "n" then _ else upd _ u1 _ z) = _
        rw [if_neg om, if_neg on, upd_out hz (by rfl)]
      · rw [range_snoc]
        exact ints_snoc hdv _ _
  case done =>
    clear R9 F9 N9
    rintro u1 news₁ h tk1 g ⟨rfl, dvs, dn, hdv, rfl⟩ F₁ N₁
    have hdv' : IntsAre dvs (dueI pw first step) := hdv
    k_steps
    unfold Hold
    rename Fr _ _ _ _ => F9
    rename News _ _ _ _ => N9
    refine newList_K F9 N9 ?_ (by decide)
    intro D2 hD2 FD2 ND2 lD2
    k_lt lD2
    clear F9 N9
    k_steps
    rename News _ _ _ _ => N9
    k_dflt (refine hret _ _ _ (by k_asm) (KStt.news_of N9 (by walk_at "m_keep")))
end
end
section
section
/-- running sums -/
noncomputable def scanI : Int → List Int → List Int
  | _, [] => []
  | a, x :: r => (a + x) :: scanI (a + x) r
theorem scanI_length : ∀ (a : Int) (xs : List Int), (scanI a xs).length = xs.length
  | _, [] => rfl
  | a, x :: r => by simp [scanI, scanI_length (a + x) r]
theorem scanI_get : ∀ (xs : List Int) (a : Int) (j : Nat), j < xs.length → (scanI a xs).getD j 0 = a + (xs.take (j + 1)).sum
  | [], _, _, h => by simp at h
  | x :: r, a, 0, _ => by simp [scanI]
  | x :: r, a, j + 1, h => by
    have := scanI_get r (a + x) j (by simpa using h)
    simp only [scanI, List.getD_cons_succ, List.take_succ_cons, List.sum_cons] at this ⊢
    rw [this]
    omega
theorem getD_set (l : List Int) (i j : Nat) (v : Int) (h : j < l.length) : (l.set i v).getD j 0 = if i = j then v else l.getD j 0 := by
  rw [List.getD_eq_getElem?_getD, List.getD_eq_getElem?_getD]
  by_cases q : i = j
  · subst q
    rw [if_pos rfl, List.getElem?_set_self h]
    rfl
  · rw [if_neg q, List.getElem?_set_ne q]
theorem cum_get (xs : List Int) : ∀ (i j : Nat), i < xs.length → j < xs.length → (cum i xs).getD j 0 = if j ≤ i then (xs.take (j + 1)).sum else xs.getD j 0
  | 0, j, h, hj => by
    show xs.getD j 0 = _
    by_cases q : j ≤ 0
    · rw [if_pos q]
      have : j = 0 := by omega
      subst this
      rw [take_sum_succ xs 0 h]
      simp
    · rw [if_neg q]
  | i + 1, j, h, hj => by
    have hl := cum_length i xs
    show ((cum i xs).set (i + 1) _).getD j 0 = _
    by_cases q : i + 1 = j
    · subst q
      rw [getD_set _ _ _ _ (by omega), if_pos rfl, cum_get xs i (i + 1) (by omega) h, cum_get xs i i (by omega) (by omega), if_neg (by omega), if_pos (Nat.le_refl i), if_pos (Nat.le_refl _), take_sum_succ xs (i + 1) h]
      omega
    · rw [getD_set _ _ _ _ (by omega), if_neg q, cum_get xs i j (by omega) hj]
      by_cases q2 : j ≤ i
      · rw [if_pos q2, if_pos (by omega)]
      · rw [if_neg q2, if_neg (by omega)]
theorem cum_scan (xs : List Int) : cum (xs.length - 1) xs = scanI 0 xs := by
  by_cases h : xs.length = 0
  · rw [List.eq_nil_of_length_eq_zero h]; rfl
  apply List.ext_getElem?
  intro j
  by_cases hj : j < xs.length
  · have h1 := cum_get xs (xs.length - 1) j (by omega) hj
    have h2 := scanI_get xs 0 j hj
    rw [if_pos (by omega)] at h1
    rw [List.getD_eq_getElem?_getD, List.getElem?_eq_getElem (by rw [cum_length]; exact hj)] at h1
    rw [List.getD_eq_getElem?_getD, List.getElem?_eq_getElem (by rw [scanI_length]; exact hj)] at h2
    rw [List.getElem?_eq_getElem (by rw [cum_length]; exact hj), List.getElem?_eq_getElem (by rw [scanI_length]; exact hj)]
    simp only [Option.getD_some] at h1 h2
    rw [h1, h2, Int.zero_add]
  · rw [List.getElem?_eq_none (by rw [cum_length]; omega), List.getElem?_eq_none (by rw [scanI_length]; omega)]
/-- a * first + b * step -/
noncomputable def ev (f s : Int) (p : Nat × Nat) : Int := (p.1 : Int) * f + (p.2 : Int) * s
theorem ev_zero (f s : Int) : ev f s (0, 0) = 0 := by simp [ev]
noncomputable def scanP : Nat → Nat → List (Nat × Nat) → List (Nat × Nat)
  | _, _, [] => []
  | a, b, (c, d) :: r => (a + c, b + d) :: scanP (a + c) (b + d) r
theorem ev_add (f s : Int) (a b c d : Nat) : ev f s (a + c, b + d) = ev f s (a, b) + ev f s (c, d) := by
  simp only [ev, Int.natCast_add, Int.add_mul]
  omega
theorem scan_ev (f s : Int) : ∀ (l : List (Nat × Nat)) (a b : Nat), scanI (ev f s (a, b)) (l.map (ev f s)) = (scanP a b l).map (ev f s)
  | [], _, _ => rfl
  | (c, d) :: r, a, b => by
    simp only [List.map_cons, scanI, scanP]
    rw [← ev_add, scan_ev f s r]
theorem eraseIdx_map' {α β : Type} (g : α → β) : ∀ (l : List α) (i : Nat), (l.map g).eraseIdx i = (l.eraseIdx i).map g
  | [], _ => rfl
  | _ :: _, 0 => rfl
  | x :: l, i + 1 => by simp only [List.map_cons, List.eraseIdx_cons_succ, eraseIdx_map' g l i]
theorem strikeOut_map {α β : Type} (g : α → β) : ∀ (ens : List Nat) (l : List α), strikeOut ens (l.map g) = (strikeOut ens l).map g
  | [], _ => rfl
  | e :: ens, l => by
    show (strikeOut ens (l.map g)).eraseIdx e = ((strikeOut ens l).eraseIdx e).map g
    rw [strikeOut_map g ens l, eraseIdx_map']
theorem getD_map' {α β : Type} (g : α → β) (d : α) (l : List α) (i : Nat) : (l.map g).getD i (g d) = g (l.getD i d) := by
  rw [List.getD_eq_getElem?_getD, List.getD_eq_getElem?_getD, List.getElem?_map]
  cases l[i]? <;> rfl
noncomputable def lastKP (ls : List (Option (Nat × Nat))) (ns : List Nat) (zs : List (Nat × Nat)) : Nat → List (Option (Nat × Nat))
  | 0 => ls
  | k + 1 => (lastKP ls ns zs k).set (ns.getD k 0) (some (zs.getD k (0, 0)))
theorem lastK_ev (f s : Int) (ls : List (Option (Nat × Nat))) (ns : List Nat) (zs : List (Nat × Nat)) : ∀ k, lastK (ls.map (Option.map (ev f s))) ns (zs.map (ev f s)) k = (lastKP ls ns zs k).map (Option.map (ev f s))
  | 0 => rfl
  | k + 1 => by
    show (lastK _ _ _ k).set _ _ = ((lastKP ls ns zs k).set _ _).map _
    rw [lastK_ev f s ls ns zs k, List.map_set]
    have e : (zs.map (ev f s)).getD k 0 = ev f s (zs.getD k (0, 0)) := by
      have := getD_map' (ev f s) (0, 0) zs k
      rwa [ev_zero] at this
    rw [e]
    rfl
noncomputable def coef (pw : List Nat) (n : Nat) : Nat → Nat
  | 0 => 1
  | k + 1 => coef pw n k * (n + 1 - k) ^ eK pw k
noncomputable def dueP (pw : List Nat) : List (Option (Nat × Nat)) := (List.range pw.length).map fun n => some (coef pw n (n + 1), n * coef pw n (n + 1))
theorem numK_coef (pw : List Nat) (v : Int) (n : Nat) : ∀ k, k ≤ n + 1 → numK pw v n k = v * ((coef pw n k : Nat) : Int)
  | 0, _ => by simp [numK, coef]
  | k + 1, h => by
    show numK pw v n k * ((n : Int) + 1 - (k : Int)) ^ eK pw k = v * ((coef pw n k * (n + 1 - k) ^ eK pw k : Nat) : Int)
    rw [numK_coef pw v n k (by omega), Int.natCast_mul, Int.natCast_pow, show ((n : Int) + 1 - (k : Int)) = ((n + 1 - k : Nat) : Int) by omega, Int.mul_assoc]
theorem due_ev (pw : List Nat) (f s : Int) : (dueP pw).map (Option.map (ev f s)) = (dueI pw f s).map some := by
  unfold dueP dueI
  rw [List.map_map, List.map_map]
  refine List.map_congr_left fun n _ => ?_
  show some (ev f s (coef pw n (n + 1), n * coef pw n (n + 1))) = some (dueN pw f s n)
  unfold dueN
  rw [numK_coef pw _ n (n + 1) (Nat.le_refl _)]
  simp only [ev, Int.natCast_mul, Int.add_mul]
  rw [Int.mul_comm f, Int.mul_right_comm (n : Int)]
noncomputable def incB : List Nat → Bool
  | [] => true
  | a :: r => r.all (fun b => Nat.blt a b) && incB r
theorem incB_up : ∀ {l : List Nat}, incB l = true → l.Pairwise (· < ·)
  | [], _ => .nil
  | a :: r, h => by
    simp only [incB, Bool.and_eq_true, List.all_eq_true] at h
    exact .cons (fun b hb => Nat.lt_of_lt_of_le (Nat.lt_succ_self a) (Nat.le_of_ble_eq_true (h.1 b hb))) (incB_up h.2)
noncomputable def eqP : List (Option (Nat × Nat)) → List (Option (Nat × Nat)) → Bool
  | [], [] => true
  | some (a, b) :: r, some (c, d) :: t => Nat.beq a c && Nat.beq b d && eqP r t
  | _, _ => false
theorem eqP_eq : ∀ {l m : List (Option (Nat × Nat))}, eqP l m = true → l = m
  | [], [], _ => rfl
  | some (a, b) :: r, some (c, d) :: t, h => by
    simp only [eqP, Bool.and_eq_true] at h
    rw [Nat.eq_of_beq_eq_true h.1.1, Nat.eq_of_beq_eq_true h.1.2, eqP_eq h.2]
noncomputable def chk (sz : List Nat) (due : List (Option (Nat × Nat))) : Nat → Nat → Nat → List (Nat × Nat) → List (Option (Nat × Nat)) → Bool
  | 0, _, _, row, last => row.isEmpty && eqP last due
  | n + 1, t, len, row, last =>
    (ensN sz t).all (fun e => Nat.blt e len) && incB (ensN sz t) && Nat.ble len 64 &&
      chk sz due n (t + 1) (len - (ensN sz t).length) (scanP 0 0 (strikeOut (ensN sz t) row)) (lastKP last (lft sz t) ((ensN sz t).map fun e => row.getD e (0, 0)) (lft sz t).length)
theorem chk_sound (f s : Int) {sz : List Nat} {row0 : List Int} {due : List (Option (Nat × Nat))} : ∀ (n t len : Nat) (row : List (Nat × Nat)) (last : List (Option (Nat × Nat))), chk sz due n t len row last = true → rowI sz row0 t = row.map (ev f s) → len = lenN sz t → lastI sz row0 t = last.map (Option.map (ev f s)) →
    (∀ i, t ≤ i → i < t + n → GoodAt sz i) ∧ rowI sz row0 (t + n) = [] ∧ lastI sz row0 (t + n) = due.map (Option.map (ev f s))
  | 0, t, len, row, last, h, hr, hl, ha => by
    simp only [chk, Bool.and_eq_true] at h
    have e1 := List.isEmpty_iff.mp h.1
    have e2 := eqP_eq h.2
    subst e1 e2
    exact ⟨fun i h1 h2 => by omega, hr, ha⟩
  | n + 1, t, len, row, last, h, hr, hl, ha => by
    simp only [chk, Bool.and_eq_true] at h
    obtain ⟨⟨⟨h1, h2⟩, h3⟩, h4⟩ := h
    have hg : GoodAt sz t := ⟨fun e he => by
      have := List.all_eq_true.mp h1 e he
      rw [← hl]
      exact Nat.lt_of_lt_of_le (Nat.lt_succ_self e) (Nat.le_of_ble_eq_true this), incB_up h2, by rw [← hl]; exact Nat.le_of_ble_eq_true h3⟩
    have hr' : rowI sz row0 (t + 1) = (scanP 0 0 (strikeOut (ensN sz t) row)).map (ev f s) := by
      show cum _ _ = _
      rw [cum_scan, hr, strikeOut_map, ← scan_ev, ev_zero]
    have ha' : lastI sz row0 (t + 1) = (lastKP last (lft sz t) ((ensN sz t).map fun e => row.getD e (0, 0)) (lft sz t).length).map (Option.map (ev f s)) := by
      show lastK _ _ _ _ = _
      rw [← lastK_ev, ← ha, List.map_map]
      refine congrArg (fun z => lastK (lastI sz row0 t) (lft sz t) z (lft sz t).length) ?_
      unfold struckI
      refine List.map_congr_left fun e _ => ?_
      rw [hr]
      have := getD_map' (ev f s) (0, 0) row e
      rwa [ev_zero] at this
    obtain ⟨g1, g2, g3⟩ := chk_sound f s n (t + 1) _ _ _ h4 hr' (by show _ = lenN sz t - _; rw [hl]) ha'
    rw [show t + (n + 1) = t + 1 + n by omega]
    refine ⟨fun i q1 q2 => ?_, g2, g3⟩
    by_cases q : i = t
    · rw [q]; exact hg
    · exact g1 i (by omega) (by omega)
noncomputable def okS (pw : List Nat) : Bool := chk (szs pw) (dueP pw) ((szs pw).getD ((szs pw).length - 1) 0) 0 (szs pw).sum ((List.range (szs pw).sum).map fun i => (1, i)) (List.replicate (szs pw).length none)
theorem ok1 : ([1, 2, 3] : List Nat).all (fun a => (rests 1 ++ rests 2).all fun r => okS (a :: r)) = true := by decide +kernel
theorem ok3a : (rests 3).all (fun r => okS (1 :: r)) = true := by decide +kernel
theorem ok3b : (rests 3).all (fun r => okS (2 :: r)) = true := by decide +kernel
theorem ok3c : (rests 3).all (fun r => okS (3 :: r)) = true := by decide +kernel
theorem ok4a0 : (rests 3).all (fun r => okS (1 :: 0 :: r)) = true := by decide +kernel
theorem ok4a1 : (rests 3).all (fun r => okS (1 :: 1 :: r)) = true := by decide +kernel
theorem ok4a2 : (rests 3).all (fun r => okS (1 :: 2 :: r)) = true := by decide +kernel
theorem ok4b0 : (rests 3).all (fun r => okS (2 :: 0 :: r)) = true := by decide +kernel
theorem ok4b1 : (rests 3).all (fun r => okS (2 :: 1 :: r)) = true := by decide +kernel
theorem ok4b2 : (rests 3).all (fun r => okS (2 :: 2 :: r)) = true := by decide +kernel
theorem ok4c0 : (rests 3).all (fun r => okS (3 :: 0 :: r)) = true := by decide +kernel
theorem ok4c1 : (rests 3).all (fun r => okS (3 :: 1 :: r)) = true := by decide +kernel
theorem ok4c2 : (rests 3).all (fun r => okS (3 :: 2 :: r)) = true := by decide +kernel
theorem mem3 {a : Nat} (h : a ∈ ([1, 2, 3] : List Nat)) : a = 1 ∨ a = 2 ∨ a = 3 := by simpa using h
theorem mem4 {r : List Nat} (h : r ∈ rests 4) : ∃ x r', (x = 0 ∨ x = 1 ∨ x = 2) ∧ r' ∈ rests 3 ∧ r = x :: r' := by
  obtain ⟨x, hx, h⟩ := List.mem_flatMap.mp (show r ∈ ([0, 1, 2] : List Nat).flatMap fun x => (rests 3).map (x :: ·) from h)
  obtain ⟨r', hr, rfl⟩ := List.mem_map.mp h
  exact ⟨x, r', by simpa using hx, hr, rfl⟩
theorem okAll (pw : List Nat) (h : pw ∈ shapes) : okS pw = true := by
  obtain ⟨a, ha, h⟩ := List.mem_flatMap.mp h
  obtain ⟨r, hr, rfl⟩ := List.mem_map.mp h
  rcases List.mem_append.mp hr with hr | hr
  · rcases List.mem_append.mp hr with hr | hr
    · exact List.all_eq_true.mp (List.all_eq_true.mp ok1 a ha) r hr
    · rcases mem3 ha with rfl | rfl | rfl
      · exact List.all_eq_true.mp ok3a r hr
      · exact List.all_eq_true.mp ok3b r hr
      · exact List.all_eq_true.mp ok3c r hr
  · obtain ⟨x, r', hx, hr', rfl⟩ := mem4 hr
    rcases mem3 ha with rfl | rfl | rfl <;> rcases hx with rfl | rfl | rfl
    · exact List.all_eq_true.mp ok4a0 r' hr'
    · exact List.all_eq_true.mp ok4a1 r' hr'
    · exact List.all_eq_true.mp ok4a2 r' hr'
    · exact List.all_eq_true.mp ok4b0 r' hr'
    · exact List.all_eq_true.mp ok4b1 r' hr'
    · exact List.all_eq_true.mp ok4b2 r' hr'
    · exact List.all_eq_true.mp ok4c0 r' hr'
    · exact List.all_eq_true.mp ok4c1 r' hr'
    · exact List.all_eq_true.mp ok4c2 r' hr'
theorem plain_law {pw : List Nat} (h : pw ∈ shapes) (f s : Int) {row0 : List Int} (h0 : row0 = (List.range (szs pw).sum).map fun (i : Nat) => f + s * (0 + (i : Int))) :
    (∀ i, i < (szs pw).getD ((szs pw).length - 1) 0 → GoodAt (szs pw) i) ∧ rowI (szs pw) row0 ((szs pw).getD ((szs pw).length - 1) 0) = [] ∧ lastI (szs pw) row0 ((szs pw).getD ((szs pw).length - 1) 0) = (dueI pw f s).map some := by
  have e : rowI (szs pw) row0 0 = ((List.range (szs pw).sum).map fun i => ((1, i) : Nat × Nat)).map (ev f s) := by
    show row0 = _
    rw [h0, List.map_map]
    refine List.map_congr_left fun i _ => ?_
    show _ = ev f s (1, i)
    simp only [ev]
    rw [Int.zero_add, Int.mul_comm s, show ((1 : Nat) : Int) = 1 from rfl, Int.one_mul]
  have hl : lastI (szs pw) row0 0 = (List.replicate (szs pw).length (none : Option (Nat × Nat))).map (Option.map (ev f s)) := by
    rw [List.map_replicate]; rfl
  obtain ⟨g1, g2, g3⟩ := chk_sound f s _ 0 _ _ _ (okAll pw h) e rfl hl
  rw [Nat.zero_add] at g1 g2 g3
  exact ⟨fun i hi => g1 i (Nat.zero_le i) hi, g2, by rw [g3, due_ev]⟩
theorem shape_more : ∀ pw ∈ shapes, 1 ≤ pw.getD 0 0 ∧ pw.all (fun x => Nat.ble x 3) = true ∧ (szs pw).getD ((szs pw).length - 1) 0 ≤ 64 := by decide +kernel
theorem small_of {pw : List Nat} (h : pw.all (fun x => Nat.ble x 3) = true) (i : Nat) : pw.getD i 0 ≤ 3 := by
  rw [List.getD_eq_getElem?_getD]
  cases q : pw[i]? with
  | none => exact Nat.zero_le 3
  | some x => exact Nat.le_of_ble_eq_true (List.all_eq_true.mp h x (List.mem_of_getElem? q))
theorem LastIs.ints {vs : List Value} {xs : List Int} (h : LastIs vs (xs.map some)) : IntsAre vs xs := by
  obtain ⟨hl, hv⟩ := h
  induction vs generalizing xs with
  | nil =>
    cases xs with
    | nil => exact .nil
    | cons x r => simp at hl
  | cons v vs ih =>
    cases xs with
    | nil => simp at hl
    | cons x r =>
      have h0 := hv 0 v rfl
      rcases h0 with ⟨h0, _⟩ | ⟨z, t, h0, rfl⟩
      · simp at h0
      · simp at h0
        subst h0
        exact .cons _ _ (ih (by simpa using hl) fun i w hw => by simpa using hv (i + 1) w (by simpa using hw))
end
end
section
section
theorem old_ghost {h₁ h' : Heap} {tabs : List (Addr × Addr)} (hT : TabsAt tabs h₁) (keep : ∀ b o, (ghostOf h₁ tabs).get? b = some o → h'.get? b = some o) (gr : GrownAll tabs h') : OldK h₁ h' := by
  have key : ∀ b o, h₁.get? b = some o → h'.get? b = some o ∨ (isCodeTable h₁ b ∧ o = tabObj #[] ∧ GrownAt b h') := fun b o e => by
    by_cases hb : b ∈ tabs.map (·.2)
    · obtain ⟨q, hq, rfl⟩ := List.mem_map.mp hb
      have t := hT q hq
      exact .inr ⟨(t.1.tab t.2).isCodeTable, Option.some.inj (e.symm.trans t.2), gr.get q hq⟩
    · exact .inl (keep b o (ghost_ne e hb))
  refine ⟨fun b o e => ?_, fun b o e => ?_⟩
  · rcases key b o e with k | ⟨ct, rfl, ps, k⟩
    · exact .inl k
    · refine .inr (.inl ⟨ct, rfl, #[], ps, rfl, ?_⟩)
      rw [Array.empty_append]
      exact k
  · rcases key b o e with k | ⟨_, _, ps, k⟩ <;> exact ⟨_, k⟩
/-- the law's end, where its run leaves spent generators behind -/
theorem law_post {M : Model} {A : Around} {cd : Code} {s s₁ : Shared} {cw : ClaimW} {cl : Str → Option Addr} {mean : ExcName → Option Value} {args : List WData} {tabs : List (Addr × Addr)} (hT : TabsAt tabs s₁.heap) (hr : ∀ x, cw.raises args x = false) (hp : cw.post args (.bool true) args = true)
    (h : codeAny M A cd (fun r s' => r = .ok (.ret (.bool true)) ∧ (∀ b o, (ghostOf s₁.heap tabs).get? b = some o → s'.heap.get? b = some o) ∧ s'.os = s₁.os ∧ AllBare s'.gens ∧ GrownAll tabs s'.heap) s) : codeAny M A cd (GoodWG cw cl mean args s₁) s :=
  codeAny_mono h fun r s' ⟨e, k, o, g, gr⟩ => by
    subst e
    exact ⟨.inl ⟨_, _, [], rfl, hr, ReadsW.bool true, hp, fun _ => ⟨List.nodup_nil, fun _ hm => nomatch hm⟩⟩, old_ghost hT k gr, o, g⟩
end
section
set_option maxRecDepth 100000 in
set_option maxHeartbeats 0 in
set_option rowWalk.seconds 0 in
theorem lawAll {w : World} {p : Program} {loose : List Str} {mean : ExcName → Option Value} {mg mb : Str → Option Value}
  {dp un : Nat} {gd : Option (List Code)} {cn : Str} {cs : Scope} {body : List Stmt} {a : Addr} {ccd : Value} {outer : List Env} {A₀ : Around} {base h₀ : Heap} {L : Addr} {m : Str → Option Value} {s : Shared}
    (hcs : cs = lawScope w.params) (hb : body = (lawStmts w.params).drop 1)
    {D : Nat} {ys : List Value} {dl : List Int} {o1 o2 o3 o4 o5 o6 o7 o8 : Obj} {v3 v4 v5 v6 v7 v8 : Option Value} (hI : IntsAre ys dl) (hl8 : dl.length = 8)
    (d2 : cellAt o2 (.ref D)) (d3 : o3.data = .cell v3) (d4 : o4.data = .cell v4) (d5 : o5.data = .cell v5) (d6 : o6.data = .cell v6) (d7 : o7.data = .cell v7) (d8 : o8.data = .cell v8) (hLD : @Ne Nat (L + 8) D ∧ @Ne Nat (L + 7) D ∧ @Ne Nat (L + 6) D ∧ @Ne Nat (L + 5) D ∧ @Ne Nat (L + 4) D ∧ @Ne Nat (L + 3) D ∧ @Ne Nat (L + 2) D ∧ @Ne Nat (L + 1) D) (h7 : @LT.lt Nat _ 753 L)
    {Q : Flow → Shared → Prop} {E : Value → Shared → Prop}
    (B : Below A₀ base outer h₀) (F : Fr h₀ L s.heap m) (X : (hd.heap_39 w.params).In h₀)
    (N : News h₀ L s.heap [(D, LCg.lst ys), (L + 8, o8), (L + 7, o7), (L + 6, o6), (L + 5, o5), (L + 4, o4), (L + 3, o3), (L + 2, o2), (L + 1, o1), (609, tabObj #[]), (753, tabObj #[])]) (T : Top p loose mean mg mb h₀)
    (hdp : dp + 100 < recursionLimit) (hun : un + 900 < cLine) (hbare : AllBare s.gens)
    (hret : ∀ h' tk' g' m', Fr h₀ L h' m' → GrownAt 609 h' → GrownAt 753 h' → AllBare g' → Q (.ret (.bool true)) { s with heap := h', toks := tk', gens := g' }) :
    wpAny (model PySem.Challenge.pw_ae5010_01 w) (ktrTop dp un gd cn cs L a ccd (cellsFrom (L + 1) cs.names []) outer) (execs body (envX cn cs L a ccd (cellsFrom (L + 1) cs.names []))) Q E s := by
  refine lawA hcs hb hI hl8 d2 d3 d4 d5 d6 d7 d8 hLD h7 B F X N T hdp hun ?_
  intro pA pws P first step t4 t5 o3' o4' o5' h' tk' hPV hIP e3 e4 e5 hpA F₁ N₁
  refine lawB hcs rfl hPV hIP e3 e4 e5 d6 d7 d8 hpA h7 B F₁ X N₁ T hdp hun ?_
  intro pw lA dd od b bvs r rvs rn sA szv szn o6' h'' tk'' hpw hP hsz hrv hbv hdoc lo e6 hsA hr F₂ N₂
  obtain ⟨hl2, hl5, hsum⟩ := shape_facts pw hpw
  obtain ⟨hp0, hp3, hT⟩ := shape_more pw hpw
  obtain ⟨hg, hr0, hla⟩ := plain_law hpw first step rfl
  have hszl : (szs pw).length = pw.length := by unfold szs; simp
  rw [← hszl] at N₂
  refine lawC hcs rfl ⟨by rw [hszl]; exact hl2, by rw [hszl]; exact hl5⟩ hsum hg hT (by simp) hsz hrv hdoc lo e6 d7 d8 h7 hpA hsA hr B F₂ X N₂ T hdp hun ?_
  rintro m₁ led o7' v7' h3 tk3 g3 ⟨hb3, u, lvs, rvs', ln, rn', ps1, ps2, c0, oc0, o8', v8', rfl, rfl, hL, hR, htr, hn, d8', hc⟩ d7' F₃ N₃
  rw [hla] at hL
  rw [hr0] at hR
  refine lawD hcs rfl ⟨hl2, hl5⟩ (by rw [IntsAre.length hsz, List.length_map, hszl]) (hP ▸ hIP) hp0 (small_of hp3) e3 e4 e5 e6 hL.ints hR hbv hdoc lo h7 B F₃ X N₃ T hdp hun ?_
  intro h4 tk4 m4 F₄ N₄
  exact hret _ _ _ _ F₄ ⟨_, (N₄ _ (.head _)).1⟩ ⟨_, (N₄ _ (.tail _ (.head _))).1⟩ (hb3 hbare)
end
end
section
theorem fresh_Law : True := by
  w_top off
  exact trivial
local macro_rules | `(tactic| walk_at "execs cons") => `(tactic| ((with_reducible show wpAny _ _ (execs (Stmt.Assign [Expr.Name (PySem.Str.ofString "powers") _] _ _ :: _) _) _ _ _); refine hold ?_))
set_option maxRecDepth 100000 in
set_option maxHeartbeats 0 in
set_option rowWalk.seconds 0 in
theorem cwl : PySem.Challenge.rw_ae5010_01.Holds := by
  refine hd ?_
  k_fill
  intro w s₀ s₁ mg mb G Y fa o pm cd doc dV kV ho hd hcd hD hmg hg args vals as hpre hlay hrd hwl hlo
  have KX := km_in_of Y
  km_tabs Y
  have X := (Ground.X G).1
  have V := (Ground.X G).2
  refine Ground.open G ?_
  intro T B D TE TW
  try (refine guard_noD D (by decide +kernel) ?_; clear D)
  have hT9 : TabsAt ([(611, 609), (757, 753)] : List (Addr × Addr)) _ := List.forall_mem_cons.mpr ⟨⟨codeHd_of_K (c := 611) (P := 609) KX (by kernel_rfl), hT8 609 (by k_mem)⟩, List.forall_mem_cons.mpr ⟨⟨codeHd_of_K (c := 757) (P := 753) KX (by kernel_rfl), hT8 753 (by k_mem)⟩, fun _ h => nomatch h⟩⟩
  clear hmg
  wrow_args hpre hlay hrd hwl hlo
  all_goals (
    first | refine callC_kw (enter_call ?_) | refine enter_call ?_
    w_top on
    refine law_post hT9 (fun _ => rfl) (by first | rfl | wrow_post) ?_
    w_call any ho hd hcd hD T F
    clear hd
    kn_ghosts F T
    k_drop
    skip)
  k_steps
  unfold Hold
  rename Fr _ _ _ _ => F9
  rename News _ _ _ _ => N9
  rename IntsAre _ _ => I9
  rename Below _ _ _ _ => K9
  rename Top _ _ _ _ _ _ => T9
  rename Frag.In _ _ => X9
  rename _ ≠ _ ∧ _ => oD
  rename 609 < _ ∧ _ => l9
  have hg9 : AllBare s₁.gens := .of_eq hg
  obtain ⟨q8, q7, q6, q5, q4, q3, q2, q1, _⟩ := oD
  k_dflt (refine' lawAll (cn := Str.ofString "law") ?cs ?bd I9 ?l8 ?d2 ?d3 ?d4 ?d5 ?d6 ?d7 ?d8 ⟨q8, q7, q6, q5, q4, q3, q2, q1⟩ l9.2 K9 F9 X9 ?N T9 ?dp ?un hg9 ?nx)
  case cs => conv => rhs; whnf
  case bd => conv => rhs; whnf
  case N => exact KStt.news_of N9 (by walk_at "m_keep")
  case l8 => rfl
  case d2 => assumption
  case d3 => assumption
  case d4 => assumption
  case d5 => assumption
  case d6 => assumption
  case d7 => assumption
  case d8 => assumption
  case dp => decide
  case un => decide
  case nx =>
    intro h' tk' g' m' F8 G1 G2 hb8
    exact ⟨rfl, F8.keep, rfl, hb8, G1, G2, trivial⟩
end
end Mine
theorem PySem.Challenge.cw_ae5010_01_holds : PySem.Challenge.rw_ae5010_01.Holds :=
  Mine.cwl
