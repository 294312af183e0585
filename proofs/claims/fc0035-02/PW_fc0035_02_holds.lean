import PyProof.Rows.All
import Wide.All
import OpenK.AllK
import Wide.FinOn
import PySem.Challenge.RW_fc0035_02
open PySem PySem.W PyProof.Rows
set_option Elab.async false
set_option maxRecDepth 100000
set_option rowWalk.seconds 0
set_option linter.unusedVariables false
set_option linter.unusedSimpArgs false
namespace Mine
set_option maxHeartbeats 8000000 in
open_top tjCSoBpQsPZBkyzz for PySem.Challenge.rw_fc0035_02
open PySem.Calls PySem.Spec PyProof.V
theorem fill_up : (tjCSoBpQsPZBkyzz.heap_39 = tjCSoBpQsPZBkyzz.heap_39) → PySem.Challenge.rw_fc0035_02.Holds → True := by w_top off; k_fill; intros; trivial

abbrev arO (dp un : Nat) (gd : Option (List Code)) (outer : List Env) : Around := { handled := none, depth := dp, frames := some outer, guards := gd, units := un }
abbrev addrs (E : List (Addr × Obj)) : List Addr := E.map (·.1)

/-- what a def does when it is called over the objects E: it ends, gives v, and leaves the objects E' (E's turned, and new ones); all else stays, up to the slots of the callers' frames -/
def Contract (n : Nat) (prog : Program) (w : World) (K : Frag) (f : Addr) (args : List Value) (E : List (Addr × Obj)) (Post : Value → List (Addr × Obj) → Prop) : Prop :=
  ∀ (dp un : Nat) (gd : Option (List Code)) (outer : List Env) (base : Heap) (s : Shared) (p : Program) (loose : List Str) (mean : ExcName → Option Value) (mg mb : Str → Option Value) (R : Result → Shared → Prop),
    dp + n < recursionLimit → un + 10 * n < cLine → Below (arO dp un gd outer) base outer (hideAll s.heap (addrs E)) → (∀ q ∈ E, s.heap.get? q.1 = some q.2) → K.In (hideAll s.heap (addrs E)) →
    Top p loose mean mg mb (hideAll s.heap (addrs E)) → K.In base → Top p loose mean mg mb base → KtsDicts (outer.filterMap (·.frame)) (hideAll s.heap (addrs E)) →
    (∀ v E' h' tk' g', KtsTurn (outer.filterMap (·.frame)) (hideAll s.heap (addrs E)) g' → (∀ q ∈ E', h'.get? q.1 = some q.2 ∧ g'.get? q.1 = none) → (∀ b o, g'.get? b = some o → h'.get? b = some o) → Post v E' →
      R (.ok (.ret v)) { s with heap := h', toks := tk' }) →
    codeAny (model prog w) (arO dp un gd outer) (.call (.ref f) ⟨args, []⟩) R s

theorem hide_keeps {h₀ h : Heap} {E : List (Addr × Obj)} (k : ∀ b o, h₀.get? b = some o → h.get? b = some o) (n : ∀ q ∈ E, h₀.get? q.1 = none) : ∀ b o, h₀.get? b = some o → (hideAll h (addrs E)).get? b = some o := fun b o e => hideAll_get _ (k b o e) fun q => by
  obtain ⟨p, hp, rfl⟩ := List.mem_map.mp q
  rw [n p hp] at e; cases e

theorem below_hide {A₀ A : Around} {base h₀ h : Heap} {outer : List Env} {env : Env} {L : Addr} {m : Str → Option Value} {E : List (Addr × Obj)} (B : Below A₀ base outer h₀) (F : Fr h₀ L h m) (N : News h₀ L h E)
    (hA : A.frames = some (env :: outer)) (hf : env.frame = some L) (hk : env.scope.kind = .function) : Below A base (env :: outer) (hideAll h (addrs E)) := by
  have nE : ∀ q ∈ E, h₀.get? q.1 = none := fun q hq => (N q hq).2.2
  have k := hide_keeps (E := E) F.keep nE
  have nL : L ∉ addrs E := fun q => by
    obtain ⟨p, hp, e⟩ := List.mem_map.mp q
    exact (N p hp).2.1 e
  have hnew : base.get? L = none := by
    cases hq : base.get? L with
    | none => rfl
    | some o => exact absurd (Nat.lt_of_lt_of_le (Heap.lt_size (B.stays L o hq)) F.above) (Nat.lt_irrefl _)
  have hns : (hideAll h (addrs E)).Ns L m := by
    obtain ⟨oL, a1, a2, hL, a3⟩ := F.ns
    exact ⟨oL, a1, a2, hideAll_get _ hL nL, a3⟩
  refine ⟨hA, fun b o e => k b o (B.stays b o e), ?_⟩
  exact .cons (by rw [hk]; decide) hf hns hnew (B.frames.of_keeps fun b o e _ => ⟨o, k b o e, rfl⟩)

section
variable {n : Nat} {prog : Program} {w : World} {K : Frag} {f : Addr} {args : List Value} {E : List (Addr × Obj)} {Post : Value → List (Addr × Obj) → Prop}
theorem use_contractT (C : Contract n prog w K f args E Post) {A : Around} {dp un : Nat} {gd : Option (List Code)} {outer : List Env} {env : Env} {A₀ : Around} {base h₀ : Heap} {L : Addr} {m : Str → Option Value} {s : Shared}
    {p : Program} {loose : List Str} {mean : ExcName → Option Value} {mg mb : Str → Option Value} {news : List (Addr × Obj)} {Q Ex : Value → Shared → Prop} (hA : A = arO dp un gd (env :: outer))
    (B : Below A₀ base outer h₀) (F : Fr h₀ L s.heap m) (X : K.In h₀) (N : News h₀ L s.heap news) (T : Top p loose mean mg mb h₀) (XB : K.In base) (TB : Top p loose mean mg mb base) (D : KtsDicts (outer.filterMap (·.frame)) h₀) (hf : env.frame = some L) (hk : env.scope.kind = .function)
    (hd : dp + n < recursionLimit) (hu : un + 10 * n < cLine) (keep : List (Addr × Obj)) (hE : ∀ q ∈ E, q ∈ news) (hK : ∀ q ∈ keep, q ∈ news) (hne : ∀ q ∈ keep, ∀ r ∈ E, q.1 ≠ r.1)
    (h : ∀ v E' h' tk' h₀', h₀' = ktsHeap h' (outer.filterMap (·.frame)) h₀ → KtsTurn (outer.filterMap (·.frame)) h₀ h₀' → Fr h₀' L h' m → News h₀' L h' (keep ++ E') → (∀ q ∈ E', ∀ r ∈ keep, r.1 ≠ q.1) →
      Below A₀ base outer h₀' → K.In h₀' → Top p loose mean mg mb h₀' → KtsDicts (outer.filterMap (·.frame)) h₀' → Post v E' → Q v { s with heap := h', toks := tk' }) :
    wpAny (model prog w) A (call (.ref f) args) Q Ex s := by
  subst hA
  have NE : News h₀ L s.heap E := fun q hq => N q (hE q hq)
  have nE : ∀ q ∈ E, h₀.get? q.1 = none := fun q hq => (NE q hq).2.2
  have st := hide_keeps (E := E) F.keep nE
  have nL : L ∉ addrs E := fun q => by
    obtain ⟨p, hp, e⟩ := List.mem_map.mp q
    exact (NE p hp).2.1 e
  obtain ⟨oL, es, ep, hL, hLd, hLk, hLf⟩ := F.ns
  have hLg := hideAll_get (addrs E) hL nL
  have nL₀ : h₀.get? L = none := kts_self F
  have memF : ∀ b, b ∈ (env :: outer).filterMap (·.frame) → b = L ∨ b ∈ outer.filterMap (·.frame) := fun b hm => by
    obtain ⟨e', he, hf'⟩ := List.mem_filterMap.mp hm
    rcases List.mem_cons.mp he with rfl | he
    · exact .inl (Option.some.inj (hf.symm.trans hf')).symm
    · exact .inr (List.mem_filterMap.mpr ⟨e', he, hf'⟩)
  refine wpAny_call (C dp un gd (env :: outer) base s p loose mean mg mb _ hd hu (below_hide B F NE rfl hf hk) (fun q hq => (NE q hq).1) (X.keeps st) (T.keeps st) XB TB (fun b hb => ?_) fun v E' h' tk' g' T' hE' hk' hp => ?_)
  · rcases memF b hb with rfl | hb
    · exact ⟨oL, es, ep, hLg, hLd⟩
    · obtain ⟨o, es', n', ho', hd'⟩ := D b hb
      exact ⟨o, es', n', st b o ho', hd'⟩
  obtain ⟨sl, hs⟩ := T'.up hLg
  obtain ⟨T₁, S₁⟩ := kts_turn_at (h := h') (fs := outer.filterMap (·.frame)) (g := h₀)
    (fun b hb => by
      obtain ⟨_, o, ho', _⟩ := B.frames.mem hb
      exact ⟨o, ho'⟩)
    (fun b o e nmem => hk' b o (T'.other b o (st b o e) (fun q => by
      rcases memF b q with z | z
      · rw [z, nL₀] at e
        cases e
      · exact nmem z)))
    (fun b o e hm => by
      obtain ⟨sl', hs'⟩ := T'.up (st b o e)
      exact ⟨sl', hk' _ _ hs'⟩)
  have B₃ : Below A₀ base outer (ktsHeap h' (outer.filterMap (·.frame)) h₀) := ⟨B.stack, fun b o e => T₁.other b o (B.stays b o e) (fun hm => by
    rw [(B.frames.mem hm).1] at e
    cases e), B.frames.of_keeps fun b o e _ => by
    obtain ⟨sl', hs'⟩ := T₁.up e
    exact ⟨_, hs', rfl⟩⟩
  have gk : ∀ q ∈ keep, g'.get? q.1 = some q.2 := fun q hq => T'.other _ _ (hideAll_get _ (N q (hK q hq)).1 fun z => by
    obtain ⟨r, hr, e⟩ := List.mem_map.mp z
    exact hne q hq r hr e.symm) fun z => by
      rcases memF _ z with y | y
      · exact (N q (hK q hq)).2.1 y
      · obtain ⟨_, o, ho', _⟩ := B.frames.mem y
        rw [(N q (hK q hq)).2.2] at ho'
        cases ho'
  refine h v E' h' tk' _ rfl T₁ ⟨⟨_, es, ep, hk' _ _ hs, hLd, hLk, hLf⟩, S₁, by rw [T₁.size]; exact F.above⟩ (fun q hq => ?_) (fun q hq r hr e => ?_) B₃ (XB.keeps B₃.stays) (TB.keeps B₃.stays) (D.turn T₁) hp
  · rcases (List.mem_append.mp hq).symm with hq | hq
    · refine ⟨(hE' q hq).1, fun e => ?_, T₁.none_ _ ?_⟩
      · have := (hE' q hq).2
        rw [e, hs] at this; cases this
      · cases z : h₀.get? q.1 with
        | none => rfl
        | some o =>
          obtain ⟨sl', hs'⟩ := T'.up (st _ _ z)
          have := (hE' q hq).2
          rw [hs'] at this; cases this
    · exact ⟨hk' _ _ (gk q hq), (N q (hK q hq)).2.1, T₁.none_ _ (N q (hK q hq)).2.2⟩
  · have := (hE' q hq).2
    rw [← e, gk r hr] at this; cases this

theorem use_contract (C : Contract n prog w K f args E Post) {A : Around} {dp un : Nat} {gd : Option (List Code)} {env : Env} {A₀ : Around} {base h₀ : Heap} {L : Addr} {m : Str → Option Value} {s : Shared}
    {p : Program} {loose : List Str} {mean : ExcName → Option Value} {mg mb : Str → Option Value} {news : List (Addr × Obj)} {Q Ex : Value → Shared → Prop} (hA : A = arO dp un gd [env])
    (B : Below A₀ base [] h₀) (F : Fr h₀ L s.heap m) (X : K.In h₀) (N : News h₀ L s.heap news) (T : Top p loose mean mg mb h₀) (XB : K.In base) (TB : Top p loose mean mg mb base) (hf : env.frame = some L) (hk : env.scope.kind = .function)
    (hd : dp + n < recursionLimit) (hu : un + 10 * n < cLine) (keep : List (Addr × Obj)) (hE : ∀ q ∈ E, q ∈ news) (hK : ∀ q ∈ keep, q ∈ news) (hne : ∀ q ∈ keep, ∀ r ∈ E, q.1 ≠ r.1)
    (h : ∀ v E' h' tk', Fr h₀ L h' m → News h₀ L h' (keep ++ E') → (∀ q ∈ E', ∀ r ∈ keep, r.1 ≠ q.1) → Post v E' → Q v { s with heap := h', toks := tk' }) :
    wpAny (model prog w) A (call (.ref f) args) Q Ex s :=
  use_contractT C hA B F X N T XB TB (fun _ h => nomatch h) hf hk hd hu keep hE hK hne fun v E' h' tk' h₀' e _ F' N' ne _ _ _ _ hp => by
    have e : h₀' = h₀ := e
    subst e
    exact h v E' h' tk' F' N' ne hp
end

/-- a contract that leaves the callers' frames as they are -/
def ContractP (n : Nat) (prog : Program) (w : World) (K : Frag) (f : Addr) (args : List Value) (E : List (Addr × Obj)) (Post : Value → List (Addr × Obj) → Prop) : Prop :=
  ∀ (dp un : Nat) (gd : Option (List Code)) (outer : List Env) (base : Heap) (s : Shared) (p : Program) (loose : List Str) (mean : ExcName → Option Value) (mg mb : Str → Option Value) (R : Result → Shared → Prop),
    dp + n < recursionLimit → un + 10 * n < cLine → Below (arO dp un gd outer) base outer (hideAll s.heap (addrs E)) → (∀ q ∈ E, s.heap.get? q.1 = some q.2) → K.In (hideAll s.heap (addrs E)) →
    Top p loose mean mg mb (hideAll s.heap (addrs E)) →
    (∀ v E' h' tk', (∀ q ∈ E', h'.get? q.1 = some q.2 ∧ (hideAll s.heap (addrs E)).get? q.1 = none) → (∀ b o, (hideAll s.heap (addrs E)).get? b = some o → h'.get? b = some o) → Post v E' →
      R (.ok (.ret v)) { s with heap := h', toks := tk' }) →
    codeAny (model prog w) (arO dp un gd outer) (.call (.ref f) ⟨args, []⟩) R s

section
variable {n : Nat} {prog : Program} {w : World} {K : Frag} {f : Addr} {args : List Value} {E : List (Addr × Obj)} {Post : Value → List (Addr × Obj) → Prop}
theorem use_contractP (C : ContractP n prog w K f args E Post) {A : Around} {dp un : Nat} {gd : Option (List Code)} {outer : List Env} {env : Env} {A₀ : Around} {base h₀ : Heap} {L : Addr} {m : Str → Option Value} {s : Shared}
    {p : Program} {loose : List Str} {mean : ExcName → Option Value} {mg mb : Str → Option Value} {news : List (Addr × Obj)} {Q Ex : Value → Shared → Prop} (hA : A = arO dp un gd (env :: outer))
    (B : Below A₀ base outer h₀) (F : Fr h₀ L s.heap m) (X : K.In h₀) (N : News h₀ L s.heap news) (T : Top p loose mean mg mb h₀) (hf : env.frame = some L) (hk : env.scope.kind = .function)
    (hd : dp + n < recursionLimit) (hu : un + 10 * n < cLine) (keep : List (Addr × Obj)) (hE : ∀ q ∈ E, q ∈ news) (hK : ∀ q ∈ keep, q ∈ news) (hne : ∀ q ∈ keep, ∀ r ∈ E, q.1 ≠ r.1)
    (h : ∀ v E' h' tk', Fr h₀ L h' m → News h₀ L h' (keep ++ E') → (∀ q ∈ E', ∀ r ∈ keep, r.1 ≠ q.1) → Post v E' → Q v { s with heap := h', toks := tk' }) :
    wpAny (model prog w) A (call (.ref f) args) Q Ex s := by
  subst hA
  have NE : News h₀ L s.heap E := fun q hq => N q (hE q hq)
  have nE : ∀ q ∈ E, h₀.get? q.1 = none := fun q hq => (NE q hq).2.2
  have k := hide_keeps (E := E) F.keep nE
  refine wpAny_call (C dp un gd (env :: outer) base s p loose mean mg mb _ hd hu (below_hide B F NE rfl hf hk) (fun q hq => (NE q hq).1) (X.keeps k) (T.keeps k) fun v E' h' tk' hE' hk' hp => ?_)
  have nL : L ∉ addrs E := fun q => by
    obtain ⟨p, hp, e⟩ := List.mem_map.mp q
    exact (NE p hp).2.1 e
  obtain ⟨oL, a1, a2, hL, a3⟩ := F.ns
  have hL' := hideAll_get (addrs E) hL nL
  have gk : ∀ q ∈ keep, (hideAll s.heap (addrs E)).get? q.1 = some q.2 := fun q hq => hideAll_get _ (N q (hK q hq)).1 fun z => by
    obtain ⟨r, hr, e⟩ := List.mem_map.mp z
    exact hne q hq r hr e.symm
  refine h v E' h' tk' ⟨⟨oL, a1, a2, hk' _ _ hL', a3⟩, fun b o e => hk' b o (k b o e), F.above⟩ (fun q hq => ?_) (fun q hq r hr e => ?_) hp
  · rcases (List.mem_append.mp hq).symm with hq | hq
    · refine ⟨(hE' q hq).1, fun e => ?_, ?_⟩
      · have := (hE' q hq).2
        rw [e, hL'] at this; cases this
      · cases z : h₀.get? q.1 with
        | none => rfl
        | some o => have := (hE' q hq).2; rw [k _ _ z] at this; cases this
    · exact ⟨hk' _ _ (gk q hq), (N q (hK q hq)).2⟩
  · have := (hE' q hq).2
    rw [← e, gk r hr] at this; cases this
end

theorem ContractP.toT {n : Nat} {prog : Program} {w : World} {K : Frag} {f : Addr} {args : List Value} {E : List (Addr × Obj)} {Post : Value → List (Addr × Obj) → Prop} (C : ContractP n prog w K f args E Post) : Contract n prog w K f args E Post :=
  fun dp un gd outer base s p loose mean mg mb R hd hu B NE X T _ _ _ h => C dp un gd outer base s p loose mean mg mb R hd hu B NE X T fun v E' h' tk' hE hk hp => h v E' h' tk' _ KtsTurn.refl hE hk hp
theorem call_F {prog : Program} {w : World} {dp un : Nat} {gd : Option (List Code)} {outer : List Env} {s : Shared} {base : Heap} {K : Frag} {R : Result → Shared → Prop}
    {name qual : Str} {params : Arguments} {body : List Stmt} {scope : Scope} {dV kV doc pm cdv ct oc : Value} {an od : Option Addr} {osl : Array (Option Value)} {f : Addr} {args : Args} {binds : List (Str × Value)}
    {E : List (Addr × Obj)} {p : Program} {loose : List Str} {mean : ExcName → Option Value} {mg mb : Str → Option Value}
    (B : Below (arO dp un gd outer) base outer (hideAll s.heap (addrs E))) (NE : ∀ q ∈ E, s.heap.get? q.1 = some q.2) (X : K.In (hideAll s.heap (addrs E))) (T : Top p loose mean mg mb (hideAll s.heap (addrs E)))
    (D : KtsDicts (outer.filterMap (·.frame)) (hideAll s.heap (addrs E))) (ho : K.lookup f = some ⟨oc, od, .func (fnOf name qual params body scope dV kV doc pm an cdv ct), osl⟩) (hcd : codeIn K cdv qual = true) (hroom : dp < recursionLimit)
    (hbind : BindsTo s (fnOf name qual params body scope dV kV doc pm an cdv ct) args binds) (hloc : ∀ y ∈ binds, scope.names.lookup y.1 = some .local)
    (h : ∀ g L' h₁, Fr g L' h₁ (fun y => binds.reverse.lookup y) → News g L' h₁ E → Below (arO dp un gd outer) base outer g → K.In g → Top p loose mean mg mb g → KtsDicts (outer.filterMap (·.frame)) g → KtsTurn (outer.filterMap (·.frame)) (hideAll s.heap (addrs E)) g → 
      wpAny (model prog w) ((arO dp un gd outer).deeper (envOf qual scope L' f cdv)) (execs body (envOf qual scope L' f cdv))
        (fun fl s' => R (.ok (.ret (match fl with | .ret v => v | _ => .none))) s')
        (fun e s' => wpAny (model prog w) ((arO dp un gd outer).deeper (envOf qual scope L' f cdv)) (leaving (envOf qual scope L' f cdv) e) (fun _ s'' => R (.error e) s'') (fun e' s'' => R (.error e') s'') s')
        { s with heap := h₁, toks := s.toks + binds.length })
    (hco : scope.isCoroutine = false := by rfl) (hgen : scope.isGenerator = false := by rfl) (hk : scope.kind = .function := by rfl)
    (hcell : ∀ x ∈ scope.names, x.2 ≠ .cell := by decide) : codeAny (model prog w) (arO dp un gd outer) (.call (.ref f) args) R s := by
  have st : (hideAll s.heap (addrs E)).StaysIn s.heap := fun b o e => of_hideAll _ e
  refine codeAny_call_def (fd := fnOf name qual params body scope dV kV doc pm an cdv ct) (body := body) (binds := binds) hroom (st _ _ (X _ _ ho)) rfl (T.nolimit.keeps st) (codeRec_of (X.keeps st) hcd) rfl hbind hcell hloc (fun h₁ hns hk₁ => ?_) hco hgen hk
  exact h _ s.heap.objs.size h₁ ⟨hns, fun b o e => hk₁ b o (of_hideAll _ e), Nat.le_of_eq (hideAll_size _ _)⟩
    (fun q hq => ⟨hk₁ _ _ (NE q hq), Nat.ne_of_lt (Heap.lt_size (NE q hq)), hideAll_none _ (List.mem_map_of_mem hq)⟩) B X T D KtsTurn.refl
theorem call_P {prog : Program} {w : World} {dp un : Nat} {gd : Option (List Code)} {outer : List Env} {s : Shared} {base : Heap} {K : Frag} {R : Result → Shared → Prop}
    {name qual : Str} {params : Arguments} {body : List Stmt} {scope : Scope} {dV kV doc pm cdv ct oc : Value} {an od : Option Addr} {osl : Array (Option Value)} {f : Addr} {args : Args} {binds : List (Str × Value)}
    {E : List (Addr × Obj)} {p : Program} {loose : List Str} {mean : ExcName → Option Value} {mg mb : Str → Option Value}
    (B : Below (arO dp un gd outer) base outer (hideAll s.heap (addrs E))) (NE : ∀ q ∈ E, s.heap.get? q.1 = some q.2) (X : K.In (hideAll s.heap (addrs E))) (T : Top p loose mean mg mb (hideAll s.heap (addrs E)))
    (ho : K.lookup f = some ⟨oc, od, .func (fnOf name qual params body scope dV kV doc pm an cdv ct), osl⟩) (hcd : codeIn K cdv qual = true) (hroom : dp < recursionLimit)
    (hbind : BindsTo s (fnOf name qual params body scope dV kV doc pm an cdv ct) args binds) (hloc : ∀ y ∈ binds, scope.names.lookup y.1 = some .local)
    (h : ∀ g L' h₁, Fr g L' h₁ (fun y => binds.reverse.lookup y) → News g L' h₁ E → Below (arO dp un gd outer) base outer g → K.In g → Top p loose mean mg mb g → g = hideAll s.heap (addrs E) →
      wpAny (model prog w) ((arO dp un gd outer).deeper (envOf qual scope L' f cdv)) (execs body (envOf qual scope L' f cdv))
        (fun fl s' => R (.ok (.ret (match fl with | .ret v => v | _ => .none))) s')
        (fun e s' => wpAny (model prog w) ((arO dp un gd outer).deeper (envOf qual scope L' f cdv)) (leaving (envOf qual scope L' f cdv) e) (fun _ s'' => R (.error e) s'') (fun e' s'' => R (.error e') s'') s')
        { s with heap := h₁, toks := s.toks + binds.length })
    (hco : scope.isCoroutine = false := by rfl) (hgen : scope.isGenerator = false := by rfl) (hk : scope.kind = .function := by rfl)
    (hcell : ∀ x ∈ scope.names, x.2 ≠ .cell := by decide) : codeAny (model prog w) (arO dp un gd outer) (.call (.ref f) args) R s := by
  have st : (hideAll s.heap (addrs E)).StaysIn s.heap := fun b o e => of_hideAll _ e
  refine codeAny_call_def (fd := fnOf name qual params body scope dV kV doc pm an cdv ct) (body := body) (binds := binds) hroom (st _ _ (X _ _ ho)) rfl (T.nolimit.keeps st) (codeRec_of (X.keeps st) hcd) rfl hbind hcell hloc (fun h₁ hns hk₁ => ?_) hco hgen hk
  exact h _ s.heap.objs.size h₁ ⟨hns, fun b o e => hk₁ b o (of_hideAll _ e), Nat.le_of_eq (hideAll_size _ _)⟩
    (fun q hq => ⟨hk₁ _ _ (NE q hq), Nat.ne_of_lt (Heap.lt_size (NE q hq)), hideAll_none _ (List.mem_map_of_mem hq)⟩) B X T rfl
section
variable {prog : Program} {w : World} {A : Around} {E : Value → Shared → Prop} {s : Shared} {K : Frag} {x C L : Addr} {h₀ : Heap} {m : Str → Option Value} {ox : Obj} {od : Obj} {name : Str}
theorem get_sm {expr : Bool} {Q : Value → Shared → Prop} {p : Addr} {f : Value} {rest : List Value} (F : Fr h₀ L s.heap m) (X₀ : K.In h₀) (I : InstAt s.heap x ox C (some od)) (hg : plainGet K C name = true)
    (hf : findObj K C (some od) name = some (.bind (.builtin "staticmethod.__get__") (.ref p))) (hp : recIn K p "staticmethod" = some (f :: rest)) (hv : handedIn f = true)
    (h : Q f { s with toks := s.toks + 1 }) : wpAny (model prog w) A (getAttr (.ref x) name expr) Q E s :=
  get_bind (X₀.keeps F.keep) I (plainGet_of hg).1 hf (plainGet_of hg).2 (wpAny_call (sm_get (s := { s with toks := s.toks + 1 }) (X₀.keeps F.keep) hp (handed_on hv h)))
theorem findObj_nondata {cd : ClassData} {a g : Value} {es : List DictEntry} {n : Nat} (hc : clsIn K C = some cd) (ha : findIn K (.ref C) name = some (some a)) (hg : specialIn K a "__get__" = some (some g)) (ht : takesIn K a = some false)
    (hl : getL name es = some none) (hn : copiedNames.contains name = false) : findObj K C (some (dictOf es n)) name = some (.bind g a) := by
  unfold findObj
  rw [hc, Option.bind_some, ha, Option.bind_some]
  simp only [hg, ht, Option.bind_some]
  have ho : PySem.W.ownOf cd (some (dictOf es n)) name = some none := by
    unfold PySem.W.ownOf
    split
    · exact (lookIn_dict name es n).trans hl
    · rfl
  rw [ho]
  simp only [hn, Option.bind_some, Bool.false_and, Bool.false_eq_true, if_false]
end
section
variable {prog : Program} {w : World} {K : Type} [DecidableEq K] {knd : KeyKind prog w K} {A : Around} {E : Value → Shared → Prop} {s : Shared} {h₀ : Heap} {L d : Addr} {m : Str → Option Value} {news : List (Addr × Obj)} {g : Obj → List (Addr × Obj)} {o : Obj} {kvs : List (K × Value)} {k : K} {key v : Value}
theorem dk_del {Q : Unit → Shared → Prop} (F : Fr h₀ L s.heap m) (N : News h₀ L s.heap news) (U : UpdF d o news g) (hd : o.IsDictOf knd kvs) (hkey : knd.is k key = true) (hv : (valueAt kvs k).isSome = true) (hsz : kvs.length ≤ sizeLine)
    (h : ∀ h' o', Fr h₀ L h' m → News h₀ L h' (g o') → o'.IsDictOf knd (without kvs k) → Q () { s with heap := h', toks := s.toks + 1 }) : wpAny (model prog w) A (delItem (.ref d) key) Q E s := by
  obtain ⟨pre, post, rfl, hg, a, b⟩ := U.split
  have hm := N (d, o) (List.mem_append_right _ (.head _))
  have hD : s.heap.DictOf knd d kvs := Heap.dictOf_iff.mpr ⟨o, hm.1, hd⟩
  unfold delItem
  try with_reducible refine wpAny_holding ?_
  refine wpAny_bind (wpAny_sequenceKey hD.typeIs (by decide) ?_)
  refine wpAny_bind (wpAny_callSpecial?_slot (name := Str.ofString "__delitem__") hD.typeIs PySem.F.slot_dict_delitem
    (call_meetsIn PySem.F.slot_dict_delitem hD.typeIs PySem.F.entry_dict_delitem (PySem.F.args_dict_delitem_2 _ _) (meets_dict_delitem_pairs knd d hkey) ⟨kvs, hD, hsz, hv, fun h' hmm hs => ?_⟩))
  obtain ⟨o', ho', hd'⟩ := Heap.dictOf_iff.mp hmm
  exact wpAny_pure (h h' o' (F.change hs hm.2.1 hm.2.2) (hg o' ▸ N.setIn a b hs ho') hd')
theorem dk_pop {Q : Value → Shared → Prop} (F : Fr h₀ L s.heap m) (N : News h₀ L s.heap news) (U : UpdF d o news g) (hd : o.IsDictOf knd kvs) (hkey : knd.is k key = true) (hpart : (keyPart key).isSome = true)
    (hv : valueAt kvs k = some v) (hsz : kvs.length ≤ sizeLine)
    (h : ∀ h' o', Fr h₀ L h' m → News h₀ L h' (g o') → o'.IsDictOf knd (without kvs k) → Q v { s with heap := h', toks := s.toks + 1 }) :
    wpAny (model prog w) A (call (.builtin "dict.pop") [.ref d, key]) Q E s := by
  obtain ⟨pre, post, rfl, hg, a, b⟩ := U.split
  have hm := N (d, o) (List.mem_append_right _ (.head _))
  have hD : s.heap.DictOf knd d kvs := Heap.dictOf_iff.mpr ⟨o, hm.1, hd⟩
  refine call_meetsIn PySem.F.slot_dict_pop hD.typeIs PySem.F.entry_dict_pop (PySem.F.args_dict_pop_2 _ _) (meets_dict_pop_there knd d hkey [] (.inl rfl) hpart) ⟨kvs, v, hD, hsz, hv, fun h' hmm hs => ?_⟩
  obtain ⟨o', ho', hd'⟩ := Heap.dictOf_iff.mp hmm
  exact h h' o' (F.change hs hm.2.1 hm.2.2) (hg o' ▸ N.setIn a b hs ho') hd'
theorem dk_pop_missing {Q : Value → Shared → Prop} (hA : A.handled = none) (N : News h₀ L s.heap news) (hm : (d, o) ∈ news) (hd : o.IsDictOf knd kvs) (hlo : (d == sysModules) = false) (hkey : knd.is k key = true) (hpart : (keyPart key).isSome = true)
    (hv : valueAt kvs k = none)
    (h : ∀ h' e, Heap.NewExc s.heap h' e "KeyError" → E (.ref e) { s with heap := h', toks := s.toks + 1 }) :
    wpAny (model prog w) A (call (.builtin "dict.pop") [.ref d, key]) Q E s := by
  have hm := N (d, o) hm
  have hD : s.heap.DictOf knd d kvs := Heap.dictOf_iff.mpr ⟨o, hm.1, hd⟩
  exact call_meetsIn PySem.F.slot_dict_pop hD.typeIs PySem.F.entry_dict_pop (PySem.F.args_dict_pop_2 _ _) (meets_dict_pop_missing knd d hkey hlo hpart) ⟨hA, kvs, hD, hv, h⟩
end
section
variable {K : Type} [DecidableEq K] {kvs : List (K × Value)} {k j : K} {v : Value}
theorem line100 {n : Nat} (h : n ≤ 100) : n ≤ sizeLine := by rw [sizeLine_eq]; omega
theorem without_le : (without kvs k).length ≤ kvs.length := List.length_filter_le _ _
theorem stored_le : (stored kvs k v).length ≤ kvs.length + 1 := by
  unfold stored
  split
  · rw [List.length_map]; omega
  · rw [List.length_append]; simp
theorem line100w (h : kvs.length ≤ 100) : (without kvs k).length ≤ sizeLine := line100 (Nat.le_trans without_le h)
theorem line100s (h : kvs.length ≤ 100) : (stored kvs k v).length ≤ sizeLine := by rw [sizeLine_eq]; have := stored_le (kvs := kvs) (k := k) (v := v); omega
end
theorem bind_via {K : Frag} {a : Addr} {s : Shared} {args : Args} {binds : List (Str × Value)} {oc oc' : Value} {od od' : Option Addr} {osl osl' : Array (Option Value)} {fd fd' : FuncData}
    (h1 : K.lookup a = some ⟨oc', od', .func fd', osl'⟩) (e : K.lookup a = some ⟨oc, od, .func fd, osl⟩) (h2 : BindsTo s fd' args binds) : BindsTo s fd args binds := by
  have := h1.symm.trans e
  cases this
  exact h2
theorem end_P {R : Result → Shared → Prop} {s : Shared} {g h' : Heap} {E E' : List (Addr × Obj)} {L' : Addr} {m' : Str → Option Value} {v : Value} {tk' : Nat} {Post : Value → List (Addr × Obj) → Prop}
    (hret : ∀ v E' h' tk', (∀ q ∈ E', h'.get? q.1 = some q.2 ∧ (hideAll s.heap (addrs E)).get? q.1 = none) → (∀ b o, (hideAll s.heap (addrs E)).get? b = some o → h'.get? b = some o) → Post v E' → R (.ok (.ret v)) { s with heap := h', toks := tk' })
    (hg : g = hideAll s.heap (addrs E)) (F : Fr g L' h' m') (N : News g L' h' E') (hp : Post v E') : R (.ok (.ret v)) { s with heap := h', toks := tk' } := by
  subst hg
  exact hret v E' h' tk' (fun q hq => ⟨(N q hq).1, (N q hq).2.2⟩) F.keep hp
theorem end_F {R : Result → Shared → Prop} {s : Shared} {fs : List Addr} {g h' : Heap} {E E' : List (Addr × Obj)} {L' : Addr} {m' : Str → Option Value} {v : Value} {tk' : Nat} {Post : Value → List (Addr × Obj) → Prop}
    (hret : ∀ v E' h' tk' g', KtsTurn fs (hideAll s.heap (addrs E)) g' → (∀ q ∈ E', h'.get? q.1 = some q.2 ∧ g'.get? q.1 = none) → (∀ b o, g'.get? b = some o → h'.get? b = some o) → Post v E' → R (.ok (.ret v)) { s with heap := h', toks := tk' })
    (hg : KtsTurn fs (hideAll s.heap (addrs E)) g) (F : Fr g L' h' m') (N : News g L' h' E') (hp : Post v E') : R (.ok (.ret v)) { s with heap := h', toks := tk' } :=
  hret v E' h' tk' g hg (fun q hq => ⟨(N q hq).1, (N q hq).2.2⟩) F.keep hp
section
variable {prog : Program} {w : World} {A₀ : Around} {E : Value → Shared → Prop} {s' : Shared} {base g g₀ h : Heap} {outer : List Env} {L a e : Addr} {m : Str → Option Value} {name : Str} {scope : Scope} {cd : Value}
  {b₀ : Stmt} {suite : List Stmt} {pos np : Pos} {rest : List ExceptHandler} {Q : Flow → Shared → Prop} {news : List (Addr × Obj)} {KF : Frag}
  {p : Program} {loose : List Str} {mean : ExcName → Option Value} {mg mb : Str → Option Value} {x : Str} {X T' : String}
theorem caught_newS (K : Below A₀ base outer g) (hx : Heap.NewExc h s'.heap e X) (F : Fr g L h m) (N : News g L h news) (XB : KF.In base) (TB : Top p loose mean mg mb base)
    (D : KtsDicts (outer.filterMap (·.frame)) g) (T0 : KtsTurn (outer.filterMap (·.frame)) g₀ g)
    (ex : nsIn KF mainGlobals x = some none) (hv : bootBuiltins x = some (.type T')) (hn' : x ≠ "__name__")
    (hexc : isSubtype (.type T') (.type "BaseException") = pure true) (hnt : isSubtype (.type ((Manifest.find? T').elim "type" fun y => y.metatype)) (.type "tuple") = pure false) (hsub : isSubtype (.type X) (.type T') = pure true)
    (k : ∀ h' g', KtsTurn (outer.filterMap (·.frame)) g₀ g' → Fr g' L h' m → News g' L h' news → Below A₀ base outer g' → KF.In g' → Top p loose mean mg mb g' → KtsDicts (outer.filterMap (·.frame)) g' →
      wpAny (model prog w) ((A₀.deeper (envOf name scope L a cd)).mark (some (.ref e))) (execs (b₀ :: suite) (envOf name scope L a cd)) Q E { s' with heap := h' })
    (hk : scope.kind = .function := by rfl) (hxk : (envOf name scope L a cd).kindOf x = some .globalImplicit := by rfl) (hdb : (x == ("__debug__" : Str)) = false := by decide)
    (hE : PassesOwnAt (model prog w) ((A₀.deeper (envOf name scope L a cd)).mark (some (.ref e))) (A₀.deeper (envOf name scope L a cd)) (envOf name scope L a cd) E := by passes_own) :
    wpAny (model prog w) (A₀.deeper (envOf name scope L a cd)) (noteFrame (.ref e) (envOf name scope L a cd))
      (fun _ s₂ => wpAny (model prog w) (A₀.deeper (envOf name scope L a cd)) (setFlight (.ref e) none) (fun _ s₃ =>
        wpAny (model prog w) (A₀.deeper (envOf name scope L a cd)) (handleBy (.ref e) (envOf name scope L a cd) (.ExceptHandler (some (.Name x np)) none (b₀ :: suite) pos :: rest)) Q E s₃) E s₂) E s' := by
  have K' := K.push (name := name) (a := a) (cd := cd) F hk
  have hin : ∀ env ∈ (envOf name scope L a cd :: outer), ∀ b, env.frame = some b → b ∈ (envOf name scope L a cd :: outer).filterMap (·.frame) := fun env he b hb => List.mem_filterMap.mpr ⟨env, he, hb⟩
  have st : base.StaysIn (hideAll h ((envOf name scope L a cd :: outer).filterMap (·.frame))) := fun b o q => hideAll_get _ (K'.stays b o q) fun hm => by
    rw [(K'.frames.mem hm).1] at q; cases q
  have sg : ∀ b o, h.get? b = some o → b ∉ (envOf name scope L a cd :: outer).filterMap (·.frame) → (hideAll h ((envOf name scope L a cd :: outer).filterMap (·.frame))).get? b = some o := fun b o q nm => hideAll_get _ q nm
  have hl : ∀ q ∈ news, (hideAll h ((envOf name scope L a cd :: outer).filterMap (·.frame))).get? q.1 = some q.2 ∧ g.get? q.1 = none := fun q hq => by
    refine ⟨hideAll_get _ (N q hq).1 fun hm => ?_, (N q hq).2.2⟩
    obtain ⟨env, he, hf⟩ := List.mem_filterMap.mp hm
    rcases List.mem_cons.mp he with rfl | he
    · exact (N q hq).2.1 (Option.some.inj hf).symm
    · obtain ⟨o, ho, _⟩ := (K.frames.mem (List.mem_filterMap.mpr ⟨env, he, hf⟩)).2
      rw [(N q hq).2.2] at ho; cases ho
  obtain ⟨ob, tp, he, hcls, hd⟩ := hx.there
  have hen : (hideAll h ((envOf name scope L a cd :: outer).filterMap (·.frame))).get? e = none := by
    cases q : (hideAll h ((envOf name scope L a cd :: outer).filterMap (·.frame))).get? e with
    | none => rfl
    | some o => have := of_hideAll _ q; rw [hx.new] at this; cases this
  unfold noteFrame
  simp only [show (envOf name scope L a cd).frame = some L from rfl]
  refine wpAny_bind (wpAny_field he hd (x := .none) rfl ?_)
  rw [if_neg (by decide)]
  refine wpAny_entryW (a0 := tp) K'.stack ((funFrames_hide K'.frames hin).of_keeps fun b o hb _ => ⟨o, hx.keeps b o hb, rfl⟩) rfl he (fun b o hb => hx.keeps b o (of_hideAll _ hb)) hen hd (by show 1 < 6; decide) rfl fun h₄ hN => ?_
  obtain ⟨n1, n2, n3, n4⟩ := hN
  rw [hcls] at n3
  have hsm : h.UpToSlots s'.heap := Heap.UpToSlots.of_keeps hx.keeps
  have hheld₄ : Heap.HeldW (hideAll h ((envOf name scope L a cd :: outer).filterMap (·.frame))) (envOf name scope L a cd :: outer) e (.type X) tp L h₄ := ⟨n1, hen, n2, n3⟩
  have hsm₄ : s'.heap.UpToSlots h₄ := n4
  have hL : (hideAll h ((envOf name scope L a cd :: outer).filterMap (·.frame))).get? L = none := hideAll_none _ (List.mem_filterMap.mpr ⟨_, .head _, rfl⟩)
  refine wpAny_landsW hheld₄ fun h₅ hheld hsm₅' => ?_
  have hsm₅ := hsm₄.trans hsm₅'
  obtain ⟨g₅, T₅, F₅, K₅⟩ := kts_ground K F sg hheld.1 (hsm.trans hsm₅)
  have X₅ : KF.In g₅ := XB.keeps K₅.stays
  have P₅ : TopRead p loose mg mb g₅ := topRead_of (TB.keeps K₅.stays)
  obtain ⟨ob', hob, hobc⟩ := hheld.there
  refine wpAny_handleBy_builtin (X := X) (T := T') (b := true) hexc hnt hsub (name_B F₅ X₅ P₅ ex hv hn' ⟨rfl, ⟨ob', hob, hobc⟩, ?_⟩ hk hxk hdb)
  refine lands_againW hheld fun h₆ hfl₆ hsm₆ => ?_
  obtain ⟨g₆, T₆, F₆, K₆⟩ := kts_ground K F sg hfl₆.1 ((hsm.trans hsm₅).trans hsm₆)
  have Nl : News g₆ L h₆ news := fun q hq => ⟨hfl₆.1 _ _ (hl q hq).1, (fun z => by have := (hl q hq).1; rw [z, hL] at this; cases this), T₆.none_ _ (hl q hq).2⟩
  have X₆ : KF.In g₆ := XB.keeps K₆.stays
  have P₆ : Top p loose mean mg mb g₆ := TB.keeps K₆.stays
  have D₆ : KtsDicts (outer.filterMap (·.frame)) g₆ := D.turn T₆
  exact wpAny_passesOwnAt hE (k h₆ g₆ (T0.trans T₆) F₆ Nl K₆ X₆ P₆ D₆)
end
abbrev lruNs (w : World) (t1 t2 t3 t4 : Tok) (dd oo : Addr) (n : Int) (tn : Tok) (r : Int) (tr : Tok) : Obj :=
  dictOf [⟨PyData.keyHash w.params (Str.ofString "_Cache__data"), .str (Str.ofString "_Cache__data") t1, .ref dd⟩,
    ⟨PyData.keyHash w.params (Str.ofString "_Cache__currsize"), .str (Str.ofString "_Cache__currsize") t2, .int n tn⟩,
    ⟨PyData.keyHash w.params (Str.ofString "_Cache__maxsize"), .str (Str.ofString "_Cache__maxsize") t3, .int r tr⟩,
    ⟨PyData.keyHash w.params (Str.ofString "_LRUCache__order"), .str (Str.ofString "_LRUCache__order") t4, .ref oo⟩] 4
theorem news4 {g h : Heap} {L : Addr} {news : List (Addr × Obj)} {a b c d : Addr × Obj} (N : News g L h news) (ha : a ∈ news) (hb : b ∈ news) (hc : c ∈ news) (hd : d ∈ news) : News g L h [a, b, c, d] := fun q hq => by
  rcases List.mem_cons.mp hq with rfl | hq
  · exact N _ ha
  rcases List.mem_cons.mp hq with rfl | hq
  · exact N _ hb
  rcases List.mem_cons.mp hq with rfl | hq
  · exact N _ hc
  rcases List.mem_cons.mp hq with rfl | hq
  · exact N _ hd
  cases hq
section
variable {M : Model} {A : Around} {E : Value → Shared → Prop} {s : Shared} {K : Frag} {x C L f : Addr} {h₀ : Heap} {m : Str → Option Value} {ox : Obj} {od : Option Obj} {i v : Value}
theorem inst_delItem {Q : Unit → Shared → Prop} (F : Fr h₀ L s.heap m) (X₀ : K.In h₀) (I : InstAt s.heap x ox C od) (hq : noSeq K C = true) (hs : findIn K (.ref C) "__delitem__" = some (some (.ref f))) (hf : isFn K (.ref f) = true)
    (h : wpAny M A (call (.ref f) [.ref x, i]) (fun _ s' => Q () s') E s) : wpAny M A (delItem (.ref x) i) Q E s := by
  have X := X₀.keeps F.keep
  unfold delItem sequenceKey
  refine wpAny_holding (wpAny_bind (wpAny_bind (I.type.here ?_)))
  refine wpAny_bind ((anyM_none X hq).here ?_)
  rw [if_pos (show (!false) = true from rfl)]
  exact wpAny_pure (wpAny_bind (special_fn X I hs (beq_iff_eq.mp hf) (wpAny_mono h (fun _ _ z => wpAny_pure z) fun _ _ z => z)))
end
abbrev rrNs (w : World) (t1 t2 t3 t4 t5 t6 : Tok) (dd fa ii kk : Addr) (n : Int) (tn : Tok) (r : Int) (tr : Tok) : Obj :=
  dictOf [⟨PyData.keyHash w.params (Str.ofString "_Cache__data"), .str (Str.ofString "_Cache__data") t1, .ref dd⟩,
    ⟨PyData.keyHash w.params (Str.ofString "_Cache__currsize"), .str (Str.ofString "_Cache__currsize") t2, .int n tn⟩,
    ⟨PyData.keyHash w.params (Str.ofString "_Cache__maxsize"), .str (Str.ofString "_Cache__maxsize") t3, .int r tr⟩,
    ⟨PyData.keyHash w.params (Str.ofString "_RRCache__choice"), .str (Str.ofString "_RRCache__choice") t4, .ref fa⟩,
    ⟨PyData.keyHash w.params (Str.ofString "_RRCache__index"), .str (Str.ofString "_RRCache__index") t5, .ref ii⟩,
    ⟨PyData.keyHash w.params (Str.ofString "_RRCache__keys"), .str (Str.ofString "_RRCache__keys") t6, .ref kk⟩] 6
section
variable {K : Type} [DecidableEq K] {kvs : List (K × Value)} {k j : K} {v : Value}
theorem valueAt_nil : valueAt ([] : List (K × Value)) k = none := rfl
theorem valueAt_cons {p : K × Value} : valueAt (p :: kvs) k = if p.1 = k then some p.2 else valueAt kvs k := by
  unfold valueAt
  rw [List.find?_cons]
  by_cases h : p.1 = k <;> simp [h]
theorem valueAt_isSome : (valueAt kvs k).isSome = true ↔ k ∈ kvs.map (·.1) := by
  induction kvs with
  | nil => simp [valueAt_nil]
  | cons p r ih =>
    rw [valueAt_cons]
    by_cases h : p.1 = k
    · simp [h]
    · rw [if_neg h, ih]
      simp only [List.map_cons, List.mem_cons]
      exact ⟨.inr, fun q => q.elim (fun e => absurd e.symm h) id⟩
theorem stored_none (h : k ≠ j) (hv : (valueAt kvs k).isSome = false) : (valueAt (stored kvs j v) k).isSome = false := by
  rw [Bool.eq_false_iff] at hv ⊢
  intro hs
  rw [valueAt_isSome] at hs
  refine hv (valueAt_isSome.mpr ?_)
  unfold stored at hs
  split at hs
  · obtain ⟨p, hp, e⟩ := List.mem_map.mp hs
    obtain ⟨q, hq, rfl⟩ := List.mem_map.mp hp
    refine List.mem_map.mpr ⟨q, hq, ?_⟩
    rw [← e]
    split <;> rfl
  · rw [List.map_append] at hs
    rcases List.mem_append.mp hs with hs | hs
    · exact hs
    · simp at hs
      exact absurd hs h
end
section
variable {prog : Program} {w : World} {A : Around} {E : Value → Shared → Prop} {s : Shared} {h₀ : Heap} {L D : Addr} {news : List (Addr × Obj)} {vs : List Value} {ns : List Int} {n : Nat}
theorem len_intsN {Q : Value → Shared → Prop} (N : News h₀ L s.heap news) (hm : (D, listOf vs.toArray n) ∈ news) (hi : IntsAre vs ns) (hz : ns.length ≤ 1000)
    (h : Q (.int ns.length (s.toks + 1)) { s with toks := s.toks + 1 + 1 }) : wpAny (model prog w) A (call (.builtin "len") [.ref D]) Q E s := by
  have e : vs.toArray.size = ns.length := by simp [hi.length]
  exact len_list (PySem.IsL.isList (n := n) (N _ hm).1) (by rw [e]; omega) (by rw [e]; exact h)
end
section
variable {prog : Program} {w : World} {A : Around} {E : Value → Shared → Prop} {s : Shared} {h₀ : Heap} {L D : Addr} {m : Str → Option Value} {news news' : List (Addr × Obj)} {vs : List Value} {ns : List Int} {n : Nat} {k : Int} {t : Tok}
theorem append_ints {Q : Value → Shared → Prop} (F : Fr h₀ L s.heap m) (N : News h₀ L s.heap news) (U : Upd D (listOf vs.toArray n) (listOf (vs ++ [Value.int k t]).toArray (n + 1)) news news') (hi : IntsAre vs ns) (hz : ns.length ≤ 1000)
    (h : ∀ h', Fr h₀ L h' m → News h₀ L h' news' → IntsAre (vs ++ [.int k t]) (ns ++ [k]) → Q .none { s with heap := h' }) : wpAny (model prog w) A (call (.builtin "list.append") [.ref D, .int k t]) Q E s := by
  have e : vs.toArray.size = ns.length := by simp [hi.length]
  refine append_K F N (its := vs.toArray) (n := n) (by rw [List.push_toArray]; exact U) (fun h' F' N' => h h' F' N' (ksk_snoc hi)) (by rw [e, sizeLine_eq]; omega)
end
theorem news_tl {g h : Heap} {L : Addr} {a : Addr × Obj} {l : List (Addr × Obj)} (N : News g L h (a :: l)) : News g L h l := fun q hq => N q (.tail _ hq)
theorem news5 {g h : Heap} {L : Addr} {news : List (Addr × Obj)} {a b c d e : Addr × Obj} (N : News g L h news) (ha : a ∈ news) (hb : b ∈ news) (hc : c ∈ news) (hd : d ∈ news) (he : e ∈ news) : News g L h [a, b, c, d, e] := fun q hq => by
  rcases List.mem_cons.mp hq with rfl | hq
  · exact N _ ha
  exact news4 N hb hc hd he q hq
/-- a for loop over a range with any invariant on the locals and the ledger (whose addresses may change from turn to turn) -/
def EndG (h₀ : Heap) (L : Addr) (J : (Str → Option Value) → List (Addr × Obj) → Prop) (own : List (Addr × Obj)) (s₁ s₂ : Shared) : Prop :=
  ∃ h' tk m' nx, s₂ = { s₁ with heap := h', toks := tk } ∧ Fr h₀ L h' m' ∧ News h₀ L h' (nx ++ own) ∧ OwnOff own (nx.map (·.1)) ∧ J m' nx
def PostG (h₀ : Heap) (L : Addr) (J : (Str → Option Value) → List (Addr × Obj) → Prop) (own : List (Addr × Obj)) (s₁ : Shared) (Q : Flow → Shared → Prop) (f : Flow) (s₂ : Shared) : Prop :=
  match f with
  | .ret v => Q (.ret v) s₂
  | .brk => Q .next s₂
  | _ => EndG h₀ L J own s₁ s₂
section
variable {prog : Program} {w : World} {A : Around} {E : Value → Shared → Prop} {s : Shared} {env : Env} {h₀ : Heap} {x : Str} {body : List Stmt} {Q : Flow → Shared → Prop}
theorem loop_gen {I : Addr} {fp : List Addr} {n : Nat} {P : Nat → Value → Prop} {St : Nat → Heap → Prop} {m₀ : Str → Option Value} {news : List (Addr × Obj)} (J : Nat → (Str → Option Value) → List (Addr × Obj) → Prop)
    (W : Walks prog w A I fp [I] n P St) (hLf : env.locals ∉ fp) (hI0 : h₀.get? I = none) (hIf : I ∈ fp) (hIo : ∀ i h, St i h → ∃ o, h.get? I = some o) (hnw : ∀ p ∈ news, p.1 ≠ I) (hst : St 0 s.heap) (F : Fr h₀ env.locals s.heap m₀) (N : News h₀ env.locals s.heap news) (hj : J 0 m₀ news)
    (turn : ∀ i v m₁ news₁ h tk own, i < n → P i v → OwnOff own (news₁.map (·.1)) → J i m₁ news₁ → Fr h₀ env.locals h (fun y => if y = x then some v else m₁ y) → News h₀ env.locals h (news₁ ++ own) →
      (∀ b ∈ fp, b ∉ news₁.map (·.1)) → wpAny (model prog w) A (execs body env) (PostG h₀ env.locals (fun m' nx => J (i + 1) m' nx ∧ ∀ b ∈ fp, b ≠ I → b ∉ nx.map (·.1)) own { s with heap := h, toks := tk } Q) E { s with heap := h, toks := tk })
    (hfp0 : ∀ b ∈ fp, b ∉ news.map (·.1))
    (done : ∀ m₁ news₁ h tk, J n m₁ news₁ → Fr h₀ env.locals h m₁ → News h₀ env.locals h news₁ → Q .next { s with heap := h, toks := tk }) :
    LoopAtV prog w A h₀ env x body Q E (.ref I) s := by
  let J' : Nat → (Str → Option Value) → List (Addr × Obj) → Prop := fun i m₁ news₁ => (∀ b ∈ fp, b ∉ news₁.map (·.1)) ∧ J i m₁ news₁
  refine ⟨I, fp, [I], n, P, St, m₀, news, J', rfl, W, hLf, (fun b hb => by rw [List.mem_singleton.mp hb]; exact hI0), (fun p hp hm => hnw p hp (List.mem_singleton.mp hm)), hst, F, N, ⟨hfp0, hj⟩, ?_, ?_⟩
  · rintro i v m₁ news₁ s₁ own ⟨hh', tk', rfl⟩ hin hP ⟨hadr, hJ⟩ hoff hown hown2 hfull hst' F₁ N₁
    have hsep : OwnOff own (news₁.map (·.1)) := fun p hp b hb e => hadr p.1 (hown p hp) (e ▸ hb)
    have N₂ : News h₀ env.locals hh' (news₁ ++ own) := fun p hp => N₁ p ((List.mem_append.mp hp).elim (fun h => List.mem_append.mpr (.inr h)) fun h => List.mem_append.mpr (.inl h))
    obtain ⟨oI, hoI⟩ := hIo _ _ hst'
    have hIown : (I, oI) ∈ own := hfull I hIf hI0 oI hoI
    refine wpAny_mono (turn i v m₁ news₁ hh' tk' own hin hP hsep hJ F₁ N₂ hadr) (fun f s₂ p => ?_) fun _ _ e => e
    have fin : EndG h₀ env.locals (fun m' nx => J (i + 1) m' nx ∧ ∀ b ∈ fp, b ≠ I → b ∉ nx.map (·.1)) own { s with heap := hh', toks := tk' } s₂ → LoopStepU h₀ env.locals [I] own (J' (i + 1)) { s with heap := hh', toks := tk' } .next s₂ := by
      rintro ⟨h', tk, m', nx, e, F', N', ho, hm, hb9⟩
      refine ⟨rfl, h', tk, m', nx, e, F', fun p hp => N' p ((List.mem_append.mp hp).elim (fun h => List.mem_append.mpr (.inr h)) fun h => List.mem_append.mpr (.inl h)), fun p hp hq => ?_, fun b hb hbn => ?_, hm⟩
      · exact ho _ hIown p.1 (List.mem_map_of_mem hp) (List.mem_singleton.mp hq).symm
      · by_cases e9 : b = I
        · exact ho _ hIown b hbn e9.symm
        · exact hb9 b hb e9 hbn
    cases f with
    | ret v => exact .ret p
    | brk => exact .brk p
    | next => exact .next (fin p)
    | cont => exact .cont (fin p)
  · rintro h' tk m' news' F' N' _ ⟨_, hJ⟩
    exact done m' news' h' tk hJ F' N'
theorem range_gen {r : Addr} {a₀ b₀ : Int} {t₀ u₀ v₀ : Tok} {n : Nat} {m₀ : Str → Option Value} {news : List (Addr × Obj)} (J : Nat → (Str → Option Value) → List (Addr × Obj) → Prop)
    (hh : A.handled = none) (hr : IsRange s.heap r a₀ b₀ 1 t₀ u₀ v₀) (hsmall : Builtin.Range.small a₀ b₀ 1 = true) (hn : Builtin.Range.rangeSize a₀ b₀ 1 = (n : Int)) (F : Fr h₀ env.locals s.heap m₀) (N : News h₀ env.locals s.heap news) (hj : J 0 m₀ news)
    (turn : ∀ i t m₁ news₁ h tk own, i < n → OwnOff own (news₁.map (·.1)) → J i m₁ news₁ → Fr h₀ env.locals h (fun y => if y = x then some (.int (a₀ + (i : Int)) t) else m₁ y) → News h₀ env.locals h (news₁ ++ own) →
      wpAny (model prog w) A (execs body env) (PostG h₀ env.locals (J (i + 1)) own { s with heap := h, toks := tk } Q) E { s with heap := h, toks := tk })
    (done : ∀ m₁ news₁ h tk, J n m₁ news₁ → Fr h₀ env.locals h m₁ → News h₀ env.locals h news₁ → Q .next { s with heap := h, toks := tk }) :
    wpAny (model prog w) A (pyIter (.ref r)) (fun it s₂ => LoopAtV prog w A h₀ env x body Q E it s₂) E s := by
  refine wpAny_pyIter_range hr hsmall ?_
  have W : Walks prog w A s.heap.objs.size [s.heap.objs.size] [s.heap.objs.size] n (fun i v => i < n ∧ ∃ t, v = .int (a₀ + i * 1) t)
      (fun i h => IsRangeIter h s.heap.objs.size (a₀ + (i : Nat) * 1) ((n : Int) - (i : Nat)) 1) := (Walks.range hh _ a₀ 1 n).bound
  refine loop_gen J W ?_ (next_is_new F) (.head _) ?_ ?_ (by show IsRangeIter _ _ _ _ _; rw [hn]; simpa using Heap.get?_push_size _ rfl) (F.push _) (fun p hp => ⟨Heap.get?_push_of_some _ (N p hp).1, (N p hp).2⟩) hj ?_ ?_ ?_
  · intro hm
    exact absurd F.ns.lt ((List.mem_singleton.mp hm) ▸ Nat.lt_irrefl _)
  · intro i h hs
    exact ⟨_, hs⟩
  · intro p hp e
    exact absurd (Heap.lt_size (N p hp).1) (e ▸ Nat.lt_irrefl _)
  · rintro i v m₁ nx h tk own hi ⟨_, t, rfl⟩ hoff hJ F₁ N₁ _
    have e1 : a₀ + (i : Int) * 1 = a₀ + (i : Int) := by omega
    rw [e1] at F₁
    refine wpAny_mono (turn i t m₁ nx h tk own hi hoff hJ F₁ N₁) (fun f s₂ p => ?_) fun _ _ e => e
    have up : EndG h₀ env.locals (J (i + 1)) own { s with heap := h, toks := tk } s₂ → EndG h₀ env.locals (fun m' nx => J (i + 1) m' nx ∧ ∀ b ∈ [s.heap.objs.size], b ≠ s.heap.objs.size → b ∉ nx.map (·.1)) own { s with heap := h, toks := tk } s₂ := by
      rintro ⟨h', tk', m', nx', e, F', N', ho, hm⟩
      exact ⟨h', tk', m', nx', e, F', N', ho, hm, fun b hb hne => absurd (List.mem_singleton.mp hb) hne⟩
    cases f with
    | ret v => exact p
    | brk => exact p
    | next => exact up p
    | cont => exact up p
  · intro b hb hm
    obtain ⟨p, hp, e⟩ := List.mem_map.mp hm
    rw [List.mem_singleton.mp hb] at e
    exact absurd (Heap.lt_size (N p hp).1) (e ▸ Nat.lt_irrefl _)
  · rintro m₁ nx h tk hJ F₁ N₁
    exact done m₁ nx h tk hJ F₁ N₁
end
theorem call_PX {prog : Program} {w : World} {dp un : Nat} {gd : Option (List Code)} {outer : List Env} {s : Shared} {base : Heap} {K : Frag} {R : Result → Shared → Prop}
    {name qual : Str} {params : Arguments} {body : List Stmt} {scope : Scope} {cl : List (Str × Addr)} {doc pm ctv : Value} {c' f : Addr} {args : Args} {binds : List (Str × Value)} {oc : Obj} {vs : Array Value} {t : Tok}
    {E : List (Addr × Obj)} {p : Program} {loose : List Str} {mean : ExcName → Option Value} {mg mb : Str → Option Value}
    (B : Below (arO dp un gd outer) base outer (hideAll s.heap (addrs E))) (NE : ∀ q ∈ E, s.heap.get? q.1 = some q.2) (X : K.In (hideAll s.heap (addrs E))) (T : Top p loose mean mg mb (hideAll s.heap (addrs E)))
    (ho : (f, fnMade name qual params body scope cl doc pm c' ctv) ∈ E) (hc : (c', oc) ∈ E) (hd : oc.data = .fields vs) (hv : vs[1]? = some (.str qual t)) (hroom : dp < recursionLimit)
    (hbind : BindsTo s (fnX name qual params body scope cl .none .none doc pm none (.ref c') ctv) args binds) (hloc : ∀ y ∈ binds, scope.names.lookup y.1 = some .local)
    (h : ∀ g L' h₁, Fr g L' h₁ (fun y => binds.reverse.lookup y) → News g L' h₁ E → Below (arO dp un gd outer) base outer g → K.In g → Top p loose mean mg mb g → g = hideAll s.heap (addrs E) →
      wpAny (model prog w) ((arO dp un gd outer).deeper (envX qual scope L' f (.ref c') cl)) (execs body (envX qual scope L' f (.ref c') cl))
        (fun fl s' => R (.ok (.ret (match fl with | .ret v => v | _ => .none))) s')
        (fun e s' => wpAny (model prog w) ((arO dp un gd outer).deeper (envX qual scope L' f (.ref c') cl)) (leaving (envX qual scope L' f (.ref c') cl) e) (fun _ s'' => R (.error e) s'') (fun e' s'' => R (.error e') s'') s')
        { s with heap := h₁, toks := s.toks + binds.length })
    (hco : scope.isCoroutine = false) (hgen : scope.isGenerator = false) (hk : scope.kind = .function)
    (hcell : ∀ x ∈ scope.names, x.2 ≠ .cell) : codeAny (model prog w) (arO dp un gd outer) (.call (.ref f) args) R s := by
  have st : (hideAll s.heap (addrs E)).StaysIn s.heap := fun b o e => of_hideAll _ e
  refine codeAny_call_def (fd := fnX name qual params body scope cl .none .none doc pm none (.ref c') ctv) (body := body) (binds := binds) hroom (NE _ ho) rfl (T.nolimit.keeps st) ⟨c', oc, vs, t, rfl, NE _ hc, hd, hv⟩ rfl hbind hcell hloc (fun h₁ hns hk₁ => ?_) hco hgen hk
  exact h _ s.heap.objs.size h₁ ⟨hns, fun b o e => hk₁ b o (of_hideAll _ e), Nat.le_of_eq (hideAll_size _ _)⟩
    (fun q hq => ⟨hk₁ _ _ (NE q hq), Nat.ne_of_lt (Heap.lt_size (NE q hq)), hideAll_none _ (List.mem_map_of_mem hq)⟩) B X T rfl
section
open PyProof.Rows.LCg
variable {prog : Program} {w : World} {A : Around} {s : Shared} {h₀ : Heap} {L : Addr} {m : Str → Option Value} {env : Env}
/-- a comprehension over n items by induction: J i ys after i items; the ledger stays as it is -/
theorem comp_ind {elt : Expr} {x : Str} {scope : Scope} {cl : List (Str × Addr)} {S : List (Addr × Obj) → Prop} {P : Nat → Value → Prop} {Fin : List Value → List (Addr × Obj) → Prop} {n : Nat} {news : List (Addr × Obj)} (J : Nat → List Value → Prop)
    (h0 : J 0 [])
    (step : ∀ i ys, i < n → J i ys → ∀ v I oI C oC D m₂ h tk (E' : Value → Shared → Prop), P i v → NsObj oC m₂ → m₂ x = some v → Fr h₀ L h m → News h₀ L h ((I, oI) :: (C, oC) :: (D, lst ys) :: news) → Off3 I C D news → ((@Ne Nat I C) ∧ (@Ne Nat I D) ∧ (@Ne Nat C D)) →
      wpAny (model prog w) A (eval elt (compEnvC scope cl C env)) (CompEnd h₀ L m { s with heap := h, toks := tk } I oI C oC D (lst ys) S (fun y news' => news' = news ∧ J (i + 1) (ys ++ [y]))) E' { s with heap := h, toks := tk })
    (fin : ∀ ys, J n ys → Fin ys news) : CompRest prog w A h₀ L m env elt x scope cl s S P Fin n 0 [] news := by
  have gen : ∀ k i ys, i + k = n → J i ys → CompRest prog w A h₀ L m env elt x scope cl s S P Fin k i ys news := by
    intro k
    induction k with
    | zero =>
      intro i ys e hj
      have : i = n := by omega
      subst this
      exact CompRest.zero (fin ys hj)
    | succ k ih =>
      intro i ys e hj
      refine CompRest.succ fun v I oI C oC D m₂ h tk E' a1 a2 a3 a4 a5 a6 a7 => ?_
      refine wpAny_mono (step i ys (by omega) hj v I oI C oC D m₂ h tk E' a1 a2 a3 a4 a5 a6 a7) (fun y s₂ c => ?_) fun _ _ z => z
      obtain ⟨h', tk', nw, e1, F', N', o', hS, rfl, hj'⟩ := c
      exact ⟨h', tk', _, e1, F', N', o', hS, ih _ _ (by omega) hj'⟩
  exact gen n 0 [] (by omega) h0
end
section
open PyProof.Rows.LCg PyProof.Rows.LCt
variable {prog : Program} {w : World} {A : Around} {s : Shared} {h₀ : Heap} {L : Addr} {m : Str → Option Value} {env : Env}
theorem comp_indT {ct elt : Expr} {x : Str} {scope : Scope} {cl : List (Str × Addr)} {S : List (Addr × Obj) → Prop} {P : Nat → Value → Prop} {Fin : List Value → List (Addr × Obj) → Prop} {n : Nat} {news : List (Addr × Obj)} (J : Nat → List Value → Prop)
    (h0 : J 0 [])
    (step : ∀ i ys, i < n → J i ys → ∀ v I oI C oC D m₂ h tk (E' : Value → Shared → Prop), P i v → NsObj oC m₂ → m₂ x = some v → Fr h₀ L h m → News h₀ L h ((I, oI) :: (C, oC) :: (D, lst ys) :: news) → Off3 I C D news → ((@Ne Nat I C) ∧ (@Ne Nat I D) ∧ (@Ne Nat C D)) →
      wpAny (model prog w) A (isTrue ct (compEnvC scope cl C env) (eval ct (compEnvC scope cl C env))) (fun ok s' => if ok = true then
        wpAny (model prog w) A (eval elt (compEnvC scope cl C env)) (CompEnd h₀ L m { s with heap := h, toks := tk } I oI C oC D (lst ys) S (fun y news' => news' = news ∧ J (i + 1) (ys ++ [y]))) E' s'
        else CompEnd h₀ L m { s with heap := h, toks := tk } I oI C oC D (lst ys) S (fun _ news' => news' = news ∧ J (i + 1) ys) Value.none s') E' { s with heap := h, toks := tk })
    (fin : ∀ ys, J n ys → Fin ys news) : CompRestT prog w A h₀ L m env ct elt x scope cl s S P Fin n 0 [] news := by
  have gen : ∀ k i ys, i + k = n → J i ys → CompRestT prog w A h₀ L m env ct elt x scope cl s S P Fin k i ys news := by
    intro k
    induction k with
    | zero =>
      intro i ys e hj
      have : i = n := by omega
      subst this
      exact CompRestT.zero (fin ys hj)
    | succ k ih =>
      intro i ys e hj
      refine CompRestT.succ fun v I oI C oC D m₂ h tk E' a1 a2 a3 a4 a5 a6 a7 => ?_
      refine wpAny_mono (step i ys (by omega) hj v I oI C oC D m₂ h tk E' a1 a2 a3 a4 a5 a6 a7) (fun ok s₂ c => ?_) fun _ _ z => z
      cases ok with
      | true =>
        rw [if_pos rfl] at c ⊢
        refine wpAny_mono c (fun y s₃ c => ?_) fun _ _ z => z
        obtain ⟨h', tk', nw, e1, F', N', o', hS, rfl, hj'⟩ := c
        exact ⟨h', tk', _, e1, F', N', o', hS, ih _ _ (by omega) hj'⟩
      | false =>
        rw [if_neg Bool.false_ne_true] at c ⊢
        obtain ⟨h', tk', nw, e1, F', N', o', hS, rfl, hj'⟩ := c
        exact ⟨h', tk', _, e1, F', N', o', hS, ih _ _ (by omega) hj'⟩
  exact gen n 0 [] (by omega) h0
end
theorem kf_ints_of {us : List Value} {ns : List Int} (h : IntsAre us ns) : kf_ints us = true := by
  induction h with
  | nil => rfl
  | cons n t _ ih => exact ih
theorem kf_at_of {k : Int} {us : List Value} {ns : List Int} (h : IntsAre us ns) (hk : k ∈ ns) : kf_at k us = some (ns.idxOf k) := by
  induction h with
  | nil => cases hk
  | @cons n t vs ms h' ih =>
    unfold kf_at
    have e : isInt k (Value.int n t) = (n == k) := by
      unfold isInt
      first | rfl | (by_cases q : n = k <;> simp [q, eq_comm])
    rw [e, List.idxOf_cons]
    cases q : (n == k) with
    | true => rfl
    | false =>
      have hk' : k ∈ ms := by
        rcases List.mem_cons.mp hk with rfl | hk
        · simp at q
        · exact hk
      rw [ih hk']
      rfl
section
variable {prog : Program} {w : World} {A : Around} {E : Value → Shared → Prop} {s : Shared} {h₀ : Heap} {L D : Addr} {news : List (Addr × Obj)} {us : List Value} {ns : List Int} {n : Nat} {k : Int} {t : Tok}
theorem index_ints {Q : Value → Shared → Prop} (N : News h₀ L s.heap news) (hm : (D, listOf us.toArray n) ∈ news) (hi : IntsAre us ns) (hk : k ∈ ns) (hz : ns.length ≤ 100)
    (h : ns.idxOf k < ns.length → Q (.int (ns.idxOf k : Nat) s.toks) { s with toks := s.toks + 1 }) : wpAny (model prog w) A (call (.builtin "list.index") [.ref D, .int k t]) Q E s :=
  kf_index N hm (kf_ints_of hi) (kf_at_of hi hk) rfl (by show us.length ≤ _; rw [sizeLine_eq, hi.length]; omega) (h (List.idxOf_lt_length_of_mem hk))
end
theorem any_ints {k : Int} {us : List Value} {ns : List Int} (h : IntsAre us ns) : us.any (isInt k) = decide (k ∈ ns) := by
  induction h with
  | nil => rfl
  | @cons n t vs ms h' ih =>
    rw [List.any_cons, ih]
    have e : isInt k (Value.int n t) = (n == k) := by
      unfold isInt
      first | rfl | (by_cases q : n = k <;> simp [q, eq_comm])
    rw [e]
    by_cases q : n = k
    · simp [q]
    · have q2 : ¬ k = n := fun z => q z.symm
      have q3 : (n == k) = false := by simpa using q
      simp [q2, q3]
section
variable {kvs : List (Int × Value)} {k j : Int} {v : Value}
theorem keys_without : (without kvs k).map (·.1) = (kvs.map (·.1)).filter (fun y => decide (y ≠ k)) := by
  unfold without
  rw [List.filter_map]
  rfl
theorem valueAt_none (h : k ∉ kvs.map (·.1)) : valueAt kvs k = none := by
  cases e : valueAt kvs k with
  | none => rfl
  | some z => exact absurd (valueAt_isSome.mp (by rw [e]; rfl)) h
theorem valueAt_there (h : k ∈ kvs.map (·.1)) : ∃ z, valueAt kvs k = some z := Option.isSome_iff_exists.mp (valueAt_isSome.mpr h)
theorem stored_new (h : k ∉ kvs.map (·.1)) : stored kvs k v = kvs ++ [(k, v)] := PyProof.Rows.stored_absent (valueAt_none h) v
theorem valueAt_snoc_ne (h : j ≠ k) : valueAt (kvs ++ [(k, v)]) j = valueAt kvs j := by
  induction kvs with
  | nil => rw [List.nil_append, valueAt_cons, if_neg (fun e => h e.symm)]
  | cons p r ih => rw [List.cons_append, valueAt_cons, valueAt_cons, ih]
theorem valueAt_snoc_self (h : k ∉ kvs.map (·.1)) : valueAt (kvs ++ [(k, v)]) k = some v := by
  induction kvs with
  | nil => rw [List.nil_append, valueAt_cons, if_pos rfl]
  | cons p r ih =>
    rw [List.map_cons, List.mem_cons, not_or] at h
    rw [List.cons_append, valueAt_cons, if_neg (fun e => h.1 e.symm), ih h.2]
theorem valueAt_without_ne (h : j ≠ k) : valueAt (without kvs k) j = valueAt kvs j := by
  unfold without
  induction kvs with
  | nil => rfl
  | cons p r ih =>
    rw [List.filter_cons]
    by_cases e : p.1 = k
    · rw [if_neg (by simp [e]), ih, valueAt_cons, if_neg (fun q => h (q.symm.trans e))]
    · rw [if_pos (by simp [e]), valueAt_cons, valueAt_cons, ih]
theorem any_key : kvs.any (fun kv => kv.1 = k) = true ↔ k ∈ kvs.map (·.1) := by
  rw [← valueAt_isSome, PyProof.Rows.valueAt_isSome_eq_any]
theorem keys_stored_old (h : k ∈ kvs.map (·.1)) : (stored kvs k v).map (·.1) = kvs.map (·.1) := by
  unfold stored
  rw [if_pos (any_key.mpr h), List.map_map]
  refine List.map_congr_left fun p _ => ?_
  show (if p.1 = k then (p.1, v) else p).1 = p.1
  split <;> rfl
theorem valueAt_mapped (h : j ≠ k) : valueAt (kvs.map fun kv => if kv.1 = k then (kv.1, v) else kv) j = valueAt kvs j := by
  induction kvs with
  | nil => rfl
  | cons q r ih =>
    rw [List.map_cons, valueAt_cons, valueAt_cons, ih]
    by_cases e : q.1 = k
    · rw [if_pos e, if_neg (show ¬q.1 = j from fun z => h (z.symm.trans e)), if_neg (show ¬q.1 = j from fun z => h (z.symm.trans e))]
    · rw [if_neg e]
theorem valueAt_stored_ne (h : j ≠ k) : valueAt (stored kvs k v) j = valueAt kvs j := by
  unfold stored
  split
  · exact valueAt_mapped h
  · exact valueAt_snoc_ne h
theorem valueAt_stored_self : valueAt (stored kvs k v) k = some v := by
  unfold stored
  split
  · rename_i h
    rw [any_key] at h
    induction kvs with
    | nil => cases h
    | cons p r ih =>
      rw [List.map_cons, valueAt_cons]
      by_cases e : p.1 = k
      · rw [if_pos e, if_pos e]
      · rw [if_neg e, if_neg e]
        rw [List.map_cons, List.mem_cons] at h
        exact ih (h.resolve_left fun z => e z.symm)
  · rename_i h
    exact valueAt_snoc_self fun z => h (any_key.mpr z)
theorem length_keys {O : List Int} (h : (kvs.map (·.1)).Perm O) : kvs.length = O.length := by
  have := h.length_eq
  simpa using this
end
section
open PyProof.Rows.LCg
variable {prog : Program} {w : World} {A : Around} {E : Value → Shared → Prop} {s : Shared} {h₀ : Heap} {L : Addr} {m : Str → Option Value} {env : Env}
/-- the source of a comprehension is an iterator over the keys of a dict with int keys -/
def CompKeys (prog : Program) (w : World) (A : Around) (h₀ : Heap) (L : Addr) (m : Str → Option Value) (env : Env) (elt : Expr) (x : Str) (scope : Scope) (cl : List (Str × Addr)) (Fin : Shared → List Value → List (Addr × Obj) → Prop) (it : Value) (s₂ : Shared) : Prop :=
  ∃ (I d : Addr) (oI od : Obj) (kvs : List (Int × Value)) (ep : Nat) (news : List (Addr × Obj)), it = .ref I ∧ A.handled = none ∧ Fr h₀ L s₂.heap m ∧ News h₀ L s₂.heap ((I, oI) :: news) ∧ (∀ p ∈ news, p.1 ≠ I) ∧
    KdkIter oI d 0 kvs.length ep ∧ KdkAt (PySem.intKind prog w) od kvs ep ∧ (d, od) ∈ news ∧ kvs.length ≤ sizeLine ∧
    CompRest prog w A h₀ L m env elt x scope cl s₂ (fun nw => (d, od) ∈ nw) (fun i v => ∃ k y, kvs[i]? = some (k, y) ∧ (PySem.intKind prog w).is k v = true) (Fin s₂) kvs.length 0 [] news
theorem ListComp_Keys {elt iter : Expr} {x : Str} {px : Pos} {scope : Scope} {cl : List (Str × Addr)} {pos : Pos} {Q : Value → Shared → Prop} (F₀ : Fr h₀ L s.heap m)
    (hclos : closureFor scope env = pure cl) (hcell : ∀ y ∈ scope.names, y.2 ≠ .cell) (hkind : scope.kind = .function)
    (hnames : ∀ y ∈ scope.names, y.2 = .local → scope.names.lookup y.1 = some .local) (hx : scope.names.lookup x = some .local)
    (h : wpAny (model prog w) A (eval iter env) (fun xv s₁ => wpAny (model prog w) A (pyIter xv) (CompKeys prog w A h₀ L m env elt x scope cl (fun s₂ => FinE h₀ L m s₂ Q)) E s₁) E s)
    (hs : ∀ x, foldedSetIterable iter env x = pure x := by intro _; rfl) :
    wpAny (model prog w) A (eval (.ListComp elt [⟨.Name x px, iter, [], 0⟩] scope pos) env) Q E s := by
  rw [eval_ListComp]
  refine wpAny_comprehension_free (use := none) rfl hs hclos hkind hnames (wpAny_mono h (fun xv s₁ h₁ => ?_) fun _ _ e => e)
  refine wpAny_mono h₁ (fun it s₂ h₂ => ?_) fun _ _ e => e
  obtain ⟨I, d, oI, od, kvs, ep, news, rfl, hh, F, N, off, hi, ha, hd, hsz, R⟩ := h₂
  have NI := N (I, oI) (.head _)
  have Nn : News h₀ L s₂.heap news := fun p hp => N p (.tail _ hp)
  have hdI : d ≠ I := off _ hd
  refine block_U (Walks.dictKeys (knd := PySem.intKind prog w) hh I d hdI kvs ep) hsz (fun i h st => by obtain ⟨o, e, _⟩ := st.1; exact ⟨o, e⟩) (S := fun nw => (d, od) ∈ nw)
    (fun i h h' o nw st e e' k N' S' => ⟨by obtain ⟨o', q, r⟩ := st.1; rw [e] at q; cases q; exact ⟨o, e', r⟩, ha.dictAt (N' _ S').1⟩) hcell hkind hx ⟨hi.at NI.1, ha.dictAt (Nn _ hd).1⟩ (fun b hb => ?_)
    F Nn (fun e => NI.2.1 e.symm) NI.2.2 off hd R ?_
  · rcases List.mem_cons.mp hb with rfl | hb
    · exact Heap.lt_size NI.1
    · rw [List.mem_singleton.mp hb]; exact Heap.lt_size (Nn _ hd).1
  · intro D C h tk m' ys news' F' N' o1 hn hC₀ hD₀ hCL hDL hCD offC fin
    refine ⟨m', hn, fun h'' hs'' => fin D h'' tk (F'.change hs'' hCL hC₀) (fun p hp => ?_) o1⟩
    refine ⟨hs''.extBut _ _ ?_ (N' p hp).1, (N' p hp).2⟩
    rcases List.mem_cons.mp hp with rfl | hp
    · exact Ne.symm hCD
    · exact offC p hp
end
theorem allLt_mem {d : Addr} : ∀ {l : List (Addr × Obj)}, AllLt d l → ∀ p ∈ l, p.1 < d
  | [], _, _, h => nomatch h
  | _ :: _, H, p, h => by
    rcases List.mem_cons.mp h with rfl | h
    · exact H.1
    · exact allLt_mem H.2 p h
theorem allLt_ne {d : Addr} {l : List (Addr × Obj)} (h : AllLt d l) : ∀ p ∈ l, p.1 ≠ d := fun p hp => Nat.ne_of_lt (allLt_mem h p hp)
structure RRStep (rank : Int → Nat) (r : Nat) (k : Int) (M M' : List Int) : Prop where
  nd : M'.Nodup
  hit : k ∈ M → M' = M
  miss : k ∉ M → M.length < r → M' = M ++ [k]
  evict : k ∉ M → M.length = r → ∃ f, f ∈ M ∧ (∀ j ∈ M, rank j ≤ rank f) ∧ M'.length = M.length ∧ ∀ j, j ∈ M' ↔ j = k ∨ (j ∈ M ∧ j ≠ f)
theorem perm_of_mem {A B : List Int} (ha : A.Nodup) (hb : B.Nodup) (h : ∀ j, j ∈ A ↔ j ∈ B) : A.Perm B := by
  rw [List.perm_iff_count]
  intro a
  rw [ha.count, hb.count]
  simp only [h a]
theorem dict_nodup {prog : Program} {w : World} {o : Obj} {kvs : List (Int × Value)} (h : o.IsDictOf (intKind prog w) kvs) : (kvs.map (·.1)).Nodup := by
  obtain ⟨es, ep, _, _, _, _, hn⟩ := h
  exact hn
section
variable {n : Nat} {prog : Program} {w : World} {K : Frag} {f : Addr} {args : List Value} {E F : List (Addr × Obj)} {Post Post' : Value → List (Addr × Obj) → Prop}
theorem Contract.mono (C : Contract n prog w K f args E Post) (h : ∀ v E', Post v E' → Post' v E') : Contract n prog w K f args E Post' :=
  fun dp un gd outer base s p loose mean mg mb R hd hu B NE X T XB TB D hret => C dp un gd outer base s p loose mean mg mb R hd hu B NE X T XB TB D fun v E' h' tk' g' a b c d => hret v E' h' tk' g' a b c (h _ _ d)
theorem ContractP.mono (C : ContractP n prog w K f args E Post) (h : ∀ v E', Post v E' → Post' v E') : ContractP n prog w K f args E Post' :=
  fun dp un gd outer base s p loose mean mg mb R hd hu B NE X T hret => C dp un gd outer base s p loose mean mg mb R hd hu B NE X T fun v E' h' tk' a b d => hret v E' h' tk' a b (h _ _ d)
theorem ContractP.frame (C : ContractP n prog w K f args E Post) (hne : ∀ q ∈ F, ∀ r ∈ E, q.1 ≠ r.1) : ContractP n prog w K f args (E ++ F) fun v E'' => ∃ E', Post v E' ∧ E'' = E' ++ F := by
  intro dp un gd outer base s p loose mean mg mb R hd hu B NE X T hret
  have k : ∀ b o, (hideAll s.heap (addrs (E ++ F))).get? b = some o → (hideAll s.heap (addrs E)).get? b = some o := fun b o e => hideAll_get _ (of_hideAll _ e) fun hm => by
    have this : (hideAll s.heap (addrs (E ++ F))).get? b = none := hideAll_none _ (by unfold addrs at hm ⊢; rw [List.map_append]; exact List.mem_append_left _ hm)
    rw [e] at this; cases this
  refine C dp un gd outer base s p loose mean mg mb R hd hu ⟨B.stack, fun b o e => k b o (B.stays b o e), B.frames.of_keeps fun b o e _ => ⟨o, k b o e, rfl⟩⟩ (fun q hq => NE q (List.mem_append_left _ hq)) (X.keeps k) (T.keeps k) fun v E' h' tk' a b c => ?_
  refine hret v (E' ++ F) h' tk' (fun q hq => ?_) (fun b' o e => b b' o (k b' o e)) ⟨E', c, rfl⟩
  rcases List.mem_append.mp hq with hq | hq
  · refine ⟨(a q hq).1, ?_⟩
    cases e : (hideAll s.heap (addrs (E ++ F))).get? q.1 with
    | none => rfl
    | some o => have := (a q hq).2; rw [k _ _ e] at this; cases this
  · exact ⟨b _ _ (hideAll_get _ (NE q (List.mem_append_right _ hq)) fun hm => by
      obtain ⟨r, hr, e⟩ := List.mem_map.mp hm
      exact hne q hq r hr e.symm), hideAll_none _ (List.mem_map_of_mem (List.mem_append_right _ hq))⟩
end
section
variable {M : List Int} {f k : Int} {i : Nat}
theorem rr_last (h : M ≠ []) : M.getD (-1 + (M.length : Int)).toNat 0 = M.getLast h := by
  have hp := List.length_pos_iff.mpr h
  rw [show (-1 + (M.length : Int)).toNat = M.length - 1 by omega, List.getLast_eq_getElem, List.getD_eq_getElem?_getD, List.getElem?_eq_getElem (by omega)]
  rfl
theorem get_inj (hd : M.Nodup) {a b : Nat} {x : Int} (ha : M[a]? = some x) (hb : M[b]? = some x) : a = b := by
  obtain ⟨la, ea⟩ := List.getElem?_eq_some_iff.mp ha
  obtain ⟨lb, eb⟩ := List.getElem?_eq_some_iff.mp hb
  rcases Nat.lt_trichotomy a b with h | h | h
  · exact absurd (ea.trans eb.symm) ((List.pairwise_iff_getElem.mp hd) a b la lb h)
  · exact h
  · exact absurd (eb.trans ea.symm) ((List.pairwise_iff_getElem.mp hd) b a lb la h)
/-- the list after the key at i gave its place to the last one -/
def rrCut (M : List Int) (i : Nat) : List Int := if i = M.length - 1 then M.dropLast else (M.set i (M.getD (-1 + (M.length : Int)).toNat 0)).dropLast
theorem rrCut_len : (rrCut M i).length = M.length - 1 := by unfold rrCut; split <;> simp
theorem rrCut_get (hi : i < M.length) {j : Nat} (hj : j < M.length - 1) : (rrCut M i)[j]? = if j = i then M[M.length - 1]? else M[j]? := by
  unfold rrCut
  have hl : M.getD (-1 + (M.length : Int)).toNat 0 = M[M.length - 1] := by
    rw [show (-1 + (M.length : Int)).toNat = M.length - 1 by omega, List.getD_eq_getElem?_getD, List.getElem?_eq_getElem (by omega)]
    rfl
  split
  · rename_i h
    rw [if_neg (by omega), List.getElem?_dropLast, if_pos hj]
  · rename_i h
    rw [List.getElem?_dropLast, List.length_set, if_pos hj, List.getElem?_set, hl]
    by_cases e : j = i
    · rw [if_pos e.symm, if_pos e, if_pos hi, List.getElem?_eq_getElem (by omega)]
    · rw [if_neg (fun q => e q.symm), if_neg e]
theorem rrCut_mem (hd : M.Nodup) (hi : M[i]? = some f) (j : Int) : j ∈ rrCut M i ↔ j ∈ M ∧ j ≠ f := by
  obtain ⟨hl, _⟩ := List.getElem?_eq_some_iff.mp hi
  constructor
  · intro h
    obtain ⟨a, ha⟩ := List.mem_iff_getElem?.mp h
    have hla : a < M.length - 1 := by
      obtain ⟨q, _⟩ := List.getElem?_eq_some_iff.mp ha
      rwa [rrCut_len] at q
    rw [rrCut_get hl hla] at ha
    split at ha
    · refine ⟨List.mem_of_getElem? ha, ?_⟩
      rintro rfl
      have := get_inj hd ha hi
      omega
    · refine ⟨List.mem_of_getElem? ha, ?_⟩
      rintro rfl
      exact absurd (get_inj hd ha hi) (by assumption)
  · rintro ⟨h, hne⟩
    obtain ⟨a, ha⟩ := List.mem_iff_getElem?.mp h
    obtain ⟨la, _⟩ := List.getElem?_eq_some_iff.mp ha
    have hai : a ≠ i := fun e => hne (by rw [e, hi] at ha; exact (Option.some.inj ha).symm)
    refine List.mem_iff_getElem?.mpr ?_
    by_cases e : a = M.length - 1
    · refine ⟨i, ?_⟩
      rw [rrCut_get hl (by omega), if_pos rfl, ← e]
      exact ha
    · refine ⟨a, ?_⟩
      rw [rrCut_get hl (by omega), if_neg hai]
      exact ha
theorem rrCut_nodup (hd : M.Nodup) (hi : i < M.length) : (rrCut M i).Nodup := by
  refine List.pairwise_iff_getElem.mpr fun a b la lb hab e => ?_
  rw [rrCut_len] at la lb
  have ga := rrCut_get hi la
  have gb := rrCut_get hi lb
  rw [List.getElem?_eq_getElem (by rw [rrCut_len]; omega)] at ga gb
  rw [e] at ga
  have gg := ga.symm.trans gb
  have hs : ∀ c, c < M.length → M[c]? = some M[c]! := fun c hc => by rw [List.getElem?_eq_getElem hc, List.getElem!_eq_getElem?_getD, List.getElem?_eq_getElem hc]; rfl
  split at gg <;> split at gg
  · omega
  · have := get_inj hd (hs _ (by omega)) (gg.symm.trans (hs _ (by omega))); omega
  · have := get_inj hd (hs _ (by omega)) (gg.trans (hs _ (by omega))); omega
  · have := get_inj hd (hs _ (by omega)) (gg.symm.trans (hs _ (by omega))); omega
end
theorem nd_mid {l1 l2 l3 : List Nat} (h : (l1 ++ l2 ++ l3).Nodup) : (∀ a ∈ l1, ∀ b ∈ l2, a ≠ b) ∧ ∀ a ∈ l3, ∀ b ∈ l2, a ≠ b := by
  rw [List.nodup_append] at h
  obtain ⟨h1, _, h3⟩ := h
  rw [List.nodup_append] at h1
  exact ⟨h1.2.2, fun a ha b hb e => h3 b (List.mem_append_right _ hb) a ha e.symm⟩
theorem nd_ne {l : List Nat} (h : l.Nodup) {i j : Nat} {a b : Nat} (hi : l[i]? = some a) (hj : l[j]? = some b) (hij : i ≠ j) : a ≠ b := by
  rintro rfl
  obtain ⟨la, ea⟩ := List.getElem?_eq_some_iff.mp hi
  obtain ⟨lb, eb⟩ := List.getElem?_eq_some_iff.mp hj
  rcases Nat.lt_or_gt_of_ne hij with q | q
  · exact (List.pairwise_iff_getElem.mp h) i j la lb q (ea.trans eb.symm)
  · exact (List.pairwise_iff_getElem.mp h) j i lb la q (eb.trans ea.symm)
/-- the least recently used cache as a list of keys, the one used longest ago first -/
def lruStep (r : Nat) (O : List Int) (x : Int) : List Int := if x ∈ O then O.filter (fun y => decide (y ≠ x)) ++ [x] else (if O.length < r then O else O.tail) ++ [x]
/-- u may stand before v when the present place is c -/
def Side (c u v : Int) : Prop := ¬(v < u ∧ u ≤ c) ∧ ¬(c ≤ u ∧ u < v)
theorem side_turn {c x u v : Int} (h : Side c u v) (hx : x - c ≤ 1) (hx2 : c - x ≤ 1) (hu : u ≠ x) : Side x u v := by
  unfold Side at *
  omega
theorem side_last {x u : Int} : Side x u x := by unfold Side; omega
theorem lru_side {r : Nat} {O : List Int} {c x : Int} (h : O.Pairwise (Side c)) (hx : x - c ≤ 1) (hx2 : c - x ≤ 1) : (lruStep r O x).Pairwise (Side x) := by
  unfold lruStep
  split
  · rw [List.pairwise_append]
    refine ⟨?_, List.pairwise_singleton _ _, fun a _ b hb => by rw [List.mem_singleton.mp hb]; exact side_last⟩
    refine (h.filter _).imp_of_mem fun {a b} ha _ q => side_turn q hx hx2 ?_
    have := (List.mem_filter.mp ha).2
    simpa using this
  · rename_i hn
    rw [List.pairwise_append]
    refine ⟨?_, List.pairwise_singleton _ _, fun a _ b hb => by rw [List.mem_singleton.mp hb]; exact side_last⟩
    have sub : ∀ l : List Int, l.Sublist O → l.Pairwise (Side x) := fun l hl =>
      (h.sublist hl).imp_of_mem fun {a b} ha _ q => side_turn q hx hx2 fun e => hn (e ▸ hl.subset ha)
    split
    · exact sub _ (List.Sublist.refl _)
    · exact sub _ (List.tail_sublist _)
def Convex (O : List Int) : Prop := ∀ u ∈ O, ∀ v ∈ O, ∀ t, u ≤ t → t ≤ v → t ∈ O
theorem mem_lruStep_self {r : Nat} {O : List Int} {x : Int} : x ∈ lruStep r O x := by
  unfold lruStep
  split <;> simp
theorem lru_nodup {r : Nat} {O : List Int} {x : Int} (h : O.Nodup) : (lruStep r O x).Nodup := by
  unfold lruStep
  split
  · rw [List.nodup_append]
    refine ⟨h.filter _, by simp, fun a ha b hb => ?_⟩
    rw [List.mem_singleton.mp hb]
    simpa using (List.mem_filter.mp ha).2
  · rename_i hn
    rw [List.nodup_append]
    refine ⟨?_, by simp, fun a ha b hb => ?_⟩
    · split
      · exact h
      · exact h.sublist (List.tail_sublist _)
    · rw [List.mem_singleton.mp hb]
      rintro rfl
      split at ha
      · exact hn ha
      · exact hn (List.mem_of_mem_tail ha)
/-- where a missing place lies next to the present one, all that is held lies on the other side, and the head is the far end -/
theorem far_end {O : List Int} {c x h : Int} {T : List Int} (hO : O = h :: T) (hs : O.Pairwise (Side c)) (hd : O.Nodup) (hc : c ∈ O) (hv : Convex O) (hx : x - c ≤ 1) (hx2 : c - x ≤ 1) (hn : x ∉ O) :
    (x = c + 1 ∧ (∀ v ∈ O, v ≤ c) ∧ ∀ v ∈ T, h < v) ∨ (x = c - 1 ∧ (∀ v ∈ O, c ≤ v) ∧ ∀ v ∈ T, v < h) := by
  have hne : x ≠ c := fun e => hn (e ▸ hc)
  subst hO
  have hs' := List.pairwise_cons.mp hs
  have hd' := List.nodup_cons.mp hd
  rcases (by omega : x = c + 1 ∨ x = c - 1) with e | e
  · left
    have le : ∀ v ∈ h :: T, v ≤ c := fun v hv' => by
      rcases Int.lt_or_le c v with q | q
      · exact absurd (hv c hc v hv' x (by omega) (by omega)) hn
      · exact q
    refine ⟨e, le, fun v hT => ?_⟩
    have := (hs'.1 v hT).1
    have h1 := le h (.head _)
    have h2 : v ≠ h := fun q => hd'.1 (q ▸ hT)
    omega
  · right
    have ge : ∀ v ∈ h :: T, c ≤ v := fun v hv' => by
      rcases Int.lt_or_le v c with q | q
      · exact absurd (hv v hv' c hc x (by omega) (by omega)) hn
      · exact q
    refine ⟨e, ge, fun v hT => ?_⟩
    have := (hs'.1 v hT).2
    have h1 := ge h (.head _)
    have h2 : v ≠ h := fun q => hd'.1 (q ▸ hT)
    omega
theorem lru_convex {r : Nat} {O : List Int} {c x : Int} (hr : 1 ≤ r) (hs : O.Pairwise (Side c)) (hd : O.Nodup) (hc : c ∈ O) (hv : Convex O) (hx : x - c ≤ 1) (hx2 : c - x ≤ 1) : Convex (lruStep r O x) := by
  by_cases hm : x ∈ O
  · have e : ∀ t, t ∈ lruStep r O x ↔ t ∈ O := fun t => by
      unfold lruStep
      rw [if_pos hm]
      simp only [List.mem_append, List.mem_filter, List.mem_singleton, decide_eq_true_eq]
      exact ⟨fun q => q.elim (fun z => z.1) fun z => z ▸ hm, fun q => if z : t = x then .inr z else .inl ⟨q, z⟩⟩
    intro u hu v hv' t h1 h2
    exact (e t).mpr (hv u ((e u).mp hu) v ((e v).mp hv') t h1 h2)
  · unfold lruStep
    rw [if_neg hm]
    cases hO : O with
    | nil => rw [hO] at hc; cases hc
    | cons h T =>
      have F := far_end hO hs hd hc hv hx hx2 hm
      rw [hO] at hv hc hm F
      intro u hu v hv' t h1 h2
      rw [List.mem_append, List.mem_singleton] at hu hv' ⊢
      have tl : (if (h :: T).length < r then h :: T else (h :: T).tail) = h :: T ∨ (if (h :: T).length < r then h :: T else (h :: T).tail) = T := by split <;> simp
      rcases tl with e | e
      · rw [e] at hu hv' ⊢
        by_cases ht : t = x
        · exact .inr ht
        · left
          rcases F with ⟨e1, f1, f2⟩ | ⟨e1, f1, f2⟩
          · have hu' : u ∈ h :: T := by
              rcases hu with q | q
              · exact q
              · rcases hv' with z | z
                · have := f1 v z; omega
                · omega
            refine hv u hu' c hc t h1 ?_
            rcases hv' with z | z
            · have := f1 v z; omega
            · omega
          · have hv'' : v ∈ h :: T := by
              rcases hv' with q | q
              · exact q
              · rcases hu with z | z
                · have := f1 u z; omega
                · omega
            refine hv c hc v hv'' t ?_ h2
            rcases hu with z | z
            · have := f1 u z; omega
            · omega
      · rw [e] at hu hv' ⊢
        by_cases ht : t = x
        · exact .inr ht
        · left
          rcases F with ⟨e1, f1, f2⟩ | ⟨e1, f1, f2⟩
          · have hu' : u ∈ T := by
              rcases hu with q | q
              · exact q
              · rcases hv' with z | z
                · have := f1 v (.tail _ z); omega
                · omega
            have tO : t ∈ h :: T := hv u (.tail _ hu') c hc t h1 (by
              rcases hv' with z | z
              · have := f1 v (.tail _ z); omega
              · omega)
            rcases List.mem_cons.mp tO with q | q
            · have := f2 u hu'; omega
            · exact q
          · have hv'' : v ∈ T := by
              rcases hv' with q | q
              · exact q
              · rcases hu with z | z
                · have := f1 u (.tail _ z); omega
                · omega
            have tO : t ∈ h :: T := hv c hc v (.tail _ hv'') t (by
              rcases hu with z | z
              · have := f1 u (.tail _ z); omega
              · omega) h2
            rcases List.mem_cons.mp tO with q | q
            · have := f2 v hv''; omega
            · exact q
theorem sorted_from : ∀ {l : List Int}, l.Pairwise (· ≤ ·) → l.Nodup → Convex l → ∀ i, i < l.length → l.getD i 0 = l.getD 0 0 + i := by
  intro l
  induction l with
  | nil => intro _ _ _ i h; simp at h
  | cons a l ih =>
    intro hs hn hc i hi
    have hs' := List.pairwise_cons.mp hs
    have hn' := List.nodup_cons.mp hn
    cases i with
    | zero => simp
    | succ i =>
      cases l with
      | nil => simp at hi
      | cons b l =>
        have hb : b = a + 1 := by
          have h1 := hs'.1 b (.head _)
          have h2 : b ≠ a := fun e => hn'.1 (e ▸ .head _)
          have h3 := hc a (.head _) b (.tail _ (.head _)) (a + 1) (by omega) (by omega)
          rcases List.mem_cons.mp h3 with e | e
          · omega
          · rcases List.mem_cons.mp e with e | e
            · omega
            · have := (List.pairwise_cons.mp hs'.2).1 _ e; omega
        have hc' : Convex (b :: l) := fun u hu v hv t h1 h2 => by
          rcases List.mem_cons.mp (hc u (.tail _ hu) v (.tail _ hv) t h1 h2) with e | e
          · have h4 := hs'.1 u hu
            have h5 : u ≠ a := fun e => hn'.1 (e ▸ hu)
            omega
          · exact e
        have := ih hs'.2 hn'.2 hc' i (by simpa using hi)
        simp only [List.getD_cons_succ, List.getD_cons_zero] at this ⊢
        omega
theorem sorted_span {l O : List Int} (hs : l.Pairwise (· ≤ ·)) (hp : l.Perm O) (hO : O.Nodup) (hc : Convex O) (h0 : 0 < l.length) : l.getD (-1 + (l.length : Int)).toNat 0 - l.getD (Int.toNat 0) 0 = (l.length : Int) - 1 := by
  have hn : l.Nodup := hp.nodup_iff.mpr hO
  have hc' : Convex l := fun u hu v hv t h1 h2 => hp.mem_iff.mpr (hc u (hp.mem_iff.mp hu) v (hp.mem_iff.mp hv) t h1 h2)
  have := sorted_from hs hn hc' (-1 + (l.length : Int)).toNat (by omega)
  rw [this]
  show l.getD 0 0 + _ - l.getD 0 0 = _
  omega
def nextUse (ws : List Int) (p : Nat) (k : Int) : Nat := p + 1 + (ws.drop (p + 1)).idxOf k
theorem nextUse_hit {ws : List Int} {p i : Nat} {k : Int} (h1 : ∀ j, j < i → ws.getD (p + 1 + j) 0 ≠ k) (h2 : ws.getD (p + 1 + i) 0 = k) (h3 : p + 1 + i < ws.length) : nextUse ws p k = p + 1 + i := by
  unfold nextUse
  congr 1
  have key : ∀ (l : List Int) (i : Nat), i < l.length → (∀ j, j < i → l.getD j 0 ≠ k) → l.getD i 0 = k → l.idxOf k = i := by
    intro l
    induction l with
    | nil => intro i h; simp at h
    | cons a r ih =>
      intro i h h1 h2
      cases i with
      | zero => simp at h2; simp [List.idxOf_cons, h2]
      | succ i =>
        have ha : a ≠ k := by simpa using h1 0 (Nat.succ_pos _)
        have := ih i (by simpa using h) (fun j hj => by simpa using h1 (j + 1) (by omega)) (by simpa using h2)
        rw [List.idxOf_cons, this]
        have hb : (a == k) = false := by simpa using ha
        rw [hb]
        rfl
  refine key _ i (by simp; omega) (fun j hj => ?_) ?_
  · have := h1 j hj
    simpa [List.getD_eq_getElem?_getD, List.getElem?_drop] using this
  · simpa [List.getD_eq_getElem?_getD, List.getElem?_drop] using h2
theorem nextUse_miss {ws : List Int} {p : Nat} {k : Int} (hp : p < ws.length) (h1 : ∀ j, j < ws.length - (p + 1) → ws.getD (p + 1 + j) 0 ≠ k) : nextUse ws p k = ws.length := by
  unfold nextUse
  have hn : k ∉ ws.drop (p + 1) := by
    intro hm
    obtain ⟨j, hj, e⟩ := List.mem_iff_getElem.mp hm
    simp only [List.length_drop] at hj
    refine h1 j hj ?_
    rw [List.getElem_drop] at e
    rw [List.getD_eq_getElem?_getD, List.getElem?_eq_getElem (by omega)]
    simpa using e
  rw [List.idxOf_eq_length hn, List.length_drop]
  omega
/-- a walk by steps of one goes through all that lies between -/
theorem walk_between {f : Nat → Int} (hstep : ∀ i, f (i + 1) - f i ≤ 1 ∧ f i - f (i + 1) ≤ 1) {p : Nat} {v : Int} : ∀ n, (f p < v ∧ v < f (p + n)) ∨ (v < f p ∧ f (p + n) < v) → ∃ q, p < q ∧ q < p + n ∧ f q = v := by
  intro n
  induction n with
  | zero => intro h; rcases h with ⟨a, b⟩ | ⟨a, b⟩ <;> (simp at b; omega)
  | succ n ih =>
    intro h
    have s := hstep (p + n)
    by_cases e : f (p + n) = v
    · refine ⟨p + n, ?_, by omega, e⟩
      rcases Nat.eq_zero_or_pos n with z | z
      · subst z; simp at e; omega
      · omega
    · obtain ⟨q, h1, h2, h3⟩ := ih (by rw [show p + (n + 1) = p + n + 1 from rfl] at h; omega)
      exact ⟨q, h1, by omega, h3⟩
theorem nextUse_le {ws : List Int} {p q : Nat} {k : Int} (h1 : p < q) (h2 : q < ws.length) (h3 : ws.getD q 0 = k) : nextUse ws p k ≤ q := by
  rcases Nat.lt_or_ge q (nextUse ws p k) with h | h
  · exfalso
    unfold nextUse at h
    have hj : q - (p + 1) < (ws.drop (p + 1)).idxOf k := by omega
    have hl : q - (p + 1) < (ws.drop (p + 1)).length := by rw [List.length_drop]; omega
    have hne := List.not_of_lt_findIdx (p := (· == k)) (xs := ws.drop (p + 1)) hj
    rw [List.getElem_drop] at hne
    refine absurd ?_ (beq_eq_false_iff_ne.mp hne)
    refine Eq.trans ?_ h3
    rw [List.getD_eq_getElem?_getD, List.getElem?_eq_getElem h2]
    simp only [Option.getD_some]
    congr 1
    omega
  · exact h
theorem nextUse_at {ws : List Int} {p : Nat} {k : Int} (h : nextUse ws p k < ws.length) : ws.getD (nextUse ws p k) 0 = k ∧ p < nextUse ws p k := by
  unfold nextUse at *
  have hl : (ws.drop (p + 1)).idxOf k < (ws.drop (p + 1)).length := by rw [List.length_drop]; omega
  have e := List.getElem_idxOf (x := k) (xs := ws.drop (p + 1)) hl
  rw [List.getElem_drop] at e
  refine ⟨?_, by omega⟩
  rw [List.getD_eq_getElem?_getD, List.getElem?_eq_getElem h]
  simpa using e
def Steps (ws : List Int) : Prop := ∀ i, i + 1 < ws.length → ws.getD (i + 1) 0 - ws.getD i 0 ≤ 1 ∧ ws.getD i 0 - ws.getD (i + 1) 0 ≤ 1
theorem before_far {ws : List Int} {p : Nat} {h v : Int} (hs : Steps ws) (hp : p < ws.length) (hq : nextUse ws p h < ws.length) (hb : (h < v ∧ v < ws.getD p 0) ∨ (ws.getD p 0 < v ∧ v < h)) : nextUse ws p v < nextUse ws p h := by
  obtain ⟨e1, e2⟩ := nextUse_at hq
  have hstep : ∀ i, (fun i => ws.getD (min i (ws.length - 1)) 0) (i + 1) - (fun i => ws.getD (min i (ws.length - 1)) 0) i ≤ 1 ∧ (fun i => ws.getD (min i (ws.length - 1)) 0) i - (fun i => ws.getD (min i (ws.length - 1)) 0) (i + 1) ≤ 1 := by
    intro i
    dsimp only
    by_cases c : i + 1 < ws.length
    · rw [show min (i + 1) (ws.length - 1) = i + 1 by omega, show min i (ws.length - 1) = i by omega]
      exact hs i c
    · rw [show min (i + 1) (ws.length - 1) = ws.length - 1 by omega, show min i (ws.length - 1) = ws.length - 1 by omega]
      omega
  obtain ⟨q, q1, q2, q3⟩ := walk_between (f := fun i => ws.getD (min i (ws.length - 1)) 0) hstep (p := p) (v := v) (nextUse ws p h - p) (by
    rw [show min p (ws.length - 1) = p by omega, show min (p + (nextUse ws p h - p)) (ws.length - 1) = nextUse ws p h by omega, e1]
    omega)
  rw [show min q (ws.length - 1) = q by omega] at q3
  have := nextUse_le (k := v) q1 (by omega) q3
  omega
theorem subset_of_len : ∀ {A B : List Int}, A.Nodup → (∀ v ∈ A, v ∈ B) → B.length ≤ A.length → ∀ v ∈ B, v ∈ A
  | [], B, _, _, hl, v, hv => by
    have : B = [] := List.eq_nil_of_length_eq_zero (by simpa using hl)
    rw [this] at hv
    exact hv
  | a :: A, B, hA, hs, hl, v, hv => by
    have hA' := List.nodup_cons.mp hA
    have ha : a ∈ B := hs a (.head _)
    by_cases e : v = a
    · rw [e]; exact .head _
    · refine .tail _ (subset_of_len (B := B.erase a) hA'.2 (fun u hu => ?_) ?_ v ((List.mem_erase_of_ne e).mpr hv))
      · exact (List.mem_erase_of_ne (fun q : u = a => hA'.1 (q ▸ hu))).mpr (hs u (.tail _ hu))
      · rw [List.length_erase_of_mem ha]
        simp only [List.length_cons] at hl
        omega
/-- k is asked at some place after p -/
def Later (ws : List Int) (p : Nat) (k : Int) : Prop := nextUse ws p k < ws.length
/-- the step of the agreement: O full, its head h the far end; M as large; f in M with the latest next use -/
theorem agree_evict {ws : List Int} {p : Nat} {h f : Int} {T M : List Int} (hOd : (h :: T).Nodup) (hMd : M.Nodup) (hlen : M.length = (h :: T).length)
    (hag : ∀ k, Later ws p k → (k ∈ h :: T ↔ k ∈ M)) (hfar : Later ws p h → ∀ v ∈ T, nextUse ws p v < nextUse ws p h) (hf : f ∈ M) (hmax : ∀ k ∈ M, nextUse ws p k ≤ nextUse ws p f) (hle : ∀ k, nextUse ws p k ≤ ws.length) :
    ∀ k, Later ws p k → (k ∈ T ↔ k ∈ M ∧ k ≠ f) := by
  intro k hk
  have hd := List.nodup_cons.mp hOd
  by_cases hh : Later ws p h
  · -- every held key is asked again: M = O as sets, f = h
    have sub : ∀ v ∈ h :: T, v ∈ M := fun v hv => by
      refine (hag v ?_).mp hv
      rcases List.mem_cons.mp hv with rfl | hv
      · exact hh
      · exact Nat.lt_trans (hfar hh v hv) hh
    have sub2 : ∀ v ∈ M, v ∈ h :: T := subset_of_len hOd sub (by omega)
    have ef : f = h := by
      rcases List.mem_cons.mp (sub2 f hf) with e | e
      · exact e
      · have h1 := hfar hh f e
        have h2 := hmax h (sub h (.head _))
        omega
    subst ef
    constructor
    · intro q
      exact ⟨sub k (.tail _ q), fun e => hd.1 (e ▸ q)⟩
    · rintro ⟨q1, q2⟩
      rcases List.mem_cons.mp (sub2 k q1) with e | e
      · exact absurd e q2
      · exact e
  · -- the head is never asked again: so some M key is never asked again, and f is such a one
    have hfn : ¬ Later ws p f := by
      intro hfl
      have all : ∀ v ∈ M, Later ws p v := fun v hv => Nat.lt_of_le_of_lt (hmax v hv) hfl
      have sub3 := subset_of_len hMd (fun v hv => (hag v (all v hv)).mpr hv) (by omega)
      exact hh (all h (sub3 h (.head _)))
    constructor
    · intro q
      exact ⟨(hag k hk).mp (.tail _ q), fun e => hfn (e ▸ hk)⟩
    · rintro ⟨q1, q2⟩
      rcases List.mem_cons.mp ((hag k hk).mpr q1) with e | e
      · exact absurd (e ▸ hk) hh
      · exact e
def Asked (ws : List Int) (p : Nat) (k : Int) : Prop := ∃ q, p ≤ q ∧ q < ws.length ∧ ws.getD q 0 = k
theorem asked_later {ws : List Int} {p : Nat} {k : Int} : Asked ws (p + 1) k ↔ Later ws p k := by
  constructor
  · rintro ⟨q, h1, h2, h3⟩
    exact Nat.lt_of_le_of_lt (nextUse_le h1 h2 h3) h2
  · intro h
    obtain ⟨h1, h2⟩ := nextUse_at h
    exact ⟨_, h2, h, h1⟩
theorem nextUse_len {ws : List Int} {p : Nat} (hp : p < ws.length) (k : Int) : nextUse ws p k ≤ ws.length := by
  have := List.idxOf_le_length (a := k) (l := ws.drop (p + 1))
  unfold nextUse
  rw [List.length_drop] at this
  omega
structure Inv (ws : List Int) (r p : Nat) (O M : List Int) : Prop where
  nd : O.Nodup
  md : M.Nodup
  len : M.length = O.length
  room : O.length ≤ r
  fst : p = 0 → O = []
  side : ∀ q, p = q + 1 → ws.getD q 0 ∈ O ∧ O.Pairwise (Side (ws.getD q 0)) ∧ Convex O
  agree : ∀ k, Asked ws p k → (k ∈ O ↔ k ∈ M)
theorem lru_mem {r : Nat} {O : List Int} {k : Int} (h : k ∈ O) (j : Int) : j ∈ lruStep r O k ↔ j ∈ O := by
  unfold lruStep
  rw [if_pos h]
  simp only [List.mem_append, List.mem_filter, List.mem_singleton, decide_eq_true_eq]
  exact ⟨fun q => q.elim (fun z => z.1) fun z => z ▸ h, fun q => if z : j = k then .inr z else .inl ⟨q, z⟩⟩
theorem filter_len {O : List Int} {k : Int} (hn : O.Nodup) (h : k ∈ O) : (O.filter (fun y => decide (y ≠ k))).length + 1 = O.length := by
  have e : O.filter (fun y => decide (y ≠ k)) = O.erase k := by
    rw [hn.erase_eq_filter]
    refine List.filter_congr fun y _ => ?_
    show decide (¬y = k) = !(y == k)
    by_cases q : y = k <;> simp [q]
  rw [e, List.length_erase_of_mem h]
  have := List.length_pos_of_mem h
  omega
theorem lru_len {r : Nat} {O : List Int} {k : Int} (hn : O.Nodup) (hr : O.length ≤ r) (hr1 : 1 ≤ r) : (lruStep r O k).length = if k ∈ O then O.length else min r (O.length + 1) := by
  unfold lruStep
  split
  · rename_i h
    rw [List.length_append, List.length_singleton, filter_len hn h]
  · rw [List.length_append, List.length_singleton]
    split
    · omega
    · rw [List.length_tail]; omega
theorem inv_key {ws : List Int} {r p : Nat} {O M : List Int} (I : Inv ws r p O M) (hp : p < ws.length) : ws.getD p 0 ∈ O ↔ ws.getD p 0 ∈ M := I.agree _ ⟨p, Nat.le_refl _, hp, rfl⟩
theorem inv_step {ws : List Int} {r p : Nat} {O M M' : List Int} {k : Int} (hs : Steps ws) (hr : 1 ≤ r) (hp : p < ws.length) (I : Inv ws r p O M) (hk : ws.getD p 0 = k) (R : RRStep (nextUse ws p) r k M M') : Inv ws r (p + 1) (lruStep r O k) M' := by
  have hkey : k ∈ O ↔ k ∈ M := hk ▸ inv_key I hp
  have hlen := lru_len (k := k) I.nd I.room hr
  have hm := I.len
  have ho := I.room
  refine ⟨lru_nodup I.nd, R.nd, ?_, ?_, fun e => (by cases e), ?_, ?_⟩
  · by_cases h : k ∈ O
    · rw [if_pos h] at hlen
      rw [R.hit (hkey.mp h)]; omega
    · rw [if_neg h] at hlen
      rcases Nat.lt_or_ge M.length r with q | q
      · rw [R.miss (fun z => h (hkey.mpr z)) q, List.length_append, List.length_singleton]; omega
      · obtain ⟨f, _, _, e, _⟩ := R.evict (fun z => h (hkey.mpr z)) (by omega)
        omega
  · split at hlen <;> omega
  · intro q e
    have e : p = q := by omega
    subst e
    rw [hk]
    cases p with
    | zero =>
      have e := I.fst rfl
      subst e
      have : lruStep r [] k = [k] := by
        unfold lruStep
        rw [if_neg (by simp)]
        split <;> rfl
      rw [this]
      exact ⟨.head _, List.pairwise_singleton _ _, fun u hu v hv t h1 h2 => by
        rw [List.mem_singleton] at hu hv ⊢
        omega⟩
    | succ c =>
      obtain ⟨s1, s2, s3⟩ := I.side c rfl
      have st := hs c hp
      rw [hk] at st
      exact ⟨mem_lruStep_self, lru_side s2 st.1 st.2, lru_convex hr s2 I.nd s1 s3 st.1 st.2⟩
  · intro j hj
    have hj0 : Asked ws p j := by
      obtain ⟨q, h1, h2, h3⟩ := hj
      exact ⟨q, by omega, h2, h3⟩
    by_cases h : k ∈ O
    · rw [lru_mem h, R.hit (hkey.mp h)]
      exact I.agree j hj0
    · have hM : k ∉ M := fun z => h (hkey.mpr z)
      unfold lruStep
      rw [if_neg h]
      rcases Nat.lt_or_ge O.length r with q | q
      · rw [if_pos q, R.miss hM (by omega), List.mem_append, List.mem_append, I.agree j hj0]
      · rw [if_neg (by omega)]
        obtain ⟨f, f1, f2, _, f4⟩ := R.evict hM (by omega)
        rw [List.mem_append, List.mem_singleton, f4]
        cases hO : O with
        | nil => rw [hO] at q; simp at q; omega
        | cons a T =>
          rw [List.tail_cons]
          cases p with
          | zero => have := I.fst rfl; rw [hO] at this; cases this
          | succ c =>
            obtain ⟨s1, s2, s3⟩ := I.side c rfl
            have st := hs c hp
            rw [hk] at st
            have F := far_end hO s2 I.nd s1 s3 st.1 st.2 h
            have key := agree_evict (ws := ws) (p := c + 1) (h := a) (f := f) (T := T) (M := M) (hO ▸ I.nd) I.md (by rw [I.len, hO])
              (fun k' hk' => by
                obtain ⟨q, h1, h2, h3⟩ := asked_later.mpr hk'
                exact hO ▸ I.agree k' ⟨q, by omega, h2, h3⟩)
              (fun hl v hv => before_far hs hp hl (by
                rw [hk]
                rcases F with ⟨e1, g1, g2⟩ | ⟨e1, g1, g2⟩
                · left; have := g2 v hv; have := g1 v (hO ▸ .tail _ hv); omega
                · right; have := g2 v hv; have := g1 v (hO ▸ .tail _ hv); omega)) f1 f2 (nextUse_len hp) j (asked_later.mp hj)
            rw [key]
            exact or_comm
theorem keys_stored_mem {kvs : List (Int × Value)} {k j : Int} {v : Value} : j ∈ (stored kvs k v).map (·.1) ↔ j = k ∨ j ∈ kvs.map (·.1) := by
  by_cases h : k ∈ kvs.map (·.1)
  · rw [keys_stored_old h]
    exact ⟨.inr, fun q => q.elim (fun e => e ▸ h) id⟩
  · rw [stored_new h, List.map_append, List.mem_append]
    simp only [List.map_cons, List.map_nil, List.mem_singleton]
    exact or_comm
/-- what was loaded, against what is held -/
structure Held (r : Nat) (O : List Int) (lds : List (Int × Value)) : Prop where
  len : O.length = min r lds.length
  all : O.length < r → ∀ j ∈ lds.map (·.1), j ∈ O
  sub : ∀ j ∈ O, j ∈ lds.map (·.1)
theorem held_step {r : Nat} {O : List Int} {lds : List (Int × Value)} {k : Int} {v : Value} (hr : 1 ≤ r) (hn : O.Nodup) (H : Held r O lds) : Held r (lruStep r O k) (if k ∈ O then lds else stored lds k v) := by
  have hl := H.len
  by_cases h : k ∈ O
  · rw [if_pos h]
    have e := lru_len (r := r) (k := k) hn (by omega) hr
    rw [if_pos h] at e
    refine ⟨by omega, fun q j hj => (lru_mem h j).mpr (H.all (by omega) j hj), fun j hj => H.sub j ((lru_mem h j).mp hj)⟩
  · rw [if_neg h]
    have e := lru_len (r := r) (k := k) hn (by omega) hr
    rw [if_neg h] at e
    rcases Nat.lt_or_ge O.length r with q | q
    · have hk : k ∉ lds.map (·.1) := fun z => h (H.all q k z)
      have es : lruStep r O k = O ++ [k] := by unfold lruStep; rw [if_neg h, if_pos q]
      refine ⟨by rw [stored_new hk, List.length_append, List.length_singleton]; omega, fun _ j hj => ?_, fun j hj => ?_⟩
      · rw [es, List.mem_append, List.mem_singleton]
        rcases keys_stored_mem.mp hj with z | z
        · exact .inr z
        · exact .inl (H.all q j z)
      · rw [es, List.mem_append, List.mem_singleton] at hj
        rcases hj with z | z
        · exact keys_stored_mem.mpr (.inr (H.sub j z))
        · exact keys_stored_mem.mpr (.inl z)
    · have es : lruStep r O k = O.tail ++ [k] := by unfold lruStep; rw [if_neg h, if_neg (by omega)]
      have ls : lds.length ≤ (stored lds k v).length := by
        unfold stored
        split
        · rw [List.length_map]; omega
        · rw [List.length_append]; omega
      refine ⟨by omega, fun z => by omega, fun j hj => ?_⟩
      rw [es, List.mem_append, List.mem_singleton] at hj
      rcases hj with z | z
      · exact keys_stored_mem.mpr (.inr (H.sub j (List.mem_of_mem_tail z)))
      · exact keys_stored_mem.mpr (.inl z)
theorem order_step {r : Nat} {O pre : List Int} {k : Int} (hr : 1 ≤ r) : ∃ pre', (pre ++ O).filter (fun z => decide (z ≠ k)) ++ [k] = pre' ++ lruStep r O k := by
  unfold lruStep
  by_cases h : k ∈ O
  · exact ⟨pre.filter (fun z => decide (z ≠ k)), by rw [if_pos h, List.filter_append, List.append_assoc]⟩
  · have e : O.filter (fun z => decide (z ≠ k)) = O := List.filter_eq_self.mpr fun a ha => by
      have : a ≠ k := fun z => h (z ▸ ha)
      simpa using this
    rw [if_neg h, List.filter_append, e]
    split
    · exact ⟨pre.filter (fun z => decide (z ≠ k)), by rw [List.append_assoc]⟩
    · cases O with
      | nil => exact ⟨pre.filter (fun z => decide (z ≠ k)), by simp⟩
      | cons a T => exact ⟨pre.filter (fun z => decide (z ≠ k)) ++ [a], by simp⟩
/-- what a cache holds are the steps of the last loads -/
def ValOK (kvs lds : List (Int × Value)) (O : List Int) : Prop := ∀ j ∈ O, ∃ a t, valueAt kvs j = some (.int a t) ∧ valueAt lds j = some (.int a t)
theorem val_step {O O' : List Int} {kvs kvs' lds : List (Int × Value)} {k a : Int} {ta : Tok} {b : Bool} {v : Value} (V : ValOK kvs lds O) (h1 : valueAt kvs' k = some (.int a ta)) (h2 : valueAt (if b = true then lds else stored lds k v) k = some (.int a ta))
    (h3 : ∀ j ∈ O', j ≠ k → j ∈ O ∧ valueAt kvs' j = valueAt kvs j) : ValOK kvs' (if b = true then lds else stored lds k v) O' := by
  intro j hj
  by_cases e : j = k
  · subst e
    exact ⟨a, ta, h1, h2⟩
  · obtain ⟨g1, g2⟩ := h3 j hj e
    obtain ⟨a', t', g3, g4⟩ := V j g1
    refine ⟨a', t', by rw [g2]; exact g3, ?_⟩
    split
    · exact g4
    · rw [valueAt_stored_ne e]; exact g4
theorem val_key {O M : List Int} {kvs kws lds : List (Int × Value)} {k : Int} {p : Nat} {tp : Tok} {b : Bool} (hb : b = true ↔ k ∈ O) (hk : k ∈ O ↔ k ∈ M) (V1 : ValOK kvs lds O) (V2 : ValOK kws lds M) :
    ∃ a ta, valueAt (if b = true then lds else stored lds k (.int p tp)) k = some (.int a ta) ∧ (k ∈ O → valueAt kvs k = some (.int a ta)) ∧ (k ∈ M → valueAt kws k = some (.int a ta)) ∧ (k ∉ O → Value.int a ta = .int p tp) ∧ (k ∉ M → Value.int a ta = .int p tp) := by
  by_cases h : k ∈ O
  · obtain ⟨a, t, g1, g2⟩ := V1 k h
    obtain ⟨a', t', g3, g4⟩ := V2 k (hk.mp h)
    rw [g2] at g4
    rw [if_pos (hb.mpr h)]
    exact ⟨a, t, g2, fun _ => g1, fun _ => by rw [g3, g4], fun z => absurd h z, fun z => absurd (hk.mp h) z⟩
  · rw [if_neg fun z => h (hb.mp z)]
    exact ⟨p, tp, valueAt_stored_self, fun z => absurd z h, fun z => absurd (hk.mpr z) h, fun _ => rfl, fun _ => rfl⟩
def lawStmt : Option Stmt := PySem.Challenge.rw_fc0035_02.row.prog.main.body.getLast?
def lawBody : List Stmt := match lawStmt with | some (.FunctionDef _ _ b _ _ _ _ _ _ _) => b | _ => []
def lawScope : Scope := match lawStmt with | some (.FunctionDef _ _ _ _ _ _ sc _ _ _) => sc | _ => default
def loopStmt : Option Stmt := lawBody[11]?
def loopBody : List Stmt := match loopStmt with | some (.For _ _ b _ _) => b | _ => []
def drainStmt : Option Stmt := lawBody[13]?
def drainBody : List Stmt := match drainStmt with | some (.While _ b _ _) => b | _ => []
def drainTest : Expr := match drainStmt with | some (.While t _ _ _) => t | _ => .Constant .none 0 default
set_option maxHeartbeats 4000000 in
theorem bind857 (w : World) {s : Shared} {oc : Value} {od : Option Addr} {osl : Array (Option Value)} {fd : FuncData} (X : (tjCSoBpQsPZBkyzz.heap_39 w.params).In s.heap) (a b : Value) (e : (tjCSoBpQsPZBkyzz.heap_39 w.params).lookup 857 = some ⟨oc, od, .func fd, osl⟩) :
    BindsTo s fd ⟨[a, b], []⟩ [(Str.ofString "self", a), (Str.ofString "key", b), (Str.ofString "cache_getitem", .ref 728)] := by
  refine' bind_via ?h1 e ?h2
  case h1 => k_is
  case h2 => k_dflt (exact binds_K X rfl (by k_is) rfl rfl rfl)
set_option maxHeartbeats 4000000 in
theorem bind865 (w : World) {s : Shared} {oc : Value} {od : Option Addr} {osl : Array (Option Value)} {fd : FuncData} (X : (tjCSoBpQsPZBkyzz.heap_39 w.params).In s.heap) (a b c : Value) (e : (tjCSoBpQsPZBkyzz.heap_39 w.params).lookup 865 = some ⟨oc, od, .func fd, osl⟩) :
    BindsTo s fd ⟨[a, b, c], []⟩ [(Str.ofString "self", a), (Str.ofString "key", b), (Str.ofString "value", c), (Str.ofString "cache_setitem", .ref 735)] := by
  refine' bind_via ?h1 e ?h2
  case h1 => k_is
  case h2 => k_dflt (exact binds_K X rfl (by k_is) rfl rfl rfl)
set_option maxHeartbeats 4000000 in
theorem bind873 (w : World) {s : Shared} {oc : Value} {od : Option Addr} {osl : Array (Option Value)} {fd : FuncData} (X : (tjCSoBpQsPZBkyzz.heap_39 w.params).In s.heap) (a b : Value) (e : (tjCSoBpQsPZBkyzz.heap_39 w.params).lookup 873 = some ⟨oc, od, .func fd, osl⟩) :
    BindsTo s fd ⟨[a, b], []⟩ [(Str.ofString "self", a), (Str.ofString "key", b), (Str.ofString "cache_delitem", .ref 742)] := by
  refine' bind_via ?h1 e ?h2
  case h1 => k_is
  case h2 => k_dflt (exact binds_K X rfl (by k_is) rfl rfl rfl)
set_option maxHeartbeats 4000000 in
theorem bind930 (w : World) {s : Shared} {oc : Value} {od : Option Addr} {osl : Array (Option Value)} {fd : FuncData} (X : (tjCSoBpQsPZBkyzz.heap_39 w.params).In s.heap) (a b c : Value) (e : (tjCSoBpQsPZBkyzz.heap_39 w.params).lookup 930 = some ⟨oc, od, .func fd, osl⟩) :
    BindsTo s fd ⟨[a, b, c], []⟩ [(Str.ofString "self", a), (Str.ofString "key", b), (Str.ofString "value", c), (Str.ofString "cache_setitem", .ref 735)] := by
  refine' bind_via ?h1 e ?h2
  case h1 => k_is
  case h2 => k_dflt (exact binds_K X rfl (by k_is) rfl rfl rfl)
set_option maxHeartbeats 4000000 in
theorem bind938 (w : World) {s : Shared} {oc : Value} {od : Option Addr} {osl : Array (Option Value)} {fd : FuncData} (X : (tjCSoBpQsPZBkyzz.heap_39 w.params).In s.heap) (a b : Value) (e : (tjCSoBpQsPZBkyzz.heap_39 w.params).lookup 938 = some ⟨oc, od, .func fd, osl⟩) :
    BindsTo s fd ⟨[a, b], []⟩ [(Str.ofString "self", a), (Str.ofString "key", b), (Str.ofString "cache_delitem", .ref 742)] := by
  refine' bind_via ?h1 e ?h2
  case h1 => k_is
  case h2 => k_dflt (exact binds_K X rfl (by k_is) rfl rfl rfl)
set_option maxHeartbeats 4000000 in
theorem bind794 (w : World) {s : Shared} {oc : Value} {od : Option Addr} {osl : Array (Option Value)} {fd : FuncData} (X : (tjCSoBpQsPZBkyzz.heap_39 w.params).In s.heap) (a b c : Value) (e : (tjCSoBpQsPZBkyzz.heap_39 w.params).lookup 794 = some ⟨oc, od, .func fd, osl⟩) :
    BindsTo s fd ⟨[a, b, c], []⟩ [(Str.ofString "self", a), (Str.ofString "key", b), (Str.ofString "default", c)] := by
  refine' bind_via ?h1 e ?h2
  case h1 => k_is
  case h2 => k_dflt (exact binds_K X rfl (by k_is) rfl rfl rfl)
set_option maxHeartbeats 4000000 in
theorem bind849 (w : World) {s : Shared} {oc : Value} {od : Option Addr} {osl : Array (Option Value)} {fd : FuncData} (X : (tjCSoBpQsPZBkyzz.heap_39 w.params).In s.heap) (a b : Value) (e : (tjCSoBpQsPZBkyzz.heap_39 w.params).lookup 849 = some ⟨oc, od, .func fd, osl⟩) :
    BindsTo s fd ⟨[a, b], []⟩ [(Str.ofString "self", a), (Str.ofString "maxsize", b), (Str.ofString "getsizeof", .none)] := by
  refine' bind_via ?h1 e ?h2
  case h1 => k_is
  case h2 => k_dflt (exact binds_K X rfl (by k_is) rfl rfl rfl)
set_option maxHeartbeats 4000000 in
theorem bind914 (w : World) {s : Shared} {oc : Value} {od : Option Addr} {osl : Array (Option Value)} {fd : FuncData} (X : (tjCSoBpQsPZBkyzz.heap_39 w.params).In s.heap) (a b c : Value) (e : (tjCSoBpQsPZBkyzz.heap_39 w.params).lookup 914 = some ⟨oc, od, .func fd, osl⟩) :
    BindsTo s fd ⟨[a, b, c], []⟩ [(Str.ofString "self", a), (Str.ofString "maxsize", b), (Str.ofString "choice", c), (Str.ofString "getsizeof", .none)] := by
  refine' bind_via ?h1 e ?h2
  case h1 => k_is
  case h2 => k_dflt (exact binds_K X rfl (by k_is) rfl rfl rfl)
set_option maxHeartbeats 4000000 in
theorem bind714 (w : World) {s : Shared} {oc : Value} {od : Option Addr} {osl : Array (Option Value)} {fd : FuncData} (X : (tjCSoBpQsPZBkyzz.heap_39 w.params).In s.heap) (a b c : Value) (e : (tjCSoBpQsPZBkyzz.heap_39 w.params).lookup 714 = some ⟨oc, od, .func fd, osl⟩) :
    BindsTo s fd ⟨[a, b, c], []⟩ [(Str.ofString "self", a), (Str.ofString "maxsize", b), (Str.ofString "getsizeof", c)] := by
  refine' bind_via ?h1 e ?h2
  case h1 => k_is
  case h2 => k_dflt (exact binds_K X rfl (by k_is) rfl rfl rfl)
section
local macro_rules | `(tactic| k_room) => `(tactic| ((try simp only [depth_under_make, depth_under_kw, depth_in1, depth_deeper, depth_caller]); (try dsimp only [arO]); omega))
local macro_rules | `(tactic| k_units) => `(tactic| ktr_units)
local macro_rules | `(tactic| walk_at "getAttr ref") => `(tactic| (k_here; k_dflt (refine' get_sm ?k1 ?k2 ?k3 ?k4 (findObj_nondata ?c1 ?c2 ?c3 ?c4 ?c5 ?c6) ?k5 ?k6 ?_; (case k1 => k_asm); (case k2 => k_asm); (case k3 => (refine' InstAt.of_news ?N9 ?h91 ?h92; (case N9 => k_asm); (case h91 => k_memK); (case h92 => k_memK))); (case k4 => k_is); (case c1 => k_is); (case c2 => k_is); (case c3 => k_is); (case c4 => k_is); (case c5 => k_get); (case c6 => decide +kernel); (case k5 => k_is); (case k6 => k_handed); k_whole)))
local macro_rules | `(tactic| walk_at "compareOp In int ref") => `(tactic| (k_here; k_dflt (first
  | refine kda_in (knd := PySem.intKind _ _) (by k_asm) (by k_mem) (by k_asm) (by k_asm) (intKind_is _ _ _ _) true (by assumption) ?_
  | refine kda_in (knd := PySem.intKind _ _) (by k_asm) (by k_mem) (by k_asm) (by k_asm) (intKind_is _ _ _ _) false (by assumption) ?_)))
local macro_rules | `(tactic| walk_at "compareOp NotIn int ref") => `(tactic| (k_here; k_dflt (first
  | refine kdg_notin (knd := PySem.intKind _ _) (by k_asm) (by k_mem) (by k_asm) (by k_asm) (intKind_is _ _ _ _) true (by assumption) ?_
  | refine kdg_notin (knd := PySem.intKind _ _) (by k_asm) (by k_mem) (by k_asm) (by k_asm) (intKind_is _ _ _ _) false (by assumption) ?_); (try dsimp only [Bool.not_true, Bool.not_false])))
local macro_rules | `(tactic| walk_at "subscriptTail") => `(tactic| (k_here; (with_reducible show wpAny _ _ (subscriptTail _ _ (Value.ref _) (Value.int _ _)) _ _ _); k_dflt (refine kdt_tail (knd := PySem.intKind _ _) (by k_asm) (by k_mem) (by assumption) ?_)))
local macro_rules | `(tactic| walk_at "getItem ref int") => `(tactic| (k_here; k_dflt (refine kdt_getItem (knd := PySem.intKind _ _) (by k_asm) (by k_mem) (by assumption) (intKind_is _ _ _ _) (by assumption) ?_)))
local macro_rules | `(tactic| walk_at "setItem ref int") => `(tactic| (k_here; k_dflt (refine' kda_set (knd := PySem.intKind _ _) ?F ?N ?U ?d (intKind_is _ _ _ _) ?z ?_; (case F => k_asm); (case N => k_asm); (case U => k_updF); (case d => assumption); (case z => (first | exact line100 (by assumption) | exact line100w (by assumption) | exact line100s (by assumption)))); intro h' o' F' N' hd'; (try dsimp only at N')))
local macro_rules | `(tactic| walk_at "delItem ref int") => `(tactic| (k_here; k_dflt (refine' dk_del (knd := PySem.intKind _ _) ?F ?N ?U ?d (intKind_is _ _ _ _) ?v ?z ?_; (case F => k_asm); (case N => k_asm); (case U => k_updF); (case d => assumption); (case v => assumption); (case z => (first | exact line100 (by assumption) | exact line100w (by assumption) | exact line100s (by assumption)))); intro h' o' F' N' hd'; (try dsimp only at N')))
local macro_rules | `(tactic| walk_at "call builtin:dict.pop") => `(tactic| (k_here; (with_reducible show wpAny _ _ (call (Value.builtin "dict.pop") [Value.ref _, Value.int _ _]) _ _ _); k_dflt (refine' dk_pop (knd := PySem.intKind _ _) ?F ?N ?U ?d (intKind_is _ _ _ _) rfl ?v ?z ?_; (case F => k_asm); (case N => k_asm); (case U => k_updF); (case d => assumption); (case v => assumption); (case z => (first | exact line100 (by assumption) | exact line100w (by assumption) | exact line100s (by assumption)))); intro h' o' F' N' hd'; (try dsimp only at N')))
local macro_rules | `(tactic| walk_at "subscriptTail Attribute") => `(tactic| (k_here; (with_reducible show wpAny _ _ (subscriptTail _ _ (Value.ref _) (Value.int _ _)) _ _ _); k_dflt (refine kdt_tail (knd := PySem.intKind _ _) (by k_asm) (by k_mem) (by assumption) ?_)))
local macro_rules | `(tactic| k_enter) => `(tactic| (refine' code_def ?k1 ?k2 ?k3 ?k4 ?k5 ?kA ?kF ?kK ?k6 ?k7 ?k8 ?k9 ?kB ?_ ?c2 ?c3 ?c4 ?c5; (case kA => exact rfl); (case kF => exact rfl); (case kK => first | exact rfl | assumption); (case k1 => k_asm); (case k2 => k_asm); (case k3 => k_asm); (case k4 => k_asm); (case k5 => k_asm); (case k6 => k_is); (case k7 => k_is); (case k8 => k_room); (case k9 => exact BindsTo.of_eq rfl); (case c5 => decide); (case kB => exact locs rfl); (case c2 => exact rfl); (case c3 => exact rfl); (case c4 => exact rfl); k_whole; intro g' L' h' FG' F' N' B' X' T'; (try dsimp only); (try k_lift B'); (try k_fold)))
local macro_rules | `(tactic| walk_at "call ref") => `(tactic| (k_here; k_dflt (refine wpAny_call ?_; k_enter)))
local macro_rules | `(tactic| walk_at "call ref") => `(tactic| (k_here; (with_reducible show wpAny _ _ (call (Value.ref 857) _) _ _ _); k_dflt (refine wpAny_call ?_; (refine' code_def ?k1 ?k2 ?k3 ?k4 ?k5 ?kA ?kF ?kK ?k6 ?k7 ?k8 ?k9 ?kB ?_ ?c2 ?c3 ?c4 ?c5; (case kA => exact rfl); (case kF => exact rfl); (case kK => first | exact rfl | assumption); (case k1 => k_asm); (case k2 => k_asm); (case k3 => k_asm); (case k4 => k_asm); (case k5 => k_asm); (case k6 => k_is); (case k7 => k_is); (case k8 => k_room); (case k9 => exact bind857 _ (by k_in) _ _ (by k_is)); (case c5 => decide); (case kB => exact locs rfl); (case c2 => exact rfl); (case c3 => exact rfl); (case c4 => exact rfl); k_whole; intro g' L' h' FG' F' N' B' X' T'; (try dsimp only); (try k_lift B'); (try k_fold)))))
local macro_rules | `(tactic| walk_at "call ref") => `(tactic| (k_here; (with_reducible show wpAny _ _ (call (Value.ref 865) _) _ _ _); k_dflt (refine wpAny_call ?_; (refine' code_def ?k1 ?k2 ?k3 ?k4 ?k5 ?kA ?kF ?kK ?k6 ?k7 ?k8 ?k9 ?kB ?_ ?c2 ?c3 ?c4 ?c5; (case kA => exact rfl); (case kF => exact rfl); (case kK => first | exact rfl | assumption); (case k1 => k_asm); (case k2 => k_asm); (case k3 => k_asm); (case k4 => k_asm); (case k5 => k_asm); (case k6 => k_is); (case k7 => k_is); (case k8 => k_room); (case k9 => exact bind865 _ (by k_in) _ _ _ (by k_is)); (case c5 => decide); (case kB => exact locs rfl); (case c2 => exact rfl); (case c3 => exact rfl); (case c4 => exact rfl); k_whole; intro g' L' h' FG' F' N' B' X' T'; (try dsimp only); (try k_lift B'); (try k_fold)))))
local macro_rules | `(tactic| walk_at "call ref") => `(tactic| (k_here; (with_reducible show wpAny _ _ (call (Value.ref 873) _) _ _ _); k_dflt (refine wpAny_call ?_; (refine' code_def ?k1 ?k2 ?k3 ?k4 ?k5 ?kA ?kF ?kK ?k6 ?k7 ?k8 ?k9 ?kB ?_ ?c2 ?c3 ?c4 ?c5; (case kA => exact rfl); (case kF => exact rfl); (case kK => first | exact rfl | assumption); (case k1 => k_asm); (case k2 => k_asm); (case k3 => k_asm); (case k4 => k_asm); (case k5 => k_asm); (case k6 => k_is); (case k7 => k_is); (case k8 => k_room); (case k9 => exact bind873 _ (by k_in) _ _ (by k_is)); (case c5 => decide); (case kB => exact locs rfl); (case c2 => exact rfl); (case c3 => exact rfl); (case c4 => exact rfl); k_whole; intro g' L' h' FG' F' N' B' X' T'; (try dsimp only); (try k_lift B'); (try k_fold)))))
local macro_rules | `(tactic| walk_at "call ref") => `(tactic| (k_here; (with_reducible show wpAny _ _ (call (Value.ref 930) _) _ _ _); k_dflt (refine wpAny_call ?_; (refine' code_def ?k1 ?k2 ?k3 ?k4 ?k5 ?kA ?kF ?kK ?k6 ?k7 ?k8 ?k9 ?kB ?_ ?c2 ?c3 ?c4 ?c5; (case kA => exact rfl); (case kF => exact rfl); (case kK => first | exact rfl | assumption); (case k1 => k_asm); (case k2 => k_asm); (case k3 => k_asm); (case k4 => k_asm); (case k5 => k_asm); (case k6 => k_is); (case k7 => k_is); (case k8 => k_room); (case k9 => exact bind930 _ (by k_in) _ _ _ (by k_is)); (case c5 => decide); (case kB => exact locs rfl); (case c2 => exact rfl); (case c3 => exact rfl); (case c4 => exact rfl); k_whole; intro g' L' h' FG' F' N' B' X' T'; (try dsimp only); (try k_lift B'); (try k_fold)))))
local macro_rules | `(tactic| walk_at "call ref") => `(tactic| (k_here; (with_reducible show wpAny _ _ (call (Value.ref 938) _) _ _ _); k_dflt (refine wpAny_call ?_; (refine' code_def ?k1 ?k2 ?k3 ?k4 ?k5 ?kA ?kF ?kK ?k6 ?k7 ?k8 ?k9 ?kB ?_ ?c2 ?c3 ?c4 ?c5; (case kA => exact rfl); (case kF => exact rfl); (case kK => first | exact rfl | assumption); (case k1 => k_asm); (case k2 => k_asm); (case k3 => k_asm); (case k4 => k_asm); (case k5 => k_asm); (case k6 => k_is); (case k7 => k_is); (case k8 => k_room); (case k9 => exact bind938 _ (by k_in) _ _ (by k_is)); (case c5 => decide); (case kB => exact locs rfl); (case c2 => exact rfl); (case c3 => exact rfl); (case c4 => exact rfl); k_whole; intro g' L' h' FG' F' N' B' X' T'; (try dsimp only); (try k_lift B'); (try k_fold)))))
local macro_rules | `(tactic| walk_at "call ref") => `(tactic| (k_here; (with_reducible show wpAny _ _ (call (Value.ref 714) _) _ _ _); k_dflt (refine wpAny_call ?_; (refine' code_def ?k1 ?k2 ?k3 ?k4 ?k5 ?kA ?kF ?kK ?k6 ?k7 ?k8 ?k9 ?kB ?_ ?c2 ?c3 ?c4 ?c5; (case kA => exact rfl); (case kF => exact rfl); (case kK => first | exact rfl | assumption); (case k1 => k_asm); (case k2 => k_asm); (case k3 => k_asm); (case k4 => k_asm); (case k5 => k_asm); (case k6 => k_is); (case k7 => k_is); (case k8 => k_room); (case k9 => exact bind714 _ (by k_in) _ _ _ (by k_is)); (case c5 => decide); (case kB => exact locs rfl); (case c2 => exact rfl); (case c3 => exact rfl); (case c4 => exact rfl); k_whole; intro g' L' h' FG' F' N' B' X' T'; (try dsimp only); (try k_lift B'); (try k_fold)))))
local macro_rules | `(tactic| walk_at "call ref") => `(tactic| (k_here; (with_reducible show wpAny _ _ (call (Value.ref 897) _) _ _ _); k_dflt (refine' call_cls ?k1 ?k2 ?k3 ?k4 ?k5 ?k6 ?_; (case k1 => k_asm); (case k2 => k_asm); (case k3 => k_asm); (case k4 => k_is); (case k5 => k_is); (case k6 => k_is); k_whole; intro x' d' h' F' N' l1 l2; (try k_lt l1); (try k_lt2 l2); (try k_sweep); (refine' code_def ?k1 ?k2 ?k3 ?k4 ?k5 ?kA ?kF ?kK ?k6 ?k7 ?k8 ?k9 ?kB ?_ ?c2 ?c3 ?c4 ?c5; (case kA => exact rfl); (case kF => exact rfl); (case kK => first | exact rfl | assumption); (case k1 => k_asm); (case k2 => k_asm); (case k3 => k_asm); (case k4 => k_asm); (case k5 => k_asm); (case k6 => k_is); (case k7 => k_is); (case k8 => k_room); (case k9 => exact bind849 _ (by k_in) _ _ (by k_is)); (case c5 => decide); (case kB => exact locs rfl); (case c2 => exact rfl); (case c3 => exact rfl); (case c4 => exact rfl); k_whole; intro g' L' h' FG' F' N' B' X' T'; (try dsimp only); (try k_lift B'); (try k_fold)))))
local macro_rules | `(tactic| walk_at "call ref") => `(tactic| (k_here; (with_reducible show wpAny _ _ (call (Value.ref 955) _) _ _ _); k_dflt (refine' call_cls ?k1 ?k2 ?k3 ?k4 ?k5 ?k6 ?_; (case k1 => k_asm); (case k2 => k_asm); (case k3 => k_asm); (case k4 => k_is); (case k5 => k_is); (case k6 => k_is); k_whole; intro x' d' h' F' N' l1 l2; (try k_lt l1); (try k_lt2 l2); (try k_sweep); (refine' code_def ?k1 ?k2 ?k3 ?k4 ?k5 ?kA ?kF ?kK ?k6 ?k7 ?k8 ?k9 ?kB ?_ ?c2 ?c3 ?c4 ?c5; (case kA => exact rfl); (case kF => exact rfl); (case kK => first | exact rfl | assumption); (case k1 => k_asm); (case k2 => k_asm); (case k3 => k_asm); (case k4 => k_asm); (case k5 => k_asm); (case k6 => k_is); (case k7 => k_is); (case k8 => k_room); (case k9 => exact bind914 _ (by k_in) _ _ _ (by k_is)); (case c5 => decide); (case kB => exact locs rfl); (case c2 => exact rfl); (case c3 => exact rfl); (case c4 => exact rfl); k_whole; intro g' L' h' FG' F' N' B' X' T'; (try dsimp only); (try k_lift B'); (try k_fold)))))
local macro_rules | `(tactic| cell_enter) => `(tactic| (refine' call_F ?k1 ?k2 ?k3 ?k4 ?kD ?k6 ?k7 ?k8 ?k9 ?kB ?_ ?c2 ?c3 ?c4 ?c5; (case k1 => with_reducible assumption); (case k2 => with_reducible assumption); (case k3 => with_reducible assumption); (case k4 => with_reducible assumption); (case kD => with_reducible assumption); (case k6 => k_is); (case k7 => k_is); (case k8 => omega); (case k9 => first | exact bind794 _ (Frag.In.keeps (by with_reducible assumption) (fun _ _ e => of_hideAll _ e)) _ _ _ (by k_is) | exact BindsTo.of_eq rfl); (case c5 => decide); (case kB => exact locs rfl); (case c2 => exact rfl); (case c3 => exact rfl); (case c4 => exact rfl); k_whole; intro g' L' h' F' N' B' X' T' D' TT'; (try dsimp only); (try k_fold)))
local macro_rules | `(tactic| walk_at "WhlIf") => `(tactic| first | (refine WhlIf.no (decide_eq_false (by omega)) ?_) | (refine WhlIf.yes (decide_eq_true (by omega)) ?_))
local macro_rules | `(tactic| walk_at "call builtin:dict.pop") => `(tactic| (k_here; (with_reducible show wpAny _ _ (call (Value.builtin "dict.pop") [Value.ref _, Value.int _ _]) _ _ _); k_dflt (refine' dk_pop_missing (knd := PySem.intKind _ _) rfl ?N ?M ?d ?lo (intKind_is _ _ _ _) rfl ?v ?_; (case N => k_asm); (case M => k_mem); (case d => assumption); (case lo => assumption); (case v => assumption)); intro h' e' x'))
local macro_rules | `(tactic| walk_at "getAttr ref") => `(tactic| (k_here; k_dflt (refine' get_cls ?k1 ?k2 ?k3 ?k4 ?k5 ?k6 ?k7 ?k8 ?k9 ?k10 ?_; (case k1 => k_asm); (case k2 => k_asm); (case k3 => (refine' InstAt.of_news ?N9 ?h91 ?h92; (case N9 => k_asm); (case h91 => k_memK); (case h92 => k_memK))); (case k4 => k_is); (case k5 => k_is); (case k6 => k_is); (case k7 => k_is); (case k8 => k_handed); (case k9 => decide +kernel); (case k10 => k_get); k_whole)))
local macro_rules | `(tactic| walk_at "getAttr ref") => `(tactic| (k_here; k_dflt (refine' get_own ?k1 ?k2 ?k3 ?k4 ?k5 ?k6 ?k7 ?k8 ?k9 ?_; (case k1 => k_asm); (case k2 => k_asm); (case k3 => (refine' InstAt.of_news ?N9 ?h91 ?h92; (case N9 => k_asm); (case h91 => k_memK); (case h92 => k_memK))); (case k4 => k_is); (case k5 => k_is); (case k6 => k_is); (case k7 => k_is); (case k8 => k_get); (case k9 => k_handed); k_whole)))
local macro_rules | `(tactic| walk_at "getAttr ref") => `(tactic| (k_here; (with_reducible show wpAny _ _ (getAttr (Value.ref 830) _ _) _ _ _); k_dflt (refine' cls_val ?k1 ?k2 ?k3 ?k4 ?k5 ?k6 ?_; (case k1 => k_asm); (case k2 => k_asm); (case k3 => k_is); (case k4 => k_is); (case k5 => k_is); (case k6 => k_handed); k_whole)))
local macro_rules | `(tactic| walk_at "delItem ref int") => `(tactic| (k_here; (with_reducible show wpAny _ _ (delItem (Value.ref _) _) _ _ _); k_dflt (refine' inst_delItem ?F ?X ?I ?hQ ?hS ?hF ?_; (case I => (refine' InstAt.of_news ?N9 ?h91 ?h92; (case N9 => k_asm); (case h91 => k_memK); (case h92 => k_memK))); (case F => k_asm); (case X => k_asm); (case hS => k_is); (case hF => k_is); (case hQ => k_is); k_whole)))
local macro_rules | `(tactic| walk_at "setItem ref") => `(tactic| (k_here; (with_reducible show wpAny _ _ (setItem (Value.ref _) _ _) _ _ _); k_dflt (refine' ksp_setItem ?F ?X ?I ?hQ ?hS ?hF ?_; (case F => k_asm); (case X => k_asm); (case I => (refine' InstAt.of_news ?N9 ?h91 ?h92; (case N9 => k_asm); (case h91 => k_memK); (case h92 => k_memK))); (case hS => k_is); (case hF => k_is); (case hQ => k_is); k_whole)))
local macro_rules | `(tactic| walk_at "getMethod ref") => `(tactic| (k_here; k_dflt (refine' method_inst ?k1 ?k2 ?k3 ?k4 ?k5 ?k6 ?k7 ?_; (case k3 => (refine' InstAt.of_news ?N9 ?h91 ?h92; (case N9 => k_asm); (case h91 => k_memK); (case h92 => k_memK))); (case k1 => k_asm); (case k2 => k_asm); (case k4 => k_is); (case k5 => k_is); (case k6 => k_is); (case k7 => k_get); k_whole)))
local macro_rules | `(tactic| walk_at "compareOp In") => `(tactic| (k_here; (with_reducible show wpAny _ _ (compareOp CmpOp.In _ (Value.ref _)) _ _ _); k_dflt (refine' in_K ?k1 ?k2 ?k3 ?k4 ?k5 ?_; (case k3 => (refine' InstAt.of_news ?N9 ?h91 ?h92; (case N9 => k_asm); (case h91 => k_memK); (case h92 => k_memK))); (case k1 => k_asm); (case k2 => k_asm); (case k4 => k_is); (case k5 => k_is); k_whole)))
local macro_rules | `(tactic| walk_at "last exec While") => `(tactic| (k_here; k_dflt (refine whl_start 2 ?_)))
local macro_rules | `(tactic| walk_at "exec While") => `(tactic| (k_here; k_dflt (refine whl_start 2 ?_)))
local macro_rules | `(tactic| k_in) => `(tactic| first | with_reducible assumption | exact Frag.In.keeps (by with_reducible assumption) (Fr.keep (by with_reducible assumption)))
local macro_rules | `(tactic| walk_at "callWith ref") => `(tactic| (k_here; (with_reducible show wpAny _ _ (callWith _ (Value.ref _) _ (backTo _ (starEach (_ :: _) _)) []) _ _ _); k_dflt (refine' callWith_K ?k1 ?k2 ?_; (case k1 => with_reducible assumption); (case k2 => k_is); k_whole)))
local macro_rules | `(tactic| walk_at "callWith ref") => `(tactic| (k_here; (with_reducible show wpAny _ _ (callWith _ (Value.ref _) _ (backTo _ (starEach [] _)) []) _ _ _); k_dflt (refine' callWith_K0 ?k1 ?k2 ?_; (case k1 => k_in); (case k2 => k_is); k_whole)))
local macro_rules | `(tactic| walk_at "getMethod ref") => `(tactic| (k_here; (with_reducible show wpAny _ _ (getMethod (Value.ref 830) _ _) _ _ _); k_dflt (refine' method_of_cls ?k1 ?k2 ?k3 ?_; (case k1 => k_asm); (case k2 => k_asm); (case k3 => k_is); k_whole)))
local macro_rules | `(tactic| walk_at "setItem ref int") => `(tactic| (k_here; (with_reducible show wpAny _ _ (setItem (Value.ref _) _ _) _ _ _); k_dflt (refine' ksp_setItem ?F ?X ?I ?hQ ?hS ?hF ?_; (case F => k_asm); (case X => k_asm); (case I => (refine' InstAt.of_news ?N9 ?h91 ?h92; (case N9 => k_asm); (case h91 => k_memK); (case h92 => k_memK))); (case hS => k_is); (case hF => k_is); (case hQ => k_is); k_whole)))
local macro_rules | `(tactic| cell_call) => `(tactic| (refine' call_P ?k1 ?k2 ?k3 ?k4 ?k6 ?k7 ?k8 ?k9 ?kB ?_ ?c2 ?c3 ?c4 ?c5; (case k1 => with_reducible assumption); (case k2 => with_reducible assumption); (case k3 => with_reducible assumption); (case k4 => with_reducible assumption); (case k6 => k_is); (case k7 => k_is); (case k8 => omega); (case k9 => first | exact bind794 _ (Frag.In.keeps (by with_reducible assumption) (fun _ _ e => of_hideAll _ e)) _ _ _ (by k_is) | exact BindsTo.of_eq rfl); (case c5 => decide); (case kB => exact locs rfl); (case c2 => exact rfl); (case c3 => exact rfl); (case c4 => exact rfl); k_whole; intro g' L' h' F' N' B' X' T' TT'; (try dsimp only); (try k_fold)))
local macro_rules | `(tactic| walk_at "subscriptTail") => `(tactic| (k_here; (with_reducible show wpAny _ _ (subscriptTail _ _ (Value.ref _) (Value.int _ _)) _ _ _); k_dflt (refine' item_list_ints_negR ?l9 ?i9 ?a9 ?b9 ?c9 ?_; (case l9 => exact News.isList (by k_asm) (by k_memK)); (case i9 => with_reducible assumption); (case a9 => omega); (case b9 => omega); (case c9 => omega)); intro _))
local macro_rules | `(tactic| walk_at "call builtin:list.pop") => `(tactic| (k_here; (with_reducible show wpAny _ _ (call (Value.builtin _) [Value.ref _]) _ _ _); k_dflt (refine' kpa_pop ?F ?N ?U ?i ?l ?z ?_; (case F => k_asm); (case N => k_asm); (case U => k_upd); (case i => with_reducible assumption); (case l => ((try simp only [List.length_set]); omega)); (case z => (rw [PySem.sizeLine_eq]; (try simp only [List.length_set]); omega))); (intro h' t' F' N' hI'; (try dsimp only [List.nil_append, List.cons_append] at N'))))
local macro_rules | `(tactic| walk_at "call builtin:len") => `(tactic| (k_here; (with_reducible show wpAny _ _ (call (Value.builtin _) [Value.ref _]) _ _ _); k_dflt (refine' len_intsN ?N ?m ?i ?z ?_; (case N => k_asm); (case m => k_memK); (case i => with_reducible assumption); (case z => ((try simp only [List.length_dropLast, List.length_set, List.length_append, List.length_cons, List.length_nil]); omega)))))
local macro_rules | `(tactic| walk_at "call builtin:list.append") => `(tactic| (k_here; (with_reducible show wpAny _ _ (call (Value.builtin _) [Value.ref _, Value.int _ _]) _ _ _); k_dflt (refine' append_ints ?k1 ?k2 ?k3 ?i ?z ?_; (case k1 => k_asm); (case k2 => k_asm); (case k3 => k_upd); (case i => with_reducible assumption); (case z => ((try simp only [List.length_dropLast, List.length_set, List.length_append, List.length_cons, List.length_nil]); omega)); k_whole); intro h' F' N' hI'; (try k_sweep)))
set_option maxHeartbeats 4000000 in
theorem lru_hit (w : World) (x dx dd oo : Addr) (t1 t2 t3 t4 tn tr tk : Tok) (n r k : Int) (v u z : Value) (od1 od2 : Obj) (kvs ovs : List (Int × Value))
   (ne1 : @Ne Nat x dx) (ne2 : @Ne Nat x dd) (ne3 : @Ne Nat x oo) (ne4 : @Ne Nat dx dd) (ne5 : @Ne Nat dx oo) (ne6 : @Ne Nat dd oo)
   (lo1 : (dd == sysModules) = false) (lo2 : (oo == sysModules) = false)
   (hd1 : od1.IsDictOf (intKind PySem.Challenge.rw_fc0035_02.row.prog w) kvs) (hd2 : od2.IsDictOf (intKind PySem.Challenge.rw_fc0035_02.row.prog w) ovs)
   (hv1 : valueAt kvs k = some u) (hs1 : (valueAt kvs k).isSome = true) (hv2 : valueAt ovs k = some z) (hz1 : kvs.length ≤ 100) (hz2 : ovs.length ≤ 100) :
   Contract 20 PySem.Challenge.rw_fc0035_02.row.prog w (tjCSoBpQsPZBkyzz.heap_39 w.params) 794 [.ref x, .int k tk, v] [(x, instObj 897 dx), (dx, lruNs w t1 t2 t3 t4 dd oo n tn r tr), (dd, od1), (oo, od2)]
     fun a E' => a = u ∧ ∃ od2', E' = [(x, instObj 897 dx), (dx, lruNs w t1 t2 t3 t4 dd oo n tn r tr), (dd, od1), (oo, od2')] ∧ od2'.IsDictOf (intKind PySem.Challenge.rw_fc0035_02.row.prog w) (stored (without ovs k) k z) := by
  unfold Contract
  intro dp un gd outer base s p loose mean mg mb R hdp hun B NE X T XB TB D hret
  k_dflt cell_enter
  k_steps
  dsimp only
  repeat (k_unfold; dsimp only)
  refine' end_F hret ?zg ?zF ?zN ?zp
  case zg => assumption
  case zF => assumption
  case zN => assumption
  case zp => exact ⟨rfl, _, rfl, by assumption⟩
set_option maxHeartbeats 4000000 in
theorem rr_hit (w : World) (x dx dd fa ii kk : Addr) (t1 t2 t3 t4 t5 t6 tn tr tk : Tok) (n r k : Int) (v u : Value) (od1 od2 : Obj) (kvs ivs : List (Int × Value)) (vs : List Value) (nl : Nat)
   (ne1 : @Ne Nat x dx) (ne2 : @Ne Nat x dd) (ne3 : @Ne Nat x ii) (ne4 : @Ne Nat x kk) (ne5 : @Ne Nat dx dd) (ne6 : @Ne Nat dx ii) (ne7 : @Ne Nat dx kk) (ne8 : @Ne Nat dd ii) (ne9 : @Ne Nat dd kk) (ne10 : @Ne Nat ii kk)
   (lo1 : (dd == sysModules) = false) (lo2 : (ii == sysModules) = false)
   (hd1 : od1.IsDictOf (intKind PySem.Challenge.rw_fc0035_02.row.prog w) kvs) (hd2 : od2.IsDictOf (intKind PySem.Challenge.rw_fc0035_02.row.prog w) ivs)
   (hv1 : valueAt kvs k = some u) (hs1 : (valueAt kvs k).isSome = true) (hz1 : kvs.length ≤ 100) :
   ContractP 20 PySem.Challenge.rw_fc0035_02.row.prog w (tjCSoBpQsPZBkyzz.heap_39 w.params) 794 [.ref x, .int k tk, v] [(x, instObj 955 dx), (dx, rrNs w t1 t2 t3 t4 t5 t6 dd fa ii kk n tn r tr), (dd, od1), (ii, od2), (kk, listOf vs.toArray nl)]
     fun a E' => a = u ∧ E' = [(x, instObj 955 dx), (dx, rrNs w t1 t2 t3 t4 t5 t6 dd fa ii kk n tn r tr), (dd, od1), (ii, od2), (kk, listOf vs.toArray nl)] := by
  unfold ContractP
  intro dp un gd outer base s p loose mean mg mb R hdp hun B NE X T hret
  k_dflt cell_call
  k_steps
  dsimp only
  repeat (k_unfold; dsimp only)
  refine' end_P hret ?zg ?zF ?zN ?zp
  case zg => assumption
  case zF => assumption
  case zN => assumption
  case zp => exact ⟨rfl, rfl⟩
section
local macro_rules | `(tactic| walk_at "call ref") => `(tactic| (k_here; (with_reducible show wpAny _ _ (call (Value.ref 865) _) _ _ _); k_dflt (refine wpAny_call ?_; (refine' code_defS ?k1 ?k2 ?k3 ?k4 ?k5 ?XB ?TB ?D ?T0 ?kA ?k6 ?k7 ?k8 ?k9 ?kB ?_ ?cK ?c2 ?c3 ?c4 ?c5; (case kA => exact rfl); (case k2 => k_asm); (case k1 => k_asm); (case XB => k_asm); (case TB => k_asm); (case D => k_asm); (case T0 => first | with_reducible assumption | exact KtsTurn.refl | assumption); (case k3 => k_asm); (case k4 => k_asm); (case k5 => k_asm); (case k6 => k_is); (case k7 => k_is); (case k8 => k_room); (case k9 => exact bind865 _ (by k_in) _ _ _ (by k_is)); (case kB => exact locs rfl); (case cK => exact rfl); (case c2 => exact rfl); (case c3 => exact rfl); (case c4 => exact rfl); (case c5 => decide); k_whole; intro g' L' h' FG' F' N' B' X' T' D'; (try dsimp only); (try k_lift B'); (try k_fold)))))
local macro_rules | `(tactic| walk_at "call ref") => `(tactic| (k_here; (with_reducible show wpAny _ _ (call (Value.ref 894) _) _ _ _); k_dflt (refine wpAny_call ?_; (refine' code_defS ?k1 ?k2 ?k3 ?k4 ?k5 ?XB ?TB ?D ?T0 ?kA ?k6 ?k7 ?k8 ?k9 ?kB ?_ ?cK ?c2 ?c3 ?c4 ?c5; (case kA => exact rfl); (case k2 => k_asm); (case k1 => k_asm); (case XB => k_asm); (case TB => k_asm); (case D => k_asm); (case T0 => first | with_reducible assumption | exact KtsTurn.refl | assumption); (case k3 => k_asm); (case k4 => k_asm); (case k5 => k_asm); (case k6 => k_is); (case k7 => k_is); (case k8 => k_room); (case k9 => exact BindsTo.of_eq rfl); (case kB => exact locs rfl); (case cK => exact rfl); (case c2 => exact rfl); (case c3 => exact rfl); (case c4 => exact rfl); (case c5 => decide); k_whole; intro g' L' h' FG' F' N' B' X' T' D'; (try dsimp only); (try k_lift B'); (try k_fold)))))
local macro_rules | `(tactic| walk_at "noteFrame ref") => `(tactic| (k_here; (with_reducible rename Heap.NewExc _ _ _ _ => nxX); k_dflt (refine' caught_newS (T' := "KeyError") ?K nxX ?F ?N ?XB ?TB ?D ?T0 ?ex PyProof.Rows.Boot.«KeyError» ?hn kr_isExc_KeyError kr_notTuple_KeyError ?hs ?_; (case F => k_asm); (case K => k_asm); (case N => k_asm); (case XB => k_asm); (case TB => k_asm); (case D => k_asm); (case T0 => first | with_reducible assumption | exact KtsTurn.refl | assumption); (case hs => kts_sub); (case ex => k_is); (case hn => decide); k_whole); clear nxX; intro h' g' T' F' N' K' X' P' D'; (try k_lift K'); (try k_sweep)))
set_option maxHeartbeats 4000000 in
theorem lru_miss (w : World) (x dx dd oo : Addr) (t1 t2 t3 t4 tn tr tk : Tok) (n r k : Int) (v : Value) (od1 od2 : Obj) (kvs ovs : List (Int × Value))
   (ne1 : @Ne Nat x dx) (ne2 : @Ne Nat x dd) (ne3 : @Ne Nat x oo) (ne4 : @Ne Nat dx dd) (ne5 : @Ne Nat dx oo) (ne6 : @Ne Nat dd oo)
   (lo1 : (dd == sysModules) = false) (lo2 : (oo == sysModules) = false)
   (hd1 : od1.IsDictOf (intKind PySem.Challenge.rw_fc0035_02.row.prog w) kvs) (hd2 : od2.IsDictOf (intKind PySem.Challenge.rw_fc0035_02.row.prog w) ovs)
   (hs1 : (valueAt kvs k).isSome = false) (hv2 : valueAt ovs k = none) (hz1 : kvs.length ≤ 100) (hz2 : ovs.length ≤ 100) (hr1 : 1 ≤ r) (hr4 : r ≤ 4) (hn0 : 0 ≤ n) (hn : n < r) :
   Contract 20 PySem.Challenge.rw_fc0035_02.row.prog w (tjCSoBpQsPZBkyzz.heap_39 w.params) 794 [.ref x, .int k tk, v] [(x, instObj 897 dx), (dx, lruNs w t1 t2 t3 t4 dd oo n tn r tr), (dd, od1), (oo, od2)]
     fun a E' => a = v ∧ ∃ od1' od2' tn', E' = [(x, instObj 897 dx), (dx, lruNs w t1 t2 t3 t4 dd oo (n + 1) tn' r tr), (dd, od1'), (oo, od2')] ∧ od1'.IsDictOf (intKind PySem.Challenge.rw_fc0035_02.row.prog w) (stored kvs k v) ∧ od2'.IsDictOf (intKind PySem.Challenge.rw_fc0035_02.row.prog w) (stored ovs k .none) := by
  unfold Contract
  intro dp un gd outer base s p loose mean mg mb R hdp hun B NE X T XB TB D hret
  k_dflt cell_enter
  k_steps
  dsimp only
  repeat (k_unfold; dsimp only)
  refine' end_F hret ?zg ?zF ?zN ?zp
  case zg => assumption
  case zF => assumption
  case zN => assumption
  case zp => exact ⟨rfl, _, _, _, rfl, by assumption, by assumption⟩
set_option maxHeartbeats 8000000 in
theorem lru_evict (w : World) (x dx dd oo : Addr) (t1 t2 t3 t4 tn tr tk : Tok) (n r k k0 : Int) (v u0 z0 : Value) (od1 od2 : Obj) (kvs ovs : List (Int × Value))
   (ne1 : @Ne Nat x dx) (ne2 : @Ne Nat x dd) (ne3 : @Ne Nat x oo) (ne4 : @Ne Nat dx dd) (ne5 : @Ne Nat dx oo) (ne6 : @Ne Nat dd oo)
   (lo1 : (dd == sysModules) = false) (lo2 : (oo == sysModules) = false)
   (hd1 : od1.IsDictOf (intKind PySem.Challenge.rw_fc0035_02.row.prog w) kvs) (hd2 : od2.IsDictOf (intKind PySem.Challenge.rw_fc0035_02.row.prog w) ((k0, z0) :: ovs))
   (hs1 : (valueAt kvs k).isSome = false) (hs2 : (valueAt (without kvs k0) k).isSome = false) (hv1 : valueAt kvs k0 = some u0) (hw1 : (valueAt kvs k0).isSome = true) (hw2 : (valueAt ((k0, z0) :: ovs) k0).isSome = true)
   (hv2 : valueAt (without ((k0, z0) :: ovs) k0) k = none) (hz1 : kvs.length ≤ 100) (hz2 : ((k0, z0) :: ovs).length ≤ 100) (hz3 : (without kvs k0).length ≤ 100) (hz4 : (without ((k0, z0) :: ovs) k0).length ≤ 100) (hr1 : 1 ≤ r) (hr4 : r ≤ 4) (hn : n = r) :
   Contract 20 PySem.Challenge.rw_fc0035_02.row.prog w (tjCSoBpQsPZBkyzz.heap_39 w.params) 794 [.ref x, .int k tk, v] [(x, instObj 897 dx), (dx, lruNs w t1 t2 t3 t4 dd oo n tn r tr), (dd, od1), (oo, od2)]
     fun a E' => a = v ∧ ∃ od1' od2' n' tn', E' = [(x, instObj 897 dx), (dx, lruNs w t1 t2 t3 t4 dd oo n' tn' r tr), (dd, od1'), (oo, od2')] ∧ n' = n ∧ od1'.IsDictOf (intKind PySem.Challenge.rw_fc0035_02.row.prog w) (stored (without kvs k0) k v) ∧ od2'.IsDictOf (intKind PySem.Challenge.rw_fc0035_02.row.prog w) (stored (without ((k0, z0) :: ovs) k0) k .none) := by
  unfold Contract
  intro dp un gd outer base s p loose mean mg mb R hdp hun B NE X T XB TB D hret
  k_dflt cell_enter
  k_steps
  dsimp only
  repeat (k_unfold; dsimp only)
  refine' end_F hret ?zg ?zF ?zN ?zp
  case zN => exact news4 (a := (x, instObj 897 dx)) (b := (dx, lruNs w t1 t2 t3 t4 dd oo (n - 1 + 1) _ r tr)) (c := (dd, _)) (d := (oo, _)) (by assumption) (by k_mem) (by k_mem) (by k_mem) (by k_mem)
  case zp => exact ⟨rfl, _, _, _, _, rfl, Int.sub_add_cancel n 1, by assumption, by assumption⟩
  case zg => assumption
  case zF => assumption
end
set_option maxHeartbeats 4000000 in
theorem rr_miss (w : World) (x dx dd fa ii kk : Addr) (t1 t2 t3 t4 t5 t6 tn tr tk : Tok) (n r k : Int) (v : Value) (od1 od2 : Obj) (kvs ivs : List (Int × Value)) (vs : List Value) (ks : List Int) (nl : Nat)
   (ne1 : @Ne Nat x dx) (ne2 : @Ne Nat x dd) (ne3 : @Ne Nat x ii) (ne4 : @Ne Nat x kk) (ne5 : @Ne Nat dx dd) (ne6 : @Ne Nat dx ii) (ne7 : @Ne Nat dx kk) (ne8 : @Ne Nat dd ii) (ne9 : @Ne Nat dd kk) (ne10 : @Ne Nat ii kk)
   (lo1 : (dd == sysModules) = false) (lo2 : (ii == sysModules) = false)
   (hd1 : od1.IsDictOf (intKind PySem.Challenge.rw_fc0035_02.row.prog w) kvs) (hd2 : od2.IsDictOf (intKind PySem.Challenge.rw_fc0035_02.row.prog w) ivs) (hks : IntsAre vs ks)
   (hs1 : (valueAt kvs k).isSome = false) (hv2 : (valueAt ivs k).isSome = false) (hz1 : kvs.length ≤ 100) (hz2 : ivs.length ≤ 100) (hz3 : ks.length ≤ 100) (hr1 : 1 ≤ r) (hr4 : r ≤ 4) (hn0 : 0 ≤ n) (hn : n < r) :
   ContractP 20 PySem.Challenge.rw_fc0035_02.row.prog w (tjCSoBpQsPZBkyzz.heap_39 w.params) 794 [.ref x, .int k tk, v] [(x, instObj 955 dx), (dx, rrNs w t1 t2 t3 t4 t5 t6 dd fa ii kk n tn r tr), (dd, od1), (ii, od2), (kk, listOf vs.toArray nl)]
     fun a E' => a = v ∧ ∃ od1' od2' tn' ti vs' nl', E' = [(x, instObj 955 dx), (dx, rrNs w t1 t2 t3 t4 t5 t6 dd fa ii kk (n + 1) tn' r tr), (dd, od1'), (ii, od2'), (kk, listOf vs'.toArray nl')] ∧
       od1'.IsDictOf (intKind PySem.Challenge.rw_fc0035_02.row.prog w) (stored kvs k v) ∧ od2'.IsDictOf (intKind PySem.Challenge.rw_fc0035_02.row.prog w) (stored ivs k (.int ks.length ti)) ∧ IntsAre vs' (ks ++ [k]) := by
  unfold ContractP
  intro dp un gd outer base s p loose mean mg mb R hdp hun B NE X T hret
  k_dflt cell_call
  k_steps
  dsimp only
  repeat (k_unfold; dsimp only)
  refine' end_P hret ?zg ?zF ?zN ?zp
  case zg => assumption
  case zF => assumption
  case zN => assumption
  case zp => exact ⟨rfl, _, _, _, _, _, _, by first | rfl | rw [List.push_toArray], by assumption, by assumption, ksk_snoc hks⟩
section
local macro_rules | `(tactic| walk_at "getMethod ref") => `(tactic| (k_here; (with_reducible show wpAny _ _ (getMethod (Value.ref _) (Str.ofString "_RRCache__choice") _) _ _ _); k_dflt (refine' kmu_own ?k1 ?k2 ?k3 ?k4 ?k5 ?_; (case k1 => k_asm); (case k2 => k_asm); (case k3 => (refine' InstAt.of_news ?N9 ?h91 ?h92; (case N9 => k_asm); (case h91 => k_memK); (case h92 => k_memK))); (case k4 => k_is); (case k5 => k_is); k_whole)))
local macro_rules | `(tactic| walk_at "callWith ref") => `(tactic| (k_here; k_dflt (refine' callWith_F ?k1 ?_; (case k1 => exact FnAt.of (by k_asm) (by k_memK)); k_whole)))
local macro_rules | `(tactic| walk_at "And") => `(tactic| ((with_reducible show FnAt _ _ ∧ _); k_dflt (refine ⟨FnAt.of (by k_asm) (by k_memK), ?_⟩); (try dsimp only [List.nil_append, List.cons_append])))
local macro_rules | `(tactic| k_all) => `(tactic| first | with_reducible assumption | exact List.forall_mem_nil _ | (refine List.forall_mem_cons.mpr ⟨by k_ne, ?_⟩; k_all))
local macro_rules | `(tactic| walk_at "compareOp NotIn int ref") => `(tactic| (k_here; k_dflt (refine kdg_notin (knd := PySem.intKind _ _) (by k_asm) (by k_memK) (by k_asm) (by k_asm) (intKind_is _ _ _ _) false (by first | assumption | exact stored_none (by assumption) (by assumption)) ?_); (try dsimp only [Bool.not_true, Bool.not_false])))
set_option maxHeartbeats 8000000 in
theorem rr_evict (w : World) (x dx dd fa ii kk : Addr) (t1 t2 t3 t4 t5 t6 tn tr tk ti : Tok) (n r k k0 i : Int) (v u0 : Value) (od1 od2 : Obj) (kvs ivs : List (Int × Value)) (vs : List Value) (ks : List Int) (nl : Nat) (EC : List (Addr × Obj)) (oc9 : Value) (od9 : Option Addr) (fd9 : FuncData) (sl9 : Array (Option Value))
   (ne1 : @Ne Nat x dx) (ne2 : @Ne Nat x dd) (ne3 : @Ne Nat x ii) (ne4 : @Ne Nat x kk) (ne5 : @Ne Nat dx dd) (ne6 : @Ne Nat dx ii) (ne7 : @Ne Nat dx kk) (ne8 : @Ne Nat dd ii) (ne9 : @Ne Nat dd kk) (ne10 : @Ne Nat ii kk)
   (nf1 : @Ne Nat x fa) (nf2 : @Ne Nat dx fa) (nf3 : @Ne Nat dd fa) (nf4 : @Ne Nat ii fa) (nf5 : @Ne Nat kk fa)
   (hE1 : ∀ q ∈ EC, q.1 ≠ x) (hE2 : ∀ q ∈ EC, q.1 ≠ dx) (hE3 : ∀ q ∈ EC, q.1 ≠ dd) (hE4 : ∀ q ∈ EC, q.1 ≠ ii) (hE5 : ∀ q ∈ EC, q.1 ≠ kk)
   (lo1 : (dd == sysModules) = false) (lo2 : (ii == sysModules) = false)
   (hd1 : od1.IsDictOf (intKind PySem.Challenge.rw_fc0035_02.row.prog w) kvs) (hd2 : od2.IsDictOf (intKind PySem.Challenge.rw_fc0035_02.row.prog w) ivs) (hks : IntsAre vs ks)
   (HC : ContractP 10 PySem.Challenge.rw_fc0035_02.row.prog w (tjCSoBpQsPZBkyzz.heap_39 w.params) fa [.ref kk] ((kk, listOf vs.toArray nl) :: (fa, ⟨oc9, od9, .func fd9, sl9⟩) :: EC) fun a E' => (∃ t, a = .int k0 t) ∧ E' = (kk, listOf vs.toArray nl) :: (fa, ⟨oc9, od9, .func fd9, sl9⟩) :: EC)
   (hs1 : (valueAt kvs k).isSome = false) (hv1 : valueAt kvs k0 = some u0) (hw1 : (valueAt kvs k0).isSome = true) (hi1 : valueAt ivs k0 = some (.int i ti)) (hi2 : (valueAt ivs k).isSome = false)
   (hi0 : 0 ≤ i) (hil : i < ks.length) (hi3 : (valueAt (without ivs k0) k).isSome = false) (hkl : k ≠ ks.getD (-1 + (ks.length : Int)).toNat 0) (hlen : vs.length = ks.length)
   (hz1 : kvs.length ≤ 100) (hz2 : ivs.length ≤ 100) (hz3 : ks.length ≤ 100) (hz4 : (without kvs k0).length ≤ 100) (hz5 : (without ivs k0).length ≤ 100) (hr1 : 1 ≤ r) (hr4 : r ≤ 4) (hn : n = r) (hkn : (ks.length : Int) = r) :
   ContractP 20 PySem.Challenge.rw_fc0035_02.row.prog w (tjCSoBpQsPZBkyzz.heap_39 w.params) 794 [.ref x, .int k tk, v] ([(x, instObj 955 dx), (dx, rrNs w t1 t2 t3 t4 t5 t6 dd fa ii kk n tn r tr), (dd, od1), (ii, od2), (kk, listOf vs.toArray nl), (fa, ⟨oc9, od9, .func fd9, sl9⟩)] ++ EC)
     fun a E' => a = v ∧ ∃ od1' od2' n' tn' ti tj m vs' nl', m = (ks.length : Int) - 1 ∧ E' = [(x, instObj 955 dx), (dx, rrNs w t1 t2 t3 t4 t5 t6 dd fa ii kk n' tn' r tr), (dd, od1'), (ii, od2'), (kk, listOf vs'.toArray nl'), (fa, ⟨oc9, od9, .func fd9, sl9⟩)] ++ EC ∧ n' = n ∧
       od1'.IsDictOf (intKind PySem.Challenge.rw_fc0035_02.row.prog w) (stored (without kvs k0) k v) ∧ ((i = (ks.length : Int) - 1 ∧ od2'.IsDictOf (intKind PySem.Challenge.rw_fc0035_02.row.prog w) (stored (without ivs k0) k (.int m ti)) ∧ IntsAre vs' (ks.dropLast ++ [k])) ∨ (i ≠ (ks.length : Int) - 1 ∧ od2'.IsDictOf (intKind PySem.Challenge.rw_fc0035_02.row.prog w) (stored (stored (without ivs k0) (ks.getD (-1 + (ks.length : Int)).toNat 0) (.int i tj)) k (.int m ti)) ∧ IntsAre vs' ((ks.set i.toNat (ks.getD (-1 + (ks.length : Int)).toNat 0)).dropLast ++ [k]))) := by
  unfold ContractP
  intro dp un gd outer base s p loose mean mg mb R hdp hun B NE X T hret
  simp only [List.cons_append, List.nil_append] at B NE X T hret ⊢
  k_dflt cell_call
  have hne : ∀ q ∈ [(x, instObj 955 dx), (dx, rrNs w t1 t2 t3 t4 t5 t6 dd fa ii kk n tn r tr), (dd, od1), (ii, od2)], ∀ r ∈ (kk, listOf vs.toArray nl) :: (fa, (⟨oc9, od9, .func fd9, sl9⟩ : Obj)) :: EC, q.1 ≠ r.1 := by
    intro q hq r hr
    simp only [List.mem_cons, List.not_mem_nil, or_false] at hq hr
    rcases hr with rfl | rfl | hr
    · rcases hq with rfl | rfl | rfl | rfl <;> assumption
    · rcases hq with rfl | rfl | rfl | rfl <;> assumption
    · rcases hq with rfl | rfl | rfl | rfl
      · exact (hE1 r hr).symm
      · exact (hE2 r hr).symm
      · exact (hE3 r hr).symm
      · exact (hE4 r hr).symm
  k_steps
  refine' use_contractP HC rfl ?B ?F ?X ?N ?T rfl rfl ?d ?u [(x, instObj 955 dx), (dx, rrNs w t1 t2 t3 t4 t5 t6 dd fa ii kk n tn r tr), (dd, od1), (ii, od2)] ?E ?K hne ?_
  case B => with_reducible assumption
  case F => with_reducible assumption
  case X => with_reducible assumption
  case N => with_reducible assumption
  case T => with_reducible assumption
  case d => show dp + 1 + 1 + 1 + 1 + 10 < recursionLimit; omega
  case u => show un + 3 + 3 + 3 + 3 + 10 * 10 < cLine; omega
  case E => exact fun q hq => .tail _ (.tail _ (.tail _ (.tail _ hq)))
  case K => exact fun q hq => List.mem_append_left ((kk, listOf vs.toArray nl) :: (fa, (⟨oc9, od9, .func fd9, sl9⟩ : Obj)) :: EC) hq
  intro v' E' h' tk' F' N' ne' hp
  obtain ⟨⟨t9, rfl⟩, rfl⟩ := hp
  simp only [List.cons_append, List.nil_append] at N'
  k_steps
  all_goals (dsimp only; repeat (k_unfold; dsimp only))
  · refine' end_P hret ?zg ?zF ?zN ?zp
    case zg => assumption
    case zF => assumption
    case zN => exact news_tl (by assumption)
    case zp =>
      refine' ⟨rfl, _, _, _, _, _, _, _, _, _, ?me, rfl, Int.sub_add_cancel n 1, ?h1, .inr ⟨?h2, ?h3, ?h4⟩⟩
      case h1 => assumption
      case h3 => assumption
      case h4 => assumption
      case h2 => assumption
      case me => (simp only [List.length_dropLast, List.length_set]; omega)
  · refine' end_P hret ?zg ?zF ?zN ?zp
    case zg => assumption
    case zF => assumption
    case zN => exact news_tl (by assumption)
    case zp =>
      refine' ⟨rfl, _, _, _, _, _, 0, _, _, _, ?me, rfl, Int.sub_add_cancel n 1, ?h1, .inl ⟨?h2, ?h3, ?h4⟩⟩
      case h1 => assumption
      case h3 => assumption
      case h4 => assumption
      case h2 => assumption
      case me => (simp only [List.length_dropLast, List.length_set]; omega)
end
set_option maxHeartbeats 4000000 in
theorem lru_popitem (w : World) (x dx dd oo : Addr) (t1 t2 t3 t4 tn tr : Tok) (n r k0 : Int) (u0 z0 : Value) (od1 od2 : Obj) (kvs ovs : List (Int × Value))
   (ne1 : @Ne Nat x dx) (ne2 : @Ne Nat x dd) (ne3 : @Ne Nat x oo) (ne4 : @Ne Nat dx dd) (ne5 : @Ne Nat dx oo) (ne6 : @Ne Nat dd oo)
   (lo1 : (dd == sysModules) = false) (lo2 : (oo == sysModules) = false)
   (hd1 : od1.IsDictOf (intKind PySem.Challenge.rw_fc0035_02.row.prog w) kvs) (hd2 : od2.IsDictOf (intKind PySem.Challenge.rw_fc0035_02.row.prog w) ((k0, z0) :: ovs))
   (hv1 : valueAt kvs k0 = some u0) (hw1 : (valueAt kvs k0).isSome = true) (hw2 : (valueAt ((k0, z0) :: ovs) k0).isSome = true)
   (hz1 : kvs.length ≤ 100) (hz2 : ((k0, z0) :: ovs).length ≤ 100) :
   ContractP 20 PySem.Challenge.rw_fc0035_02.row.prog w (tjCSoBpQsPZBkyzz.heap_39 w.params) 880 [.ref x] [(x, instObj 897 dx), (dx, lruNs w t1 t2 t3 t4 dd oo n tn r tr), (dd, od1), (oo, od2)]
     fun a E' => ∃ tp t0 od1' od2' tn', a = .ref tp ∧ E' = [(tp, { cls := .type "tuple", data := .seq [.int k0 t0, u0].toArray }), (x, instObj 897 dx), (dx, lruNs w t1 t2 t3 t4 dd oo (n - 1) tn' r tr), (dd, od1'), (oo, od2')] ∧
       od1'.IsDictOf (intKind PySem.Challenge.rw_fc0035_02.row.prog w) (without kvs k0) ∧ od2'.IsDictOf (intKind PySem.Challenge.rw_fc0035_02.row.prog w) (without ((k0, z0) :: ovs) k0) := by
  unfold ContractP
  intro dp un gd outer base s p loose mean mg mb R hdp hun B NE X T hret
  k_dflt cell_call
  k_steps
  dsimp only
  repeat (k_unfold; dsimp only)
  refine' end_P hret ?zg ?zF ?zN ?zp
  case zg => assumption
  case zF => assumption
  case zN => exact news5 (e := (oo, _)) (d := (dd, _)) (b := (x, instObj 897 dx)) (c := (dx, lruNs w t1 t2 t3 t4 dd oo (n - 1) _ r tr)) (by assumption) (List.Mem.head _) (by k_mem) (by k_mem) (by k_mem) (by k_mem)
  case zp => exact ⟨_, _, _, _, _, rfl, rfl, by assumption, by assumption⟩
section
local macro_rules | `(tactic| walk_at "getMethod ref") => `(tactic| (k_here; (with_reducible show wpAny _ _ (getMethod (Value.ref _) (Str.ofString "_RRCache__choice") _) _ _ _); k_dflt (refine' kmu_own ?k1 ?k2 ?k3 ?k4 ?k5 ?_; (case k1 => k_asm); (case k2 => k_asm); (case k3 => (refine' InstAt.of_news ?N9 ?h91 ?h92; (case N9 => k_asm); (case h91 => k_memK); (case h92 => k_memK))); (case k4 => k_is); (case k5 => k_is); k_whole)))
local macro_rules | `(tactic| walk_at "callWith ref") => `(tactic| (k_here; k_dflt (refine' callWith_F ?k1 ?_; (case k1 => exact FnAt.of (by k_asm) (by k_memK)); k_whole)))
local macro_rules | `(tactic| walk_at "And") => `(tactic| ((with_reducible show FnAt _ _ ∧ _); k_dflt (refine ⟨FnAt.of (by k_asm) (by k_memK), ?_⟩); (try dsimp only [List.nil_append, List.cons_append])))
local macro_rules | `(tactic| k_all) => `(tactic| first | with_reducible assumption | exact List.forall_mem_nil _ | (refine List.forall_mem_cons.mpr ⟨by k_ne, ?_⟩; k_all))
local macro_rules | `(tactic| walk_at "compareOp NotIn int ref") => `(tactic| (k_here; k_dflt (refine kdg_notin (knd := PySem.intKind _ _) (by k_asm) (by k_memK) (by k_asm) (by k_asm) (intKind_is _ _ _ _) false (by first | assumption | exact stored_none (by assumption) (by assumption)) ?_); (try dsimp only [Bool.not_true, Bool.not_false])))
local macro_rules | `(tactic| walk_at "eval Name") => `(tactic| (k_here; k_dflt (refine' nameX_L ?F ?v ?_ ?a ?b; (case F => k_asm); (case a => rfl); (case b => rfl); (case v => first | rfl | assumption); k_whole)))
local macro_rules | `(tactic| walk_at "call builtin:list.index") => `(tactic| (k_here; (with_reducible show wpAny _ _ (call (Value.builtin _) [Value.ref _, Value.int _ _]) _ _ _); k_dflt (refine' index_ints ?N ?m ?i ?k ?z ?_; (case N => k_asm); (case m => k_memK); (case i => with_reducible assumption); (case k => with_reducible assumption); (case z => ((try simp only [List.length_map]); omega)); k_whole); intro hidx9; (try simp only [List.length_map] at hidx9)))
local macro_rules | `(tactic| walk_at "subscriptTail") => `(tactic| (k_here; (with_reducible show wpAny _ _ (subscriptTail _ _ (Value.ref _) (Value.int _ _)) _ _ _); k_dflt (refine' item_anyK ?l9 ?i9 ?a9 ?b9 ?c9 ?_; (case l9 => exact News.isList (by k_asm) (by k_memK)); (case i9 => with_reducible assumption); (case a9 => omega); (case b9 => omega); (case c9 => omega)); intro _))
set_option maxHeartbeats 4000000 in
theorem next_contract (w : World) (wl : Addr) (wv : List Value) (ws : List Int) (wn p : Nat) (k : Int) (tp tq : Tok) (hws : IntsAre wv ws) (hp : p < ws.length) (hz : ws.length ≤ 13) :
   ContractP 8 PySem.Challenge.rw_fc0035_02.row.prog w (tjCSoBpQsPZBkyzz.heap_39 w.params) 971 [.ref wl, .int (p : Int) tp, .int k tq] [(wl, listOf wv.toArray wn)]
     fun a E' => (∃ t, a = .int (nextUse ws p k : Nat) t) ∧ E' = [(wl, listOf wv.toArray wn)] := by
  unfold ContractP
  intro dp un gd outer base s p9 loose mean mg mb R hdp hun B NE X T hret
  k_dflt cell_call
  walk1
  walk1
  rename Fr _ _ _ _ => F9
  with_unfolding_all refine' For_invVF F9 ?k1 ?k2 ?_
  case k1 => exact rfl
  case k2 => exact rfl
  repeat' ((fail_if_success (with_reducible show wpAny _ _ (pyIter _) _ _ _)); first | (k_unfold; (try dsimp only)) | ((fail_if_success k_end); (first | walk1 | (dsimp only; walk1) | (leave1; try dsimp only) | fail "no step")))
  rename News _ _ _ _ => N9
  rename IsRange _ _ _ _ _ _ _ _ => hR9
  rename Fr _ _ _ _ => F8
  refine' range_gen (n := ws.length - (p + 1)) (fun i m nx => nx = [(wl, listOf wv.toArray wn)] ∧ m (Str.ofString "row") = some (.ref wl) ∧ m (Str.ofString "key") = some (.int k tq) ∧ ∀ j, j < i → ws.getD (p + 1 + j) 0 ≠ k) rfl hR9 ?hs ?hn F8 N9 ⟨rfl, by with_unfolding_all exact rfl, by with_unfolding_all exact rfl, fun _ h => absurd h (Nat.not_lt_zero _)⟩ ?turn ?done
  case hs => exact small_one (by omega) (by omega) (by omega) (by omega)
  case hn => (rw [rangeSize_one]; split <;> omega)
  case turn =>
    rintro i t m₁ news₁ h9 tk9 own hi hoff ⟨rfl, e1, e2, e3⟩ F7 N7
    simp only [List.cons_append, List.nil_append] at N7
    repeat' (first | (k_unfold; (try dsimp only)) | ((fail_if_success k_end); (first | walk1 | (dsimp only; walk1) | (leave1; try dsimp only) | fail "no step")))
    · dsimp only
      repeat (k_unfold; dsimp only)
      rename ws.getD _ 0 = k => q9
      have hq : ((p : Int) + 1 + (i : Int)).toNat = p + 1 + i := by omega
      rw [hq] at q9
      refine' end_P hret ?zg (E' := [(wl, listOf wv.toArray wn)]) F7 (fun q hq => N7 q (List.mem_append_left own hq)) ⟨⟨t, ?zv⟩, rfl⟩
      case zg => assumption
      case zv => rw [nextUse_hit e3 q9 (by omega)]; rfl
    · rename ws.getD _ 0 ≠ k => q9
      have hq : ((p : Int) + 1 + (i : Int)).toNat = p + 1 + i := by omega
      rw [hq] at q9
      refine ⟨h9, tk9, _, [(wl, listOf wv.toArray wn)], rfl, F7, N7, hoff, rfl, by exact e1, by exact e2, fun j hj => ?_⟩
      rcases Nat.lt_succ_iff_lt_or_eq.mp hj with h | h
      · exact e3 j h
      · rw [h]; exact q9
  case done =>
    rintro m₁ news₁ h9 tk9 ⟨rfl, e1, e2, e3⟩ F7 N7
    dsimp only
    repeat' (first | (k_unfold; (try dsimp only)) | ((fail_if_success k_end); (first | walk1 | (dsimp only; walk1) | (leave1; try dsimp only) | fail "no step")))
    refine' end_P hret ?zg (E' := [(wl, listOf wv.toArray wn)]) F7 N7 ⟨⟨_, ?zv⟩, rfl⟩
    case zg => assumption
    case zv => rw [nextUse_miss hp e3]
def choiceStmt : Option Stmt := lawBody[5]?
def choiceBody : List Stmt := match choiceStmt with | some (.FunctionDef _ _ b _ _ _ _ _ _ _) => b | _ => []
def choiceArgs : Arguments := match choiceStmt with | some (.FunctionDef _ a _ _ _ _ _ _ _ _) => a | _ => ⟨[], [], none, [], [], none, []⟩
def choiceScope : Scope := match choiceStmt with | some (.FunctionDef _ _ _ _ _ _ sc _ _ _) => sc | _ => default
set_option maxHeartbeats 8000000 in
theorem choice_contract (w : World) (qual : Str) {fa kk wl sp cw cs c' : Addr} {vs wv spv : List Value} {ks ws : List Int} {nl wn sn p : Nat} {o2 o3 oc : Obj} {cvs : Array Value} {t9 : Tok} {doc pm ctv : Value}
   (hks : IntsAre vs ks) (hws : IntsAre wv ws) (hsp : IntsAre spv [(p : Int)]) (hp : p < ws.length) (hz : ws.length ≤ 13) (hk1 : 1 ≤ ks.length) (hk4 : ks.length ≤ 4)
   (d2 : o2.data = .cell (some (.ref sp))) (d3 : o3.data = .cell (some (.ref wl))) (hd : oc.data = .fields cvs) (hv : cvs[1]? = some (.str qual t9))
   (ne1 : @Ne Nat kk fa) (ne2 : @Ne Nat kk c') (ne3 : @Ne Nat kk cw) (ne4 : @Ne Nat kk cs) (ne5 : @Ne Nat kk wl) (ne6 : @Ne Nat kk sp) (nw1 : @Ne Nat fa wl) (nw2 : @Ne Nat c' wl) (nw3 : @Ne Nat cw wl) (nw4 : @Ne Nat cs wl) (nw5 : @Ne Nat sp wl) :
   ContractP 10 PySem.Challenge.rw_fc0035_02.row.prog w (tjCSoBpQsPZBkyzz.heap_39 w.params) fa [.ref kk] [(kk, listOf vs.toArray nl), (fa, fnMade (Str.ofString "choice") qual choiceArgs choiceBody choiceScope [(Str.ofString "walk", cw), (Str.ofString "spot", cs)] doc pm c' ctv), (c', oc), (cw, o3), (cs, o2), (wl, listOf wv.toArray wn), (sp, listOf spv.toArray sn)]
     fun a E' => (∃ t M, M ∈ (ks.map fun k => (nextUse ws p k : Int)) ∧ (∀ f ∈ (ks.map fun k => (nextUse ws p k : Int)), f ≤ M) ∧ a = .int (ks.getD ((ks.map fun k => (nextUse ws p k : Int)).idxOf M) 0) t) ∧ E' = [(kk, listOf vs.toArray nl), (fa, fnMade (Str.ofString "choice") qual choiceArgs choiceBody choiceScope [(Str.ofString "walk", cw), (Str.ofString "spot", cs)] doc pm c' ctv), (c', oc), (cw, o3), (cs, o2), (wl, listOf wv.toArray wn), (sp, listOf spv.toArray sn)] := by
  unfold ContractP
  intro dp un gd outer base s p9 loose mean mg mb R hdp hun B NE X T hret
  k_dflt (refine' call_PX ?k1 ?k2 ?k3 ?k4 (List.Mem.tail _ (.head _)) (List.Mem.tail _ (.tail _ (.head _))) hd hv ?k8 ?k9 ?kB ?_ ?c2 ?c3 ?c4 ?c5; (case k1 => with_reducible assumption); (case k2 => with_reducible assumption); (case k3 => with_reducible assumption); (case k4 => with_reducible assumption); (case k8 => omega); (case k9 => exact BindsTo.of_eq rfl); (case c5 => decide); (case kB => exact locs rfl); (case c2 => exact rfl); (case c3 => exact rfl); (case c4 => exact rfl); k_whole; intro g' L' h' F' N' B' X' T' TT'; (try dsimp only); (try k_fold))
  conv in (occs := *) choiceScope => all_goals whnf
  conv in (occs := *) choiceBody => all_goals whnf
  repeat' (first | (k_unfold; (try dsimp only)) | ((fail_if_success k_end); (first | walk1 | (dsimp only; walk1) | (leave1; try dsimp only) | fail "no step")))
  k_dflt (refine LCg.CompSrc.ledger (by rfl) (by k_asm) (by k_asm) (List.Mem.head _) ?sz ?_)
  case sz => (rw [sizeLine_eq, List.size_toArray, hks.length]; omega)
  intro g9
  refine comp_ind (fun i ys => IntsAre ys ((ks.take i).map fun k => (nextUse ws p k : Int))) .nil ?step ?fin
  case step =>
    intro i ys hi hj v I oI C oC D m₂ h tk E' hv' hC' hx' F' N' off' ne'
    have off9 := off'
    simp only [LCg.Off3, and_true] at off'
    have hi2 : i < ks.length := by simpa [hks.length] using hi
    obtain ⟨tk1, hx⟩ := hks.get i ks[i] (by simp [hi2])
    have hvv : v = .int ks[i] tk1 := by
      have hP' : vs[i]? = some v := by simpa using hv'
      rw [hx] at hP'; exact (Option.some.inj hP').symm
    subst hvv
    repeat' (first | (k_unfold; (try dsimp only)) | ((fail_if_success k_end); (first | walk1 | (dsimp only; walk1) | (leave1; try dsimp only) | fail "no step")))
    refine ⟨Frag.In.keeps X' F'.keep, ?_⟩
    refine' use_contractP (next_contract w wl wv ws wn p ks[i] _ tk1 hws hp hz) rfl B' F' X' N' T' rfl rfl ?d ?u [(I, oI), (C, oC), (D, LCg.lst ys), (kk, listOf vs.toArray nl), (fa, fnMade (Str.ofString "choice") qual choiceArgs choiceBody choiceScope [(Str.ofString "walk", cw), (Str.ofString "spot", cs)] doc pm c' ctv), (c', oc), (cw, o3), (cs, o2), (sp, listOf spv.toArray sn)] ?E ?K ?ne ?_
    case d => show dp + 1 + 8 < recursionLimit; omega
    case u => show un + 3 + 10 * 8 < cLine; omega
    case E => lcg_sub
    case K => lcg_sub
    case ne =>
      intro q hq r hr
      rw [List.mem_singleton.mp hr]
      simp only [List.mem_cons, List.not_mem_nil, or_false] at hq
      rcases hq with rfl | rfl | rfl | rfl | rfl | rfl | rfl | rfl | rfl
      · exact off'.2.2.2.2.2.1.1.symm
      · exact off'.2.2.2.2.2.1.2.1.symm
      · exact off'.2.2.2.2.2.1.2.2.symm
      all_goals assumption
    intro v' E9 h' tk' F7 N7 ne7 hp7
    obtain ⟨⟨t7, rfl⟩, rfl⟩ := hp7
    refine LCg.CompEnd.intro F7 N7 _ ?sub off9 (.inr ⟨_, List.Mem.head _, rfl, _, rfl⟩) ⟨rfl, ?J⟩
    case sub => lcg_sub
    case J =>
      have e9 : ks.take (i + 1) = ks.take i ++ [ks[i]] := by rw [List.take_add_one, List.getElem?_eq_getElem hi2]; rfl
      rw [e9, List.map_append]
      exact ksk_snoc hj
  case fin =>
    intro ys hj
    unfold LCg.FinA
    intro D h tk F' N' off'
    simp only [LCg.Off1, and_true] at off'
    have hks9 : vs.toArray.size = ks.length := by simp [hks.length]
    rw [hks9, List.take_length] at hj
    dsimp only
    repeat' ((fail_if_success (with_reducible show wpAny _ _ (call (Value.builtin "list.index") _) _ _ _)); first | (k_unfold; (try dsimp only)) | ((fail_if_success k_end); (first | walk1 | (dsimp only; walk1) | (leave1; try dsimp only) | fail "no step")))
    rename _ ∈ List.map _ ks => hM
    rename News _ _ _ _ => N8
    rename Fr _ _ _ _ => F8
    k_dflt (refine index_ints N8 (List.Mem.head _) hj hM (by simp only [List.length_map]; omega) ?_)
    intro hidx
    rw [List.length_map] at hidx
    repeat' ((fail_if_success (with_reducible show wpAny _ _ (subscriptTail _ _ _ _) _ _ _)); first | (k_unfold; (try dsimp only)) | ((fail_if_success k_end); (first | walk1 | (dsimp only; walk1) | (leave1; try dsimp only) | fail "no step")))
    k_dflt (refine' item_anyK (News.isList N8 (.tail _ (.head _))) hks ?a9 ?b9 ?c9 ?_; (case a9 => omega); (case b9 => omega); (case c9 => omega))
    intro t7
    dsimp only
    repeat (k_unfold; dsimp only)
    refine' end_P hret ?zg F8 (news_tl N8) ⟨⟨t7, _, hM, ?zb, ?zv⟩, rfl⟩
    case zg => assumption
    case zb => assumption
    case zv => rw [Int.toNat_natCast]
end
end
def LruIs (w : World) (od1 od2 : Obj) (n : Int) (O : List Int) (kvs : List (Int × Value)) : Prop :=
  od1.IsDictOf (intKind PySem.Challenge.rw_fc0035_02.row.prog w) kvs ∧ (∃ ovs, od2.IsDictOf (intKind PySem.Challenge.rw_fc0035_02.row.prog w) ovs ∧ ovs.map (·.1) = O) ∧ (kvs.map (·.1)).Perm O ∧ O.Nodup ∧ n = O.length
theorem lru_set (w : World) (x dx dd oo : Addr) (t1 t2 t3 t4 tn tr tk : Tok) (n r k : Int) (r0 : Nat) (v : Value) (od1 od2 : Obj) (O : List Int) (kvs : List (Int × Value))
   (ne1 : @Ne Nat x dx) (ne2 : @Ne Nat x dd) (ne3 : @Ne Nat x oo) (ne4 : @Ne Nat dx dd) (ne5 : @Ne Nat dx oo) (ne6 : @Ne Nat dd oo)
   (lo1 : (dd == sysModules) = false) (lo2 : (oo == sysModules) = false) (I : LruIs w od1 od2 n O kvs) (hr : r = r0) (hr1 : 1 ≤ r0) (hr4 : r0 ≤ 4) (hO : O.length ≤ r0) :
   Contract 20 PySem.Challenge.rw_fc0035_02.row.prog w (tjCSoBpQsPZBkyzz.heap_39 w.params) 794 [.ref x, .int k tk, v] [(x, instObj 897 dx), (dx, lruNs w t1 t2 t3 t4 dd oo n tn r tr), (dd, od1), (oo, od2)]
     fun a E' => ∃ od1' od2' n' tn' kvs', E' = [(x, instObj 897 dx), (dx, lruNs w t1 t2 t3 t4 dd oo n' tn' r tr), (dd, od1'), (oo, od2')] ∧ LruIs w od1' od2' n' (lruStep r0 O k) kvs' ∧
       (k ∈ O → valueAt kvs k = some a) ∧ (k ∉ O → a = v) ∧ valueAt kvs' k = some a ∧ ∀ j ∈ lruStep r0 O k, j ≠ k → j ∈ O ∧ valueAt kvs' j = valueAt kvs j := by
  obtain ⟨hd1, ⟨ovs, hd2, ho⟩, hp, hn, rfl⟩ := I
  have lk : kvs.length = O.length := length_keys hp
  have lo : ovs.length = O.length := by rw [← ho]; simp
  have memk : ∀ j, j ∈ kvs.map (·.1) ↔ j ∈ O := fun j => hp.mem_iff
  by_cases h : k ∈ O
  · obtain ⟨u, hu⟩ := valueAt_there ((memk k).mpr h)
    obtain ⟨z, hz⟩ := valueAt_there (kvs := ovs) (by rw [ho]; exact h)
    refine (lru_hit w x dx dd oo t1 t2 t3 t4 tn tr tk O.length r k v u z od1 od2 kvs ovs ne1 ne2 ne3 ne4 ne5 ne6 lo1 lo2 hd1 hd2 hu (by rw [hu]; rfl) hz (by omega) (by omega)).mono ?_
    rintro a E' ⟨rfl, od2', rfl, q⟩
    have hk : k ∉ (without ovs k).map (·.1) := by rw [keys_without]; simp
    have e1 : (stored (without ovs k) k z).map (·.1) = lruStep r0 O k := by
      rw [stored_new hk, List.map_append, keys_without, ho]
      unfold lruStep
      rw [if_pos h]
      rfl
    have pl : O.Perm (lruStep r0 O k) := perm_of_mem hn (lru_nodup hn) fun j => by
      unfold lruStep
      rw [if_pos h]
      simp only [List.mem_append, List.mem_filter, List.mem_singleton, decide_eq_true_eq]
      exact ⟨fun q => if z : j = k then .inr z else .inl ⟨q, z⟩, fun q => q.elim (fun z => z.1) fun z => z ▸ h⟩
    exact ⟨_, _, _, _, kvs, rfl, ⟨hd1, ⟨_, q, e1⟩, hp.trans pl, lru_nodup hn, by rw [pl.length_eq]⟩, fun _ => hu, fun q => absurd h q, hu, fun j hj _ => ⟨pl.mem_iff.mpr hj, rfl⟩⟩
  · have hkv : k ∉ kvs.map (·.1) := fun q => h ((memk k).mp q)
    have hov : k ∉ ovs.map (·.1) := by rw [ho]; exact h
    have n1 : (valueAt kvs k).isSome = false := by rw [valueAt_none hkv]; rfl
    rcases Nat.lt_or_ge O.length r0 with q | q
    · refine (lru_miss w x dx dd oo t1 t2 t3 t4 tn tr tk O.length r k v od1 od2 kvs ovs ne1 ne2 ne3 ne4 ne5 ne6 lo1 lo2 hd1 hd2 n1 (valueAt_none hov) (by omega) (by omega) (by omega) (by omega) (by omega) (by omega)).mono ?_
      rintro a E' ⟨rfl, od1', od2', tn', rfl, q1, q2⟩
      have e0 : lruStep r0 O k = O ++ [k] := by unfold lruStep; rw [if_neg h, if_pos q]
      rw [stored_new hkv] at q1
      rw [stored_new hov] at q2
      refine ⟨_, _, _, _, _, rfl, ⟨q1, ⟨_, q2, by rw [List.map_append, ho, e0]; rfl⟩, by rw [List.map_append, e0]; exact hp.append_right [k], lru_nodup hn, by rw [e0]; simp⟩, fun z => absurd z h, fun _ => rfl, valueAt_snoc_self hkv, fun j hj hne => ⟨?_, valueAt_snoc_ne hne⟩⟩
      rw [e0] at hj
      exact (List.mem_append.mp hj).resolve_right fun z => hne (List.mem_singleton.mp z)
    · cases hc : ovs with
      | nil => rw [hc] at lo; simp at lo; omega
      | cons f ovs' =>
        obtain ⟨k0, z0⟩ := f
        subst hc
        rw [List.map_cons] at ho
        have hk0 : k0 ∈ O := by rw [← ho]; exact .head _
        have hne : k ≠ k0 := fun e => h (e ▸ hk0)
        obtain ⟨u0, hu0⟩ := valueAt_there ((memk k0).mpr hk0)
        have hn' := hn
        rw [← ho] at hn'
        have hn2 := List.nodup_cons.mp hn'
        have ew : without ((k0, z0) :: ovs') k0 = ovs' := by
          have : without ((k0, z0) :: ovs') k0 = without ovs' k0 := by
            unfold without
            rw [List.filter_cons, if_neg (by simp)]
          rw [this]
          exact PySem.without_of_not_mem ovs' k0 hn2.1
        have hkw : k ∉ (without kvs k0).map (·.1) := by
          rw [keys_without]
          exact fun z => hkv (List.mem_filter.mp z).1
        have hov' : k ∉ ovs'.map (·.1) := fun z => h (by rw [← ho]; exact .tail _ z)
        have lw := without_le (kvs := kvs) (k := k0)
        have lo' : ovs'.length + 1 = O.length := by rw [← ho]; simp
        refine (lru_evict w x dx dd oo t1 t2 t3 t4 tn tr tk O.length r k k0 v u0 z0 od1 od2 kvs ovs' ne1 ne2 ne3 ne4 ne5 ne6 lo1 lo2 hd1 hd2 n1 (by rw [valueAt_none hkw]; rfl) hu0 (by rw [hu0]; rfl) (by rw [valueAt_cons, if_pos rfl]; rfl)
          (by rw [ew]; exact valueAt_none hov') (by omega) (by rw [List.length_cons]; omega) (by omega) (by rw [ew]; omega) (by omega) (by omega) (by omega)).mono ?_
        rintro a E' ⟨rfl, od1', od2', n', tn', rfl, q0, q1, q2⟩
        have e0 : lruStep r0 O k = ovs'.map (·.1) ++ [k] := by
          unfold lruStep
          rw [if_neg h, if_neg (by omega), ← ho]
          rfl
        rw [stored_new hkw] at q1
        rw [ew, stored_new hov'] at q2
        refine ⟨_, _, _, _, _, rfl, ⟨q1, ⟨_, q2, by rw [List.map_append, e0]; rfl⟩, ?_, lru_nodup hn, ?_⟩, fun z => absurd z h, fun _ => rfl, valueAt_snoc_self hkw, fun j hj hne2 => ?_⟩
        · rw [List.map_append, e0, keys_without]
          refine List.Perm.append_right _ (perm_of_mem (hp.nodup_iff.mpr hn |>.filter _) hn2.2 fun j => ?_)
          rw [List.mem_filter, memk, ← ho, List.mem_cons, decide_eq_true_eq]
          exact ⟨fun z => z.1.resolve_left z.2, fun z => ⟨.inr z, fun e => hn2.1 (e ▸ z)⟩⟩
        · rw [q0, e0, List.length_append, List.length_map]
          simp only [List.length_singleton]
          omega
        · rw [e0] at hj
          have hj' := (List.mem_append.mp hj).resolve_right fun z => hne2 (List.mem_singleton.mp z)
          refine ⟨by rw [← ho]; exact .tail _ hj', ?_⟩
          rw [valueAt_snoc_ne hne2, valueAt_without_ne (fun e : j = k0 => hn2.1 (e ▸ hj'))]
def RrIs (w : World) (od1 od2 : Obj) (vs : List Value) (n : Int) (M : List Int) (kvs : List (Int × Value)) : Prop :=
  od1.IsDictOf (intKind PySem.Challenge.rw_fc0035_02.row.prog w) kvs ∧ (∃ ivs, od2.IsDictOf (intKind PySem.Challenge.rw_fc0035_02.row.prog w) ivs ∧ (ivs.map (·.1)).Perm M ∧ ∀ (i : Nat) j, M[i]? = some j → ∃ t, valueAt ivs j = some (.int i t)) ∧ IntsAre vs M ∧ (kvs.map (·.1)).Perm M ∧ M.Nodup ∧ n = M.length
theorem snoc_get {l : List Int} {k j : Int} {idx : Nat} (h : (l ++ [k])[idx]? = some j) : (idx < l.length ∧ l[idx]? = some j) ∨ (idx = l.length ∧ j = k) := by
  rw [List.getElem?_append] at h
  split at h
  · exact .inl ⟨by assumption, h⟩
  · rename_i q
    cases e : idx - l.length with
    | zero => rw [e] at h; simp at h; exact .inr ⟨by omega, h.symm⟩
    | succ d => rw [e] at h; simp at h
theorem rr_set (w : World) (x dx dd fa ii kk : Addr) (t1 t2 t3 t4 t5 t6 tn tr tk : Tok) (n r k : Int) (r0 : Nat) (v : Value) (od1 od2 : Obj) (M : List Int) (kvs : List (Int × Value)) (vs : List Value) (nl : Nat) (EC : List (Addr × Obj)) (oc9 : Value) (od9 : Option Addr) (fd9 : FuncData) (sl9 : Array (Option Value)) (rank : Int → Nat)
   (ne1 : @Ne Nat x dx) (ne2 : @Ne Nat x dd) (ne3 : @Ne Nat x ii) (ne4 : @Ne Nat x kk) (ne5 : @Ne Nat dx dd) (ne6 : @Ne Nat dx ii) (ne7 : @Ne Nat dx kk) (ne8 : @Ne Nat dd ii) (ne9 : @Ne Nat dd kk) (ne10 : @Ne Nat ii kk)
   (nf1 : @Ne Nat x fa) (nf2 : @Ne Nat dx fa) (nf3 : @Ne Nat dd fa) (nf4 : @Ne Nat ii fa) (nf5 : @Ne Nat kk fa)
   (hE1 : ∀ q ∈ EC, q.1 ≠ x) (hE2 : ∀ q ∈ EC, q.1 ≠ dx) (hE3 : ∀ q ∈ EC, q.1 ≠ dd) (hE4 : ∀ q ∈ EC, q.1 ≠ ii) (hE5 : ∀ q ∈ EC, q.1 ≠ kk)
   (lo1 : (dd == sysModules) = false) (lo2 : (ii == sysModules) = false) (I : RrIs w od1 od2 vs n M kvs) (hr : r = r0) (hr1 : 1 ≤ r0) (hr4 : r0 ≤ 4) (hM : M.length ≤ r0)
   (HC : k ∉ M → M.length = r0 → ∃ f, f ∈ M ∧ (∀ j ∈ M, rank j ≤ rank f) ∧ ContractP 10 PySem.Challenge.rw_fc0035_02.row.prog w (tjCSoBpQsPZBkyzz.heap_39 w.params) fa [.ref kk] ((kk, listOf vs.toArray nl) :: (fa, ⟨oc9, od9, .func fd9, sl9⟩) :: EC) fun a E' => (∃ t, a = .int f t) ∧ E' = (kk, listOf vs.toArray nl) :: (fa, ⟨oc9, od9, .func fd9, sl9⟩) :: EC) :
   ContractP 20 PySem.Challenge.rw_fc0035_02.row.prog w (tjCSoBpQsPZBkyzz.heap_39 w.params) 794 [.ref x, .int k tk, v] ([(x, instObj 955 dx), (dx, rrNs w t1 t2 t3 t4 t5 t6 dd fa ii kk n tn r tr), (dd, od1), (ii, od2), (kk, listOf vs.toArray nl), (fa, ⟨oc9, od9, .func fd9, sl9⟩)] ++ EC)
     fun a E' => ∃ od1' od2' n' tn' vs' nl' M' kvs', E' = [(x, instObj 955 dx), (dx, rrNs w t1 t2 t3 t4 t5 t6 dd fa ii kk n' tn' r tr), (dd, od1'), (ii, od2'), (kk, listOf vs'.toArray nl'), (fa, ⟨oc9, od9, .func fd9, sl9⟩)] ++ EC ∧ RrIs w od1' od2' vs' n' M' kvs' ∧ RRStep rank r0 k M M' ∧
       (k ∈ M → valueAt kvs k = some a) ∧ (k ∉ M → a = v) ∧ valueAt kvs' k = some a ∧ ∀ j ∈ M', j ≠ k → j ∈ M ∧ valueAt kvs' j = valueAt kvs j := by
  obtain ⟨hd1, ⟨ivs, hd2, hip, hix⟩, hvs, hp, hn, rfl⟩ := I
  have lk : kvs.length = M.length := length_keys hp
  have li : ivs.length = M.length := length_keys hip
  have memk : ∀ j, j ∈ kvs.map (·.1) ↔ j ∈ M := fun j => hp.mem_iff
  have memi : ∀ j, j ∈ ivs.map (·.1) ↔ j ∈ M := fun j => hip.mem_iff
  have hfr : ∀ q ∈ (fa, (⟨oc9, od9, .func fd9, sl9⟩ : Obj)) :: EC, ∀ r' ∈ [(x, instObj 955 dx), (dx, rrNs w t1 t2 t3 t4 t5 t6 dd fa ii kk M.length tn r tr), (dd, od1), (ii, od2), (kk, listOf vs.toArray nl)], q.1 ≠ r'.1 := by
    intro q hq r' hr'
    simp only [List.mem_cons, List.not_mem_nil, or_false] at hq hr'
    rcases hq with rfl | hq
    · rcases hr' with rfl | rfl | rfl | rfl | rfl
      · exact fun e => nf1 e.symm
      · exact fun e => nf2 e.symm
      · exact fun e => nf3 e.symm
      · exact fun e => nf4 e.symm
      · exact fun e => nf5 e.symm
    · rcases hr' with rfl | rfl | rfl | rfl | rfl
      · exact hE1 q hq
      · exact hE2 q hq
      · exact hE3 q hq
      · exact hE4 q hq
      · exact hE5 q hq
  by_cases h : k ∈ M
  · obtain ⟨u, hu⟩ := valueAt_there ((memk k).mpr h)
    refine ((rr_hit w x dx dd fa ii kk t1 t2 t3 t4 t5 t6 tn tr tk M.length r k v u od1 od2 kvs ivs vs nl ne1 ne2 ne3 ne4 ne5 ne6 ne7 ne8 ne9 ne10 lo1 lo2 hd1 hd2 hu (by rw [hu]; rfl) (by omega)).frame hfr).mono ?_
    rintro a E' ⟨E9, ⟨rfl, rfl⟩, rfl⟩
    exact ⟨_, _, _, _, vs, _, M, kvs, rfl, ⟨hd1, ⟨ivs, hd2, hip, hix⟩, hvs, hp, hn, rfl⟩, ⟨hn, fun _ => rfl, fun q => absurd h q, fun q => absurd h q⟩, fun _ => hu, fun q => absurd h q, hu, fun j hj _ => ⟨hj, rfl⟩⟩
  · have hkv : k ∉ kvs.map (·.1) := fun q => h ((memk k).mp q)
    have hki : k ∉ ivs.map (·.1) := fun q => h ((memi k).mp q)
    have n1 : (valueAt kvs k).isSome = false := by rw [valueAt_none hkv]; rfl
    have n2 : (valueAt ivs k).isSome = false := by rw [valueAt_none hki]; rfl
    rcases Nat.lt_or_ge M.length r0 with q | q
    · refine ((rr_miss w x dx dd fa ii kk t1 t2 t3 t4 t5 t6 tn tr tk M.length r k v od1 od2 kvs ivs vs M nl ne1 ne2 ne3 ne4 ne5 ne6 ne7 ne8 ne9 ne10 lo1 lo2 hd1 hd2 hvs n1 n2 (by omega) (by omega) (by omega) (by omega) (by omega) (by omega) (by omega)).frame hfr).mono ?_
      rintro a E' ⟨E9, ⟨rfl, od1', od2', tn', ti, vs', nl', rfl, q1, q2, q3⟩, rfl⟩
      rw [stored_new hkv] at q1
      rw [stored_new hki] at q2
      have hnd : (M ++ [k]).Nodup := List.nodup_append.mpr ⟨hn, by simp, fun a ha b hb => by rw [List.mem_singleton.mp hb]; exact fun e => h (e ▸ ha)⟩
      refine ⟨_, _, _, _, vs', _, M ++ [k], _, rfl, ⟨q1, ⟨_, q2, by rw [List.map_append]; exact hip.append_right [k], fun i j hj => ?_⟩, q3, by rw [List.map_append]; exact hp.append_right [k], hnd, by simp⟩, ⟨hnd, fun z => absurd z h, fun _ _ => rfl, fun _ z => by omega⟩, fun z => absurd z h, fun _ => rfl, valueAt_snoc_self hkv, fun j hj hne => ⟨?_, valueAt_snoc_ne hne⟩⟩
      · rcases snoc_get hj with ⟨_, g⟩ | ⟨g1, rfl⟩
        · obtain ⟨t, ht⟩ := hix i j g
          exact ⟨t, by rw [valueAt_snoc_ne (fun e : j = k => h (e ▸ List.mem_of_getElem? g))]; exact ht⟩
        · exact ⟨ti, by rw [valueAt_snoc_self hki, g1]⟩
      · exact (List.mem_append.mp hj).resolve_right fun z => hne (List.mem_singleton.mp z)
    · have hM0 : M.length = r0 := by omega
      obtain ⟨f, f1, f2, HC⟩ := HC h hM0
      obtain ⟨i, hi⟩ := List.mem_iff_getElem?.mp f1
      obtain ⟨il, _⟩ := List.getElem?_eq_some_iff.mp hi
      obtain ⟨ti, hti⟩ := hix i f hi
      obtain ⟨u0, hu0⟩ := valueAt_there ((memk f).mpr f1)
      have hkw : k ∉ (without kvs f).map (·.1) := by rw [keys_without]; exact fun z => hkv (List.mem_filter.mp z).1
      have hkiw : k ∉ (without ivs f).map (·.1) := by rw [keys_without]; exact fun z => hki (List.mem_filter.mp z).1
      have lw := without_le (kvs := kvs) (k := f)
      have lw2 := without_le (kvs := ivs) (k := f)
      have hlast : M[M.length - 1]? = some (M.getD (-1 + (M.length : Int)).toNat 0) := by
        rw [show (-1 + (M.length : Int)).toNat = M.length - 1 by omega, List.getD_eq_getElem?_getD, List.getElem?_eq_getElem (by omega)]
        rfl
      have hlm : M.getD (-1 + (M.length : Int)).toNat 0 ∈ M := List.mem_of_getElem? hlast
      have hcn := rrCut_nodup hn il
      have hcm := rrCut_mem hn hi
      have hcl := rrCut_len (M := M) (i := i)
      have hkc : k ∉ rrCut M i := fun z => h ((hcm k).mp z).1
      have hnd : (rrCut M i ++ [k]).Nodup := List.nodup_append.mpr ⟨hcn, by simp, fun a ha b hb => by rw [List.mem_singleton.mp hb]; exact fun e => hkc (e ▸ ha)⟩
      have hpw : ((without kvs f).map (·.1)).Perm (rrCut M i) := perm_of_mem (by rw [keys_without]; exact (hp.nodup_iff.mpr hn).filter _) hcn fun j => by
        rw [keys_without, List.mem_filter, memk, hcm, decide_eq_true_eq]
      have hpiw : ((without ivs f).map (·.1)).Perm (rrCut M i) := perm_of_mem (by rw [keys_without]; exact (hip.nodup_iff.mpr hn).filter _) hcn fun j => by
        rw [keys_without, List.mem_filter, memi, hcm, decide_eq_true_eq]
      refine (rr_evict w x dx dd fa ii kk t1 t2 t3 t4 t5 t6 tn tr tk ti M.length r k f i v u0 od1 od2 kvs ivs vs M nl EC oc9 od9 fd9 sl9 ne1 ne2 ne3 ne4 ne5 ne6 ne7 ne8 ne9 ne10 nf1 nf2 nf3 nf4 nf5 hE1 hE2 hE3 hE4 hE5 lo1 lo2 hd1 hd2 hvs HC
        n1 hu0 (by rw [hu0]; rfl) hti n2 (by omega) (by omega) (by rw [valueAt_none hkiw]; rfl) (fun e => h (e ▸ hlm)) hvs.length (by omega) (by omega) (by omega) (by omega) (by omega) (by omega) (by omega) (by omega) (by omega)).mono ?_
      rintro a E' ⟨rfl, od1', od2', n', tn', ti', tj, m, vs', nl', hm, rfl, hn', q1, q2⟩
      rw [stored_new hkw] at q1
      have fin : ∀ ivs', od2'.IsDictOf (intKind PySem.Challenge.rw_fc0035_02.row.prog w) ivs' → (ivs'.map (·.1)).Perm (rrCut M i ++ [k]) → (∀ (a : Nat) j, (rrCut M i)[a]? = some j → ∃ t, valueAt ivs' j = some (.int a t)) → valueAt ivs' k = some (.int m ti') → IntsAre vs' (rrCut M i ++ [k]) →
          ∃ od1'' od2'' n'' tn'' vs'' nl'' M' kvs', [(x, instObj 955 dx), (dx, rrNs w t1 t2 t3 t4 t5 t6 dd fa ii kk n' tn' r tr), (dd, od1'), (ii, od2'), (kk, listOf vs'.toArray nl'), (fa, (⟨oc9, od9, .func fd9, sl9⟩ : Obj))] ++ EC = [(x, instObj 955 dx), (dx, rrNs w t1 t2 t3 t4 t5 t6 dd fa ii kk n'' tn'' r tr), (dd, od1''), (ii, od2''), (kk, listOf vs''.toArray nl''), (fa, (⟨oc9, od9, .func fd9, sl9⟩ : Obj))] ++ EC ∧ RrIs w od1'' od2'' vs'' n'' M' kvs' ∧ RRStep rank r0 k M M' ∧
            (k ∈ M → valueAt kvs k = some a) ∧ (k ∉ M → a = a) ∧ valueAt kvs' k = some a ∧ ∀ j ∈ M', j ≠ k → j ∈ M ∧ valueAt kvs' j = valueAt kvs j := by
        intro ivs' g1 g2 g3 g4 g5
        refine ⟨od1', od2', n', tn', vs', nl', rrCut M i ++ [k], _, rfl, ⟨q1, ⟨ivs', g1, g2, fun b j hj => ?_⟩, g5, by rw [List.map_append]; exact hpw.append_right [k], hnd, ?_⟩, ⟨hnd, fun z => absurd z h, fun _ z => by omega, fun _ _ => ⟨f, f1, f2, ?_, fun j => ?_⟩⟩, fun z => absurd z h, fun _ => rfl, valueAt_snoc_self hkw, fun j hj hne => ?_⟩
        · rcases snoc_get hj with ⟨_, g⟩ | ⟨e, rfl⟩
          · exact g3 b j g
          · rw [hcl] at e
            exact ⟨ti', by rw [g4, hm, e]; congr 2; omega⟩
        · rw [hn', List.length_append, List.length_singleton, hcl]; omega
        · rw [List.length_append, List.length_singleton, hcl]; omega
        · rw [List.mem_append, List.mem_singleton, hcm]; exact or_comm
        · have hj' := (List.mem_append.mp hj).resolve_right fun z => hne (List.mem_singleton.mp z)
          have hj2 := (hcm j).mp hj'
          exact ⟨hj2.1, by rw [valueAt_snoc_ne hne, valueAt_without_ne hj2.2]⟩
      have old : ∀ (a : Nat) j, a ≠ i → M[a]? = some j → ∃ t, valueAt (without ivs f) j = some (.int a t) := fun a j ha hj => by
        obtain ⟨t, ht⟩ := hix a j hj
        refine ⟨t, ?_⟩
        rw [valueAt_without_ne (fun e : j = f => ha (get_inj hn (e ▸ hj) hi))]
        exact ht
      rcases q2 with ⟨ei, q2, q3⟩ | ⟨ei, q2, q3⟩
      · have ec : rrCut M i = M.dropLast := by unfold rrCut; rw [if_pos (by omega)]
        rw [stored_new hkiw] at q2
        refine fin _ q2 (by rw [List.map_append]; exact hpiw.append_right [k]) (fun a j hj => ?_) (valueAt_snoc_self hkiw) (by rw [ec]; exact q3)
        have hjk : j ≠ k := fun e => hkc (e ▸ List.mem_of_getElem? hj)
        rw [valueAt_snoc_ne hjk]
        have hal : a < M.length - 1 := by
          obtain ⟨z, _⟩ := List.getElem?_eq_some_iff.mp hj
          omega
        rw [rrCut_get il hal, if_neg (by omega)] at hj
        exact old a j (by omega) hj
      · have ec : rrCut M i = (M.set i (M.getD (-1 + (M.length : Int)).toNat 0)).dropLast := by unfold rrCut; rw [if_neg (by omega)]
        have hlf : M.getD (-1 + (M.length : Int)).toNat 0 ≠ f := fun e => by
          have := get_inj hn (e ▸ hlast) hi
          omega
        have hlk : M.getD (-1 + (M.length : Int)).toNat 0 ∈ (without ivs f).map (·.1) := by
          rw [keys_without, List.mem_filter, memi, decide_eq_true_eq]
          exact ⟨hlm, hlf⟩
        have hks : k ∉ (stored (without ivs f) (M.getD (-1 + (M.length : Int)).toNat 0) (.int i tj)).map (·.1) := by rw [keys_stored_old hlk]; exact hkiw
        rw [stored_new hks] at q2
        refine fin _ q2 (by rw [List.map_append, keys_stored_old hlk]; exact hpiw.append_right [k]) (fun a j hj => ?_) (valueAt_snoc_self hks) (by rw [ec]; simpa using q3)
        have hjk : j ≠ k := fun e => hkc (e ▸ List.mem_of_getElem? hj)
        rw [valueAt_snoc_ne hjk]
        have hal : a < M.length - 1 := by
          obtain ⟨z, _⟩ := List.getElem?_eq_some_iff.mp hj
          omega
        rw [rrCut_get il hal] at hj
        split at hj
        · rename_i e
          rw [hlast] at hj
          rw [← Option.some.inj hj, valueAt_stored_self]
          exact ⟨tj, by rw [e]⟩
        · rename_i e
          have hjl : j ≠ M.getD (-1 + (M.length : Int)).toNat 0 := fun z => by
            have := get_inj hn (z ▸ hj) hlast
            omega
          rw [valueAt_stored_ne hjl]
          exact old a j e hj
theorem exists_max : ∀ {l : List Int}, l ≠ [] → ∃ M, M ∈ l ∧ ∀ f ∈ l, f ≤ M
  | [], h => absurd rfl h
  | [a], _ => ⟨a, .head _, fun f hf => by rw [List.mem_singleton.mp hf]; exact Int.le_refl _⟩
  | a :: b :: l, _ => by
    obtain ⟨M, h1, h2⟩ := exists_max (l := b :: l) (by simp)
    by_cases h : a ≤ M
    · exact ⟨M, .tail _ h1, fun f hf => by
        rcases List.mem_cons.mp hf with rfl | hf
        · exact h
        · exact h2 f hf⟩
    · exact ⟨a, .head _, fun f hf => by
        rcases List.mem_cons.mp hf with rfl | hf
        · exact Int.le_refl _
        · have := h2 f hf; omega⟩
theorem choice_pick (w : World) (qual : Str) {L : Nat} {f2 kk wl sp c' : Addr} {vs wv spv : List Value} {ks ws : List Int} {nl wn sn p : Nat} {o2 o3 oc : Obj} {cvs : Array Value} {t9 : Tok} {doc pm ctv : Value}
   (hks : IntsAre vs ks) (hws : IntsAre wv ws) (hsp : IntsAre spv [(p : Int)]) (hp : p < ws.length) (hz : ws.length ≤ 13) (hk1 : 1 ≤ ks.length) (hk4 : ks.length ≤ 4)
   (d2 : o2.data = .cell (some (.ref sp))) (d3 : o3.data = .cell (some (.ref wl))) (hd : oc.data = .fields cvs) (hv : cvs[1]? = some (.str qual t9))
   (ne1 : @Ne Nat kk f2) (ne2 : @Ne Nat kk c') (ne3 : @Ne Nat kk (L + 1 + 1 + 1)) (ne4 : @Ne Nat kk (L + 1 + 1)) (ne5 : @Ne Nat kk wl) (ne6 : @Ne Nat kk sp) (nw1 : @Ne Nat f2 wl) (nw2 : @Ne Nat c' wl) (nw3 : @Ne Nat (L + 1 + 1 + 1) wl) (nw4 : @Ne Nat (L + 1 + 1) wl) (nw5 : @Ne Nat sp wl) :
   ∃ f, f ∈ ks ∧ (∀ j ∈ ks, nextUse ws p j ≤ nextUse ws p f) ∧ ContractP 10 PySem.Challenge.rw_fc0035_02.row.prog w (tjCSoBpQsPZBkyzz.heap_39 w.params) f2 [.ref kk] ((kk, listOf vs.toArray nl) :: (f2, fnMade (Str.ofString "choice") qual choiceArgs choiceBody choiceScope [(Str.ofString "walk", L + 1 + 1 + 1), (Str.ofString "spot", L + 1 + 1)] doc pm c' ctv) :: (c', oc) :: (L + 1 + 1 + 1, o3) :: (L + 1 + 1, o2) :: (wl, listOf wv.toArray wn) :: (sp, listOf spv.toArray sn) :: [])
     fun a E' => (∃ t, a = .int f t) ∧ E' = (kk, listOf vs.toArray nl) :: (f2, fnMade (Str.ofString "choice") qual choiceArgs choiceBody choiceScope [(Str.ofString "walk", L + 1 + 1 + 1), (Str.ofString "spot", L + 1 + 1)] doc pm c' ctv) :: (c', oc) :: (L + 1 + 1 + 1, o3) :: (L + 1 + 1, o2) :: (wl, listOf wv.toArray wn) :: (sp, listOf spv.toArray sn) :: [] := by
  have hne : (ks.map fun k => (nextUse ws p k : Int)) ≠ [] := by
    intro e
    have := congrArg List.length e
    simp only [List.length_map, List.length_nil] at this
    omega
  obtain ⟨M, h1, h2⟩ := exists_max hne
  have hi := List.idxOf_lt_length_of_mem h1
  have hi' : (ks.map fun k => (nextUse ws p k : Int)).idxOf M < ks.length := by simpa using hi
  have hg := List.getElem_idxOf hi
  rw [List.getElem_map] at hg
  have hf : ks.getD ((ks.map fun k => (nextUse ws p k : Int)).idxOf M) 0 = ks[(ks.map fun k => (nextUse ws p k : Int)).idxOf M] := by rw [List.getD_eq_getElem?_getD, List.getElem?_eq_getElem hi']; rfl
  refine ⟨ks.getD ((ks.map fun k => (nextUse ws p k : Int)).idxOf M) 0, by rw [hf]; exact List.getElem_mem hi', fun j hj => ?_, ?_⟩
  · rw [hf]
    have := h2 _ (List.mem_map_of_mem (f := fun k => (nextUse ws p k : Int)) hj)
    rw [← hg] at this
    exact_mod_cast this
  · refine (choice_contract w qual hks hws hsp hp hz hk1 hk4 d2 d3 hd hv ne1 ne2 ne3 ne4 ne5 ne6 nw1 nw2 nw3 nw4 nw5).mono ?_
    rintro a E' ⟨⟨t, M', g1, g2, rfl⟩, rfl⟩
    have e : M' = M := Int.le_antisymm (h2 _ g1) (g2 _ h1)
    exact ⟨⟨t, by rw [e]⟩, rfl⟩
section
local macro_rules | `(tactic| k_room) => `(tactic| ((try simp only [depth_under_make, depth_under_kw, depth_in1, depth_deeper, depth_caller]); (try dsimp only [arO]); omega))
local macro_rules | `(tactic| k_units) => `(tactic| ktr_units)
local macro_rules | `(tactic| walk_at "getAttr ref") => `(tactic| (k_here; k_dflt (refine' get_sm ?k1 ?k2 ?k3 ?k4 (findObj_nondata ?c1 ?c2 ?c3 ?c4 ?c5 ?c6) ?k5 ?k6 ?_; (case k1 => k_asm); (case k2 => k_asm); (case k3 => (refine' InstAt.of_news ?N9 ?h91 ?h92; (case N9 => k_asm); (case h91 => k_memK); (case h92 => k_memK))); (case k4 => k_is); (case c1 => k_is); (case c2 => k_is); (case c3 => k_is); (case c4 => k_is); (case c5 => k_get); (case c6 => decide +kernel); (case k5 => k_is); (case k6 => k_handed); k_whole)))
local macro_rules | `(tactic| walk_at "compareOp In int ref") => `(tactic| (k_here; k_dflt (first
  | refine kda_in (knd := PySem.intKind _ _) (by k_asm) (by k_mem) (by k_asm) (by k_asm) (intKind_is _ _ _ _) true (by assumption) ?_
  | refine kda_in (knd := PySem.intKind _ _) (by k_asm) (by k_mem) (by k_asm) (by k_asm) (intKind_is _ _ _ _) false (by assumption) ?_)))
local macro_rules | `(tactic| walk_at "compareOp NotIn int ref") => `(tactic| (k_here; k_dflt (first
  | refine kdg_notin (knd := PySem.intKind _ _) (by k_asm) (by k_mem) (by k_asm) (by k_asm) (intKind_is _ _ _ _) true (by assumption) ?_
  | refine kdg_notin (knd := PySem.intKind _ _) (by k_asm) (by k_mem) (by k_asm) (by k_asm) (intKind_is _ _ _ _) false (by assumption) ?_); (try dsimp only [Bool.not_true, Bool.not_false])))
local macro_rules | `(tactic| walk_at "subscriptTail") => `(tactic| (k_here; (with_reducible show wpAny _ _ (subscriptTail _ _ (Value.ref _) (Value.int _ _)) _ _ _); k_dflt (refine kdt_tail (knd := PySem.intKind _ _) (by k_asm) (by k_mem) (by assumption) ?_)))
local macro_rules | `(tactic| walk_at "getItem ref int") => `(tactic| (k_here; k_dflt (refine kdt_getItem (knd := PySem.intKind _ _) (by k_asm) (by k_mem) (by assumption) (intKind_is _ _ _ _) (by assumption) ?_)))
local macro_rules | `(tactic| walk_at "setItem ref int") => `(tactic| (k_here; k_dflt (refine' kda_set (knd := PySem.intKind _ _) ?F ?N ?U ?d (intKind_is _ _ _ _) ?z ?_; (case F => k_asm); (case N => k_asm); (case U => k_updF); (case d => assumption); (case z => (first | exact line100 (by assumption) | exact line100w (by assumption) | exact line100s (by assumption)))); intro h' o' F' N' hd'; (try dsimp only at N')))
local macro_rules | `(tactic| walk_at "delItem ref int") => `(tactic| (k_here; k_dflt (refine' dk_del (knd := PySem.intKind _ _) ?F ?N ?U ?d (intKind_is _ _ _ _) ?v ?z ?_; (case F => k_asm); (case N => k_asm); (case U => k_updF); (case d => assumption); (case v => assumption); (case z => (first | exact line100 (by assumption) | exact line100w (by assumption) | exact line100s (by assumption)))); intro h' o' F' N' hd'; (try dsimp only at N')))
local macro_rules | `(tactic| walk_at "call builtin:dict.pop") => `(tactic| (k_here; (with_reducible show wpAny _ _ (call (Value.builtin "dict.pop") [Value.ref _, Value.int _ _]) _ _ _); k_dflt (refine' dk_pop (knd := PySem.intKind _ _) ?F ?N ?U ?d (intKind_is _ _ _ _) rfl ?v ?z ?_; (case F => k_asm); (case N => k_asm); (case U => k_updF); (case d => assumption); (case v => assumption); (case z => (first | exact line100 (by assumption) | exact line100w (by assumption) | exact line100s (by assumption)))); intro h' o' F' N' hd'; (try dsimp only at N')))
local macro_rules | `(tactic| walk_at "subscriptTail Attribute") => `(tactic| (k_here; (with_reducible show wpAny _ _ (subscriptTail _ _ (Value.ref _) (Value.int _ _)) _ _ _); k_dflt (refine kdt_tail (knd := PySem.intKind _ _) (by k_asm) (by k_mem) (by assumption) ?_)))
local macro_rules | `(tactic| k_enter) => `(tactic| (refine' code_def ?k1 ?k2 ?k3 ?k4 ?k5 ?kA ?kF ?kK ?k6 ?k7 ?k8 ?k9 ?kB ?_ ?c2 ?c3 ?c4 ?c5; (case kA => exact rfl); (case kF => exact rfl); (case kK => first | exact rfl | assumption); (case k1 => k_asm); (case k2 => k_asm); (case k3 => k_asm); (case k4 => k_asm); (case k5 => k_asm); (case k6 => k_is); (case k7 => k_is); (case k8 => k_room); (case k9 => exact BindsTo.of_eq rfl); (case c5 => decide); (case kB => exact locs rfl); (case c2 => exact rfl); (case c3 => exact rfl); (case c4 => exact rfl); k_whole; intro g' L' h' FG' F' N' B' X' T'; (try dsimp only); (try k_lift B'); (try k_fold)))
local macro_rules | `(tactic| walk_at "call ref") => `(tactic| (k_here; k_dflt (refine wpAny_call ?_; k_enter)))
local macro_rules | `(tactic| walk_at "call ref") => `(tactic| (k_here; (with_reducible show wpAny _ _ (call (Value.ref 857) _) _ _ _); k_dflt (refine wpAny_call ?_; (refine' code_def ?k1 ?k2 ?k3 ?k4 ?k5 ?kA ?kF ?kK ?k6 ?k7 ?k8 ?k9 ?kB ?_ ?c2 ?c3 ?c4 ?c5; (case kA => exact rfl); (case kF => exact rfl); (case kK => first | exact rfl | assumption); (case k1 => k_asm); (case k2 => k_asm); (case k3 => k_asm); (case k4 => k_asm); (case k5 => k_asm); (case k6 => k_is); (case k7 => k_is); (case k8 => k_room); (case k9 => exact bind857 _ (by k_in) _ _ (by k_is)); (case c5 => decide); (case kB => exact locs rfl); (case c2 => exact rfl); (case c3 => exact rfl); (case c4 => exact rfl); k_whole; intro g' L' h' FG' F' N' B' X' T'; (try dsimp only); (try k_lift B'); (try k_fold)))))
local macro_rules | `(tactic| walk_at "call ref") => `(tactic| (k_here; (with_reducible show wpAny _ _ (call (Value.ref 865) _) _ _ _); k_dflt (refine wpAny_call ?_; (refine' code_def ?k1 ?k2 ?k3 ?k4 ?k5 ?kA ?kF ?kK ?k6 ?k7 ?k8 ?k9 ?kB ?_ ?c2 ?c3 ?c4 ?c5; (case kA => exact rfl); (case kF => exact rfl); (case kK => first | exact rfl | assumption); (case k1 => k_asm); (case k2 => k_asm); (case k3 => k_asm); (case k4 => k_asm); (case k5 => k_asm); (case k6 => k_is); (case k7 => k_is); (case k8 => k_room); (case k9 => exact bind865 _ (by k_in) _ _ _ (by k_is)); (case c5 => decide); (case kB => exact locs rfl); (case c2 => exact rfl); (case c3 => exact rfl); (case c4 => exact rfl); k_whole; intro g' L' h' FG' F' N' B' X' T'; (try dsimp only); (try k_lift B'); (try k_fold)))))
local macro_rules | `(tactic| walk_at "call ref") => `(tactic| (k_here; (with_reducible show wpAny _ _ (call (Value.ref 873) _) _ _ _); k_dflt (refine wpAny_call ?_; (refine' code_def ?k1 ?k2 ?k3 ?k4 ?k5 ?kA ?kF ?kK ?k6 ?k7 ?k8 ?k9 ?kB ?_ ?c2 ?c3 ?c4 ?c5; (case kA => exact rfl); (case kF => exact rfl); (case kK => first | exact rfl | assumption); (case k1 => k_asm); (case k2 => k_asm); (case k3 => k_asm); (case k4 => k_asm); (case k5 => k_asm); (case k6 => k_is); (case k7 => k_is); (case k8 => k_room); (case k9 => exact bind873 _ (by k_in) _ _ (by k_is)); (case c5 => decide); (case kB => exact locs rfl); (case c2 => exact rfl); (case c3 => exact rfl); (case c4 => exact rfl); k_whole; intro g' L' h' FG' F' N' B' X' T'; (try dsimp only); (try k_lift B'); (try k_fold)))))
local macro_rules | `(tactic| walk_at "call ref") => `(tactic| (k_here; (with_reducible show wpAny _ _ (call (Value.ref 930) _) _ _ _); k_dflt (refine wpAny_call ?_; (refine' code_def ?k1 ?k2 ?k3 ?k4 ?k5 ?kA ?kF ?kK ?k6 ?k7 ?k8 ?k9 ?kB ?_ ?c2 ?c3 ?c4 ?c5; (case kA => exact rfl); (case kF => exact rfl); (case kK => first | exact rfl | assumption); (case k1 => k_asm); (case k2 => k_asm); (case k3 => k_asm); (case k4 => k_asm); (case k5 => k_asm); (case k6 => k_is); (case k7 => k_is); (case k8 => k_room); (case k9 => exact bind930 _ (by k_in) _ _ _ (by k_is)); (case c5 => decide); (case kB => exact locs rfl); (case c2 => exact rfl); (case c3 => exact rfl); (case c4 => exact rfl); k_whole; intro g' L' h' FG' F' N' B' X' T'; (try dsimp only); (try k_lift B'); (try k_fold)))))
local macro_rules | `(tactic| walk_at "call ref") => `(tactic| (k_here; (with_reducible show wpAny _ _ (call (Value.ref 938) _) _ _ _); k_dflt (refine wpAny_call ?_; (refine' code_def ?k1 ?k2 ?k3 ?k4 ?k5 ?kA ?kF ?kK ?k6 ?k7 ?k8 ?k9 ?kB ?_ ?c2 ?c3 ?c4 ?c5; (case kA => exact rfl); (case kF => exact rfl); (case kK => first | exact rfl | assumption); (case k1 => k_asm); (case k2 => k_asm); (case k3 => k_asm); (case k4 => k_asm); (case k5 => k_asm); (case k6 => k_is); (case k7 => k_is); (case k8 => k_room); (case k9 => exact bind938 _ (by k_in) _ _ (by k_is)); (case c5 => decide); (case kB => exact locs rfl); (case c2 => exact rfl); (case c3 => exact rfl); (case c4 => exact rfl); k_whole; intro g' L' h' FG' F' N' B' X' T'; (try dsimp only); (try k_lift B'); (try k_fold)))))
local macro_rules | `(tactic| walk_at "call ref") => `(tactic| (k_here; (with_reducible show wpAny _ _ (call (Value.ref 714) _) _ _ _); k_dflt (refine wpAny_call ?_; (refine' code_def ?k1 ?k2 ?k3 ?k4 ?k5 ?kA ?kF ?kK ?k6 ?k7 ?k8 ?k9 ?kB ?_ ?c2 ?c3 ?c4 ?c5; (case kA => exact rfl); (case kF => exact rfl); (case kK => first | exact rfl | assumption); (case k1 => k_asm); (case k2 => k_asm); (case k3 => k_asm); (case k4 => k_asm); (case k5 => k_asm); (case k6 => k_is); (case k7 => k_is); (case k8 => k_room); (case k9 => exact bind714 _ (by k_in) _ _ _ (by k_is)); (case c5 => decide); (case kB => exact locs rfl); (case c2 => exact rfl); (case c3 => exact rfl); (case c4 => exact rfl); k_whole; intro g' L' h' FG' F' N' B' X' T'; (try dsimp only); (try k_lift B'); (try k_fold)))))
local macro_rules | `(tactic| walk_at "call ref") => `(tactic| (k_here; (with_reducible show wpAny _ _ (call (Value.ref 897) _) _ _ _); k_dflt (refine' call_cls ?k1 ?k2 ?k3 ?k4 ?k5 ?k6 ?_; (case k1 => k_asm); (case k2 => k_asm); (case k3 => k_asm); (case k4 => k_is); (case k5 => k_is); (case k6 => k_is); k_whole; intro x' d' h' F' N' l1 l2; (try k_lt l1); (try k_lt2 l2); (try k_sweep); (refine' code_def ?k1 ?k2 ?k3 ?k4 ?k5 ?kA ?kF ?kK ?k6 ?k7 ?k8 ?k9 ?kB ?_ ?c2 ?c3 ?c4 ?c5; (case kA => exact rfl); (case kF => exact rfl); (case kK => first | exact rfl | assumption); (case k1 => k_asm); (case k2 => k_asm); (case k3 => k_asm); (case k4 => k_asm); (case k5 => k_asm); (case k6 => k_is); (case k7 => k_is); (case k8 => k_room); (case k9 => exact bind849 _ (by k_in) _ _ (by k_is)); (case c5 => decide); (case kB => exact locs rfl); (case c2 => exact rfl); (case c3 => exact rfl); (case c4 => exact rfl); k_whole; intro g' L' h' FG' F' N' B' X' T'; (try dsimp only); (try k_lift B'); (try k_fold)))))
local macro_rules | `(tactic| walk_at "call ref") => `(tactic| (k_here; (with_reducible show wpAny _ _ (call (Value.ref 955) _) _ _ _); k_dflt (refine' call_cls ?k1 ?k2 ?k3 ?k4 ?k5 ?k6 ?_; (case k1 => k_asm); (case k2 => k_asm); (case k3 => k_asm); (case k4 => k_is); (case k5 => k_is); (case k6 => k_is); k_whole; intro x' d' h' F' N' l1 l2; (try k_lt l1); (try k_lt2 l2); (try k_sweep); (refine' code_def ?k1 ?k2 ?k3 ?k4 ?k5 ?kA ?kF ?kK ?k6 ?k7 ?k8 ?k9 ?kB ?_ ?c2 ?c3 ?c4 ?c5; (case kA => exact rfl); (case kF => exact rfl); (case kK => first | exact rfl | assumption); (case k1 => k_asm); (case k2 => k_asm); (case k3 => k_asm); (case k4 => k_asm); (case k5 => k_asm); (case k6 => k_is); (case k7 => k_is); (case k8 => k_room); (case k9 => exact bind914 _ (by k_in) _ _ _ (by k_is)); (case c5 => decide); (case kB => exact locs rfl); (case c2 => exact rfl); (case c3 => exact rfl); (case c4 => exact rfl); k_whole; intro g' L' h' FG' F' N' B' X' T'; (try dsimp only); (try k_lift B'); (try k_fold)))))
local macro_rules | `(tactic| cell_enter) => `(tactic| (refine' call_F ?k1 ?k2 ?k3 ?k4 ?kD ?k6 ?k7 ?k8 ?k9 ?kB ?_ ?c2 ?c3 ?c4 ?c5; (case k1 => with_reducible assumption); (case k2 => with_reducible assumption); (case k3 => with_reducible assumption); (case k4 => with_reducible assumption); (case kD => with_reducible assumption); (case k6 => k_is); (case k7 => k_is); (case k8 => omega); (case k9 => first | exact bind794 _ (Frag.In.keeps (by with_reducible assumption) (fun _ _ e => of_hideAll _ e)) _ _ _ (by k_is) | exact BindsTo.of_eq rfl); (case c5 => decide); (case kB => exact locs rfl); (case c2 => exact rfl); (case c3 => exact rfl); (case c4 => exact rfl); k_whole; intro g' L' h' F' N' B' X' T' D' TT'; (try dsimp only); (try k_fold)))
local macro_rules | `(tactic| walk_at "WhlIf") => `(tactic| first | (refine WhlIf.no (decide_eq_false (by omega)) ?_) | (refine WhlIf.yes (decide_eq_true (by omega)) ?_))
local macro_rules | `(tactic| walk_at "call builtin:dict.pop") => `(tactic| (k_here; (with_reducible show wpAny _ _ (call (Value.builtin "dict.pop") [Value.ref _, Value.int _ _]) _ _ _); k_dflt (refine' dk_pop_missing (knd := PySem.intKind _ _) rfl ?N ?M ?d ?lo (intKind_is _ _ _ _) rfl ?v ?_; (case N => k_asm); (case M => k_mem); (case d => assumption); (case lo => assumption); (case v => assumption)); intro h' e' x'))
local macro_rules | `(tactic| walk_at "getAttr ref") => `(tactic| (k_here; k_dflt (refine' get_cls ?k1 ?k2 ?k3 ?k4 ?k5 ?k6 ?k7 ?k8 ?k9 ?k10 ?_; (case k1 => k_asm); (case k2 => k_asm); (case k3 => (refine' InstAt.of_news ?N9 ?h91 ?h92; (case N9 => k_asm); (case h91 => k_memK); (case h92 => k_memK))); (case k4 => k_is); (case k5 => k_is); (case k6 => k_is); (case k7 => k_is); (case k8 => k_handed); (case k9 => decide +kernel); (case k10 => k_get); k_whole)))
local macro_rules | `(tactic| walk_at "getAttr ref") => `(tactic| (k_here; k_dflt (refine' get_own ?k1 ?k2 ?k3 ?k4 ?k5 ?k6 ?k7 ?k8 ?k9 ?_; (case k1 => k_asm); (case k2 => k_asm); (case k3 => (refine' InstAt.of_news ?N9 ?h91 ?h92; (case N9 => k_asm); (case h91 => k_memK); (case h92 => k_memK))); (case k4 => k_is); (case k5 => k_is); (case k6 => k_is); (case k7 => k_is); (case k8 => k_get); (case k9 => k_handed); k_whole)))
local macro_rules | `(tactic| walk_at "getAttr ref") => `(tactic| (k_here; (with_reducible show wpAny _ _ (getAttr (Value.ref 830) _ _) _ _ _); k_dflt (refine' cls_val ?k1 ?k2 ?k3 ?k4 ?k5 ?k6 ?_; (case k1 => k_asm); (case k2 => k_asm); (case k3 => k_is); (case k4 => k_is); (case k5 => k_is); (case k6 => k_handed); k_whole)))
local macro_rules | `(tactic| walk_at "delItem ref int") => `(tactic| (k_here; (with_reducible show wpAny _ _ (delItem (Value.ref _) _) _ _ _); k_dflt (refine' inst_delItem ?F ?X ?I ?hQ ?hS ?hF ?_; (case I => (refine' InstAt.of_news ?N9 ?h91 ?h92; (case N9 => k_asm); (case h91 => k_memK); (case h92 => k_memK))); (case F => k_asm); (case X => k_asm); (case hS => k_is); (case hF => k_is); (case hQ => k_is); k_whole)))
local macro_rules | `(tactic| walk_at "setItem ref") => `(tactic| (k_here; (with_reducible show wpAny _ _ (setItem (Value.ref _) _ _) _ _ _); k_dflt (refine' ksp_setItem ?F ?X ?I ?hQ ?hS ?hF ?_; (case F => k_asm); (case X => k_asm); (case I => (refine' InstAt.of_news ?N9 ?h91 ?h92; (case N9 => k_asm); (case h91 => k_memK); (case h92 => k_memK))); (case hS => k_is); (case hF => k_is); (case hQ => k_is); k_whole)))
local macro_rules | `(tactic| walk_at "getMethod ref") => `(tactic| (k_here; k_dflt (refine' method_inst ?k1 ?k2 ?k3 ?k4 ?k5 ?k6 ?k7 ?_; (case k3 => (refine' InstAt.of_news ?N9 ?h91 ?h92; (case N9 => k_asm); (case h91 => k_memK); (case h92 => k_memK))); (case k1 => k_asm); (case k2 => k_asm); (case k4 => k_is); (case k5 => k_is); (case k6 => k_is); (case k7 => k_get); k_whole)))
local macro_rules | `(tactic| walk_at "compareOp In") => `(tactic| (k_here; (with_reducible show wpAny _ _ (compareOp CmpOp.In _ (Value.ref _)) _ _ _); k_dflt (refine' in_K ?k1 ?k2 ?k3 ?k4 ?k5 ?_; (case k3 => (refine' InstAt.of_news ?N9 ?h91 ?h92; (case N9 => k_asm); (case h91 => k_memK); (case h92 => k_memK))); (case k1 => k_asm); (case k2 => k_asm); (case k4 => k_is); (case k5 => k_is); k_whole)))
local macro_rules | `(tactic| walk_at "last exec While") => `(tactic| (k_here; k_dflt (refine whl_start 2 ?_)))
local macro_rules | `(tactic| walk_at "exec While") => `(tactic| (k_here; k_dflt (refine whl_start 2 ?_)))
local macro_rules | `(tactic| k_in) => `(tactic| first | with_reducible assumption | exact Frag.In.keeps (by with_reducible assumption) (Fr.keep (by with_reducible assumption)))
local macro_rules | `(tactic| walk_at "callWith ref") => `(tactic| (k_here; (with_reducible show wpAny _ _ (callWith _ (Value.ref _) _ (backTo _ (starEach (_ :: _) _)) []) _ _ _); k_dflt (refine' callWith_K ?k1 ?k2 ?_; (case k1 => with_reducible assumption); (case k2 => k_is); k_whole)))
local macro_rules | `(tactic| walk_at "callWith ref") => `(tactic| (k_here; (with_reducible show wpAny _ _ (callWith _ (Value.ref _) _ (backTo _ (starEach [] _)) []) _ _ _); k_dflt (refine' callWith_K0 ?k1 ?k2 ?_; (case k1 => k_in); (case k2 => k_is); k_whole)))
local macro_rules | `(tactic| walk_at "getMethod ref") => `(tactic| (k_here; (with_reducible show wpAny _ _ (getMethod (Value.ref 830) _ _) _ _ _); k_dflt (refine' method_of_cls ?k1 ?k2 ?k3 ?_; (case k1 => k_asm); (case k2 => k_asm); (case k3 => k_is); k_whole)))
local macro_rules | `(tactic| walk_at "setItem ref int") => `(tactic| (k_here; (with_reducible show wpAny _ _ (setItem (Value.ref _) _ _) _ _ _); k_dflt (refine' ksp_setItem ?F ?X ?I ?hQ ?hS ?hF ?_; (case F => k_asm); (case X => k_asm); (case I => (refine' InstAt.of_news ?N9 ?h91 ?h92; (case N9 => k_asm); (case h91 => k_memK); (case h92 => k_memK))); (case hS => k_is); (case hF => k_is); (case hQ => k_is); k_whole)))
local macro_rules | `(tactic| cell_call) => `(tactic| (refine' call_P ?k1 ?k2 ?k3 ?k4 ?k6 ?k7 ?k8 ?k9 ?kB ?_ ?c2 ?c3 ?c4 ?c5; (case k1 => with_reducible assumption); (case k2 => with_reducible assumption); (case k3 => with_reducible assumption); (case k4 => with_reducible assumption); (case k6 => k_is); (case k7 => k_is); (case k8 => omega); (case k9 => first | exact bind794 _ (Frag.In.keeps (by with_reducible assumption) (fun _ _ e => of_hideAll _ e)) _ _ _ (by k_is) | exact BindsTo.of_eq rfl); (case c5 => decide); (case kB => exact locs rfl); (case c2 => exact rfl); (case c3 => exact rfl); (case c4 => exact rfl); k_whole; intro g' L' h' F' N' B' X' T' TT'; (try dsimp only); (try k_fold)))
local macro_rules | `(tactic| walk_at "subscriptTail") => `(tactic| (k_here; (with_reducible show wpAny _ _ (subscriptTail _ _ (Value.ref _) (Value.int _ _)) _ _ _); k_dflt (refine' item_list_ints_negR ?l9 ?i9 ?a9 ?b9 ?c9 ?_; (case l9 => exact News.isList (by k_asm) (by k_memK)); (case i9 => with_reducible assumption); (case a9 => omega); (case b9 => omega); (case c9 => omega)); intro _))
local macro_rules | `(tactic| walk_at "call builtin:list.pop") => `(tactic| (k_here; (with_reducible show wpAny _ _ (call (Value.builtin _) [Value.ref _]) _ _ _); k_dflt (refine' kpa_pop ?F ?N ?U ?i ?l ?z ?_; (case F => k_asm); (case N => k_asm); (case U => k_upd); (case i => with_reducible assumption); (case l => ((try simp only [List.length_set]); omega)); (case z => (rw [PySem.sizeLine_eq]; (try simp only [List.length_set]); omega))); (intro h' t' F' N' hI'; (try dsimp only [List.nil_append, List.cons_append] at N'))))
local macro_rules | `(tactic| walk_at "call builtin:len") => `(tactic| (k_here; (with_reducible show wpAny _ _ (call (Value.builtin _) [Value.ref _]) _ _ _); k_dflt (refine' len_intsN ?N ?m ?i ?z ?_; (case N => k_asm); (case m => k_memK); (case i => with_reducible assumption); (case z => ((try simp only [List.length_dropLast, List.length_set, List.length_append, List.length_cons, List.length_nil]); omega)))))
local macro_rules | `(tactic| walk_at "call builtin:list.append") => `(tactic| (k_here; (with_reducible show wpAny _ _ (call (Value.builtin _) [Value.ref _, Value.int _ _]) _ _ _); k_dflt (refine' append_ints ?k1 ?k2 ?k3 ?i ?z ?_; (case k1 => k_asm); (case k2 => k_asm); (case k3 => k_upd); (case i => with_reducible assumption); (case z => ((try simp only [List.length_dropLast, List.length_set, List.length_append, List.length_cons, List.length_nil]); omega)); k_whole); intro h' F' N' hI'; (try k_sweep)))
local macro_rules | `(tactic| walk_at "getMethod ref") => `(tactic| (k_here; (with_reducible show wpAny _ _ (getMethod (Value.ref _) (Str.ofString "_RRCache__choice") _) _ _ _); k_dflt (refine' kmu_own ?k1 ?k2 ?k3 ?k4 ?k5 ?_; (case k1 => k_asm); (case k2 => k_asm); (case k3 => (refine' InstAt.of_news ?N9 ?h91 ?h92; (case N9 => k_asm); (case h91 => k_memK); (case h92 => k_memK))); (case k4 => k_is); (case k5 => k_is); k_whole)))
local macro_rules | `(tactic| walk_at "callWith ref") => `(tactic| (k_here; k_dflt (refine' callWith_F ?k1 ?_; (case k1 => exact FnAt.of (by k_asm) (by k_memK)); k_whole)))
local macro_rules | `(tactic| walk_at "And") => `(tactic| ((with_reducible show FnAt _ _ ∧ _); k_dflt (refine ⟨FnAt.of (by k_asm) (by k_memK), ?_⟩); (try dsimp only [List.nil_append, List.cons_append])))
local macro_rules | `(tactic| k_all) => `(tactic| first | with_reducible assumption | exact List.forall_mem_nil _ | (refine List.forall_mem_cons.mpr ⟨by k_ne, ?_⟩; k_all))
local macro_rules | `(tactic| walk_at "compareOp NotIn int ref") => `(tactic| (k_here; k_dflt (refine kdg_notin (knd := PySem.intKind _ _) (by k_asm) (by k_memK) (by k_asm) (by k_asm) (intKind_is _ _ _ _) false (by first | assumption | exact stored_none (by assumption) (by assumption)) ?_); (try dsimp only [Bool.not_true, Bool.not_false])))
local macro_rules | `(tactic| walk_at "eval Name") => `(tactic| (k_here; k_dflt (refine' nameX_L ?F ?v ?_ ?a ?b; (case F => k_asm); (case a => rfl); (case b => rfl); (case v => first | rfl | assumption); k_whole)))
local macro_rules | `(tactic| walk_at "call builtin:list.index") => `(tactic| (k_here; (with_reducible show wpAny _ _ (call (Value.builtin _) [Value.ref _, Value.int _ _]) _ _ _); k_dflt (refine' index_ints ?N ?m ?i ?k ?z ?_; (case N => k_asm); (case m => k_memK); (case i => with_reducible assumption); (case k => with_reducible assumption); (case z => ((try simp only [List.length_map]); omega)); k_whole); intro hidx9; (try simp only [List.length_map] at hidx9)))
local macro_rules | `(tactic| walk_at "subscriptTail") => `(tactic| (k_here; (with_reducible show wpAny _ _ (subscriptTail _ _ (Value.ref _) (Value.int _ _)) _ _ _); k_dflt (refine' item_anyK ?l9 ?i9 ?a9 ?b9 ?c9 ?_; (case l9 => exact News.isList (by k_asm) (by k_memK)); (case i9 => with_reducible assumption); (case a9 => omega); (case b9 => omega); (case c9 => omega)); intro _))
local macro_rules | `(tactic| walk_at "call builtin:len") => `(tactic| (k_here; (with_reducible show wpAny _ _ (call (Value.builtin "len") [Value.ref _]) _ _ _); k_dflt (refine' kda_len (knd := PySem.intKind _ _) ?N ?m ?d ?lo ?z ?_; (case N => k_asm); (case m => k_memK); (case d => with_reducible assumption); (case lo => with_reducible assumption); (case z => omega))))
set_option maxHeartbeats 8000000 in
theorem turn_order (w : World) {p : Program} {loose : List Str} {mean : ExcName → Option Value} {mg mb : Str → Option Value} {base : Heap} {L : Nat} {fa : Addr} {m : Str → Option Value} {s : Shared} {Q : Flow → Shared → Prop} {Ex : Value → Shared → Prop}
   {y dy ed ii kk f2 hl ol : Addr} {t1 t2 t3 t4 t5 t6 tn tr tq : Tok} {n r k : Int} {oe1 o1 : Obj} {kvs : List (Int × Value)} {hv ov : List Value} {hs os : List Int} {hn on : Nat} {rest : List (Addr × Obj)}
   (B : Below callerA base [] base) (F : Fr base L s.heap m) (X : (tjCSoBpQsPZBkyzz.heap_39 w.params).In base) (T : Top p loose mean mg mb base)
   (m1 : m (Str.ofString "ahead") = some (.ref y)) (m2 : m (Str.ofString "held") = some (.ref hl)) (m3 : m (Str.ofString "order") = some (.ref ol))
   (N : News base L s.heap ((y, instObj 955 dy) :: (dy, rrNs w t1 t2 t3 t4 t5 t6 ed f2 ii kk n tn r tr) :: (ed, oe1) :: (hl, listOf hv.toArray hn) :: (ol, listOf ov.toArray on) :: (L + 1, o1) :: rest))
   (lo1 : (ed == sysModules) = false) (d1 : o1.data = .cell (some (.int k tq))) (hd : oe1.IsDictOf (intKind PySem.Challenge.rw_fc0035_02.row.prog w) kvs) (hhs : IntsAre hv hs) (hos : IntsAre ov os) (hlen : kvs.length = hs.length) (hz1 : hs.length ≤ 4) (hz2 : os.length ≤ 20)
   (hQ : ∀ ol' (ov' : List Value) h' tk' m', Fr base L h' m' → News base L h' ((ol', listOf ov'.toArray 0) :: (y, instObj 955 dy) :: (dy, rrNs w t1 t2 t3 t4 t5 t6 ed f2 ii kk n tn r tr) :: (ed, oe1) :: (hl, listOf hv.toArray hn) :: (ol, listOf ov.toArray on) :: (L + 1, o1) :: rest) →
      (∀ q ∈ (y, instObj 955 dy) :: (dy, rrNs w t1 t2 t3 t4 t5 t6 ed f2 ii kk n tn r tr) :: (ed, oe1) :: (hl, listOf hv.toArray hn) :: (ol, listOf ov.toArray on) :: (L + 1, o1) :: rest, q.1 < ol') → IntsAre ov' (os.filter (fun z => decide (z ≠ k)) ++ [k]) → m' (Str.ofString "order") = some (.ref ol') →
      (∀ z, z ≠ Str.ofString "order" → m' z = m z) → Q .next { s with heap := h', toks := tk' }) :
   wpAny (model PySem.Challenge.rw_fc0035_02.row.prog w) (callerA.deeper (envOfC (Str.ofString "law") lawScope L fa (.ref 975))) (execs (loopBody.drop 7) (envOfC (Str.ofString "law") lawScope L fa (.ref 975))) Q Ex s := by
  conv in (occs := *) lawScope => all_goals whnf
  conv in List.drop 7 loopBody => whnf
  repeat' ((fail_if_success (with_reducible show wpAny _ _ (eval (Expr.ListComp _ _ _ _) _) _ _ _)); first | (k_unfold; (try dsimp only)) | ((first | fail_if_success k_end | with_reducible show LeaveK _ _ _ _ _ _ _); (first | walk1 | (dsimp only; walk1) | (leave1; try dsimp only) | fail "no step")))
  · exfalso; omega
  k_dflt (refine LCt.ListComp_T (F₀ := by k_asm) (by with_unfolding_all rfl) (by decide) (by rfl) (by decide) (by rfl) ?_)
  repeat' ((fail_if_success (with_reducible show wpAny _ _ (pyIter _) _ _ _)); first | (k_unfold; (try dsimp only)) | ((first | fail_if_success k_end | with_reducible show LeaveK _ _ _ _ _ _ _); (first | walk1 | (dsimp only; walk1) | (leave1; try dsimp only) | fail "no step")))
  k_dflt (refine LCt.CompSrcT.ledger (by rfl) (by k_asm) (by k_asm) (List.Mem.tail _ (.tail _ (.tail _ (.tail _ (.head _))))) ?sz ?_)
  case sz => (rw [sizeLine_eq, List.size_toArray, hos.length]; omega)
  intro g9
  refine comp_indT (fun i ys => IntsAre ys ((os.take i).filter fun z => decide (z ≠ k))) .nil ?step ?fin
  case step =>
    intro i ys hi hj v I oI C oC D m₂ h tk E' hv' hC' hx' F' N' off' ne'
    have off9 := off'
    simp only [LCg.Off3, and_true] at off'
    have hi2 : i < os.length := by simpa [hos.length] using hi
    obtain ⟨tk1, hx⟩ := hos.get i os[i] (by simp [hi2])
    have hvv : v = .int os[i] tk1 := by
      have hP' : ov[i]? = some v := by simpa using hv'
      rw [hx] at hP'; exact (Option.some.inj hP').symm
    subst hvv
    have e9 : os.take (i + 1) = os.take i ++ [os[i]] := by rw [List.take_add_one, List.getElem?_eq_getElem hi2]; rfl
    repeat' (first | (k_unfold; (try dsimp only)) | ((first | fail_if_success k_end | with_reducible show LeaveK _ _ _ _ _ _ _); (first | walk1 | (dsimp only; walk1) | (leave1; try dsimp only) | fail "no step")))
    · dsimp only
      rename os[i] ≠ k => hne9
      refine LCg.CompEnd.intro F' N' _ (fun _ h => h) off9 (.inr ⟨_, .tail _ (.tail _ (.tail _ (.tail _ (.head _)))), rfl, _, rfl⟩) ⟨rfl, ?J⟩
      case J =>
        rw [e9, List.filter_append, show [os[i]].filter (fun z => decide (z ≠ k)) = [os[i]] by simp [hne9]]
        exact ksk_snoc hj
    · dsimp only
      rename os[i] = k => hne9
      refine LCg.CompEnd.intro F' N' _ (fun _ h => h) off9 (.inr ⟨_, .tail _ (.tail _ (.tail _ (.tail _ (.head _)))), rfl, _, rfl⟩) ⟨rfl, ?J⟩
      case J =>
        rw [e9, List.filter_append, show [os[i]].filter (fun z => decide (z ≠ k)) = [] by simp [hne9], List.append_nil]
        exact hj
  case fin =>
    intro ys hj
    unfold LCg.FinE
    intro D h tk F' N' off'
    have hks9 : ov.toArray.size = os.length := by simp [hos.length]
    rw [hks9, List.take_length] at hj
    dsimp only
    repeat' ((fail_if_success (with_reducible show wpAny _ _ (binaryOp _ _ _) _ _ _)); first | (k_unfold; (try dsimp only)) | ((first | fail_if_success k_end | with_reducible show LeaveK _ _ _ _ _ _ _); (first | walk1 | (dsimp only; walk1) | (leave1; try dsimp only) | fail "no step")))
    rename News _ _ _ _ => N9
    rename Fr _ _ _ _ => F9
    refine kmk_add_ints (vs := ys) (ws := [.int k tq]) F9 N9 (News.isList N9 (.tail _ (.head _))) (News.isList N9 (.head _)) hj (.cons k tq .nil) ?_ ?z
    case z =>
      have := List.length_filter_le (fun z => decide (z ≠ k)) os
      rw [sizeLine_eq]
      simp only [List.length_cons, List.length_nil]
      omega
    intro D7 us h7 F7 N7 l7 hI7
    repeat' (first | (k_unfold; (try dsimp only)) | ((first | fail_if_success k_end | with_reducible show LeaveK _ _ _ _ _ _ _); (first | walk1 | (dsimp only; walk1) | (leave1; try dsimp only) | fail "no step")))
    rename News _ _ _ _ => N5
    rename Fr _ _ _ _ => F5
    refine hQ D7 us _ _ _ F5 (fun q hq => ?_) (fun q hq => l7 q (.tail _ (.tail _ hq))) hI7 (if_pos rfl) (fun z hz => if_neg hz)
    rcases List.mem_cons.mp hq with rfl | hq
    · exact N5 _ (.head _)
    · exact N5 _ (.tail _ (.tail _ (.tail _ hq)))
set_option maxHeartbeats 8000000 in
theorem turn_held (w : World) {p : Program} {loose : List Str} {mean : ExcName → Option Value} {mg mb : Str → Option Value} {base : Heap} {L : Nat} {fa : Addr} {m : Str → Option Value} {s : Shared} {Q : Flow → Shared → Prop} {Ex : Value → Shared → Prop}
   {x dx dd oo ld : Addr} {t1 t2 t3 t4 tn tr tq tr2 : Tok} {n r k : Int} {od1 ob o1 : Obj} {kvs lds : List (Int × Value)} {rest : List (Addr × Obj)} {O : List Int}
   (B : Below callerA base [] base) (F : Fr base L s.heap m) (X : (tjCSoBpQsPZBkyzz.heap_39 w.params).In base) (T : Top p loose mean mg mb base)
   (m1 : m (Str.ofString "last") = some (.ref x)) (m2 : m (Str.ofString "loaded") = some (.ref ld)) (m3 : m (Str.ofString "room") = some (.int r tr2))
   (N : News base L s.heap ((x, instObj 897 dx) :: (dx, lruNs w t1 t2 t3 t4 dd oo n tn r tr) :: (dd, od1) :: (ld, ob) :: (L + 1, o1) :: rest))
   (lo1 : (dd == sysModules) = false) (lo2 : (ld == sysModules) = false) (d1 : o1.data = .cell (some (.int k tq))) (hd : od1.IsDictOf (intKind PySem.Challenge.rw_fc0035_02.row.prog w) kvs) (hd2 : ob.IsDictOf (intKind PySem.Challenge.rw_fc0035_02.row.prog w) lds)
   (hp : (kvs.map (·.1)).Perm O) (hO : O.Nodup) (hc : Convex O) (hk : k ∈ O) (hr1 : 1 ≤ r) (hr4 : r ≤ 4) (hlen : (O.length : Int) = min r (lds.length : Int)) (hz : lds.length ≤ 20)
   (hQ : ∀ hl' (hv' : List Value) hn' hs' h' tk' m', Fr base L h' m' → News base L h' ((hl', listOf hv'.toArray hn') :: (x, instObj 897 dx) :: (dx, lruNs w t1 t2 t3 t4 dd oo n tn r tr) :: (dd, od1) :: (ld, ob) :: (L + 1, o1) :: rest) →
      (∀ q ∈ (x, instObj 897 dx) :: (dx, lruNs w t1 t2 t3 t4 dd oo n tn r tr) :: (dd, od1) :: (ld, ob) :: (L + 1, o1) :: rest, q.1 < hl') → IntsAre hv' hs' → hs'.length = O.length → m' (Str.ofString "held") = some (.ref hl') →
      (∀ z, z ≠ Str.ofString "held" → m' z = m z) →
      wpAny (model PySem.Challenge.rw_fc0035_02.row.prog w) (callerA.deeper (envOfC (Str.ofString "law") lawScope L fa (.ref 975))) (execs (loopBody.drop 7) (envOfC (Str.ofString "law") lawScope L fa (.ref 975))) Q Ex { s with heap := h', toks := tk' }) :
   wpAny (model PySem.Challenge.rw_fc0035_02.row.prog w) (callerA.deeper (envOfC (Str.ofString "law") lawScope L fa (.ref 975))) (execs (loopBody.drop 5) (envOfC (Str.ofString "law") lawScope L fa (.ref 975))) Q Ex s := by
  have hkl : kvs.length = O.length := length_keys hp
  conv in (occs := *) lawScope => all_goals whnf
  conv in List.drop 5 loopBody => whnf
  repeat' ((fail_if_success (with_reducible show wpAny _ _ (eval (Expr.ListComp _ _ _ _) _) _ _ _)); first | (k_unfold; (try dsimp only)) | ((first | fail_if_success k_end | with_reducible show LeaveK _ _ _ _ _ _ _); (first | walk1 | (dsimp only; walk1) | (leave1; try dsimp only) | fail "no step")))
  k_dflt (refine ListComp_Keys (F₀ := by k_asm) (by with_unfolding_all rfl) (by decide) (by rfl) (by decide) (by rfl) ?_)
  repeat' ((fail_if_success (with_reducible show wpAny _ _ (pyIter _) _ _ _)); first | (k_unfold; (try dsimp only)) | ((first | fail_if_success k_end | with_reducible show LeaveK _ _ _ _ _ _ _); (first | walk1 | (dsimp only; walk1) | (leave1; try dsimp only) | fail "no step")))
  k_dflt (refine' owit_iter ?F ?X ?I ?hs ?hf ?_; (case F => k_asm); (case X => k_asm); (case I => (refine' InstAt.of_news ?N9 ?h91 ?h92; (case N9 => k_asm); (case h91 => k_memK); (case h92 => k_memK))); (case hs => k_is); (case hf => k_is); k_whole)
  repeat' (first | (k_unfold; (try dsimp only)) | ((first | fail_if_success k_end | with_reducible show LeaveK _ _ _ _ _ _ _); (first | walk1 | (dsimp only; walk1) | (leave1; try dsimp only) | fail "no step")))
  rename KdkIter _ _ _ _ _ => hi9
  rename KdkAt _ _ _ _ => ha9
  rename News _ _ _ _ => N9
  rename Fr _ _ _ _ => F9
  rename _ ∧ _ => l9
  unfold OwitIt
  refine wpAny_specialOf (name := Str.ofString "__next__") (hi9.at (N9 _ (.head _)).1).typeIs PySem.F.slot_dict_keyiterator_next.lookup ?_
  dsimp only
  refine ⟨_, dd, _, od1, kvs, _, _, rfl, rfl, F9, N9, ?off, hi9, ha9, .tail _ (.tail _ (.head _)), ?sz, ?_⟩
  case off => exact allLt_ne ⟨l9.1, l9.2.1, l9.2.2.1, l9.2.2.2.1, l9.2.2.2.2.1, l9.2.2.2.2.2⟩
  case sz => (rw [sizeLine_eq]; omega)
  refine comp_ind (fun i ys => IntsAre ys ((kvs.map (·.1)).take i)) .nil ?step ?fin
  case step =>
    intro i ys hi hj v I oI C oC D m₂ h tk E' hv' hC' hx' F' N' off' ne'
    obtain ⟨k7, y7, hx7, his⟩ := hv'
    obtain ⟨t7, rfl⟩ := PySem.Value.isInt_shape his
    have off9 := off'
    simp only [LCg.Off3] at off'
    repeat' (first | (k_unfold; (try dsimp only)) | ((first | fail_if_success k_end | with_reducible show LeaveK _ _ _ _ _ _ _); (first | walk1 | (dsimp only; walk1) | (leave1; try dsimp only) | fail "no step")))
    dsimp only
    refine LCg.CompEnd.intro F' N' _ (fun _ h => h) off9 (.tail _ (.tail _ (.head _))) ⟨rfl, ?J⟩
    case J =>
      have e9 : (kvs.map (·.1)).take (i + 1) = (kvs.map (·.1)).take i ++ [k7] := by rw [List.take_add_one, List.getElem?_map, hx7]; rfl
      rw [e9]
      exact ksk_snoc hj
  case fin =>
    intro ys hj
    unfold LCg.FinE
    intro D h tk F' N' off'
    rw [show kvs.length = (kvs.map (·.1)).length by simp, List.take_length] at hj
    have hkm : (kvs.map (·.1)).length = O.length := hp.length_eq
    repeat' ((fail_if_success (with_reducible show wpAny _ _ (call (Value.builtin "sorted") _) _ _ _)); first | (k_unfold; (try dsimp only)) | ((first | fail_if_success k_end | with_reducible show LeaveK _ _ _ _ _ _ _); (first | walk1 | (dsimp only; walk1) | (leave1; try dsimp only) | fail "no step")))
    refine kso_sorted F' N' (News.isList N' (.head _)) hj (by omega) ?_
    intro D8 hv8 hs8 c8 h8 F8 N8 l8 hI8 e8 p8 o8 _
    have hOp : 0 < O.length := List.length_pos_of_mem hk
    have hlen8 : hs8.length = O.length := by omega
    have hperm8 : hs8.Perm O := p8.trans hp
    have hspan := sorted_span o8 hperm8 hO hc (by omega)
    have hmem8 : k ∈ hs8 := hperm8.mem_iff.mpr hk
    clear e8 p8 o8 hp hO hc hk hj
    repeat' ((fail_if_success (with_reducible show wpAny _ _ (subscriptTail _ _ _ _) _ _ _)); first | (k_unfold; (try dsimp only)) | ((first | fail_if_success k_end | with_reducible show LeaveK _ _ _ _ _ _ _); (first | walk1 | (dsimp only; walk1) | (leave1; try dsimp only) | fail "no step")))
    · rename ((hs8.length : Int) ≠ ite _ _ _) => h99
      exfalso
      split at h99 <;> omega
    rename News _ _ _ _ => N7
    refine item_list_ints_negR (News.isList N7 (.head _)) hI8 (by omega) (by omega) (by omega) ?_
    intro t71
    repeat' ((fail_if_success (with_reducible show wpAny _ _ (subscriptTail _ _ _ _) _ _ _)); first | (k_unfold; (try dsimp only)) | ((first | fail_if_success k_end | with_reducible show LeaveK _ _ _ _ _ _ _); (first | walk1 | (dsimp only; walk1) | (leave1; try dsimp only) | fail "no step")))
    rename News _ _ _ _ => N6
    refine item_anyK (News.isList N6 (.head _)) hI8 (by omega) (by omega) (by omega) ?_
    intro t72
    repeat' ((fail_if_success (with_reducible show wpAny _ _ (compareOp CmpOp.NotIn _ _) _ _ _)); first | (k_unfold; (try dsimp only)) | ((first | fail_if_success k_end | with_reducible show LeaveK _ _ _ _ _ _ _); (first | walk1 | (dsimp only; walk1) | (leave1; try dsimp only) | fail "no step")))
    · exfalso; omega
    rename News _ _ _ _ => N5
    refine kf_notin (b := false) N5 (.head _) (kf_ints_of hI8) (by show (!hv8.any (isInt k)) = false; rw [any_ints hI8]; simp [hmem8]) ?_
    repeat' ((fail_if_success (with_reducible show wpAny _ _ (execs (PySem.Stmt.If (Expr.Compare (Expr.Call (Expr.Name (Str.ofString "len") _) [Expr.Name (Str.ofString "ahead") _] _ _) _ _ _) _ _ _ :: _) _) _ _ _)); first | (k_unfold; (try dsimp only)) | ((first | fail_if_success k_end | with_reducible show LeaveK _ _ _ _ _ _ _); (first | walk1 | (dsimp only; walk1) | (leave1; try dsimp only) | fail "no step")))
    rename News _ _ _ _ => N4
    rename Fr _ _ _ _ => F4
    refine hQ D8 hv8 c8 hs8 _ _ _ F4 (fun q hq => ?_) (fun q hq => l8 q (.tail _ hq)) hI8 hlen8 (if_pos rfl) (fun z hz => if_neg hz)
    rcases List.mem_cons.mp hq with rfl | hq
    · exact N4 _ (.head _)
    · exact N4 _ (.tail _ (.tail _ hq))
set_option maxHeartbeats 8000000 in
theorem turn_set (w : World) {p9 : Program} {loose : List Str} {mean : ExcName → Option Value} {mg mb : Str → Option Value} {base : Heap} {L : Nat} {fa : Addr} {m : Str → Option Value} {s : Shared} {Q : Flow → Shared → Prop} {Ex : Value → Shared → Prop}
   {qual : Str} {x dx dd oo y dy ed ii kk f2 c' wl sp ld : Addr} {t1 t2 t3 t4 tn tr u1 u2 u3 u4 u5 u6 un9 ur tq tp ta t9 : Tok} {n n2 r k a : Int} {r0 p nl wn sn : Nat} {od1 od2 oe1 oe2 ob o1 o2 o3 oc : Obj} {cvs : Array Value} {doc pm ctv : Value}
   {O M ws : List Int} {kvs kws lds : List (Int × Value)} {vs wv spv : List Value} {rest : List (Addr × Obj)}
   (B : Below callerA base [] base) (F : Fr base L s.heap m) (X : (tjCSoBpQsPZBkyzz.heap_39 w.params).In base) (T : Top p9 loose mean mg mb base)
   (m1 : m (Str.ofString "last") = some (.ref x)) (m2 : m (Str.ofString "ahead") = some (.ref y)) (m3 : m (Str.ofString "loaded") = some (.ref ld)) (m4 : m (Str.ofString "place") = some (.int p tp))
   (N : News base L s.heap ((x, instObj 897 dx) :: (dx, lruNs w t1 t2 t3 t4 dd oo n tn r tr) :: (dd, od1) :: (oo, od2) :: (y, instObj 955 dy) :: (dy, rrNs w u1 u2 u3 u4 u5 u6 ed f2 ii kk n2 un9 r ur) :: (ed, oe1) :: (ii, oe2) :: (kk, listOf vs.toArray nl) :: (f2, fnMade (Str.ofString "choice") qual choiceArgs choiceBody choiceScope [(Str.ofString "walk", L + 1 + 1 + 1), (Str.ofString "spot", L + 1 + 1)] doc pm c' ctv) :: (c', oc) :: (L + 1 + 1 + 1, o3) :: (L + 1 + 1, o2) :: (wl, listOf wv.toArray wn) :: (sp, listOf spv.toArray sn) :: (ld, ob) :: (L + 1, o1) :: rest))
   (hnd : [x, dx, dd, oo, y, dy, ed, ii, kk, f2, c', L + 1 + 1 + 1, L + 1 + 1, wl, sp, ld, L + 1].Nodup) (hoff : ∀ q ∈ rest, ∀ b ∈ [x, dx, dd, oo, y, dy, ed, ii, kk, f2, c', L + 1 + 1 + 1, L + 1 + 1, wl, sp, ld, L + 1], q.1 ≠ b)
   (lo1 : (dd == sysModules) = false) (lo2 : (oo == sysModules) = false) (lo3 : (ed == sysModules) = false) (lo4 : (ii == sysModules) = false) (lo5 : (ld == sysModules) = false)
   (d1 : o1.data = .cell (some (.int k tq))) (d2 : o2.data = .cell (some (.ref sp))) (d3 : o3.data = .cell (some (.ref wl))) (hd : oc.data = .fields cvs) (hv : cvs[1]? = some (.str qual t9))
   (IL : LruIs w od1 od2 n O kvs) (IR : RrIs w oe1 oe2 vs n2 M kws) (hb : ob.IsDictOf (intKind PySem.Challenge.rw_fc0035_02.row.prog w) lds) (hr : r = r0) (hr1 : 1 ≤ r0) (hr4 : r0 ≤ 4) (hO : O.length ≤ r0) (hM : M.length ≤ r0) (hz : ws.length ≤ 13) (hp : p < ws.length)
   (hws : IntsAre wv ws) (hsp : IntsAre spv [(p : Int)]) (hl : valueAt lds k = some (.int a ta)) (hl1 : k ∈ O → valueAt kvs k = some (.int a ta)) (hl2 : k ∈ M → valueAt kws k = some (.int a ta)) (hl3 : k ∉ O → Value.int a ta = .int p tp) (hl4 : k ∉ M → Value.int a ta = .int p tp)
   (hlz : lds.length ≤ 20)
   (hQ : ∀ od1' od2' oe1' oe2' n' n2' tn' un' vs' nl' kvs' kws' M' h' tk', News base L h' ((x, instObj 897 dx) :: (dx, lruNs w t1 t2 t3 t4 dd oo n' tn' r tr) :: (dd, od1') :: (oo, od2') :: (y, instObj 955 dy) :: (dy, rrNs w u1 u2 u3 u4 u5 u6 ed f2 ii kk n2' un' r ur) :: (ed, oe1') :: (ii, oe2') :: (kk, listOf vs'.toArray nl') :: (f2, fnMade (Str.ofString "choice") qual choiceArgs choiceBody choiceScope [(Str.ofString "walk", L + 1 + 1 + 1), (Str.ofString "spot", L + 1 + 1)] doc pm c' ctv) :: (c', oc) :: (L + 1 + 1 + 1, o3) :: (L + 1 + 1, o2) :: (wl, listOf wv.toArray wn) :: (sp, listOf spv.toArray sn) :: (ld, ob) :: (L + 1, o1) :: rest) →
      Fr base L h' m → LruIs w od1' od2' n' (lruStep r0 O k) kvs' → RrIs w oe1' oe2' vs' n2' M' kws' → RRStep (nextUse ws p) r0 k M M' → valueAt kvs' k = some (.int a ta) → valueAt kws' k = some (.int a ta) →
      (∀ j ∈ lruStep r0 O k, j ≠ k → j ∈ O ∧ valueAt kvs' j = valueAt kvs j) → (∀ j ∈ M', j ≠ k → j ∈ M ∧ valueAt kws' j = valueAt kws j) →
      wpAny (model PySem.Challenge.rw_fc0035_02.row.prog w) (callerA.deeper (envOfC (Str.ofString "law") lawScope L fa (.ref 975))) (execs (loopBody.drop 5) (envOfC (Str.ofString "law") lawScope L fa (.ref 975))) Q Ex { s with heap := h', toks := tk' }) :
   wpAny (model PySem.Challenge.rw_fc0035_02.row.prog w) (callerA.deeper (envOfC (Str.ofString "law") lawScope L fa (.ref 975))) (execs (loopBody.drop 4) (envOfC (Str.ofString "law") lawScope L fa (.ref 975))) Q Ex s := by
  conv in (occs := *) lawScope => all_goals whnf
  conv in List.drop 4 loopBody => whnf
  repeat' ((fail_if_success (with_reducible show wpAny _ _ (call (Value.ref 794) _) _ _ _)); first | (k_unfold; (try dsimp only)) | ((first | fail_if_success k_end | with_reducible show LeaveK _ _ _ _ _ _ _); (first | walk1 | (dsimp only; walk1) | (leave1; try dsimp only) | fail "no step")))
  rename News _ _ _ _ => N1
  rename Fr _ _ _ _ => F1
  refine ⟨Frag.In.keeps X F1.keep, ?_⟩
  have C1 := fun tk v => lru_set w x dx dd oo t1 t2 t3 t4 tn tr tk n r k r0 v od1 od2 O kvs (nd_ne hnd (i := 0) (j := 1) rfl rfl (by decide)) (nd_ne hnd (i := 0) (j := 2) rfl rfl (by decide)) (nd_ne hnd (i := 0) (j := 3) rfl rfl (by decide)) (nd_ne hnd (i := 1) (j := 2) rfl rfl (by decide)) (nd_ne hnd (i := 1) (j := 3) rfl rfl (by decide)) (nd_ne hnd (i := 2) (j := 3) rfl rfl (by decide)) lo1 lo2 IL hr hr1 hr4 hO
  refine' use_contract (dp := 1 + claimMargin + 1) (un := 4 + 3) (gd := some []) (env := envOfC (Str.ofString "law") lawScope L fa (.ref 975)) (C1 _ _) rfl B F1 X N1 T X T rfl rfl ?d ?u ((y, instObj 955 dy) :: (dy, rrNs w u1 u2 u3 u4 u5 u6 ed f2 ii kk n2 un9 r ur) :: (ed, oe1) :: (ii, oe2) :: (kk, listOf vs.toArray nl) :: (f2, fnMade (Str.ofString "choice") qual choiceArgs choiceBody choiceScope [(Str.ofString "walk", L + 1 + 1 + 1), (Str.ofString "spot", L + 1 + 1)] doc pm c' ctv) :: (c', oc) :: (L + 1 + 1 + 1, o3) :: (L + 1 + 1, o2) :: (wl, listOf wv.toArray wn) :: (sp, listOf spv.toArray sn) :: (ld, ob) :: (L + 1, o1) :: rest) ?E ?K ?ne ?_
  case d => decide
  case u => decide
  case E => exact fun q hq => List.mem_append_left ((y, instObj 955 dy) :: _) hq
  case K => exact fun q hq => List.mem_append_right [(x, instObj 897 dx), (dx, lruNs w t1 t2 t3 t4 dd oo n tn r tr), (dd, od1), (oo, od2)] hq
  case ne =>
    intro q hq r' hr'
    have h1 : r'.1 ∈ [x, dx, dd, oo] := List.mem_map_of_mem (f := Prod.fst) hr'
    have key := (nd_mid (l1 := []) (l2 := [x, dx, dd, oo]) (l3 := [y, dy, ed, ii, kk, f2, c', L + 1 + 1 + 1, L + 1 + 1, wl, sp, ld, L + 1]) hnd).2
    rcases List.mem_append.mp (show q ∈ ((y, instObj 955 dy) :: (dy, rrNs w u1 u2 u3 u4 u5 u6 ed f2 ii kk n2 un9 r ur) :: (ed, oe1) :: (ii, oe2) :: (kk, listOf vs.toArray nl) :: (f2, fnMade (Str.ofString "choice") qual choiceArgs choiceBody choiceScope [(Str.ofString "walk", L + 1 + 1 + 1), (Str.ofString "spot", L + 1 + 1)] doc pm c' ctv) :: (c', oc) :: (L + 1 + 1 + 1, o3) :: (L + 1 + 1, o2) :: (wl, listOf wv.toArray wn) :: (sp, listOf spv.toArray sn) :: (ld, ob) :: [(L + 1, o1)]) ++ rest from hq) with hq | hq
    · exact key q.1 (List.mem_map_of_mem (f := Prod.fst) hq) r'.1 h1
    · exact hoff q hq r'.1 (List.mem_append_left [y, dy, ed, ii, kk, f2, c', L + 1 + 1 + 1, L + 1 + 1, wl, sp, ld, L + 1] h1)
  intro v1 E1 h1 tk1 F2 N2 ne2 hp1
  obtain ⟨od1', od2', n', tn', kvs', rfl, IL', b1, b2, b3, b4⟩ := hp1
  have hv1 : v1 = .int a ta := by
    by_cases h : k ∈ O
    · have := (b1 h).symm.trans (hl1 h); exact Option.some.inj this
    · exact (b2 h).trans (hl3 h).symm
  subst hv1
  have N3 : News base L h1 ((x, instObj 897 dx) :: (dx, lruNs w t1 t2 t3 t4 dd oo n' tn' r tr) :: (dd, od1') :: (oo, od2') :: (y, instObj 955 dy) :: (dy, rrNs w u1 u2 u3 u4 u5 u6 ed f2 ii kk n2 un9 r ur) :: (ed, oe1) :: (ii, oe2) :: (kk, listOf vs.toArray nl) :: (f2, fnMade (Str.ofString "choice") qual choiceArgs choiceBody choiceScope [(Str.ofString "walk", L + 1 + 1 + 1), (Str.ofString "spot", L + 1 + 1)] doc pm c' ctv) :: (c', oc) :: (L + 1 + 1 + 1, o3) :: (L + 1 + 1, o2) :: (wl, listOf wv.toArray wn) :: (sp, listOf spv.toArray sn) :: (ld, ob) :: (L + 1, o1) :: rest) := fun q hq => N2 q (by
    rcases List.mem_append.mp (show q ∈ [(x, instObj 897 dx), (dx, lruNs w t1 t2 t3 t4 dd oo n' tn' r tr), (dd, od1'), (oo, od2')] ++ _ from hq) with h | h
    · exact List.mem_append_right _ h
    · exact List.mem_append_left _ h)
  clear N1 N2 ne2 F1 b1 b2
  repeat' ((fail_if_success (with_reducible show wpAny _ _ (call (Value.builtin "dict.get") _) _ _ _)); first | (k_unfold; (try dsimp only)) | ((first | fail_if_success k_end | with_reducible show LeaveK _ _ _ _ _ _ _); (first | walk1 | (dsimp only; walk1) | (leave1; try dsimp only) | fail "no step")))
  refine kdg_get1 (knd := PySem.intKind _ _) N3 (by k_memK) hb lo5 (intKind_is _ _ _ _) _ hl ?_
  dsimp only [Option.getD_some]
  repeat' ((fail_if_success (with_reducible show wpAny _ _ (call (Value.ref 794) _) _ _ _)); first | (k_unfold; (try dsimp only)) | ((first | fail_if_success k_end | with_reducible show LeaveK _ _ _ _ _ _ _); (first | walk1 | (dsimp only; walk1) | (leave1; try dsimp only) | fail "no step")))
  · exfalso; omega
  rename Fr _ _ _ _ => F4
  refine ⟨Frag.In.keeps X F4.keep, ?_⟩
  have hEC : ∀ q ∈ ((c', oc) :: (L + 1 + 1 + 1, o3) :: (L + 1 + 1, o2) :: (wl, listOf wv.toArray wn) :: (sp, listOf spv.toArray sn) :: [] : List (Addr × Obj)), ∀ b ∈ [x, dx, dd, oo, y, dy, ed, ii, kk, f2], q.1 ≠ b := fun q hq b hb e =>
    (nd_mid (l1 := [x, dx, dd, oo, y, dy, ed, ii, kk, f2]) (l2 := [c', L + 1 + 1 + 1, L + 1 + 1, wl, sp]) (l3 := [ld, L + 1]) hnd).1 b hb q.1 (List.mem_map_of_mem (f := Prod.fst) hq) e.symm
  have C2 := fun tk v => rr_set w y dy ed f2 ii kk u1 u2 u3 u4 u5 u6 un9 ur tk n2 r k r0 v oe1 oe2 M kws vs nl ((c', oc) :: (L + 1 + 1 + 1, o3) :: (L + 1 + 1, o2) :: (wl, listOf wv.toArray wn) :: (sp, listOf spv.toArray sn) :: []) _ _ _ _ (nextUse ws p)
    (nd_ne hnd (i := 4) (j := 5) rfl rfl (by decide)) (nd_ne hnd (i := 4) (j := 6) rfl rfl (by decide)) (nd_ne hnd (i := 4) (j := 7) rfl rfl (by decide)) (nd_ne hnd (i := 4) (j := 8) rfl rfl (by decide)) (nd_ne hnd (i := 5) (j := 6) rfl rfl (by decide)) (nd_ne hnd (i := 5) (j := 7) rfl rfl (by decide)) (nd_ne hnd (i := 5) (j := 8) rfl rfl (by decide)) (nd_ne hnd (i := 6) (j := 7) rfl rfl (by decide)) (nd_ne hnd (i := 6) (j := 8) rfl rfl (by decide)) (nd_ne hnd (i := 7) (j := 8) rfl rfl (by decide))
    (nd_ne hnd (i := 4) (j := 9) rfl rfl (by decide)) (nd_ne hnd (i := 5) (j := 9) rfl rfl (by decide)) (nd_ne hnd (i := 6) (j := 9) rfl rfl (by decide)) (nd_ne hnd (i := 7) (j := 9) rfl rfl (by decide)) (nd_ne hnd (i := 8) (j := 9) rfl rfl (by decide))
    (fun q hq => hEC q hq y (by simp)) (fun q hq => hEC q hq dy (by simp)) (fun q hq => hEC q hq ed (by simp)) (fun q hq => hEC q hq ii (by simp)) (fun q hq => hEC q hq kk (by simp)) lo3 lo4 IR hr hr1 hr4 hM
    (fun _ hM0 => choice_pick w qual (doc := doc) (pm := pm) (ctv := ctv) IR.2.2.1 hws hsp hp hz (by omega) (by omega) d2 d3 hd hv
      (nd_ne hnd (i := 8) (j := 9) rfl rfl (by decide)) (nd_ne hnd (i := 8) (j := 10) rfl rfl (by decide)) (nd_ne hnd (i := 8) (j := 11) rfl rfl (by decide)) (nd_ne hnd (i := 8) (j := 12) rfl rfl (by decide)) (nd_ne hnd (i := 8) (j := 13) rfl rfl (by decide)) (nd_ne hnd (i := 8) (j := 14) rfl rfl (by decide))
      (nd_ne hnd (i := 9) (j := 13) rfl rfl (by decide)) (nd_ne hnd (i := 10) (j := 13) rfl rfl (by decide)) (nd_ne hnd (i := 11) (j := 13) rfl rfl (by decide)) (nd_ne hnd (i := 12) (j := 13) rfl rfl (by decide)) (nd_ne hnd (i := 14) (j := 13) rfl rfl (by decide)))
  refine' use_contract (dp := 1 + claimMargin + 1) (un := 4 + 3) (gd := some []) (env := envOfC (Str.ofString "law") lawScope L fa (.ref 975)) (C2 _ _).toT rfl B F4 X N3 T X T rfl rfl ?d ?u ((x, instObj 897 dx) :: (dx, lruNs w t1 t2 t3 t4 dd oo n' tn' r tr) :: (dd, od1') :: (oo, od2') :: (ld, ob) :: (L + 1, o1) :: rest) ?E ?K ?ne ?_
  case d => decide
  case u => decide
  case E => exact fun q hq => List.mem_append_right [(x, instObj 897 dx), (dx, lruNs w t1 t2 t3 t4 dd oo n' tn' r tr), (dd, od1'), (oo, od2')] (List.mem_append_left ((ld, ob) :: (L + 1, o1) :: rest) hq)
  case K =>
    intro q hq
    rcases List.mem_append.mp (show q ∈ [(x, instObj 897 dx), (dx, lruNs w t1 t2 t3 t4 dd oo n' tn' r tr), (dd, od1'), (oo, od2')] ++ ((ld, ob) :: (L + 1, o1) :: rest) from hq) with h | h
    · exact List.mem_append_left ((y, instObj 955 dy) :: _) h
    · exact List.mem_append_right ([(x, instObj 897 dx), (dx, lruNs w t1 t2 t3 t4 dd oo n' tn' r tr), (dd, od1'), (oo, od2')] ++ ((y, instObj 955 dy) :: (dy, rrNs w u1 u2 u3 u4 u5 u6 ed f2 ii kk n2 un9 r ur) :: (ed, oe1) :: (ii, oe2) :: (kk, listOf vs.toArray nl) :: (f2, fnMade (Str.ofString "choice") qual choiceArgs choiceBody choiceScope [(Str.ofString "walk", L + 1 + 1 + 1), (Str.ofString "spot", L + 1 + 1)] doc pm c' ctv) :: (c', oc) :: (L + 1 + 1 + 1, o3) :: (L + 1 + 1, o2) :: (wl, listOf wv.toArray wn) :: (sp, listOf spv.toArray sn) :: [])) h
  case ne =>
    intro q hq r' hr'
    have h1 : r'.1 ∈ [y, dy, ed, ii, kk, f2, c', L + 1 + 1 + 1, L + 1 + 1, wl, sp] := List.mem_map_of_mem (f := Prod.fst) hr'
    have key := nd_mid (l1 := [x, dx, dd, oo]) (l2 := [y, dy, ed, ii, kk, f2, c', L + 1 + 1 + 1, L + 1 + 1, wl, sp]) (l3 := [ld, L + 1]) hnd
    rcases List.mem_append.mp (show q ∈ [(x, instObj 897 dx), (dx, lruNs w t1 t2 t3 t4 dd oo n' tn' r tr), (dd, od1'), (oo, od2')] ++ ([(ld, ob), (L + 1, o1)] ++ rest) from hq) with h | h
    · exact key.1 q.1 (List.mem_map_of_mem (f := Prod.fst) h) r'.1 h1
    · rcases List.mem_append.mp h with h | h
      · exact key.2 q.1 (List.mem_map_of_mem (f := Prod.fst) h) r'.1 h1
      · exact hoff q h r'.1 (List.mem_append_right [x, dx, dd, oo] (List.mem_append_left [ld, L + 1] h1))
  intro v2 E2 h2 tk2 F5 N5 ne5 hp2
  obtain ⟨oe1', oe2', n2', un', vs', nl', M', kws', rfl, IR', hst, g1, g2, g3, g4⟩ := hp2
  have hv2 : v2 = .int a ta := by
    by_cases h : k ∈ M
    · have := (g1 h).symm.trans (hl2 h); exact Option.some.inj this
    · exact (g2 h).trans (hl4 h).symm
  subst hv2
  have N6 : News base L h2 ((x, instObj 897 dx) :: (dx, lruNs w t1 t2 t3 t4 dd oo n' tn' r tr) :: (dd, od1') :: (oo, od2') :: (y, instObj 955 dy) :: (dy, rrNs w u1 u2 u3 u4 u5 u6 ed f2 ii kk n2' un' r ur) :: (ed, oe1') :: (ii, oe2') :: (kk, listOf vs'.toArray nl') :: (f2, fnMade (Str.ofString "choice") qual choiceArgs choiceBody choiceScope [(Str.ofString "walk", L + 1 + 1 + 1), (Str.ofString "spot", L + 1 + 1)] doc pm c' ctv) :: (c', oc) :: (L + 1 + 1 + 1, o3) :: (L + 1 + 1, o2) :: (wl, listOf wv.toArray wn) :: (sp, listOf spv.toArray sn) :: (ld, ob) :: (L + 1, o1) :: rest) := fun q hq => N5 q (by
    rcases List.mem_append.mp (show q ∈ [(x, instObj 897 dx), (dx, lruNs w t1 t2 t3 t4 dd oo n' tn' r tr), (dd, od1'), (oo, od2')] ++ (((y, instObj 955 dy) :: (dy, rrNs w u1 u2 u3 u4 u5 u6 ed f2 ii kk n2' un' r ur) :: (ed, oe1') :: (ii, oe2') :: (kk, listOf vs'.toArray nl') :: (f2, fnMade (Str.ofString "choice") qual choiceArgs choiceBody choiceScope [(Str.ofString "walk", L + 1 + 1 + 1), (Str.ofString "spot", L + 1 + 1)] doc pm c' ctv) :: (c', oc) :: (L + 1 + 1 + 1, o3) :: (L + 1 + 1, o2) :: (wl, listOf wv.toArray wn) :: (sp, listOf spv.toArray sn) :: []) ++ ((ld, ob) :: (L + 1, o1) :: rest)) from hq) with h | h
    · exact List.mem_append_left _ (List.mem_append_left ((ld, ob) :: (L + 1, o1) :: rest) h)
    · rcases List.mem_append.mp h with h | h
      · exact List.mem_append_right _ h
      · exact List.mem_append_left _ (List.mem_append_right [(x, instObj 897 dx), (dx, lruNs w t1 t2 t3 t4 dd oo n' tn' r tr), (dd, od1'), (oo, od2')] h))
  clear N3 N5 ne5 F4 g1 g2
  repeat' ((fail_if_success (with_reducible show wpAny _ _ (call (Value.builtin "dict.get") _) _ _ _)); first | (k_unfold; (try dsimp only)) | ((first | fail_if_success k_end | with_reducible show LeaveK _ _ _ _ _ _ _); (first | walk1 | (dsimp only; walk1) | (leave1; try dsimp only) | fail "no step")))
  refine kdg_get1 (knd := PySem.intKind _ _) N6 (by k_memK) hb lo5 (intKind_is _ _ _ _) _ hl ?_
  dsimp only [Option.getD_some]
  repeat' ((fail_if_success (with_reducible show wpAny _ _ (execs (PySem.Stmt.Assign [Expr.Name (Str.ofString "held") _] _ _ :: _) _) _ _ _)); first | (k_unfold; (try dsimp only)) | ((first | fail_if_success k_end | with_reducible show LeaveK _ _ _ _ _ _ _); (first | walk1 | (dsimp only; walk1) | (leave1; try dsimp only) | fail "no step")))
  · exfalso; omega
  rename Fr _ _ _ _ => F7
  refine hQ _ _ _ _ _ _ _ _ _ _ _ _ _ _ _ N6 F7 IL' IR' hst b3 g3 b4 g4
set_option maxHeartbeats 8000000 in
theorem turn_key (w : World) (b : Bool) {p9 : Program} {loose : List Str} {mean : ExcName → Option Value} {mg mb : Str → Option Value} {base : Heap} {L : Nat} {fa : Addr} {m : Str → Option Value} {s : Shared} {Q : Flow → Shared → Prop} {Ex : Value → Shared → Prop}
   {x dx dd oo y dy ed ii kk f2 c' wl sp ld : Nat} {t1 t2 t3 t4 tn tr u1 u2 u3 u4 u5 u6 un9 ur tp : Tok} {n n2 r k : Int} {p wn sn : Nat} {od1 od2 oe1 oe2 ok of2 ob o1 o2 o3 oc : Obj} {c1 : Option Value}
   {ws : List Int} {kvs kws lds : List (Int × Value)} {wv spv : List Value} {q0 : Int} {rest : List (Addr × Obj)}
   (B : Below callerA base [] base) (F : Fr base L s.heap m) (X : (tjCSoBpQsPZBkyzz.heap_39 w.params).In base) (T : Top p9 loose mean mg mb base)
   (m1 : m (Str.ofString "last") = some (.ref x)) (m2 : m (Str.ofString "ahead") = some (.ref y)) (m3 : m (Str.ofString "loaded") = some (.ref ld)) (m4 : m (Str.ofString "place") = some (.int p tp))
   (N : News base L s.heap ((x, instObj 897 dx) :: (dx, lruNs w t1 t2 t3 t4 dd oo n tn r tr) :: (dd, od1) :: (oo, od2) :: (y, instObj 955 dy) :: (dy, rrNs w u1 u2 u3 u4 u5 u6 ed f2 ii kk n2 un9 r ur) :: (ed, oe1) :: (ii, oe2) :: (kk, ok) :: (f2, of2) :: (c', oc) :: (L + 1 + 1 + 1, o3) :: (L + 1 + 1, o2) :: (wl, listOf wv.toArray wn) :: (sp, listOf spv.toArray sn) :: (ld, ob) :: (L + 1, o1) :: rest))
   (ord : L + 1 + 1 + 1 < wl ∧ wl < sp ∧ sp < c' ∧ c' < f2 ∧ f2 < dx ∧ dx < x ∧ x < dd ∧ dd < oo ∧ oo < dy ∧ dy < y ∧ y < ed ∧ ed < ii ∧ ii < kk ∧ kk < ld)
   (hs1 : ∀ q ∈ rest, q.1 ≠ sp) (hs2 : ∀ q ∈ rest, q.1 ≠ L + 1) (hs3 : ∀ q ∈ rest, q.1 ≠ ld)
   (lo1 : (dd == sysModules) = false) (lo3 : (ed == sysModules) = false) (lo5 : (ld == sysModules) = false)
   (d1 : o1.data = .cell c1) (d2 : o2.data = .cell (some (.ref sp))) (d3 : o3.data = .cell (some (.ref wl)))
   (hd1 : od1.IsDictOf (intKind PySem.Challenge.rw_fc0035_02.row.prog w) kvs) (hd2 : oe1.IsDictOf (intKind PySem.Challenge.rw_fc0035_02.row.prog w) kws) (hb : ob.IsDictOf (intKind PySem.Challenge.rw_fc0035_02.row.prog w) lds) (hz : ws.length ≤ 13) (hp : p < ws.length) (hk : ws.getD p 0 = k)
   (hws : IntsAre wv ws) (hsp : IntsAre spv [q0]) (hb1 : (valueAt kvs k).isSome = b) (hb2 : (valueAt kws k).isSome = b) (hlz : lds.length ≤ 20)
   (hQ : ∀ sv' sn' o1' ob' tq h' tk', News base L h' ((x, instObj 897 dx) :: (dx, lruNs w t1 t2 t3 t4 dd oo n tn r tr) :: (dd, od1) :: (oo, od2) :: (y, instObj 955 dy) :: (dy, rrNs w u1 u2 u3 u4 u5 u6 ed f2 ii kk n2 un9 r ur) :: (ed, oe1) :: (ii, oe2) :: (kk, ok) :: (f2, of2) :: (c', oc) :: (L + 1 + 1 + 1, o3) :: (L + 1 + 1, o2) :: (wl, listOf wv.toArray wn) :: (sp, listOf (List.toArray sv') sn') :: (ld, ob') :: (L + 1, o1') :: rest) →
      Fr base L h' m → IntsAre sv' [(p : Int)] → o1'.data = .cell (some (.int k tq)) → ob'.IsDictOf (intKind PySem.Challenge.rw_fc0035_02.row.prog w) (if b = true then lds else stored lds k (.int p tp)) →
      wpAny (model PySem.Challenge.rw_fc0035_02.row.prog w) (callerA.deeper (envOfC (Str.ofString "law") lawScope L fa (.ref 975))) (execs (loopBody.drop 4) (envOfC (Str.ofString "law") lawScope L fa (.ref 975))) Q Ex { s with heap := h', toks := tk' }) :
   wpAny (model PySem.Challenge.rw_fc0035_02.row.prog w) (callerA.deeper (envOfC (Str.ofString "law") lawScope L fa (.ref 975))) (execs loopBody (envOfC (Str.ofString "law") lawScope L fa (.ref 975))) Q Ex s := by
  conv in (occs := *) lawScope => all_goals whnf
  conv in execs loopBody _ => arg 1; whnf
  repeat' ((fail_if_success (with_reducible show wpAny _ _ (setItem _ _ _) _ _ _)); first | (k_unfold; (try dsimp only)) | ((first | fail_if_success k_end | with_reducible show LeaveK _ _ _ _ _ _ _); (first | walk1 | (dsimp only; walk1) | (leave1; try dsimp only) | fail "no step")))
  refine' ksa_set (vs := spv) (ns := [q0]) ?F ?N ?U hsp ?a ?b ?c ?_
  case F => with_reducible assumption
  case N => with_reducible assumption
  case U => k_upd
  case a => decide
  case b => (show (0 : Int) < 1; decide)
  case c => decide
  intro h1 F1 N1 hi1 _ _
  have hi2 : IntsAre (spv.set (Int.toNat 0) (.int p tp)) [(p : Int)] := hi1
  clear hi1 N F hsp
  repeat' ((fail_if_success (with_reducible show wpAny _ _ (subscriptTail _ _ _ _) _ _ _)); first | (k_unfold; (try dsimp only)) | ((first | fail_if_success k_end | with_reducible show LeaveK _ _ _ _ _ _ _); (first | walk1 | (dsimp only; walk1) | (leave1; try dsimp only) | fail "no step")))
  rename News _ _ _ _ => N2
  refine item_anyK (News.isList N2 (by k_memK)) hws (by omega) (by omega) (by omega) ?_
  intro t7
  rw [Int.toNat_natCast, hk]
  repeat' ((fail_if_success (with_reducible show wpAny _ _ (execs (PySem.Stmt.If _ _ _ _ :: _) _) _ _ _)); first | (k_unfold; (try dsimp only)) | ((first | fail_if_success k_end | with_reducible show LeaveK _ _ _ _ _ _ _); (first | walk1 | (dsimp only; walk1) | (leave1; try dsimp only) | fail "no step")))
  cases b
  · repeat' ((fail_if_success (with_reducible show wpAny _ _ (setItem _ _ _) _ _ _)); first | (k_unfold; (try dsimp only)) | ((first | fail_if_success k_end | with_reducible show LeaveK _ _ _ _ _ _ _); (first | walk1 | (dsimp only; walk1) | (leave1; try dsimp only) | fail "no step")))
    rename News _ _ _ _ => N3
    rename Fr _ _ _ _ => F3
    rename _ = Data.cell (some (Value.int _ _)) => d7
    refine' kda_set (knd := PySem.intKind _ _) F3 N3 ?U hb (intKind_is _ _ _ _) ?z ?_
    case U => k_updF
    case z => (first | exact line100 (by omega) | exact line100s (by omega))
    intro h8 o8 F8 N8 d8
    try dsimp only at N8
    repeat' ((fail_if_success (with_reducible show wpAny _ _ (execs (PySem.Stmt.If (Expr.BoolOp _ _ _) _ _ _ :: _) _) _ _ _)); first | (k_unfold; (try dsimp only)) | ((first | fail_if_success k_end | with_reducible show LeaveK _ _ _ _ _ _ _); (first | walk1 | (dsimp only; walk1) | (leave1; try dsimp only) | fail "no step")))
    exact hQ _ _ _ _ _ _ _ N8 F8 hi2 d7 d8
  · repeat' ((fail_if_success (with_reducible show wpAny _ _ (execs (PySem.Stmt.If (Expr.BoolOp _ _ _) _ _ _ :: _) _) _ _ _)); first | (k_unfold; (try dsimp only)) | ((first | fail_if_success k_end | with_reducible show LeaveK _ _ _ _ _ _ _); (first | walk1 | (dsimp only; walk1) | (leave1; try dsimp only) | fail "no step")))
    rename News _ _ _ _ => N3
    rename Fr _ _ _ _ => F3
    rename _ = Data.cell (some (Value.int _ _)) => d7
    exact hQ _ _ _ _ _ _ _ N3 F3 hi2 d7 hb
end
def J2 (w : World) (L x dx dd oo y dy ed ii kk f2 c' wl sp ld : Nat) (t1 t2 t3 t4 tr u1 u2 u3 u4 u5 u6 ur tr2 : Tok) (r : Int) (qual : Str) (doc pm ctv : Value) (oc o2 o3 o9 : Obj) (wv : List Value) (wn : Nat) (ws : List Int) (r0 i : Nat) (m : Str → Option Value) (nx : List (Addr × Obj)) : Prop :=
  ∃ (n n2 q0 : Int) (tn un9 : Tok) (od1 od2 oe1 oe2 ob o1 : Obj) (c1 : Option Value) (vs spv hv ov : List Value) (nl sn hn on hl ol : Nat) (O M hs os pre : List Int) (kvs kws lds : List (Int × Value)),
    nx = (x, instObj 897 dx) :: (dx, lruNs w t1 t2 t3 t4 dd oo n tn r tr) :: (dd, od1) :: (oo, od2) :: (y, instObj 955 dy) :: (dy, rrNs w u1 u2 u3 u4 u5 u6 ed f2 ii kk n2 un9 r ur) :: (ed, oe1) :: (ii, oe2) :: (kk, listOf vs.toArray nl) :: (f2, fnMade (Str.ofString "choice") qual choiceArgs choiceBody choiceScope [(Str.ofString "walk", L + 1 + 1 + 1), (Str.ofString "spot", L + 1 + 1)] doc pm c' ctv) :: (c', oc) :: (L + 1 + 1 + 1, o3) :: (L + 1 + 1, o2) :: (wl, listOf wv.toArray wn) :: (sp, listOf spv.toArray sn) :: (ld, ob) :: (L + 1, o1) :: (hl, listOf hv.toArray hn) :: (ol, listOf ov.toArray on) :: (973, o9) :: [] ∧
    (m (Str.ofString "last") = some (.ref x) ∧ m (Str.ofString "ahead") = some (.ref y) ∧ m (Str.ofString "loaded") = some (.ref ld) ∧ m (Str.ofString "room") = some (.int r tr2) ∧ m (Str.ofString "held") = some (.ref hl) ∧ m (Str.ofString "order") = some (.ref ol)) ∧
    ld < hl ∧ hl < ol ∧ o1.data = .cell c1 ∧ IntsAre spv [q0] ∧ LruIs w od1 od2 n O kvs ∧ RrIs w oe1 oe2 vs n2 M kws ∧ ob.IsDictOf (intKind PySem.Challenge.rw_fc0035_02.row.prog w) lds ∧ Inv ws r0 i O M ∧ Held r0 O lds ∧ ValOK kvs lds O ∧ ValOK kws lds M ∧
    IntsAre hv hs ∧ hs.length = O.length ∧ IntsAre ov os ∧ os = pre ++ O ∧ os.length ≤ i ∧ lds.length ≤ i
theorem nd_state {L x dx dd oo y dy ed ii kk f2 c' wl sp ld : Nat}
   (ord : L + 1 + 1 + 1 < wl ∧ wl < sp ∧ sp < c' ∧ c' < f2 ∧ f2 < dx ∧ dx < x ∧ x < dd ∧ dd < oo ∧ oo < dy ∧ dy < y ∧ y < ed ∧ ed < ii ∧ ii < kk ∧ kk < ld) :
   [x, dx, dd, oo, y, dy, ed, ii, kk, f2, c', L + 1 + 1 + 1, L + 1 + 1, wl, sp, ld, L + 1].Nodup := by
  repeat' (refine List.nodup_cons.mpr ⟨by first | exact List.not_mem_nil | (simp only [List.mem_cons, List.not_mem_nil, or_false]; omega), ?_⟩)
  exact List.nodup_nil
theorem st_bounds {L x dx dd oo y dy ed ii kk f2 c' wl sp ld : Nat} (l0 : 973 < L)
   (ord : L + 1 + 1 + 1 < wl ∧ wl < sp ∧ sp < c' ∧ c' < f2 ∧ f2 < dx ∧ dx < x ∧ x < dd ∧ dd < oo ∧ oo < dy ∧ dy < y ∧ y < ed ∧ ed < ii ∧ ii < kk ∧ kk < ld) :
   ∀ b ∈ [x, dx, dd, oo, y, dy, ed, ii, kk, f2, c', L + 1 + 1 + 1, L + 1 + 1, wl, sp, ld, L + 1], 973 < b ∧ b ≤ ld := by
  intro b hb
  simp only [List.mem_cons, List.not_mem_nil, or_false] at hb
  omega
set_option maxHeartbeats 8000000 in
theorem law_turn (w : World) {p9 : Program} {loose : List Str} {mean : ExcName → Option Value} {mg mb : Str → Option Value} {base : Heap} {fa : Addr} {Ex : Value → Shared → Prop}
   {qual : Str} {L x dx dd oo y dy ed ii kk f2 c' wl sp ld : Nat} {t1 t2 t3 t4 tr u1 u2 u3 u4 u5 u6 ur tr2 t9 : Tok} {r : Int} {r0 wn : Nat} {o2 o3 o9 oc : Obj} {cvs : Array Value} {doc pm ctv : Value} {ws : List Int} {wv : List Value}
   (B : Below callerA base [] base) (X : (tjCSoBpQsPZBkyzz.heap_39 w.params).In base) (T : Top p9 loose mean mg mb base) (l0 : 973 < L)
   (ord : L + 1 + 1 + 1 < wl ∧ wl < sp ∧ sp < c' ∧ c' < f2 ∧ f2 < dx ∧ dx < x ∧ x < dd ∧ dd < oo ∧ oo < dy ∧ dy < y ∧ y < ed ∧ ed < ii ∧ ii < kk ∧ kk < ld)
   (lo1 : (dd == sysModules) = false) (lo2 : (oo == sysModules) = false) (lo3 : (ed == sysModules) = false) (lo4 : (ii == sysModules) = false) (lo5 : (ld == sysModules) = false)
   (d2 : o2.data = .cell (some (.ref sp))) (d3 : o3.data = .cell (some (.ref wl))) (hd : oc.data = .fields cvs) (hv : cvs[1]? = some (.str qual t9))
   (hr : r = r0) (hr1 : 1 ≤ r0) (hr4 : r0 ≤ 4) (hz : ws.length ≤ 13) (hws : IntsAre wv ws) (hst : Steps ws)
   {i : Nat} {t : Tok} {m₁ : Str → Option Value} {nx own : List (Addr × Obj)} {s : Shared} {Q : Flow → Shared → Prop} (hi : i < ws.length) (hoff : OwnOff own (nx.map (·.1)))
   (hJ : J2 w L x dx dd oo y dy ed ii kk f2 c' wl sp ld t1 t2 t3 t4 tr u1 u2 u3 u4 u5 u6 ur tr2 r qual doc pm ctv oc o2 o3 o9 wv wn ws r0 i m₁ nx)
   (F : Fr base L s.heap (fun z => if z = Str.ofString "place" then some (.int (0 + (i : Int)) t) else m₁ z)) (N : News base L s.heap (nx ++ own)) :
   wpAny (model PySem.Challenge.rw_fc0035_02.row.prog w) (callerA.deeper (envOfC (Str.ofString "law") lawScope L fa (.ref 975))) (execs loopBody (envOfC (Str.ofString "law") lawScope L fa (.ref 975)))
     (PostG base L (J2 w L x dx dd oo y dy ed ii kk f2 c' wl sp ld t1 t2 t3 t4 tr u1 u2 u3 u4 u5 u6 ur tr2 r qual doc pm ctv oc o2 o3 o9 wv wn ws r0 (i + 1)) own s Q) Ex s := by
  obtain ⟨n, n2, q0, tn, un9, od1, od2, oe1, oe2, ob, o1, c1, vs, spv, hv9, ov, nl, sn, hn, on, hl, ol, O, M, hs, os, pre, kvs, kws, lds, rfl, ⟨e1, e2, e3, e4, e5, e6⟩, hl1, hl2, d1, hsp, IL, IR, hb, I, H, V1, V2, hhs, hhl, hos, hpre, hoz, hlz⟩ := hJ
  simp only [List.map_cons, List.map_nil] at hoff
  simp only [List.cons_append, List.nil_append] at N
  have key := inv_key I hi
  have bnd := st_bounds l0 ord
  rw [Int.zero_add] at F
  have hoff2 : ∀ q ∈ (hl, listOf hv9.toArray hn) :: (ol, listOf ov.toArray on) :: (973, o9) :: own, ∀ b ∈ [x, dx, dd, oo, y, dy, ed, ii, kk, f2, c', L + 1 + 1 + 1, L + 1 + 1, wl, sp, ld, L + 1], q.1 ≠ b := by
    intro q hq b hb
    obtain ⟨b1, b2⟩ := bnd b hb
    rcases List.mem_cons.mp hq with rfl | hq
    · exact Nat.ne_of_gt (by omega)
    rcases List.mem_cons.mp hq with rfl | hq
    · exact Nat.ne_of_gt (by omega)
    rcases List.mem_cons.mp hq with rfl | hq
    · exact Nat.ne_of_lt b1
    · exact hoff q hq b (List.mem_append_left [hl, ol, 973] hb)
  have hb1 : (valueAt kvs (ws.getD i 0)).isSome = decide (ws.getD i 0 ∈ O) := by
    rw [Bool.eq_iff_iff, valueAt_isSome, IL.2.2.1.mem_iff, decide_eq_true_eq]
  have hb2 : (valueAt kws (ws.getD i 0)).isSome = decide (ws.getD i 0 ∈ O) := by
    rw [Bool.eq_iff_iff, valueAt_isSome, IR.2.2.2.1.mem_iff, decide_eq_true_eq]
    exact key.symm
  refine turn_key w (decide (ws.getD i 0 ∈ O)) B F X T ((if_neg (by decide)).trans e1) ((if_neg (by decide)).trans e2) ((if_neg (by decide)).trans e3) (if_pos rfl) N ord
    (fun q hq => hoff2 q hq sp (by simp)) (fun q hq => hoff2 q hq (L + 1) (by simp)) (fun q hq => hoff2 q hq ld (by simp)) lo1 lo3 lo5 d1 d2 d3 IL.1 IR.1 hb hz hi rfl hws hsp hb1 hb2 (by omega) ?_
  intro sv' sn' o1' ob' tq h1 tk1 N1 F1 hi2 d1' hb'
  clear N F
  obtain ⟨a, ta, v1, v2, v3, v4, v5⟩ := val_key (p := i) (tp := t) (b := decide (ws.getD i 0 ∈ O)) decide_eq_true_iff key V1 V2
  have hlz2 : (if decide (ws.getD i 0 ∈ O) = true then lds else stored lds (ws.getD i 0) (.int i t)).length ≤ i + 1 := by
    split
    · omega
    · have := stored_le (kvs := lds) (k := ws.getD i 0) (v := .int i t); omega
  have hOr := I.room
  have hMl := I.len
  refine turn_set w B F1 X T ((if_neg (by decide)).trans e1) ((if_neg (by decide)).trans e2) ((if_neg (by decide)).trans e3) (if_pos rfl) N1 (nd_state ord) hoff2 lo1 lo2 lo3 lo4 lo5 d1' d2 d3 hd hv IL IR hb' hr hr1 hr4 hOr (by omega) hz hi hws hi2 v1 v2 v3 v4 v5 (by omega) ?_
  intro od1' od2' oe1' oe2' n' n2' tn' un' vs' nl' kvs' kws' M' h2 tk2 N2 F2 IL' IR' hrs g1 g2 g3 g4
  clear N1 F1
  have I' := inv_step hst hr1 hi I rfl hrs
  have H' := held_step (k := ws.getD i 0) (v := .int i t) hr1 I.nd H
  have edec : (if decide (ws.getD i 0 ∈ O) = true then lds else stored lds (ws.getD i 0) (.int i t)) = if ws.getD i 0 ∈ O then lds else stored lds (ws.getD i 0) (.int i t) := by
    by_cases h : ws.getD i 0 ∈ O <;> simp [h]
  have V1' := val_step V1 g1 v1 g3
  have V2' := val_step V2 g2 v1 g4
  rw [edec] at hb' hlz2 V1' V2'
  have hlen := H'.len
  have N2' : News base L h2 ((x, instObj 897 dx) :: (dx, lruNs w t1 t2 t3 t4 dd oo n' tn' r tr) :: (dd, od1') :: (ld, ob') :: (L + 1, o1') :: (oo, od2') :: (y, instObj 955 dy) :: (dy, rrNs w u1 u2 u3 u4 u5 u6 ed f2 ii kk n2' un' r ur) :: (ed, oe1') :: (ii, oe2') :: (kk, listOf vs'.toArray nl') :: (f2, fnMade (Str.ofString "choice") qual choiceArgs choiceBody choiceScope [(Str.ofString "walk", L + 1 + 1 + 1), (Str.ofString "spot", L + 1 + 1)] doc pm c' ctv) :: (c', oc) :: (L + 1 + 1 + 1, o3) :: (L + 1 + 1, o2) :: (wl, listOf wv.toArray wn) :: (sp, listOf (List.toArray sv') sn') :: (hl, listOf hv9.toArray hn) :: (ol, listOf ov.toArray on) :: (973, o9) :: own) := by
    intro q hq
    refine N2 q ?_
    repeat' (first | (rcases List.mem_cons.mp hq with rfl | hq))
    all_goals first | k_mem | (repeat (first | exact hq | refine List.Mem.tail _ ?_))
  refine turn_held w B F2 X T
    ((if_neg (by decide)).trans e1) ((if_neg (by decide)).trans e3) ((if_neg (by decide)).trans e4) N2' lo1 lo5 d1' IL'.1 hb' IL'.2.2.1 I'.nd (I'.side i rfl).2.2 mem_lruStep_self (by omega) (by omega) (by omega) (by omega) ?_
  intro hl' hv' hn' hs' h3 tk3 m3 F3 N3 lt3 hi3 hlen3 mh hm3
  clear N2 N2' F2
  have hlt : ld < hl' := lt3 (ld, ob') (by k_mem)
  have hlt2 : hl < hl' := lt3 (hl, listOf hv9.toArray hn) (by k_mem)
  obtain ⟨pre', hpre'⟩ := order_step (r := r0) (O := O) (pre := pre) (k := ws.getD i 0) hr1
  have hkws : kws'.length = hs'.length := by
    have := length_keys IR'.2.2.2.1
    have := I'.len
    omega
  have hs4 : hs'.length ≤ 4 := by
    have := I'.room
    omega
  have N3' : News base L h3 ((y, instObj 955 dy) :: (dy, rrNs w u1 u2 u3 u4 u5 u6 ed f2 ii kk n2' un' r ur) :: (ed, oe1') :: (hl', listOf hv'.toArray hn') :: (ol, listOf ov.toArray on) :: (L + 1, o1') :: (x, instObj 897 dx) :: (dx, lruNs w t1 t2 t3 t4 dd oo n' tn' r tr) :: (dd, od1') :: (oo, od2') :: (ii, oe2') :: (kk, listOf vs'.toArray nl') :: (f2, fnMade (Str.ofString "choice") qual choiceArgs choiceBody choiceScope [(Str.ofString "walk", L + 1 + 1 + 1), (Str.ofString "spot", L + 1 + 1)] doc pm c' ctv) :: (c', oc) :: (L + 1 + 1 + 1, o3) :: (L + 1 + 1, o2) :: (wl, listOf wv.toArray wn) :: (sp, listOf (List.toArray sv') sn') :: (ld, ob') :: (973, o9) :: own) := by
    intro q hq
    refine N3 q ?_
    repeat' (first | (rcases List.mem_cons.mp hq with rfl | hq))
    all_goals first | k_mem | (repeat (first | exact hq | refine List.Mem.tail _ ?_))
  refine turn_order w B F3 X T
    ((hm3 _ (by decide)).trans ((if_neg (by decide)).trans e2)) mh ((hm3 _ (by decide)).trans ((if_neg (by decide)).trans e6)) N3' lo3 d1' IR'.1 hi3 hos hkws hs4 (by omega) ?_
  intro ol' ov' h4 tk4 m4 F4 N4 lt4 hi4 mo hm4
  clear N3 N3' F3
  have hlt3 : hl' < ol' := lt4 (hl', listOf hv'.toArray hn') (by k_mem)
  have mm : ∀ z, z ≠ Str.ofString "order" → z ≠ Str.ofString "held" → z ≠ Str.ofString "place" → m4 z = m₁ z := fun z z1 z2 z3 => ((hm4 z z1).trans (hm3 z z2)).trans (if_neg z3)
  have hos' : (os.filter (fun z => decide (z ≠ ws.getD i 0)) ++ [ws.getD i 0]) = pre' ++ lruStep r0 O (ws.getD i 0) := by rw [hpre]; exact hpre'
  refine ⟨h4, tk4, m4, (x, instObj 897 dx) :: (dx, lruNs w t1 t2 t3 t4 dd oo n' tn' r tr) :: (dd, od1') :: (oo, od2') :: (y, instObj 955 dy) :: (dy, rrNs w u1 u2 u3 u4 u5 u6 ed f2 ii kk n2' un' r ur) :: (ed, oe1') :: (ii, oe2') :: (kk, listOf vs'.toArray nl') :: (f2, fnMade (Str.ofString "choice") qual choiceArgs choiceBody choiceScope [(Str.ofString "walk", L + 1 + 1 + 1), (Str.ofString "spot", L + 1 + 1)] doc pm c' ctv) :: (c', oc) :: (L + 1 + 1 + 1, o3) :: (L + 1 + 1, o2) :: (wl, listOf wv.toArray wn) :: (sp, listOf (List.toArray sv') sn') :: (ld, ob') :: (L + 1, o1') :: (hl', listOf hv'.toArray hn') :: (ol', listOf ov'.toArray 0) :: (973, o9) :: [], rfl, F4, ?news, ?off,
    n', n2', i, tn', un', od1', od2', oe1', oe2', ob', o1', _, vs', sv', hv', ov', nl', sn', hn', 0, hl', ol', lruStep r0 O (ws.getD i 0), M', hs', _, pre', kvs', kws', _, rfl,
    ⟨(mm _ (by decide) (by decide) (by decide)).trans e1, (mm _ (by decide) (by decide) (by decide)).trans e2, (mm _ (by decide) (by decide) (by decide)).trans e3, (mm _ (by decide) (by decide) (by decide)).trans e4, (hm4 _ (by decide)).trans mh, mo⟩,
    hlt, hlt3, d1', hi2, IL', IR', hb', I', H', V1', V2', hi3, hlen3, hi4, hos', ?oz, hlz2⟩
  case news =>
    intro q hq
    refine N4 q ?_
    simp only [List.cons_append, List.nil_append] at hq
    repeat' (first | (rcases List.mem_cons.mp hq with rfl | hq))
    all_goals first | k_mem | (repeat (first | exact hq | refine List.Mem.tail _ ?_))
  case oz =>
    have := List.length_filter_le (fun z => decide (z ≠ ws.getD i 0)) os
    rw [List.length_append, List.length_singleton]
    omega
  case off =>
    intro q hq b hb
    have hqr : q ∈ (hl, listOf hv9.toArray hn) :: (ol, listOf ov.toArray on) :: (973, o9) :: own := .tail _ (.tail _ (.tail _ hq))
    rcases List.mem_append.mp (show b ∈ [x, dx, dd, oo, y, dy, ed, ii, kk, f2, c', L + 1 + 1 + 1, L + 1 + 1, wl, sp, ld, L + 1] ++ [hl', ol', 973] from hb) with hb | hb
    · exact hoff2 q hqr b hb
    · rcases List.mem_cons.mp hb with rfl | hb
      · refine Nat.ne_of_lt (lt3 q ?_)
        repeat (first | exact hq | refine List.Mem.tail _ ?_)
      rcases List.mem_cons.mp hb with rfl | hb
      · refine Nat.ne_of_lt (lt4 q ?_)
        repeat (first | exact hq | refine List.Mem.tail _ ?_)
      · rw [List.mem_singleton.mp hb]
        exact hoff q hq 973 (List.mem_append_right [x, dx, dd, oo, y, dy, ed, ii, kk, f2, c', L + 1 + 1 + 1, L + 1 + 1, wl, sp, ld, L + 1, hl, ol] (.head _))
section
local macro_rules | `(tactic| k_room) => `(tactic| ((try simp only [depth_under_make, depth_under_kw, depth_in1, depth_deeper, depth_caller]); (try dsimp only [arO]); omega))
local macro_rules | `(tactic| k_units) => `(tactic| ktr_units)
local macro_rules | `(tactic| walk_at "getAttr ref") => `(tactic| (k_here; k_dflt (refine' get_sm ?k1 ?k2 ?k3 ?k4 (findObj_nondata ?c1 ?c2 ?c3 ?c4 ?c5 ?c6) ?k5 ?k6 ?_; (case k1 => k_asm); (case k2 => k_asm); (case k3 => (refine' InstAt.of_news ?N9 ?h91 ?h92; (case N9 => k_asm); (case h91 => k_memK); (case h92 => k_memK))); (case k4 => k_is); (case c1 => k_is); (case c2 => k_is); (case c3 => k_is); (case c4 => k_is); (case c5 => k_get); (case c6 => decide +kernel); (case k5 => k_is); (case k6 => k_handed); k_whole)))
local macro_rules | `(tactic| walk_at "compareOp In int ref") => `(tactic| (k_here; k_dflt (first
  | refine kda_in (knd := PySem.intKind _ _) (by k_asm) (by k_mem) (by k_asm) (by k_asm) (intKind_is _ _ _ _) true (by assumption) ?_
  | refine kda_in (knd := PySem.intKind _ _) (by k_asm) (by k_mem) (by k_asm) (by k_asm) (intKind_is _ _ _ _) false (by assumption) ?_)))
local macro_rules | `(tactic| walk_at "compareOp NotIn int ref") => `(tactic| (k_here; k_dflt (first
  | refine kdg_notin (knd := PySem.intKind _ _) (by k_asm) (by k_mem) (by k_asm) (by k_asm) (intKind_is _ _ _ _) true (by assumption) ?_
  | refine kdg_notin (knd := PySem.intKind _ _) (by k_asm) (by k_mem) (by k_asm) (by k_asm) (intKind_is _ _ _ _) false (by assumption) ?_); (try dsimp only [Bool.not_true, Bool.not_false])))
local macro_rules | `(tactic| walk_at "subscriptTail") => `(tactic| (k_here; (with_reducible show wpAny _ _ (subscriptTail _ _ (Value.ref _) (Value.int _ _)) _ _ _); k_dflt (refine kdt_tail (knd := PySem.intKind _ _) (by k_asm) (by k_mem) (by assumption) ?_)))
local macro_rules | `(tactic| walk_at "getItem ref int") => `(tactic| (k_here; k_dflt (refine kdt_getItem (knd := PySem.intKind _ _) (by k_asm) (by k_mem) (by assumption) (intKind_is _ _ _ _) (by assumption) ?_)))
local macro_rules | `(tactic| walk_at "setItem ref int") => `(tactic| (k_here; k_dflt (refine' kda_set (knd := PySem.intKind _ _) ?F ?N ?U ?d (intKind_is _ _ _ _) ?z ?_; (case F => k_asm); (case N => k_asm); (case U => k_updF); (case d => assumption); (case z => (first | exact line100 (by assumption) | exact line100w (by assumption) | exact line100s (by assumption)))); intro h' o' F' N' hd'; (try dsimp only at N')))
local macro_rules | `(tactic| walk_at "delItem ref int") => `(tactic| (k_here; k_dflt (refine' dk_del (knd := PySem.intKind _ _) ?F ?N ?U ?d (intKind_is _ _ _ _) ?v ?z ?_; (case F => k_asm); (case N => k_asm); (case U => k_updF); (case d => assumption); (case v => assumption); (case z => (first | exact line100 (by assumption) | exact line100w (by assumption) | exact line100s (by assumption)))); intro h' o' F' N' hd'; (try dsimp only at N')))
local macro_rules | `(tactic| walk_at "call builtin:dict.pop") => `(tactic| (k_here; (with_reducible show wpAny _ _ (call (Value.builtin "dict.pop") [Value.ref _, Value.int _ _]) _ _ _); k_dflt (refine' dk_pop (knd := PySem.intKind _ _) ?F ?N ?U ?d (intKind_is _ _ _ _) rfl ?v ?z ?_; (case F => k_asm); (case N => k_asm); (case U => k_updF); (case d => assumption); (case v => assumption); (case z => (first | exact line100 (by assumption) | exact line100w (by assumption) | exact line100s (by assumption)))); intro h' o' F' N' hd'; (try dsimp only at N')))
local macro_rules | `(tactic| walk_at "subscriptTail Attribute") => `(tactic| (k_here; (with_reducible show wpAny _ _ (subscriptTail _ _ (Value.ref _) (Value.int _ _)) _ _ _); k_dflt (refine kdt_tail (knd := PySem.intKind _ _) (by k_asm) (by k_mem) (by assumption) ?_)))
local macro_rules | `(tactic| k_enter) => `(tactic| (refine' code_def ?k1 ?k2 ?k3 ?k4 ?k5 ?kA ?kF ?kK ?k6 ?k7 ?k8 ?k9 ?kB ?_ ?c2 ?c3 ?c4 ?c5; (case kA => exact rfl); (case kF => exact rfl); (case kK => first | exact rfl | assumption); (case k1 => k_asm); (case k2 => k_asm); (case k3 => k_asm); (case k4 => k_asm); (case k5 => k_asm); (case k6 => k_is); (case k7 => k_is); (case k8 => k_room); (case k9 => exact BindsTo.of_eq rfl); (case c5 => decide); (case kB => exact locs rfl); (case c2 => exact rfl); (case c3 => exact rfl); (case c4 => exact rfl); k_whole; intro g' L' h' FG' F' N' B' X' T'; (try dsimp only); (try k_lift B'); (try k_fold)))
local macro_rules | `(tactic| walk_at "call ref") => `(tactic| (k_here; k_dflt (refine wpAny_call ?_; k_enter)))
local macro_rules | `(tactic| walk_at "call ref") => `(tactic| (k_here; (with_reducible show wpAny _ _ (call (Value.ref 857) _) _ _ _); k_dflt (refine wpAny_call ?_; (refine' code_def ?k1 ?k2 ?k3 ?k4 ?k5 ?kA ?kF ?kK ?k6 ?k7 ?k8 ?k9 ?kB ?_ ?c2 ?c3 ?c4 ?c5; (case kA => exact rfl); (case kF => exact rfl); (case kK => first | exact rfl | assumption); (case k1 => k_asm); (case k2 => k_asm); (case k3 => k_asm); (case k4 => k_asm); (case k5 => k_asm); (case k6 => k_is); (case k7 => k_is); (case k8 => k_room); (case k9 => exact bind857 _ (by k_in) _ _ (by k_is)); (case c5 => decide); (case kB => exact locs rfl); (case c2 => exact rfl); (case c3 => exact rfl); (case c4 => exact rfl); k_whole; intro g' L' h' FG' F' N' B' X' T'; (try dsimp only); (try k_lift B'); (try k_fold)))))
local macro_rules | `(tactic| walk_at "call ref") => `(tactic| (k_here; (with_reducible show wpAny _ _ (call (Value.ref 865) _) _ _ _); k_dflt (refine wpAny_call ?_; (refine' code_def ?k1 ?k2 ?k3 ?k4 ?k5 ?kA ?kF ?kK ?k6 ?k7 ?k8 ?k9 ?kB ?_ ?c2 ?c3 ?c4 ?c5; (case kA => exact rfl); (case kF => exact rfl); (case kK => first | exact rfl | assumption); (case k1 => k_asm); (case k2 => k_asm); (case k3 => k_asm); (case k4 => k_asm); (case k5 => k_asm); (case k6 => k_is); (case k7 => k_is); (case k8 => k_room); (case k9 => exact bind865 _ (by k_in) _ _ _ (by k_is)); (case c5 => decide); (case kB => exact locs rfl); (case c2 => exact rfl); (case c3 => exact rfl); (case c4 => exact rfl); k_whole; intro g' L' h' FG' F' N' B' X' T'; (try dsimp only); (try k_lift B'); (try k_fold)))))
local macro_rules | `(tactic| walk_at "call ref") => `(tactic| (k_here; (with_reducible show wpAny _ _ (call (Value.ref 873) _) _ _ _); k_dflt (refine wpAny_call ?_; (refine' code_def ?k1 ?k2 ?k3 ?k4 ?k5 ?kA ?kF ?kK ?k6 ?k7 ?k8 ?k9 ?kB ?_ ?c2 ?c3 ?c4 ?c5; (case kA => exact rfl); (case kF => exact rfl); (case kK => first | exact rfl | assumption); (case k1 => k_asm); (case k2 => k_asm); (case k3 => k_asm); (case k4 => k_asm); (case k5 => k_asm); (case k6 => k_is); (case k7 => k_is); (case k8 => k_room); (case k9 => exact bind873 _ (by k_in) _ _ (by k_is)); (case c5 => decide); (case kB => exact locs rfl); (case c2 => exact rfl); (case c3 => exact rfl); (case c4 => exact rfl); k_whole; intro g' L' h' FG' F' N' B' X' T'; (try dsimp only); (try k_lift B'); (try k_fold)))))
local macro_rules | `(tactic| walk_at "call ref") => `(tactic| (k_here; (with_reducible show wpAny _ _ (call (Value.ref 930) _) _ _ _); k_dflt (refine wpAny_call ?_; (refine' code_def ?k1 ?k2 ?k3 ?k4 ?k5 ?kA ?kF ?kK ?k6 ?k7 ?k8 ?k9 ?kB ?_ ?c2 ?c3 ?c4 ?c5; (case kA => exact rfl); (case kF => exact rfl); (case kK => first | exact rfl | assumption); (case k1 => k_asm); (case k2 => k_asm); (case k3 => k_asm); (case k4 => k_asm); (case k5 => k_asm); (case k6 => k_is); (case k7 => k_is); (case k8 => k_room); (case k9 => exact bind930 _ (by k_in) _ _ _ (by k_is)); (case c5 => decide); (case kB => exact locs rfl); (case c2 => exact rfl); (case c3 => exact rfl); (case c4 => exact rfl); k_whole; intro g' L' h' FG' F' N' B' X' T'; (try dsimp only); (try k_lift B'); (try k_fold)))))
local macro_rules | `(tactic| walk_at "call ref") => `(tactic| (k_here; (with_reducible show wpAny _ _ (call (Value.ref 938) _) _ _ _); k_dflt (refine wpAny_call ?_; (refine' code_def ?k1 ?k2 ?k3 ?k4 ?k5 ?kA ?kF ?kK ?k6 ?k7 ?k8 ?k9 ?kB ?_ ?c2 ?c3 ?c4 ?c5; (case kA => exact rfl); (case kF => exact rfl); (case kK => first | exact rfl | assumption); (case k1 => k_asm); (case k2 => k_asm); (case k3 => k_asm); (case k4 => k_asm); (case k5 => k_asm); (case k6 => k_is); (case k7 => k_is); (case k8 => k_room); (case k9 => exact bind938 _ (by k_in) _ _ (by k_is)); (case c5 => decide); (case kB => exact locs rfl); (case c2 => exact rfl); (case c3 => exact rfl); (case c4 => exact rfl); k_whole; intro g' L' h' FG' F' N' B' X' T'; (try dsimp only); (try k_lift B'); (try k_fold)))))
local macro_rules | `(tactic| walk_at "call ref") => `(tactic| (k_here; (with_reducible show wpAny _ _ (call (Value.ref 714) _) _ _ _); k_dflt (refine wpAny_call ?_; (refine' code_def ?k1 ?k2 ?k3 ?k4 ?k5 ?kA ?kF ?kK ?k6 ?k7 ?k8 ?k9 ?kB ?_ ?c2 ?c3 ?c4 ?c5; (case kA => exact rfl); (case kF => exact rfl); (case kK => first | exact rfl | assumption); (case k1 => k_asm); (case k2 => k_asm); (case k3 => k_asm); (case k4 => k_asm); (case k5 => k_asm); (case k6 => k_is); (case k7 => k_is); (case k8 => k_room); (case k9 => exact bind714 _ (by k_in) _ _ _ (by k_is)); (case c5 => decide); (case kB => exact locs rfl); (case c2 => exact rfl); (case c3 => exact rfl); (case c4 => exact rfl); k_whole; intro g' L' h' FG' F' N' B' X' T'; (try dsimp only); (try k_lift B'); (try k_fold)))))
local macro_rules | `(tactic| walk_at "call ref") => `(tactic| (k_here; (with_reducible show wpAny _ _ (call (Value.ref 897) _) _ _ _); k_dflt (refine' call_cls ?k1 ?k2 ?k3 ?k4 ?k5 ?k6 ?_; (case k1 => k_asm); (case k2 => k_asm); (case k3 => k_asm); (case k4 => k_is); (case k5 => k_is); (case k6 => k_is); k_whole; intro x' d' h' F' N' l1 l2; (try k_lt l1); (try k_lt2 l2); (try k_sweep); (refine' code_def ?k1 ?k2 ?k3 ?k4 ?k5 ?kA ?kF ?kK ?k6 ?k7 ?k8 ?k9 ?kB ?_ ?c2 ?c3 ?c4 ?c5; (case kA => exact rfl); (case kF => exact rfl); (case kK => first | exact rfl | assumption); (case k1 => k_asm); (case k2 => k_asm); (case k3 => k_asm); (case k4 => k_asm); (case k5 => k_asm); (case k6 => k_is); (case k7 => k_is); (case k8 => k_room); (case k9 => exact bind849 _ (by k_in) _ _ (by k_is)); (case c5 => decide); (case kB => exact locs rfl); (case c2 => exact rfl); (case c3 => exact rfl); (case c4 => exact rfl); k_whole; intro g' L' h' FG' F' N' B' X' T'; (try dsimp only); (try k_lift B'); (try k_fold)))))
local macro_rules | `(tactic| walk_at "call ref") => `(tactic| (k_here; (with_reducible show wpAny _ _ (call (Value.ref 955) _) _ _ _); k_dflt (refine' call_cls ?k1 ?k2 ?k3 ?k4 ?k5 ?k6 ?_; (case k1 => k_asm); (case k2 => k_asm); (case k3 => k_asm); (case k4 => k_is); (case k5 => k_is); (case k6 => k_is); k_whole; intro x' d' h' F' N' l1 l2; (try k_lt l1); (try k_lt2 l2); (try k_sweep); (refine' code_def ?k1 ?k2 ?k3 ?k4 ?k5 ?kA ?kF ?kK ?k6 ?k7 ?k8 ?k9 ?kB ?_ ?c2 ?c3 ?c4 ?c5; (case kA => exact rfl); (case kF => exact rfl); (case kK => first | exact rfl | assumption); (case k1 => k_asm); (case k2 => k_asm); (case k3 => k_asm); (case k4 => k_asm); (case k5 => k_asm); (case k6 => k_is); (case k7 => k_is); (case k8 => k_room); (case k9 => exact bind914 _ (by k_in) _ _ _ (by k_is)); (case c5 => decide); (case kB => exact locs rfl); (case c2 => exact rfl); (case c3 => exact rfl); (case c4 => exact rfl); k_whole; intro g' L' h' FG' F' N' B' X' T'; (try dsimp only); (try k_lift B'); (try k_fold)))))
local macro_rules | `(tactic| cell_enter) => `(tactic| (refine' call_F ?k1 ?k2 ?k3 ?k4 ?kD ?k6 ?k7 ?k8 ?k9 ?kB ?_ ?c2 ?c3 ?c4 ?c5; (case k1 => with_reducible assumption); (case k2 => with_reducible assumption); (case k3 => with_reducible assumption); (case k4 => with_reducible assumption); (case kD => with_reducible assumption); (case k6 => k_is); (case k7 => k_is); (case k8 => omega); (case k9 => first | exact bind794 _ (Frag.In.keeps (by with_reducible assumption) (fun _ _ e => of_hideAll _ e)) _ _ _ (by k_is) | exact BindsTo.of_eq rfl); (case c5 => decide); (case kB => exact locs rfl); (case c2 => exact rfl); (case c3 => exact rfl); (case c4 => exact rfl); k_whole; intro g' L' h' F' N' B' X' T' D' TT'; (try dsimp only); (try k_fold)))
local macro_rules | `(tactic| walk_at "WhlIf") => `(tactic| first | (refine WhlIf.no (decide_eq_false (by omega)) ?_) | (refine WhlIf.yes (decide_eq_true (by omega)) ?_))
local macro_rules | `(tactic| walk_at "call builtin:dict.pop") => `(tactic| (k_here; (with_reducible show wpAny _ _ (call (Value.builtin "dict.pop") [Value.ref _, Value.int _ _]) _ _ _); k_dflt (refine' dk_pop_missing (knd := PySem.intKind _ _) rfl ?N ?M ?d ?lo (intKind_is _ _ _ _) rfl ?v ?_; (case N => k_asm); (case M => k_mem); (case d => assumption); (case lo => assumption); (case v => assumption)); intro h' e' x'))
local macro_rules | `(tactic| walk_at "getAttr ref") => `(tactic| (k_here; k_dflt (refine' get_cls ?k1 ?k2 ?k3 ?k4 ?k5 ?k6 ?k7 ?k8 ?k9 ?k10 ?_; (case k1 => k_asm); (case k2 => k_asm); (case k3 => (refine' InstAt.of_news ?N9 ?h91 ?h92; (case N9 => k_asm); (case h91 => k_memK); (case h92 => k_memK))); (case k4 => k_is); (case k5 => k_is); (case k6 => k_is); (case k7 => k_is); (case k8 => k_handed); (case k9 => decide +kernel); (case k10 => k_get); k_whole)))
local macro_rules | `(tactic| walk_at "getAttr ref") => `(tactic| (k_here; k_dflt (refine' get_own ?k1 ?k2 ?k3 ?k4 ?k5 ?k6 ?k7 ?k8 ?k9 ?_; (case k1 => k_asm); (case k2 => k_asm); (case k3 => (refine' InstAt.of_news ?N9 ?h91 ?h92; (case N9 => k_asm); (case h91 => k_memK); (case h92 => k_memK))); (case k4 => k_is); (case k5 => k_is); (case k6 => k_is); (case k7 => k_is); (case k8 => k_get); (case k9 => k_handed); k_whole)))
local macro_rules | `(tactic| walk_at "getAttr ref") => `(tactic| (k_here; (with_reducible show wpAny _ _ (getAttr (Value.ref 830) _ _) _ _ _); k_dflt (refine' cls_val ?k1 ?k2 ?k3 ?k4 ?k5 ?k6 ?_; (case k1 => k_asm); (case k2 => k_asm); (case k3 => k_is); (case k4 => k_is); (case k5 => k_is); (case k6 => k_handed); k_whole)))
local macro_rules | `(tactic| walk_at "delItem ref int") => `(tactic| (k_here; (with_reducible show wpAny _ _ (delItem (Value.ref _) _) _ _ _); k_dflt (refine' inst_delItem ?F ?X ?I ?hQ ?hS ?hF ?_; (case I => (refine' InstAt.of_news ?N9 ?h91 ?h92; (case N9 => k_asm); (case h91 => k_memK); (case h92 => k_memK))); (case F => k_asm); (case X => k_asm); (case hS => k_is); (case hF => k_is); (case hQ => k_is); k_whole)))
local macro_rules | `(tactic| walk_at "setItem ref") => `(tactic| (k_here; (with_reducible show wpAny _ _ (setItem (Value.ref _) _ _) _ _ _); k_dflt (refine' ksp_setItem ?F ?X ?I ?hQ ?hS ?hF ?_; (case F => k_asm); (case X => k_asm); (case I => (refine' InstAt.of_news ?N9 ?h91 ?h92; (case N9 => k_asm); (case h91 => k_memK); (case h92 => k_memK))); (case hS => k_is); (case hF => k_is); (case hQ => k_is); k_whole)))
local macro_rules | `(tactic| walk_at "getMethod ref") => `(tactic| (k_here; k_dflt (refine' method_inst ?k1 ?k2 ?k3 ?k4 ?k5 ?k6 ?k7 ?_; (case k3 => (refine' InstAt.of_news ?N9 ?h91 ?h92; (case N9 => k_asm); (case h91 => k_memK); (case h92 => k_memK))); (case k1 => k_asm); (case k2 => k_asm); (case k4 => k_is); (case k5 => k_is); (case k6 => k_is); (case k7 => k_get); k_whole)))
local macro_rules | `(tactic| walk_at "compareOp In") => `(tactic| (k_here; (with_reducible show wpAny _ _ (compareOp CmpOp.In _ (Value.ref _)) _ _ _); k_dflt (refine' in_K ?k1 ?k2 ?k3 ?k4 ?k5 ?_; (case k3 => (refine' InstAt.of_news ?N9 ?h91 ?h92; (case N9 => k_asm); (case h91 => k_memK); (case h92 => k_memK))); (case k1 => k_asm); (case k2 => k_asm); (case k4 => k_is); (case k5 => k_is); k_whole)))
local macro_rules | `(tactic| walk_at "last exec While") => `(tactic| (k_here; k_dflt (refine whl_start 2 ?_)))
local macro_rules | `(tactic| walk_at "exec While") => `(tactic| (k_here; k_dflt (refine whl_start 2 ?_)))
local macro_rules | `(tactic| k_in) => `(tactic| first | with_reducible assumption | exact Frag.In.keeps (by with_reducible assumption) (Fr.keep (by with_reducible assumption)))
local macro_rules | `(tactic| walk_at "callWith ref") => `(tactic| (k_here; (with_reducible show wpAny _ _ (callWith _ (Value.ref _) _ (backTo _ (starEach (_ :: _) _)) []) _ _ _); k_dflt (refine' callWith_K ?k1 ?k2 ?_; (case k1 => with_reducible assumption); (case k2 => k_is); k_whole)))
local macro_rules | `(tactic| walk_at "callWith ref") => `(tactic| (k_here; (with_reducible show wpAny _ _ (callWith _ (Value.ref _) _ (backTo _ (starEach [] _)) []) _ _ _); k_dflt (refine' callWith_K0 ?k1 ?k2 ?_; (case k1 => k_in); (case k2 => k_is); k_whole)))
local macro_rules | `(tactic| walk_at "getMethod ref") => `(tactic| (k_here; (with_reducible show wpAny _ _ (getMethod (Value.ref 830) _ _) _ _ _); k_dflt (refine' method_of_cls ?k1 ?k2 ?k3 ?_; (case k1 => k_asm); (case k2 => k_asm); (case k3 => k_is); k_whole)))
local macro_rules | `(tactic| walk_at "setItem ref int") => `(tactic| (k_here; (with_reducible show wpAny _ _ (setItem (Value.ref _) _ _) _ _ _); k_dflt (refine' ksp_setItem ?F ?X ?I ?hQ ?hS ?hF ?_; (case F => k_asm); (case X => k_asm); (case I => (refine' InstAt.of_news ?N9 ?h91 ?h92; (case N9 => k_asm); (case h91 => k_memK); (case h92 => k_memK))); (case hS => k_is); (case hF => k_is); (case hQ => k_is); k_whole)))
local macro_rules | `(tactic| cell_call) => `(tactic| (refine' call_P ?k1 ?k2 ?k3 ?k4 ?k6 ?k7 ?k8 ?k9 ?kB ?_ ?c2 ?c3 ?c4 ?c5; (case k1 => with_reducible assumption); (case k2 => with_reducible assumption); (case k3 => with_reducible assumption); (case k4 => with_reducible assumption); (case k6 => k_is); (case k7 => k_is); (case k8 => omega); (case k9 => first | exact bind794 _ (Frag.In.keeps (by with_reducible assumption) (fun _ _ e => of_hideAll _ e)) _ _ _ (by k_is) | exact BindsTo.of_eq rfl); (case c5 => decide); (case kB => exact locs rfl); (case c2 => exact rfl); (case c3 => exact rfl); (case c4 => exact rfl); k_whole; intro g' L' h' F' N' B' X' T' TT'; (try dsimp only); (try k_fold)))
local macro_rules | `(tactic| walk_at "subscriptTail") => `(tactic| (k_here; (with_reducible show wpAny _ _ (subscriptTail _ _ (Value.ref _) (Value.int _ _)) _ _ _); k_dflt (refine' item_list_ints_negR ?l9 ?i9 ?a9 ?b9 ?c9 ?_; (case l9 => exact News.isList (by k_asm) (by k_memK)); (case i9 => with_reducible assumption); (case a9 => omega); (case b9 => omega); (case c9 => omega)); intro _))
local macro_rules | `(tactic| walk_at "call builtin:list.pop") => `(tactic| (k_here; (with_reducible show wpAny _ _ (call (Value.builtin _) [Value.ref _]) _ _ _); k_dflt (refine' kpa_pop ?F ?N ?U ?i ?l ?z ?_; (case F => k_asm); (case N => k_asm); (case U => k_upd); (case i => with_reducible assumption); (case l => ((try simp only [List.length_set]); omega)); (case z => (rw [PySem.sizeLine_eq]; (try simp only [List.length_set]); omega))); (intro h' t' F' N' hI'; (try dsimp only [List.nil_append, List.cons_append] at N'))))
local macro_rules | `(tactic| walk_at "call builtin:len") => `(tactic| (k_here; (with_reducible show wpAny _ _ (call (Value.builtin _) [Value.ref _]) _ _ _); k_dflt (refine' len_intsN ?N ?m ?i ?z ?_; (case N => k_asm); (case m => k_memK); (case i => with_reducible assumption); (case z => ((try simp only [List.length_dropLast, List.length_set, List.length_append, List.length_cons, List.length_nil]); omega)))))
local macro_rules | `(tactic| walk_at "call builtin:list.append") => `(tactic| (k_here; (with_reducible show wpAny _ _ (call (Value.builtin _) [Value.ref _, Value.int _ _]) _ _ _); k_dflt (refine' append_ints ?k1 ?k2 ?k3 ?i ?z ?_; (case k1 => k_asm); (case k2 => k_asm); (case k3 => k_upd); (case i => with_reducible assumption); (case z => ((try simp only [List.length_dropLast, List.length_set, List.length_append, List.length_cons, List.length_nil]); omega)); k_whole); intro h' F' N' hI'; (try k_sweep)))
local macro_rules | `(tactic| walk_at "getMethod ref") => `(tactic| (k_here; (with_reducible show wpAny _ _ (getMethod (Value.ref _) (Str.ofString "_RRCache__choice") _) _ _ _); k_dflt (refine' kmu_own ?k1 ?k2 ?k3 ?k4 ?k5 ?_; (case k1 => k_asm); (case k2 => k_asm); (case k3 => (refine' InstAt.of_news ?N9 ?h91 ?h92; (case N9 => k_asm); (case h91 => k_memK); (case h92 => k_memK))); (case k4 => k_is); (case k5 => k_is); k_whole)))
local macro_rules | `(tactic| walk_at "callWith ref") => `(tactic| (k_here; k_dflt (refine' callWith_F ?k1 ?_; (case k1 => exact FnAt.of (by k_asm) (by k_memK)); k_whole)))
local macro_rules | `(tactic| walk_at "And") => `(tactic| ((with_reducible show FnAt _ _ ∧ _); k_dflt (refine ⟨FnAt.of (by k_asm) (by k_memK), ?_⟩); (try dsimp only [List.nil_append, List.cons_append])))
local macro_rules | `(tactic| k_all) => `(tactic| first | with_reducible assumption | exact List.forall_mem_nil _ | (refine List.forall_mem_cons.mpr ⟨by k_ne, ?_⟩; k_all))
local macro_rules | `(tactic| walk_at "compareOp NotIn int ref") => `(tactic| (k_here; k_dflt (refine kdg_notin (knd := PySem.intKind _ _) (by k_asm) (by k_memK) (by k_asm) (by k_asm) (intKind_is _ _ _ _) false (by first | assumption | exact stored_none (by assumption) (by assumption)) ?_); (try dsimp only [Bool.not_true, Bool.not_false])))
local macro_rules | `(tactic| walk_at "eval Name") => `(tactic| (k_here; k_dflt (refine' nameX_L ?F ?v ?_ ?a ?b; (case F => k_asm); (case a => rfl); (case b => rfl); (case v => first | rfl | assumption); k_whole)))
local macro_rules | `(tactic| walk_at "call builtin:list.index") => `(tactic| (k_here; (with_reducible show wpAny _ _ (call (Value.builtin _) [Value.ref _, Value.int _ _]) _ _ _); k_dflt (refine' index_ints ?N ?m ?i ?k ?z ?_; (case N => k_asm); (case m => k_memK); (case i => with_reducible assumption); (case k => with_reducible assumption); (case z => ((try simp only [List.length_map]); omega)); k_whole); intro hidx9; (try simp only [List.length_map] at hidx9)))
local macro_rules | `(tactic| walk_at "subscriptTail") => `(tactic| (k_here; (with_reducible show wpAny _ _ (subscriptTail _ _ (Value.ref _) (Value.int _ _)) _ _ _); k_dflt (refine' item_anyK ?l9 ?i9 ?a9 ?b9 ?c9 ?_; (case l9 => exact News.isList (by k_asm) (by k_memK)); (case i9 => with_reducible assumption); (case a9 => omega); (case b9 => omega); (case c9 => omega)); intro _))
local macro_rules | `(tactic| walk_at "call builtin:len") => `(tactic| (k_here; (with_reducible show wpAny _ _ (call (Value.builtin "len") [Value.ref _]) _ _ _); k_dflt (refine' kda_len (knd := PySem.intKind _ _) ?N ?m ?d ?lo ?z ?_; (case N => k_asm); (case m => k_memK); (case d => with_reducible assumption); (case lo => with_reducible assumption); (case z => omega))))
set_option maxHeartbeats 8000000 in
theorem drain_rest (w : World) {p9 : Program} {loose : List Str} {mean : ExcName → Option Value} {mg mb : Str → Option Value} {base : Heap} {L : Nat} {fa : Addr} {m : Str → Option Value} {Q : Flow → Shared → Prop} {Ex : Value → Shared → Prop}
   {x dx dd oo dl : Nat} {t1 t2 t3 t4 tr : Tok} {r : Int} {rest : List (Addr × Obj)}
   (B : Below callerA base [] base) (X : (tjCSoBpQsPZBkyzz.heap_39 w.params).In base) (T : Top p9 loose mean mg mb base)
   (m1 : m (Str.ofString "last") = some (.ref x)) (m2 : m (Str.ofString "drained") = some (.ref dl))
   (ord : dx < x ∧ x < dd ∧ dd < oo ∧ oo < dl) (hoff : ∀ q ∈ rest, ∀ b ∈ [x, dx, dd, oo, dl], q.1 ≠ b)
   (lo1 : (dd == sysModules) = false) (lo2 : (oo == sysModules) = false)
   (hE : PassesOwn (model PySem.Challenge.rw_fc0035_02.row.prog w) (callerA.deeper (envOfC (Str.ofString "law") lawScope L fa (.ref 975))) (envOfC (Str.ofString "law") lawScope L fa (.ref 975)) Ex) :
   ∀ (O D : List Int) (od1 od2 : Obj) (n : Int) (tn : Tok) (kvs : List (Int × Value)) (dv : List Value) (dn : Nat) (s : Shared), Fr base L s.heap m → News base L s.heap ((x, instObj 897 dx) :: (dx, lruNs w t1 t2 t3 t4 dd oo n tn r tr) :: (dd, od1) :: (oo, od2) :: (dl, listOf dv.toArray dn) :: rest) →
     LruIs w od1 od2 n O kvs → IntsAre dv D → D.length + O.length ≤ 4 →
     (∀ dv' dn' h' tk', Fr base L h' m → News base L h' ((dl, listOf (List.toArray dv') dn') :: rest) → IntsAre dv' (D ++ O) → Q .next { s with heap := h', toks := tk' }) →
     WhlRest PySem.Challenge.rw_fc0035_02.row.prog w (callerA.deeper (envOfC (Str.ofString "law") lawScope L fa (.ref 975))) Ex (envOfC (Str.ofString "law") lawScope L fa (.ref 975)) drainTest drainBody [] Q 0 s := by
  conv at hE in (occs := *) lawScope => all_goals whnf
  intro O
  induction O with
  | nil =>
    intro D od1 od2 n tn kvs dv dn s F N IL hdv hz hQ
    have hkl : kvs.length = 0 := length_keys IL.2.2.1
    have hd1 := IL.1
    conv in (occs := *) lawScope => all_goals whnf
    conv in (occs := *) drainTest => all_goals whnf
    conv in (occs := *) drainBody => all_goals whnf
    refine whl_turn (k := 0) hE ?_
    repeat' (first | (k_unfold; (try dsimp only)) | ((first | fail_if_success k_end | with_reducible show LeaveK _ _ _ _ _ _ _); (first | walk1 | (dsimp only; walk1) | (leave1; try dsimp only) | fail "no step")))
    refine WhlIf.no (decide_eq_false (by omega)) ?_
    repeat' (first | (k_unfold; (try dsimp only)) | ((first | fail_if_success k_end | with_reducible show LeaveK _ _ _ _ _ _ _); (first | walk1 | (dsimp only; walk1) | (leave1; try dsimp only) | fail "no step")))
    rename News _ _ _ _ => N9
    rename Fr _ _ _ _ => F9
    exact hQ dv dn _ _ F9 (fun q hq => N9 q (.tail _ (.tail _ (.tail _ (.tail _ hq))))) (by rw [List.append_nil]; exact hdv)
  | cons k0 O ih =>
    intro D od1 od2 n tn kvs dv dn s F N IL hdv hz hQ
    simp only [List.length_cons] at hz
    have hkl : kvs.length = O.length + 1 := length_keys IL.2.2.1
    obtain ⟨hd1, ⟨ovs, hd2, ho⟩, hp, hn, hnn⟩ := IL
    have ih' := ih
    conv at ih' in (occs := *) lawScope => all_goals whnf
    conv at ih' in (occs := *) drainTest => all_goals whnf
    conv at ih' in (occs := *) drainBody => all_goals whnf
    conv in (occs := *) lawScope => all_goals whnf
    conv in (occs := *) drainTest => all_goals whnf
    conv in (occs := *) drainBody => all_goals whnf
    refine whl_turn (k := 0) hE ?_
    repeat' (first | (k_unfold; (try dsimp only)) | ((first | fail_if_success k_end | with_reducible show LeaveK _ _ _ _ _ _ _); (first | walk1 | (dsimp only; walk1) | (leave1; try dsimp only) | fail "no step")))
    refine WhlIf.yes (decide_eq_true (by omega)) ?_
    repeat' ((fail_if_success (with_reducible show wpAny _ _ (call (Value.ref 880) _) _ _ _)); first | (k_unfold; (try dsimp only)) | ((first | fail_if_success k_end | with_reducible show LeaveK _ _ _ _ _ _ _); (first | walk1 | (dsimp only; walk1) | (leave1; try dsimp only) | fail "no step")))
    rename News _ _ _ _ => N9
    rename Fr _ _ _ _ => F9
    dsimp only [List.append_nil]
    cases hc : ovs with
    | nil => rw [hc] at ho; cases ho
    | cons f ovs' =>
      obtain ⟨k1, z0⟩ := f
      subst hc
      rw [List.map_cons] at ho
      obtain ⟨e0, ho2⟩ := List.cons.inj ho
      dsimp only at e0
      subst e0
      clear ho
      have hn2 := List.nodup_cons.mp hn
      obtain ⟨u0, hu0⟩ := valueAt_there (hp.mem_iff.mpr (List.Mem.head _))
      have ew : without ((k1, z0) :: ovs') k1 = ovs' := by
        have : without ((k1, z0) :: ovs') k1 = without ovs' k1 := by
          unfold without
          rw [List.filter_cons, if_neg (by simp)]
        rw [this]
        exact PySem.without_of_not_mem ovs' k1 (by rw [ho2]; exact hn2.1)
      have lo' : ovs'.length = O.length := by rw [← ho2]; simp
      refine' use_contract (dp := 1 + claimMargin + 1) (un := 4 + 3) (gd := some []) (env := envOfC (Str.ofString "law") lawScope L fa (.ref 975)) (lru_popitem w x dx dd oo t1 t2 t3 t4 tn tr n r k1 u0 z0 od1 od2 kvs ovs' (Nat.ne_of_gt (by omega)) (Nat.ne_of_lt (by omega)) (Nat.ne_of_lt (by omega)) (Nat.ne_of_lt (by omega)) (Nat.ne_of_lt (by omega)) (Nat.ne_of_lt (by omega)) lo1 lo2 hd1 hd2 hu0 (by rw [hu0]; rfl) (by rw [valueAt_cons, if_pos rfl]; rfl) (by omega) (by rw [List.length_cons]; omega)).toT rfl B F9 X N9 T X T rfl rfl ?d ?u ((dl, listOf dv.toArray dn) :: rest) ?E ?K ?ne ?_
      case d => decide
      case u => decide
      case E => exact fun q hq => List.mem_append_left ((dl, listOf dv.toArray dn) :: rest) hq
      case K => exact fun q hq => .tail _ (.tail _ (.tail _ (.tail _ hq)))
      case ne =>
        intro q hq r' hr'
        simp only [List.mem_cons, List.not_mem_nil, or_false] at hr'
        rcases List.mem_cons.mp hq with rfl | hq
        · rcases hr' with rfl | rfl | rfl | rfl
          · exact Nat.ne_of_gt (show x < dl by omega)
          · exact Nat.ne_of_gt (show dx < dl by omega)
          · exact Nat.ne_of_gt (show dd < dl by omega)
          · exact Nat.ne_of_gt (show oo < dl by omega)
        · rcases hr' with rfl | rfl | rfl | rfl
          · exact hoff q hq x (by simp)
          · exact hoff q hq dx (by simp)
          · exact hoff q hq dd (by simp)
          · exact hoff q hq oo (by simp)
      intro v1 E1 h1 tk1 F2 N2 ne2 hp1
      obtain ⟨tp, t0, od1', od2', tn', rfl, rfl, q1, q2⟩ := hp1
      rw [ew] at q2
      have hne9 : ∀ q ∈ (dl, listOf dv.toArray dn) :: rest, q.1 ≠ tp := fun q hq => ne2 _ (.head _) q hq
      have N3 : News base L h1 ((tp, { cls := .type "tuple", data := .seq [.int k1 t0, u0].toArray }) :: (x, instObj 897 dx) :: (dx, lruNs w t1 t2 t3 t4 dd oo (n - 1) tn' r tr) :: (dd, od1') :: (oo, od2') :: (dl, listOf dv.toArray dn) :: rest) := fun q hq => N2 q (by
        rcases List.mem_append.mp (show q ∈ [(tp, ({ cls := .type "tuple", data := .seq [.int k1 t0, u0].toArray } : Obj)), (x, instObj 897 dx), (dx, lruNs w t1 t2 t3 t4 dd oo (n - 1) tn' r tr), (dd, od1'), (oo, od2')] ++ ((dl, listOf dv.toArray dn) :: rest) from hq) with h | h
        · exact List.mem_append_right _ h
        · exact List.mem_append_left _ h)
      have hr9 : ∀ q ∈ rest, q.1 ≠ dl := fun q hq => hoff q hq dl (by simp)
      have hr8 : @Ne Nat tp dl := fun e => hne9 _ (.head _) e.symm
      clear N2 ne2 F9 N9
      repeat' (first | (k_unfold; (try dsimp only)) | ((first | fail_if_success k_end | with_reducible show LeaveK _ _ _ _ _ _ _); (first | walk1 | (dsimp only; walk1) | (leave1; try dsimp only) | fail "no step")))
      rename News _ _ _ _ => N7
      rename Fr _ _ _ _ => F7
      rename IntsAre (_ ++ _) _ => hI7
      refine ih' (D ++ [k1]) od1' od2' (n - 1) tn' (without kvs k1) _ _ _ F7 (news_tl N7) ⟨q1, ⟨_, q2, ho2⟩, ?perm, hn2.2, ?num⟩ hI7 ?len ?fin
      case perm =>
        refine perm_of_mem (by rw [keys_without]; exact (hp.nodup_iff.mpr hn).filter _) hn2.2 fun j => ?_
        rw [keys_without, List.mem_filter, hp.mem_iff, List.mem_cons, decide_eq_true_eq]
        exact ⟨fun z => z.1.resolve_left z.2, fun z => ⟨.inr z, fun e => hn2.1 (e ▸ z)⟩⟩
      case num => (rw [hnn, List.length_cons]; omega)
      case len => (rw [List.length_append, List.length_singleton]; omega)
      case fin =>
        intro dv' dn' h' tk' F8 N8 hI8
        exact hQ dv' dn' h' tk' F8 N8 (by rw [List.append_assoc] at hI8; exact hI8)
set_option maxHeartbeats 8000000 in
theorem law_end (w : World) {p9 : Program} {loose : List Str} {mean : ExcName → Option Value} {mg mb : Str → Option Value} {base : Heap} {L : Nat} {fa : Addr} {m : Str → Option Value} {s : Shared} {Q : Flow → Shared → Prop} {Ex : Value → Shared → Prop}
   {x dx dd oo hl ol : Nat} {t1 t2 t3 t4 tn tr : Tok} {n r : Int} {od1 od2 o9 : Obj} {O hs pre os : List Int} {kvs : List (Int × Value)} {hv ov : List Value} {hn on : Nat}
   (B : Below callerA base [] base) (F : Fr base L s.heap m) (X : (tjCSoBpQsPZBkyzz.heap_39 w.params).In base) (T : Top p9 loose mean mg mb base)
   (m1 : m (Str.ofString "last") = some (.ref x)) (m2 : m (Str.ofString "held") = some (.ref hl)) (m3 : m (Str.ofString "order") = some (.ref ol))
   (N : News base L s.heap ((x, instObj 897 dx) :: (dx, lruNs w t1 t2 t3 t4 dd oo n tn r tr) :: (dd, od1) :: (oo, od2) :: (hl, listOf hv.toArray hn) :: (ol, listOf ov.toArray on) :: (973, o9) :: []))
   (ord : dx < x ∧ x < dd ∧ dd < oo ∧ oo < hl ∧ hl < ol ∧ 973 < dx)
   (lo1 : (dd == sysModules) = false) (lo2 : (oo == sysModules) = false) (IL : LruIs w od1 od2 n O kvs) (hhs : IntsAre hv hs) (hos : IntsAre ov os) (hlen : hs.length = O.length) (hpre : os = pre ++ O) (hz : O.length ≤ 4) (hz2 : os.length ≤ 20)
   (hE : PassesOwn (model PySem.Challenge.rw_fc0035_02.row.prog w) (callerA.deeper (envOfC (Str.ofString "law") lawScope L fa (.ref 975))) (envOfC (Str.ofString "law") lawScope L fa (.ref 975)) Ex)
   (hQ : ∀ h' tk' m', Fr base L h' m' → News base L h' [(973, o9)] → Q (.ret (.bool true)) { s with heap := h', toks := tk' }) :
   wpAny (model PySem.Challenge.rw_fc0035_02.row.prog w) (callerA.deeper (envOfC (Str.ofString "law") lawScope L fa (.ref 975))) (execs (lawBody.drop 12) (envOfC (Str.ofString "law") lawScope L fa (.ref 975))) Q Ex s := by
  have hoz : os.length = pre.length + O.length := by rw [hpre, List.length_append]
  conv in (occs := *) lawScope => all_goals whnf
  conv in List.drop 12 lawBody => whnf
  repeat' ((fail_if_success (with_reducible show wpAny _ _ (exec (PySem.Stmt.While _ _ _ _) _) _ _ _)); first | (k_unfold; (try dsimp only)) | ((first | fail_if_success k_end | with_reducible show LeaveK _ _ _ _ _ _ _); (first | walk1 | (dsimp only; walk1) | (leave1; try dsimp only) | fail "no step")))
  rename News _ _ _ _ => N9
  rename Fr _ _ _ _ => F9
  rename _ ∧ _ => l9
  rename_i dl h9a h9b
  have N8 : News base L _ ((x, instObj 897 dx) :: (dx, lruNs w t1 t2 t3 t4 dd oo n tn r tr) :: (dd, od1) :: (oo, od2) :: (dl, listOf ([] : List Value).toArray 0) :: (hl, listOf hv.toArray hn) :: (ol, listOf ov.toArray on) :: (973, o9) :: []) := fun q hq => N9 q (by
    rcases List.mem_append.mp (show q ∈ [(x, instObj 897 dx), (dx, lruNs w t1 t2 t3 t4 dd oo n tn r tr), (dd, od1), (oo, od2)] ++ ([(dl, listOf ([] : List Value).toArray 0)] ++ [(hl, listOf hv.toArray hn), (ol, listOf ov.toArray on), (973, o9)]) from hq) with h | h
    · exact .tail _ (List.mem_append_left [(hl, listOf hv.toArray hn), (ol, listOf ov.toArray on), (973, o9)] h)
    · rcases List.mem_append.mp h with h | h
      · rw [List.mem_singleton.mp h]; exact .head _
      · exact .tail _ (List.mem_append_right [(x, instObj 897 dx), (dx, lruNs w t1 t2 t3 t4 dd oo n tn r tr), (dd, od1), (oo, od2)] h))
  refine whl_start 0 ?_
  refine drain_rest w B X T ((if_neg (by decide)).trans m1) (if_pos rfl) ⟨ord.1, ord.2.1, ord.2.2.1, l9.2.2.2.1⟩ ?off lo1 lo2 hE O [] od1 od2 n tn kvs [] _ _ F9 N8 IL .nil (by simpa using hz) ?_
  case off =>
    intro q hq b hb
    simp only [List.mem_cons, List.not_mem_nil, or_false] at hq hb
    rcases hq with rfl | rfl | rfl
    · show hl ≠ b
      omega
    · show ol ≠ b
      omega
    · show 973 ≠ b
      omega
  intro dv' dn' h8 tk8 F7 N7 hI7
  rw [List.nil_append] at hI7
  clear N8 N9
  dsimp only
  repeat' ((fail_if_success (with_reducible show wpAny _ _ (subscriptTail _ _ _ _) _ _ _)); first | (k_unfold; (try dsimp only)) | ((first | fail_if_success k_end | with_reducible show LeaveK _ _ _ _ _ _ _); (first | walk1 | (dsimp only; walk1) | (leave1; try dsimp only) | fail "no step")))
  rename News _ _ _ _ => N6
  rename Fr _ _ _ _ => F6
  k_dflt (refine' kmk_slice_ints F6 N6 (News.isList N6 (.tail _ (.tail _ (.head _)))) (IsPart.int _ _) IsPart.none hos (kmk_from hos ?sg) (List.length_drop ..) ?_ ?s ?t ?z)
  case sg => omega
  case s => with_unfolding_all rfl
  case t => (intro _; with_unfolding_all rfl)
  case z => (rw [sizeLine_eq, List.size_toArray, hos.length]; omega)
  intro D5 ws5 h5 F5 N5 _ hI5 _ _
  repeat' ((fail_if_success (with_reducible show wpAny _ _ (compareOp CmpOp.Eq _ _) _ _ _)); first | (k_unfold; (try dsimp only)) | ((first | fail_if_success k_end | with_reducible show LeaveK _ _ _ _ _ _ _); (first | walk1 | (dsimp only; walk1) | (leave1; try dsimp only) | fail "no step")))
  refine eq_intsK (News.isList N5 (.tail _ (.head _))) hI7 (News.isList N5 (.head _)) hI5 (show 4 + 3 + 64 < cLine by decide) ?_
  repeat' (first | (k_unfold; (try dsimp only)) | ((first | fail_if_success k_end | with_reducible show LeaveK _ _ _ _ _ _ _); (first | walk1 | (dsimp only; walk1) | (leave1; try dsimp only) | fail "no step")))
  have e5 : decide (O = os.drop ((os.length : Int) - (hs.length : Int)).toNat) = true := by
    rw [decide_eq_true_eq, hpre, show (((pre ++ O).length : Int) - (hs.length : Int)).toNat = pre.length by rw [List.length_append]; omega, List.drop_left]
  rw [e5]
  exact hQ _ _ _ F5 (fun q hq => by rw [List.mem_singleton.mp hq]; exact N5 _ (by k_mem))
end
set_option maxHeartbeats 8000000 in
theorem law_loop (w : World) {p9 : Program} {loose : List Str} {mean : ExcName → Option Value} {mg mb : Str → Option Value} {base : Heap} {fa : Addr} {m : Str → Option Value} {s : Shared} {Q : Flow → Shared → Prop} {Ex : Value → Shared → Prop}
   {qual : Str} {L x dx dd oo y dy ed ii kk f2 c' wl sp ld hl ol rr : Nat} {t1 t2 t3 t4 tn tr u1 u2 u3 u4 u5 u6 un9 ur tr2 t7 t9 ta tb tc : Tok} {r q0 : Int} {wn : Nat} {od1 od2 oe1 oe2 ob o1 o2 o3 o9 oc : Obj} {cvs : Array Value} {doc pm ctv : Value} {ws : List Int} {wv : List Value} {c1 : Option Value}
   (B : Below callerA base [] base) (F : Fr base L s.heap m) (X : (tjCSoBpQsPZBkyzz.heap_39 w.params).In base) (T : Top p9 loose mean mg mb base) (l0 : 973 < L)
   (m1 : m (Str.ofString "last") = some (.ref x)) (m2 : m (Str.ofString "ahead") = some (.ref y)) (m3 : m (Str.ofString "loaded") = some (.ref ld)) (m4 : m (Str.ofString "room") = some (.int r tr2)) (m5 : m (Str.ofString "held") = some (.ref hl)) (m6 : m (Str.ofString "order") = some (.ref ol))
   (N : News base L s.heap ((ol, listOf #[] 0) :: (hl, listOf #[] 0) :: (ld, ob) :: (kk, listOf #[] 0) :: (ii, oe2) :: (ed, oe1) :: (y, instObj 955 dy) :: (dy, rrNs w u1 u2 u3 u4 u5 u6 ed f2 ii kk 0 un9 r ur) :: (oo, od2) :: (dd, od1) :: (x, instObj 897 dx) :: (dx, lruNs w t1 t2 t3 t4 dd oo 0 tn r tr) :: (f2, fnMade (Str.ofString "choice") qual choiceArgs choiceBody choiceScope [(Str.ofString "walk", L + 1 + 1 + 1), (Str.ofString "spot", L + 1 + 1)] doc pm c' ctv) :: (c', oc) :: (sp, listOf #[.int q0 t7] 0) :: (wl, listOf wv.toArray wn) :: (L + 1 + 1 + 1, o3) :: (L + 1 + 1, o2) :: (L + 1, o1) :: (973, o9) :: []))
   (ord : L + 1 + 1 + 1 < wl ∧ wl < sp ∧ sp < c' ∧ c' < f2 ∧ f2 < dx ∧ dx < x ∧ x < dd ∧ dd < oo ∧ oo < dy ∧ dy < y ∧ y < ed ∧ ed < ii ∧ ii < kk ∧ kk < ld) (ord2 : ld < hl ∧ hl < ol)
   (lo1 : (dd == sysModules) = false) (lo2 : (oo == sysModules) = false) (lo3 : (ed == sysModules) = false) (lo4 : (ii == sysModules) = false) (lo5 : (ld == sysModules) = false)
   (hd1 : od1.IsDictOf (intKind PySem.Challenge.rw_fc0035_02.row.prog w) []) (hd2 : od2.IsDictOf (intKind PySem.Challenge.rw_fc0035_02.row.prog w) []) (hd3 : oe1.IsDictOf (intKind PySem.Challenge.rw_fc0035_02.row.prog w) []) (hd4 : oe2.IsDictOf (intKind PySem.Challenge.rw_fc0035_02.row.prog w) []) (hd5 : ob.IsDictOf (intKind PySem.Challenge.rw_fc0035_02.row.prog w) [])
   (d1 : o1.data = .cell c1) (d2 : o2.data = .cell (some (.ref sp))) (d3 : o3.data = .cell (some (.ref wl))) (hd : oc.data = .fields cvs) (hv : cvs[1]? = some (.str qual t9))
   (hr1 : 1 ≤ r) (hr4 : r ≤ 4) (hwl : 1 ≤ ws.length) (hz : ws.length ≤ 13) (hws : IntsAre wv ws) (hst : Steps ws) (hR : IsRange s.heap rr 0 (ws.length : Int) 1 ta tb tc)
   {Q0 : Flow → Shared → Prop} (hE : PassesOwn (model PySem.Challenge.rw_fc0035_02.row.prog w) (callerA.deeper (envOfC (Str.ofString "law") lawScope L fa (.ref 975))) (envOfC (Str.ofString "law") lawScope L fa (.ref 975)) Ex)
   (hQn : ∀ s', wpAny (model PySem.Challenge.rw_fc0035_02.row.prog w) (callerA.deeper (envOfC (Str.ofString "law") lawScope L fa (.ref 975))) (execs (lawBody.drop 12) (envOfC (Str.ofString "law") lawScope L fa (.ref 975))) Q0 Ex s' → Q .next s')
   (hQ0 : ∀ h' tk' m', Fr base L h' m' → News base L h' [(973, o9)] → Q0 (.ret (.bool true)) { s with heap := h', toks := tk' }) :
   wpAny (model PySem.Challenge.rw_fc0035_02.row.prog w) (callerA.deeper (envOfC (Str.ofString "law") lawScope L fa (.ref 975))) (pyIter (.ref rr)) (fun it s₂ => LoopAtV PySem.Challenge.rw_fc0035_02.row.prog w (callerA.deeper (envOfC (Str.ofString "law") lawScope L fa (.ref 975))) base (envOfC (Str.ofString "law") lawScope L fa (.ref 975)) (Str.ofString "place") loopBody Q Ex it s₂) Ex s := by
  have N2 : News base L s.heap ((x, instObj 897 dx) :: (dx, lruNs w t1 t2 t3 t4 dd oo 0 tn r tr) :: (dd, od1) :: (oo, od2) :: (y, instObj 955 dy) :: (dy, rrNs w u1 u2 u3 u4 u5 u6 ed f2 ii kk 0 un9 r ur) :: (ed, oe1) :: (ii, oe2) :: (kk, listOf ([] : List Value).toArray 0) :: (f2, fnMade (Str.ofString "choice") qual choiceArgs choiceBody choiceScope [(Str.ofString "walk", L + 1 + 1 + 1), (Str.ofString "spot", L + 1 + 1)] doc pm c' ctv) :: (c', oc) :: (L + 1 + 1 + 1, o3) :: (L + 1 + 1, o2) :: (wl, listOf wv.toArray wn) :: (sp, listOf [.int q0 t7].toArray 0) :: (ld, ob) :: (L + 1, o1) :: (hl, listOf ([] : List Value).toArray 0) :: (ol, listOf ([] : List Value).toArray 0) :: (973, o9) :: []) := by
    intro q hq
    refine N q ?_
    repeat' (first | (rcases List.mem_cons.mp hq with rfl | hq))
    all_goals first | k_mem | cases hq
  refine range_gen (n := ws.length) (J2 w L x dx dd oo y dy ed ii kk f2 c' wl sp ld t1 t2 t3 t4 tr u1 u2 u3 u4 u5 u6 ur tr2 r qual doc pm ctv oc o2 o3 o9 wv wn ws r.toNat) rfl hR ?hs ?hn F N2 ?init ?turn ?done
  case hs => exact small_one (by omega) (by omega) (by omega) (by omega)
  case hn => (rw [rangeSize_one]; split <;> omega)
  case init =>
    refine ⟨0, 0, q0, tn, un9, od1, od2, oe1, oe2, ob, o1, c1, [], [.int q0 t7], [], [], 0, 0, 0, 0, hl, ol, [], [], [], [], [], [], [], [], rfl, ⟨m1, m2, m3, m4, m5, m6⟩, ord2.1, ord2.2, d1, .cons q0 t7 .nil,
      ⟨hd1, ⟨[], hd2, rfl⟩, List.Perm.refl _, List.nodup_nil, rfl⟩, ⟨hd3, ⟨[], hd4, List.Perm.refl _, fun i j h => by simp at h⟩, .nil, List.Perm.refl _, List.nodup_nil, rfl⟩, hd5, ?inv, ⟨by simp, fun _ j h => h, fun j h => h⟩, (fun j h => nomatch h), (fun j h => nomatch h), .nil, rfl, .nil, rfl, Nat.le_refl _, Nat.le_refl _⟩
    exact ⟨List.nodup_nil, List.nodup_nil, rfl, Nat.zero_le _, fun _ => rfl, (fun q h => nomatch h), fun k _ => Iff.rfl⟩
  case turn =>
    intro i t m₁ nx h tk own hi hoff hJ F1 N1
    exact law_turn w (s := { s with heap := h, toks := tk }) B X T l0 ord lo1 lo2 lo3 lo4 lo5 d2 d3 hd hv (by omega) (by omega) (by omega) hz hws hst hi hoff hJ F1 N1
  case done =>
    intro m₁ nx h tk hJ F1 N1
    obtain ⟨n, n2, q9, tn, un9, od1, od2, oe1, oe2, ob, o1, c1, vs, spv, hv9, ov, nl, sn, hn, on, hl, ol, O, M, hs, os, pre, kvs, kws, lds, rfl, ⟨e1, e2, e3, e4, e5, e6⟩, hl1, hl2, d1, hsp, IL, IR, hb, I, H, V1, V2, hhs, hhl, hos, hpre, hoz, hlz⟩ := hJ
    have hro := I.room
    have N3 : News base L h ((x, instObj 897 dx) :: (dx, lruNs w t1 t2 t3 t4 dd oo n tn r tr) :: (dd, od1) :: (oo, od2) :: (hl, listOf hv9.toArray hn) :: (ol, listOf ov.toArray on) :: (973, o9) :: []) := by
      intro q hq
      refine N1 q ?_
      repeat' (first | (rcases List.mem_cons.mp hq with rfl | hq))
      all_goals first | k_mem | cases hq
    refine hQn _ (law_end w (s := { s with heap := h, toks := tk }) B F1 X T e1 e5 e6 N3 (by omega) lo1 lo2 IL hhs hos hhl hpre (by omega) (by omega) hE fun h' tk' m' F2 N2 => hQ0 h' tk' m' F2 N2)
section
local macro_rules | `(tactic| k_room) => `(tactic| ((try simp only [depth_under_make, depth_under_kw, depth_in1, depth_deeper, depth_caller]); (try dsimp only [arO]); omega))
local macro_rules | `(tactic| k_units) => `(tactic| ktr_units)
local macro_rules | `(tactic| walk_at "getAttr ref") => `(tactic| (k_here; k_dflt (refine' get_sm ?k1 ?k2 ?k3 ?k4 (findObj_nondata ?c1 ?c2 ?c3 ?c4 ?c5 ?c6) ?k5 ?k6 ?_; (case k1 => k_asm); (case k2 => k_asm); (case k3 => (refine' InstAt.of_news ?N9 ?h91 ?h92; (case N9 => k_asm); (case h91 => k_memK); (case h92 => k_memK))); (case k4 => k_is); (case c1 => k_is); (case c2 => k_is); (case c3 => k_is); (case c4 => k_is); (case c5 => k_get); (case c6 => decide +kernel); (case k5 => k_is); (case k6 => k_handed); k_whole)))
local macro_rules | `(tactic| walk_at "compareOp In int ref") => `(tactic| (k_here; k_dflt (first
  | refine kda_in (knd := PySem.intKind _ _) (by k_asm) (by k_mem) (by k_asm) (by k_asm) (intKind_is _ _ _ _) true (by assumption) ?_
  | refine kda_in (knd := PySem.intKind _ _) (by k_asm) (by k_mem) (by k_asm) (by k_asm) (intKind_is _ _ _ _) false (by assumption) ?_)))
local macro_rules | `(tactic| walk_at "compareOp NotIn int ref") => `(tactic| (k_here; k_dflt (first
  | refine kdg_notin (knd := PySem.intKind _ _) (by k_asm) (by k_mem) (by k_asm) (by k_asm) (intKind_is _ _ _ _) true (by assumption) ?_
  | refine kdg_notin (knd := PySem.intKind _ _) (by k_asm) (by k_mem) (by k_asm) (by k_asm) (intKind_is _ _ _ _) false (by assumption) ?_); (try dsimp only [Bool.not_true, Bool.not_false])))
local macro_rules | `(tactic| walk_at "subscriptTail") => `(tactic| (k_here; (with_reducible show wpAny _ _ (subscriptTail _ _ (Value.ref _) (Value.int _ _)) _ _ _); k_dflt (refine kdt_tail (knd := PySem.intKind _ _) (by k_asm) (by k_mem) (by assumption) ?_)))
local macro_rules | `(tactic| walk_at "getItem ref int") => `(tactic| (k_here; k_dflt (refine kdt_getItem (knd := PySem.intKind _ _) (by k_asm) (by k_mem) (by assumption) (intKind_is _ _ _ _) (by assumption) ?_)))
local macro_rules | `(tactic| walk_at "setItem ref int") => `(tactic| (k_here; k_dflt (refine' kda_set (knd := PySem.intKind _ _) ?F ?N ?U ?d (intKind_is _ _ _ _) ?z ?_; (case F => k_asm); (case N => k_asm); (case U => k_updF); (case d => assumption); (case z => (first | exact line100 (by assumption) | exact line100w (by assumption) | exact line100s (by assumption)))); intro h' o' F' N' hd'; (try dsimp only at N')))
local macro_rules | `(tactic| walk_at "delItem ref int") => `(tactic| (k_here; k_dflt (refine' dk_del (knd := PySem.intKind _ _) ?F ?N ?U ?d (intKind_is _ _ _ _) ?v ?z ?_; (case F => k_asm); (case N => k_asm); (case U => k_updF); (case d => assumption); (case v => assumption); (case z => (first | exact line100 (by assumption) | exact line100w (by assumption) | exact line100s (by assumption)))); intro h' o' F' N' hd'; (try dsimp only at N')))
local macro_rules | `(tactic| walk_at "call builtin:dict.pop") => `(tactic| (k_here; (with_reducible show wpAny _ _ (call (Value.builtin "dict.pop") [Value.ref _, Value.int _ _]) _ _ _); k_dflt (refine' dk_pop (knd := PySem.intKind _ _) ?F ?N ?U ?d (intKind_is _ _ _ _) rfl ?v ?z ?_; (case F => k_asm); (case N => k_asm); (case U => k_updF); (case d => assumption); (case v => assumption); (case z => (first | exact line100 (by assumption) | exact line100w (by assumption) | exact line100s (by assumption)))); intro h' o' F' N' hd'; (try dsimp only at N')))
local macro_rules | `(tactic| walk_at "subscriptTail Attribute") => `(tactic| (k_here; (with_reducible show wpAny _ _ (subscriptTail _ _ (Value.ref _) (Value.int _ _)) _ _ _); k_dflt (refine kdt_tail (knd := PySem.intKind _ _) (by k_asm) (by k_mem) (by assumption) ?_)))
local macro_rules | `(tactic| k_enter) => `(tactic| (refine' code_def ?k1 ?k2 ?k3 ?k4 ?k5 ?kA ?kF ?kK ?k6 ?k7 ?k8 ?k9 ?kB ?_ ?c2 ?c3 ?c4 ?c5; (case kA => exact rfl); (case kF => exact rfl); (case kK => first | exact rfl | assumption); (case k1 => k_asm); (case k2 => k_asm); (case k3 => k_asm); (case k4 => k_asm); (case k5 => k_asm); (case k6 => k_is); (case k7 => k_is); (case k8 => k_room); (case k9 => exact BindsTo.of_eq rfl); (case c5 => decide); (case kB => exact locs rfl); (case c2 => exact rfl); (case c3 => exact rfl); (case c4 => exact rfl); k_whole; intro g' L' h' FG' F' N' B' X' T'; (try dsimp only); (try k_lift B'); (try k_fold)))
local macro_rules | `(tactic| walk_at "call ref") => `(tactic| (k_here; k_dflt (refine wpAny_call ?_; k_enter)))
local macro_rules | `(tactic| walk_at "call ref") => `(tactic| (k_here; (with_reducible show wpAny _ _ (call (Value.ref 857) _) _ _ _); k_dflt (refine wpAny_call ?_; (refine' code_def ?k1 ?k2 ?k3 ?k4 ?k5 ?kA ?kF ?kK ?k6 ?k7 ?k8 ?k9 ?kB ?_ ?c2 ?c3 ?c4 ?c5; (case kA => exact rfl); (case kF => exact rfl); (case kK => first | exact rfl | assumption); (case k1 => k_asm); (case k2 => k_asm); (case k3 => k_asm); (case k4 => k_asm); (case k5 => k_asm); (case k6 => k_is); (case k7 => k_is); (case k8 => k_room); (case k9 => exact bind857 _ (by k_in) _ _ (by k_is)); (case c5 => decide); (case kB => exact locs rfl); (case c2 => exact rfl); (case c3 => exact rfl); (case c4 => exact rfl); k_whole; intro g' L' h' FG' F' N' B' X' T'; (try dsimp only); (try k_lift B'); (try k_fold)))))
local macro_rules | `(tactic| walk_at "call ref") => `(tactic| (k_here; (with_reducible show wpAny _ _ (call (Value.ref 865) _) _ _ _); k_dflt (refine wpAny_call ?_; (refine' code_def ?k1 ?k2 ?k3 ?k4 ?k5 ?kA ?kF ?kK ?k6 ?k7 ?k8 ?k9 ?kB ?_ ?c2 ?c3 ?c4 ?c5; (case kA => exact rfl); (case kF => exact rfl); (case kK => first | exact rfl | assumption); (case k1 => k_asm); (case k2 => k_asm); (case k3 => k_asm); (case k4 => k_asm); (case k5 => k_asm); (case k6 => k_is); (case k7 => k_is); (case k8 => k_room); (case k9 => exact bind865 _ (by k_in) _ _ _ (by k_is)); (case c5 => decide); (case kB => exact locs rfl); (case c2 => exact rfl); (case c3 => exact rfl); (case c4 => exact rfl); k_whole; intro g' L' h' FG' F' N' B' X' T'; (try dsimp only); (try k_lift B'); (try k_fold)))))
local macro_rules | `(tactic| walk_at "call ref") => `(tactic| (k_here; (with_reducible show wpAny _ _ (call (Value.ref 873) _) _ _ _); k_dflt (refine wpAny_call ?_; (refine' code_def ?k1 ?k2 ?k3 ?k4 ?k5 ?kA ?kF ?kK ?k6 ?k7 ?k8 ?k9 ?kB ?_ ?c2 ?c3 ?c4 ?c5; (case kA => exact rfl); (case kF => exact rfl); (case kK => first | exact rfl | assumption); (case k1 => k_asm); (case k2 => k_asm); (case k3 => k_asm); (case k4 => k_asm); (case k5 => k_asm); (case k6 => k_is); (case k7 => k_is); (case k8 => k_room); (case k9 => exact bind873 _ (by k_in) _ _ (by k_is)); (case c5 => decide); (case kB => exact locs rfl); (case c2 => exact rfl); (case c3 => exact rfl); (case c4 => exact rfl); k_whole; intro g' L' h' FG' F' N' B' X' T'; (try dsimp only); (try k_lift B'); (try k_fold)))))
local macro_rules | `(tactic| walk_at "call ref") => `(tactic| (k_here; (with_reducible show wpAny _ _ (call (Value.ref 930) _) _ _ _); k_dflt (refine wpAny_call ?_; (refine' code_def ?k1 ?k2 ?k3 ?k4 ?k5 ?kA ?kF ?kK ?k6 ?k7 ?k8 ?k9 ?kB ?_ ?c2 ?c3 ?c4 ?c5; (case kA => exact rfl); (case kF => exact rfl); (case kK => first | exact rfl | assumption); (case k1 => k_asm); (case k2 => k_asm); (case k3 => k_asm); (case k4 => k_asm); (case k5 => k_asm); (case k6 => k_is); (case k7 => k_is); (case k8 => k_room); (case k9 => exact bind930 _ (by k_in) _ _ _ (by k_is)); (case c5 => decide); (case kB => exact locs rfl); (case c2 => exact rfl); (case c3 => exact rfl); (case c4 => exact rfl); k_whole; intro g' L' h' FG' F' N' B' X' T'; (try dsimp only); (try k_lift B'); (try k_fold)))))
local macro_rules | `(tactic| walk_at "call ref") => `(tactic| (k_here; (with_reducible show wpAny _ _ (call (Value.ref 938) _) _ _ _); k_dflt (refine wpAny_call ?_; (refine' code_def ?k1 ?k2 ?k3 ?k4 ?k5 ?kA ?kF ?kK ?k6 ?k7 ?k8 ?k9 ?kB ?_ ?c2 ?c3 ?c4 ?c5; (case kA => exact rfl); (case kF => exact rfl); (case kK => first | exact rfl | assumption); (case k1 => k_asm); (case k2 => k_asm); (case k3 => k_asm); (case k4 => k_asm); (case k5 => k_asm); (case k6 => k_is); (case k7 => k_is); (case k8 => k_room); (case k9 => exact bind938 _ (by k_in) _ _ (by k_is)); (case c5 => decide); (case kB => exact locs rfl); (case c2 => exact rfl); (case c3 => exact rfl); (case c4 => exact rfl); k_whole; intro g' L' h' FG' F' N' B' X' T'; (try dsimp only); (try k_lift B'); (try k_fold)))))
local macro_rules | `(tactic| walk_at "call ref") => `(tactic| (k_here; (with_reducible show wpAny _ _ (call (Value.ref 714) _) _ _ _); k_dflt (refine wpAny_call ?_; (refine' code_def ?k1 ?k2 ?k3 ?k4 ?k5 ?kA ?kF ?kK ?k6 ?k7 ?k8 ?k9 ?kB ?_ ?c2 ?c3 ?c4 ?c5; (case kA => exact rfl); (case kF => exact rfl); (case kK => first | exact rfl | assumption); (case k1 => k_asm); (case k2 => k_asm); (case k3 => k_asm); (case k4 => k_asm); (case k5 => k_asm); (case k6 => k_is); (case k7 => k_is); (case k8 => k_room); (case k9 => exact bind714 _ (by k_in) _ _ _ (by k_is)); (case c5 => decide); (case kB => exact locs rfl); (case c2 => exact rfl); (case c3 => exact rfl); (case c4 => exact rfl); k_whole; intro g' L' h' FG' F' N' B' X' T'; (try dsimp only); (try k_lift B'); (try k_fold)))))
local macro_rules | `(tactic| walk_at "call ref") => `(tactic| (k_here; (with_reducible show wpAny _ _ (call (Value.ref 897) _) _ _ _); k_dflt (refine' call_cls ?k1 ?k2 ?k3 ?k4 ?k5 ?k6 ?_; (case k1 => k_asm); (case k2 => k_asm); (case k3 => k_asm); (case k4 => k_is); (case k5 => k_is); (case k6 => k_is); k_whole; intro x' d' h' F' N' l1 l2; (try k_lt l1); (try k_lt2 l2); (try k_sweep); (refine' code_def ?k1 ?k2 ?k3 ?k4 ?k5 ?kA ?kF ?kK ?k6 ?k7 ?k8 ?k9 ?kB ?_ ?c2 ?c3 ?c4 ?c5; (case kA => exact rfl); (case kF => exact rfl); (case kK => first | exact rfl | assumption); (case k1 => k_asm); (case k2 => k_asm); (case k3 => k_asm); (case k4 => k_asm); (case k5 => k_asm); (case k6 => k_is); (case k7 => k_is); (case k8 => k_room); (case k9 => exact bind849 _ (by k_in) _ _ (by k_is)); (case c5 => decide); (case kB => exact locs rfl); (case c2 => exact rfl); (case c3 => exact rfl); (case c4 => exact rfl); k_whole; intro g' L' h' FG' F' N' B' X' T'; (try dsimp only); (try k_lift B'); (try k_fold)))))
local macro_rules | `(tactic| walk_at "call ref") => `(tactic| (k_here; (with_reducible show wpAny _ _ (call (Value.ref 955) _) _ _ _); k_dflt (refine' call_cls ?k1 ?k2 ?k3 ?k4 ?k5 ?k6 ?_; (case k1 => k_asm); (case k2 => k_asm); (case k3 => k_asm); (case k4 => k_is); (case k5 => k_is); (case k6 => k_is); k_whole; intro x' d' h' F' N' l1 l2; (try k_lt l1); (try k_lt2 l2); (try k_sweep); (refine' code_def ?k1 ?k2 ?k3 ?k4 ?k5 ?kA ?kF ?kK ?k6 ?k7 ?k8 ?k9 ?kB ?_ ?c2 ?c3 ?c4 ?c5; (case kA => exact rfl); (case kF => exact rfl); (case kK => first | exact rfl | assumption); (case k1 => k_asm); (case k2 => k_asm); (case k3 => k_asm); (case k4 => k_asm); (case k5 => k_asm); (case k6 => k_is); (case k7 => k_is); (case k8 => k_room); (case k9 => exact bind914 _ (by k_in) _ _ _ (by k_is)); (case c5 => decide); (case kB => exact locs rfl); (case c2 => exact rfl); (case c3 => exact rfl); (case c4 => exact rfl); k_whole; intro g' L' h' FG' F' N' B' X' T'; (try dsimp only); (try k_lift B'); (try k_fold)))))
local macro_rules | `(tactic| cell_enter) => `(tactic| (refine' call_F ?k1 ?k2 ?k3 ?k4 ?kD ?k6 ?k7 ?k8 ?k9 ?kB ?_ ?c2 ?c3 ?c4 ?c5; (case k1 => with_reducible assumption); (case k2 => with_reducible assumption); (case k3 => with_reducible assumption); (case k4 => with_reducible assumption); (case kD => with_reducible assumption); (case k6 => k_is); (case k7 => k_is); (case k8 => omega); (case k9 => first | exact bind794 _ (Frag.In.keeps (by with_reducible assumption) (fun _ _ e => of_hideAll _ e)) _ _ _ (by k_is) | exact BindsTo.of_eq rfl); (case c5 => decide); (case kB => exact locs rfl); (case c2 => exact rfl); (case c3 => exact rfl); (case c4 => exact rfl); k_whole; intro g' L' h' F' N' B' X' T' D' TT'; (try dsimp only); (try k_fold)))
local macro_rules | `(tactic| walk_at "WhlIf") => `(tactic| first | (refine WhlIf.no (decide_eq_false (by omega)) ?_) | (refine WhlIf.yes (decide_eq_true (by omega)) ?_))
local macro_rules | `(tactic| walk_at "call builtin:dict.pop") => `(tactic| (k_here; (with_reducible show wpAny _ _ (call (Value.builtin "dict.pop") [Value.ref _, Value.int _ _]) _ _ _); k_dflt (refine' dk_pop_missing (knd := PySem.intKind _ _) rfl ?N ?M ?d ?lo (intKind_is _ _ _ _) rfl ?v ?_; (case N => k_asm); (case M => k_mem); (case d => assumption); (case lo => assumption); (case v => assumption)); intro h' e' x'))
local macro_rules | `(tactic| walk_at "getAttr ref") => `(tactic| (k_here; k_dflt (refine' get_cls ?k1 ?k2 ?k3 ?k4 ?k5 ?k6 ?k7 ?k8 ?k9 ?k10 ?_; (case k1 => k_asm); (case k2 => k_asm); (case k3 => (refine' InstAt.of_news ?N9 ?h91 ?h92; (case N9 => k_asm); (case h91 => k_memK); (case h92 => k_memK))); (case k4 => k_is); (case k5 => k_is); (case k6 => k_is); (case k7 => k_is); (case k8 => k_handed); (case k9 => decide +kernel); (case k10 => k_get); k_whole)))
local macro_rules | `(tactic| walk_at "getAttr ref") => `(tactic| (k_here; k_dflt (refine' get_own ?k1 ?k2 ?k3 ?k4 ?k5 ?k6 ?k7 ?k8 ?k9 ?_; (case k1 => k_asm); (case k2 => k_asm); (case k3 => (refine' InstAt.of_news ?N9 ?h91 ?h92; (case N9 => k_asm); (case h91 => k_memK); (case h92 => k_memK))); (case k4 => k_is); (case k5 => k_is); (case k6 => k_is); (case k7 => k_is); (case k8 => k_get); (case k9 => k_handed); k_whole)))
local macro_rules | `(tactic| walk_at "getAttr ref") => `(tactic| (k_here; (with_reducible show wpAny _ _ (getAttr (Value.ref 830) _ _) _ _ _); k_dflt (refine' cls_val ?k1 ?k2 ?k3 ?k4 ?k5 ?k6 ?_; (case k1 => k_asm); (case k2 => k_asm); (case k3 => k_is); (case k4 => k_is); (case k5 => k_is); (case k6 => k_handed); k_whole)))
local macro_rules | `(tactic| walk_at "delItem ref int") => `(tactic| (k_here; (with_reducible show wpAny _ _ (delItem (Value.ref _) _) _ _ _); k_dflt (refine' inst_delItem ?F ?X ?I ?hQ ?hS ?hF ?_; (case I => (refine' InstAt.of_news ?N9 ?h91 ?h92; (case N9 => k_asm); (case h91 => k_memK); (case h92 => k_memK))); (case F => k_asm); (case X => k_asm); (case hS => k_is); (case hF => k_is); (case hQ => k_is); k_whole)))
local macro_rules | `(tactic| walk_at "setItem ref") => `(tactic| (k_here; (with_reducible show wpAny _ _ (setItem (Value.ref _) _ _) _ _ _); k_dflt (refine' ksp_setItem ?F ?X ?I ?hQ ?hS ?hF ?_; (case F => k_asm); (case X => k_asm); (case I => (refine' InstAt.of_news ?N9 ?h91 ?h92; (case N9 => k_asm); (case h91 => k_memK); (case h92 => k_memK))); (case hS => k_is); (case hF => k_is); (case hQ => k_is); k_whole)))
local macro_rules | `(tactic| walk_at "getMethod ref") => `(tactic| (k_here; k_dflt (refine' method_inst ?k1 ?k2 ?k3 ?k4 ?k5 ?k6 ?k7 ?_; (case k3 => (refine' InstAt.of_news ?N9 ?h91 ?h92; (case N9 => k_asm); (case h91 => k_memK); (case h92 => k_memK))); (case k1 => k_asm); (case k2 => k_asm); (case k4 => k_is); (case k5 => k_is); (case k6 => k_is); (case k7 => k_get); k_whole)))
local macro_rules | `(tactic| walk_at "compareOp In") => `(tactic| (k_here; (with_reducible show wpAny _ _ (compareOp CmpOp.In _ (Value.ref _)) _ _ _); k_dflt (refine' in_K ?k1 ?k2 ?k3 ?k4 ?k5 ?_; (case k3 => (refine' InstAt.of_news ?N9 ?h91 ?h92; (case N9 => k_asm); (case h91 => k_memK); (case h92 => k_memK))); (case k1 => k_asm); (case k2 => k_asm); (case k4 => k_is); (case k5 => k_is); k_whole)))
local macro_rules | `(tactic| walk_at "last exec While") => `(tactic| (k_here; k_dflt (refine whl_start 2 ?_)))
local macro_rules | `(tactic| walk_at "exec While") => `(tactic| (k_here; k_dflt (refine whl_start 2 ?_)))
local macro_rules | `(tactic| k_in) => `(tactic| first | with_reducible assumption | exact Frag.In.keeps (by with_reducible assumption) (Fr.keep (by with_reducible assumption)))
local macro_rules | `(tactic| walk_at "callWith ref") => `(tactic| (k_here; (with_reducible show wpAny _ _ (callWith _ (Value.ref _) _ (backTo _ (starEach (_ :: _) _)) []) _ _ _); k_dflt (refine' callWith_K ?k1 ?k2 ?_; (case k1 => with_reducible assumption); (case k2 => k_is); k_whole)))
local macro_rules | `(tactic| walk_at "callWith ref") => `(tactic| (k_here; (with_reducible show wpAny _ _ (callWith _ (Value.ref _) _ (backTo _ (starEach [] _)) []) _ _ _); k_dflt (refine' callWith_K0 ?k1 ?k2 ?_; (case k1 => k_in); (case k2 => k_is); k_whole)))
local macro_rules | `(tactic| walk_at "getMethod ref") => `(tactic| (k_here; (with_reducible show wpAny _ _ (getMethod (Value.ref 830) _ _) _ _ _); k_dflt (refine' method_of_cls ?k1 ?k2 ?k3 ?_; (case k1 => k_asm); (case k2 => k_asm); (case k3 => k_is); k_whole)))
local macro_rules | `(tactic| walk_at "setItem ref int") => `(tactic| (k_here; (with_reducible show wpAny _ _ (setItem (Value.ref _) _ _) _ _ _); k_dflt (refine' ksp_setItem ?F ?X ?I ?hQ ?hS ?hF ?_; (case F => k_asm); (case X => k_asm); (case I => (refine' InstAt.of_news ?N9 ?h91 ?h92; (case N9 => k_asm); (case h91 => k_memK); (case h92 => k_memK))); (case hS => k_is); (case hF => k_is); (case hQ => k_is); k_whole)))
local macro_rules | `(tactic| cell_call) => `(tactic| (refine' call_P ?k1 ?k2 ?k3 ?k4 ?k6 ?k7 ?k8 ?k9 ?kB ?_ ?c2 ?c3 ?c4 ?c5; (case k1 => with_reducible assumption); (case k2 => with_reducible assumption); (case k3 => with_reducible assumption); (case k4 => with_reducible assumption); (case k6 => k_is); (case k7 => k_is); (case k8 => omega); (case k9 => first | exact bind794 _ (Frag.In.keeps (by with_reducible assumption) (fun _ _ e => of_hideAll _ e)) _ _ _ (by k_is) | exact BindsTo.of_eq rfl); (case c5 => decide); (case kB => exact locs rfl); (case c2 => exact rfl); (case c3 => exact rfl); (case c4 => exact rfl); k_whole; intro g' L' h' F' N' B' X' T' TT'; (try dsimp only); (try k_fold)))
local macro_rules | `(tactic| walk_at "subscriptTail") => `(tactic| (k_here; (with_reducible show wpAny _ _ (subscriptTail _ _ (Value.ref _) (Value.int _ _)) _ _ _); k_dflt (refine' item_list_ints_negR ?l9 ?i9 ?a9 ?b9 ?c9 ?_; (case l9 => exact News.isList (by k_asm) (by k_memK)); (case i9 => with_reducible assumption); (case a9 => omega); (case b9 => omega); (case c9 => omega)); intro _))
local macro_rules | `(tactic| walk_at "call builtin:list.pop") => `(tactic| (k_here; (with_reducible show wpAny _ _ (call (Value.builtin _) [Value.ref _]) _ _ _); k_dflt (refine' kpa_pop ?F ?N ?U ?i ?l ?z ?_; (case F => k_asm); (case N => k_asm); (case U => k_upd); (case i => with_reducible assumption); (case l => ((try simp only [List.length_set]); omega)); (case z => (rw [PySem.sizeLine_eq]; (try simp only [List.length_set]); omega))); (intro h' t' F' N' hI'; (try dsimp only [List.nil_append, List.cons_append] at N'))))
local macro_rules | `(tactic| walk_at "call builtin:len") => `(tactic| (k_here; (with_reducible show wpAny _ _ (call (Value.builtin _) [Value.ref _]) _ _ _); k_dflt (refine' len_intsN ?N ?m ?i ?z ?_; (case N => k_asm); (case m => k_memK); (case i => with_reducible assumption); (case z => ((try simp only [List.length_dropLast, List.length_set, List.length_append, List.length_cons, List.length_nil]); omega)))))
local macro_rules | `(tactic| walk_at "call builtin:list.append") => `(tactic| (k_here; (with_reducible show wpAny _ _ (call (Value.builtin _) [Value.ref _, Value.int _ _]) _ _ _); k_dflt (refine' append_ints ?k1 ?k2 ?k3 ?i ?z ?_; (case k1 => k_asm); (case k2 => k_asm); (case k3 => k_upd); (case i => with_reducible assumption); (case z => ((try simp only [List.length_dropLast, List.length_set, List.length_append, List.length_cons, List.length_nil]); omega)); k_whole); intro h' F' N' hI'; (try k_sweep)))
local macro_rules | `(tactic| walk_at "getMethod ref") => `(tactic| (k_here; (with_reducible show wpAny _ _ (getMethod (Value.ref _) (Str.ofString "_RRCache__choice") _) _ _ _); k_dflt (refine' kmu_own ?k1 ?k2 ?k3 ?k4 ?k5 ?_; (case k1 => k_asm); (case k2 => k_asm); (case k3 => (refine' InstAt.of_news ?N9 ?h91 ?h92; (case N9 => k_asm); (case h91 => k_memK); (case h92 => k_memK))); (case k4 => k_is); (case k5 => k_is); k_whole)))
local macro_rules | `(tactic| walk_at "callWith ref") => `(tactic| (k_here; k_dflt (refine' callWith_F ?k1 ?_; (case k1 => exact FnAt.of (by k_asm) (by k_memK)); k_whole)))
local macro_rules | `(tactic| walk_at "And") => `(tactic| ((with_reducible show FnAt _ _ ∧ _); k_dflt (refine ⟨FnAt.of (by k_asm) (by k_memK), ?_⟩); (try dsimp only [List.nil_append, List.cons_append])))
local macro_rules | `(tactic| k_all) => `(tactic| first | with_reducible assumption | exact List.forall_mem_nil _ | (refine List.forall_mem_cons.mpr ⟨by k_ne, ?_⟩; k_all))
local macro_rules | `(tactic| walk_at "compareOp NotIn int ref") => `(tactic| (k_here; k_dflt (refine kdg_notin (knd := PySem.intKind _ _) (by k_asm) (by k_memK) (by k_asm) (by k_asm) (intKind_is _ _ _ _) false (by first | assumption | exact stored_none (by assumption) (by assumption)) ?_); (try dsimp only [Bool.not_true, Bool.not_false])))
local macro_rules | `(tactic| walk_at "eval Name") => `(tactic| (k_here; (with_reducible show wpAny _ _ (eval (Expr.Name (Str.ofString "room") _) _) _ _ _); k_dflt (refine' nameX_L ?F ?v ?_ ?a ?b; (case F => k_asm); (case a => rfl); (case b => rfl); (case v => first | rfl | assumption); k_whole)))
set_option maxHeartbeats 8000000 in
theorem law_main (w : World) {p : Program} {loose : List Str} {mean : ExcName → Option Value} {mg mb : Str → Option Value} {base : Heap} {L wl : Nat} {fa : Addr} {m : Str → Option Value} {s : Shared} {Q : Flow → Shared → Prop} {Ex : Value → Shared → Prop}
   {o1 o2 o3 : Obj} {wv : List Value} {ws : List Int} {wn : Nat} {r : Int} {tr : Tok}
   (B : Below callerA base [] base) (F : Fr base L s.heap m) (X : (tjCSoBpQsPZBkyzz.heap_39 w.params).In base) (T : Top p loose mean mg mb base) (codeHd : CodeHd base 975 973) (l0 : 973 < L)
   (hm : m (Str.ofString "room") = some (.int r tr)) (hr1 : 1 ≤ r) (hr4 : r ≤ 4) (hws : IntsAre wv ws) (hwl : 1 ≤ ws.length) (hwz : ws.length ≤ 13) (hst : Steps ws)
   (N : News base L s.heap [(wl, listOf wv.toArray wn), (L + 1 + 1 + 1, o3), (L + 1 + 1, o2), (L + 1, o1), (973, tabObj #[])])
   (d1 : o1.data = .cell none) (d2 : o2.data = .cell none) (d3 : o3.data = .cell (some (.ref wl))) (l1 : L + 1 + 1 + 1 < wl)
   (hE : PassesOwn (model PySem.Challenge.rw_fc0035_02.row.prog w) (callerA.deeper (envOfC (Str.ofString "law") lawScope L fa (.ref 975))) (envOfC (Str.ofString "law") lawScope L fa (.ref 975)) Ex)
   (hQ : ∀ h' tk' m' tb, Fr base L h' m' → News base L h' [(973, tabObj tb)] → Q (.ret (.bool true)) { s with heap := h', toks := tk' }) :
   wpAny (model PySem.Challenge.rw_fc0035_02.row.prog w) (callerA.deeper (envOfC (Str.ofString "law") lawScope L fa (.ref 975))) (execs (lawBody.drop 4) (envOfC (Str.ofString "law") lawScope L fa (.ref 975))) Q Ex s := by
  have hE9 := hE
  conv at hE in (occs := *) lawScope => all_goals whnf
  conv in (occs := *) lawScope => all_goals whnf
  conv in List.drop 4 lawBody => whnf
  repeat' ((fail_if_success (with_reducible show wpAny _ _ (execs (PySem.Stmt.For _ _ _ _ _ :: _) _) _ _ _)); first | (k_unfold; (try dsimp only)) | (k_end; wrow_close) | walk1 | (dsimp only; walk1) | (leave1; try dsimp only) | fail "no step")
  repeat' ((fail_if_success (with_reducible show wpAny _ _ (exec (PySem.Stmt.For _ _ _ _ _) _) _ _ _)); walk1)
  with_unfolding_all refine' For_invV base ?k1 ?k2 ?_ ?k3 hE
  case k1 => exact rfl
  case k2 => exact rfl
  case k3 => (intro _; with_unfolding_all rfl)
  repeat' ((fail_if_success (with_reducible show wpAny _ _ (pyIter _) _ _ _)); first | (k_unfold; (try dsimp only)) | ((fail_if_success k_end); (first | walk1 | (dsimp only; walk1) | (leave1; try dsimp only) | fail "no step")))
  rename IsRange _ _ _ _ _ _ _ _ => hR9
  rename News _ _ _ _ => N9
  rename Fr _ _ _ _ => F9
  refine' law_loop w B F9 X T l0 ?m1 ?m2 ?m3 ?m4 ?m5 ?m6 N9 ?ord ?ord2 ?lo1 ?lo2 ?lo3 ?lo4 ?lo5 ?hd1 ?hd2 ?hd3 ?hd4 ?hd5 d1 ?d2 d3 ?e1 ?e2 hr1 hr4 hwl hwz hws hst hR9 (Q0 := Q) hE9 (fun s' h => h) (fun h' tk' m' F2 N2 => hQ h' tk' m' _ F2 N2)
  case m1 => with_unfolding_all exact rfl
  case m2 => with_unfolding_all exact rfl
  case m3 => with_unfolding_all exact rfl
  case m4 => with_unfolding_all exact hm
  case m5 => with_unfolding_all exact rfl
  case m6 => with_unfolding_all exact rfl
  case lo1 => with_reducible assumption
  case lo2 => with_reducible assumption
  case lo3 => with_reducible assumption
  case lo4 => with_reducible assumption
  case lo5 => with_reducible assumption
  case hd1 => with_reducible assumption
  case hd2 => with_reducible assumption
  case hd3 => with_reducible assumption
  case hd4 => with_reducible assumption
  case hd5 => with_reducible assumption
  case d2 => with_reducible assumption
  case e1 => with_reducible assumption
  case e2 => with_reducible assumption
  case ord => refine ⟨?_, ?_, ?_, ?_, ?_, ?_, ?_, ?_, ?_, ?_, ?_, ?_, ?_, ?_⟩ <;> (refine ltN ?_; omega)
  case ord2 => refine ⟨?_, ?_⟩ <;> (refine ltN ?_; omega)
def walkStep (ws : List Int) (n : Int) : List Int := ws ++ [ws.getD (-1 + (ws.length : Int)).toNat 0 + n.fmod 3 - 1]
def walkOf (x0 : Int) (ns : List Int) : List Int := ns.foldl walkStep [x0]
theorem walkOf_snoc {x0 n : Int} {ns : List Int} : walkOf x0 (ns ++ [n]) = walkStep (walkOf x0 ns) n := by simp [walkOf]
theorem walkOf_length {x0 : Int} {ns : List Int} : (walkOf x0 ns).length = ns.length + 1 := by
  have : ∀ (ns : List Int) (ws : List Int), (ns.foldl walkStep ws).length = ns.length + ws.length := by
    intro ns
    induction ns with
    | nil => intro ws; simp
    | cons a r ih => intro ws; rw [List.foldl_cons, ih]; simp [walkStep]; omega
  rw [walkOf, this]; simp
theorem getD_left {l l' : List Int} {i : Nat} (h : i < l.length) : (l ++ l').getD i 0 = l.getD i 0 := by
  simp only [List.getD_eq_getElem?_getD]
  rw [List.getElem?_append_left h]
theorem getD_end {l : List Int} {a : Int} {i : Nat} (h : i = l.length) : (l ++ [a]).getD i 0 = a := by
  subst h
  simp
theorem steps_snoc {ws : List Int} {n : Int} (h : Steps ws) (h0 : 0 < ws.length) : Steps (walkStep ws n) := by
  intro i hi
  unfold walkStep at hi ⊢
  rw [List.length_append, List.length_singleton] at hi
  rcases Nat.lt_or_ge (i + 1) ws.length with q | q
  · rw [getD_left q, getD_left (by omega)]
    exact h i q
  · have e : i + 1 = ws.length := by omega
    rw [getD_end e, getD_left (by omega), show (-1 + (ws.length : Int)).toNat = i by omega]
    have a := Int.fmod_nonneg_of_pos n (b := 3) (by decide)
    have b := Int.fmod_lt_of_pos n (b := 3) (by decide)
    omega
theorem walk_steps {x0 : Int} {ns : List Int} : Steps (walkOf x0 ns) := by
  have gen : ∀ (ns : List Int) (ws : List Int), Steps ws → 0 < ws.length → Steps (ns.foldl walkStep ws) := by
    intro ns
    induction ns with
    | nil => intro ws h _; exact h
    | cons a r ih =>
      intro ws h h0
      rw [List.foldl_cons]
      exact ih _ (steps_snoc h h0) (by unfold walkStep; simp)
  exact gen ns [x0] (fun i hi => by simp at hi) (by simp)
set_option maxHeartbeats 8000000 in
theorem law_numbers (w : World) {p : Program} {loose : List Str} {mean : ExcName → Option Value} {mg mb : Str → Option Value} {base : Heap} {L wl nl : Nat} {fa : Addr} {m : Str → Option Value} {s : Shared} {Q : Flow → Shared → Prop} {Ex : Value → Shared → Prop}
   {o1 o2 o3 : Obj} {wv nvs : List Value} {ns : List Int} {x0 : Int} {wn nn : Nat} {r : Int} {tr : Tok}
   (B : Below callerA base [] base) (F : Fr base L s.heap m) (X : (tjCSoBpQsPZBkyzz.heap_39 w.params).In base) (T : Top p loose mean mg mb base) (codeHd : CodeHd base 975 973) (l0 : 973 < L)
   (hm : m (Str.ofString "room") = some (.int r tr)) (hm2 : m (Str.ofString "numbers") = some (.ref nl)) (hr1 : 1 ≤ r) (hr4 : r ≤ 4) (hwv : IntsAre wv [x0]) (hns : IntsAre nvs ns) (hnz : ns.length ≤ 12)
   (N : News base L s.heap [(wl, listOf wv.toArray wn), (nl, listOf nvs.toArray nn), (L + 1 + 1 + 1, o3), (L + 1 + 1, o2), (L + 1, o1), (973, tabObj #[])])
   (d1 : o1.data = .cell none) (d2 : o2.data = .cell none) (d3 : o3.data = .cell (some (.ref wl))) (l1 : L + 1 + 1 + 1 < wl) (l2 : L + 1 + 1 + 1 < nl) (l3 : nl < wl)
   (hE : PassesOwn (model PySem.Challenge.rw_fc0035_02.row.prog w) (callerA.deeper (envOfC (Str.ofString "law") lawScope L fa (.ref 975))) (envOfC (Str.ofString "law") lawScope L fa (.ref 975)) Ex)
   (hQ : ∀ h' tk' m' tb, Fr base L h' m' → News base L h' [(973, tabObj tb)] → Q (.ret (.bool true)) { s with heap := h', toks := tk' }) :
   wpAny (model PySem.Challenge.rw_fc0035_02.row.prog w) (callerA.deeper (envOfC (Str.ofString "law") lawScope L fa (.ref 975))) (execs (lawBody.drop 3) (envOfC (Str.ofString "law") lawScope L fa (.ref 975))) Q Ex s := by
  conv at hE in (occs := *) lawScope => all_goals whnf
  conv in (occs := *) lawScope => all_goals whnf
  conv in List.drop 3 lawBody => whnf
  walk1
  with_unfolding_all refine' For_invV base ?k1 ?k2 ?_ ?k3 hE
  case k1 => exact rfl
  case k2 => exact rfl
  case k3 => (intro _; with_unfolding_all rfl)
  k_dflt (refine' nameX_L ?F ?v ?_ ?a ?b; (case F => k_asm); (case a => rfl); (case b => rfl); (case v => assumption))
  refine' kst_listL (σ := List Value × List Int × Nat) (nn := nn) (fun c => [(wl, listOf c.1.toArray c.2.2), (nl, listOf nvs.toArray nn), (L + 1 + 1 + 1, o3), (L + 1 + 1, o2), (L + 1, o1), (973, tabObj #[])]) (fun _ => [(Str.ofString "room", .int r tr)]) (fun c => IntsAre c.1 c.2.1) [] (fun pre c => c.2.1 = walkOf x0 pre) (wv, [x0], wn) rfl ?hl hns F N hwv ?hk rfl ?turn ?done
  case hl => exact fun _ => .tail _ (.head _)
  case hk =>
    intro q hq
    rw [List.mem_singleton.mp hq]
    exact hm
  case turn =>
    intro c pre post n t u h tk own hpre hmem hoff hf hp F' N'
    simp only [List.cons_append, List.nil_append] at N'
    have z : c.2.1.length = pre.length + 1 := by rw [hp]; exact walkOf_length
    have z2 : pre.length + 1 ≤ 12 := by rw [hpre] at hnz; simp at hnz; omega
    repeat' (first | (k_unfold; (try dsimp only)) | ((fail_if_success k_end); (first | walk1 | (dsimp only; walk1) | (leave1; try dsimp only) | fail "no step")))
    rename IntsAre (_ ++ _) _ => hI9
    refine' kst_end (_, walkStep c.2.1 n, c.2.2 + 1) (by with_reducible assumption) (by with_reducible assumption) ?hn ?ho rfl hI9 ?hk ?hr ?hp
    case hn => exact fun q hq => List.mem_append_left own hq
    case ho => exact fun q hq => List.mem_append_right [_, _, _, _, _, _] hq
    case hk =>
      intro q hq
      rw [List.mem_singleton.mp hq]
      rfl
    case hr =>
      intro z h1 h2 h3
      show (if z = _ then _ else (if z = _ then _ else _)) = _
      rw [if_neg h1, if_neg (h2 _ (.head _))]
      rfl
    case hp =>
      show walkStep c.2.1 n = _
      rw [hp, walkOf_snoc]
  case done =>
    intro c u h tk hf hp F' N'
    have z := @walkOf_length x0 ns
    exact law_main w B F' X T codeHd l0 rfl hr1 hr4 hf (by rw [hp, z]; omega) (by rw [hp, z]; omega) (hp ▸ walk_steps) (news5 N' (by k_mem) (by k_mem) (by k_mem) (by k_mem) (by k_mem)) d1 d2 d3 l1 hE (fun h' tk' m' tb F9 N9 => hQ h' tk' m' tb F9 N9)
theorem fm4 (n : Int) : 1 ≤ 1 + n.fmod 4 ∧ 1 + n.fmod 4 ≤ 4 := by
  have a := Int.fmod_nonneg_of_pos n (b := 4) (by decide)
  have b := Int.fmod_lt_of_pos n (b := 4) (by decide)
  omega
set_option maxHeartbeats 16000000 in
theorem law_all : PySem.Challenge.rw_fc0035_02.Holds := tjCSoBpQsPZBkyzz (by
  k_go0
  repeat' ((fail_if_success (with_reducible show wpAny _ _ (execs (PySem.Stmt.For _ _ _ _ _ :: _) _) _ _ _)); first | (k_unfold; (try dsimp only)) | (k_end; wrow_close) | walk1 | (dsimp only; walk1) | (leave1; try dsimp only) | fail "no step")
  · rename News _ _ _ _ => N9
    rename Fr _ _ _ _ => F9
    refine' law_numbers _ (by with_reducible assumption) F9 (by with_reducible assumption) (by with_reducible assumption) (by with_reducible assumption) (by with_reducible assumption) ?hm ?hm2 ?hr1 ?hr4 ?hwv ?hns ?hnz N9 ?d1 ?d2 ?d3 ?l1 ?l2 ?l3 ?hE ?hQ
    case hm => with_unfolding_all exact rfl
    case hm2 => with_unfolding_all exact rfl
    case hr1 => exact (fm4 _).1
    case hr4 => exact (fm4 _).2
    case hwv => exact .cons _ _ .nil
    case hns => first | with_reducible assumption | exact .cons _ _ (.cons _ _ (.cons _ _ (.cons _ _ (.cons _ _ (.cons _ _ .nil)))))
    case hnz => first | decide | (simp only [List.length_take, List.length_drop]; omega)
    case d1 => assumption
    case d2 => assumption
    case d3 => with_reducible assumption
    case l1 => (refine ltN ?_; omega)
    case l2 => (refine ltN ?_; omega)
    case l3 => (refine ltN ?_; omega)
    case hE => with_unfolding_all passes_own
    case hQ =>
      intro h5 tk5 m5 tb5 F5 N5
      repeat' (first | (k_unfold; (try dsimp only)) | (k_end; wrow_close) | walk1 | (dsimp only; walk1) | (leave1; try dsimp only) | fail "no step")
  · rename News _ _ _ _ => N9
    rename Fr _ _ _ _ => F9
    refine' law_numbers _ (by with_reducible assumption) F9 (by with_reducible assumption) (by with_reducible assumption) (by with_reducible assumption) (by with_reducible assumption) ?hm ?hm2 ?hr1 ?hr4 ?hwv ?hns ?hnz N9 ?d1 ?d2 ?d3 ?l1 ?l2 ?l3 ?hE ?hQ
    case hm => with_unfolding_all exact rfl
    case hm2 => with_unfolding_all exact rfl
    case hr1 => exact (fm4 _).1
    case hr4 => exact (fm4 _).2
    case hwv => exact .cons _ _ .nil
    case hns => first | with_reducible assumption | exact .cons _ _ (.cons _ _ (.cons _ _ (.cons _ _ (.cons _ _ (.cons _ _ .nil)))))
    case hnz => first | decide | (simp only [List.length_take, List.length_drop]; omega)
    case d1 => assumption
    case d2 => assumption
    case d3 => with_reducible assumption
    case l1 => (refine ltN ?_; omega)
    case l2 => (refine ltN ?_; omega)
    case l3 => (refine ltN ?_; omega)
    case hE => with_unfolding_all passes_own
    case hQ =>
      intro h5 tk5 m5 tb5 F5 N5
      repeat' (first | (k_unfold; (try dsimp only)) | (k_end; wrow_close) | walk1 | (dsimp only; walk1) | (leave1; try dsimp only) | fail "no step")
  · rename News _ _ _ _ => N9
    rename Fr _ _ _ _ => F9
    refine' law_numbers _ (by with_reducible assumption) F9 (by with_reducible assumption) (by with_reducible assumption) (by with_reducible assumption) (by with_reducible assumption) ?hm ?hm2 ?hr1 ?hr4 ?hwv ?hns ?hnz N9 ?d1 ?d2 ?d3 ?l1 ?l2 ?l3 ?hE ?hQ
    case hm => with_unfolding_all exact rfl
    case hm2 => with_unfolding_all exact rfl
    case hr1 => exact (fm4 _).1
    case hr4 => exact (fm4 _).2
    case hwv => exact .cons _ _ .nil
    case hns => first | with_reducible assumption | exact .cons _ _ (.cons _ _ (.cons _ _ (.cons _ _ (.cons _ _ (.cons _ _ .nil)))))
    case hnz => first | decide | (simp only [List.length_take, List.length_drop]; omega)
    case d1 => assumption
    case d2 => assumption
    case d3 => with_reducible assumption
    case l1 => (refine ltN ?_; omega)
    case l2 => (refine ltN ?_; omega)
    case l3 => (refine ltN ?_; omega)
    case hE => with_unfolding_all passes_own
    case hQ =>
      intro h5 tk5 m5 tb5 F5 N5
      repeat' (first | (k_unfold; (try dsimp only)) | (k_end; wrow_close) | walk1 | (dsimp only; walk1) | (leave1; try dsimp only) | fail "no step")
  · rename News _ _ _ _ => N9
    rename Fr _ _ _ _ => F9
    refine' law_numbers _ (by with_reducible assumption) F9 (by with_reducible assumption) (by with_reducible assumption) (by with_reducible assumption) (by with_reducible assumption) ?hm ?hm2 ?hr1 ?hr4 ?hwv ?hns ?hnz N9 ?d1 ?d2 ?d3 ?l1 ?l2 ?l3 ?hE ?hQ
    case hm => with_unfolding_all exact rfl
    case hm2 => with_unfolding_all exact rfl
    case hr1 => exact (fm4 _).1
    case hr4 => exact (fm4 _).2
    case hwv => exact .cons _ _ .nil
    case hns => first | with_reducible assumption | exact .cons _ _ (.cons _ _ (.cons _ _ (.cons _ _ (.cons _ _ (.cons _ _ .nil)))))
    case hnz => first | decide | (simp only [List.length_take, List.length_drop]; omega)
    case d1 => assumption
    case d2 => assumption
    case d3 => with_reducible assumption
    case l1 => (refine ltN ?_; omega)
    case l2 => (refine ltN ?_; omega)
    case l3 => (refine ltN ?_; omega)
    case hE => with_unfolding_all passes_own
    case hQ =>
      intro h5 tk5 m5 tb5 F5 N5
      repeat' (first | (k_unfold; (try dsimp only)) | (k_end; wrow_close) | walk1 | (dsimp only; walk1) | (leave1; try dsimp only) | fail "no step")
)
end
end Mine
set_option maxHeartbeats 8000000 in
theorem PySem.Challenge.cw_fc0035_02_holds : PySem.Challenge.rw_fc0035_02.Holds :=
  Mine.law_all
