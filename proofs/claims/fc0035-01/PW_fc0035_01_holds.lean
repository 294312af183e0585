import PyProof.Rows.All
import Wide.All
import OpenK.AllK
import Wide.FinOn
import PySem.Challenge.RW_fc0035_01
open PySem PySem.W PyProof.Rows
set_option Elab.async false
set_option maxRecDepth 100000
set_option rowWalk.seconds 0
set_option linter.unusedVariables false
set_option linter.unusedSimpArgs false
namespace Mine
set_option maxHeartbeats 8000000 in
open_top tjCSoBpQsPZBkyzz for PySem.Challenge.rw_fc0035_01
open PySem.Calls PySem.Spec PyProof.V
theorem fill_up : (tjCSoBpQsPZBkyzz.heap_39 = tjCSoBpQsPZBkyzz.heap_39) → PySem.Challenge.rw_fc0035_01.Holds → True := by w_top off; k_fill; intros; trivial

abbrev arO (dp un : Nat) (gd : Option (List Code)) (outer : List Env) : Around := { handled := none, depth := dp, frames := some outer, guards := gd, units := un }
abbrev addrs (E : List (Addr × Obj)) : List Addr := E.map (·.1)

/-- what a def does when it is called over the objects E: it ends, gives v, and leaves the objects E' (E's turned, and new ones); all else stays, up to the slots of the callers' frames -/
def Contract (n : Nat) (prog : Program) (w : World) (K : Frag) (f : Addr) (args : List Value) (E : List (Addr × Obj)) (Post : Value → List (Addr × Obj) → Prop) : Prop :=
  ∀ (dp un : Nat) (gd : Option (List Code)) (outer : List Env) (base : Heap) (s : Shared) (p : Program) (loose : List Str) (mean : ExcName → Option Value) (mg mb : Str → Option Value) (R : Result → Shared → Prop),
    dp + n < recursionLimit → un + 10 * n < cLine → Below (arO dp un gd outer) base outer (hideAll s.heap (addrs E)) → (∀ q ∈ E, s.heap.get? q.1 = some q.2) → K.In (hideAll s.heap (addrs E)) →
    Top p loose mean mg mb (hideAll s.heap (addrs E)) → K.In base → Top p loose mean mg mb base → KtsDicts (outer.filterMap (·.frame)) (hideAll s.heap (addrs E)) →
    (∀ v E' h' tk' g', KtsTurn (outer.filterMap (·.frame)) (hideAll s.heap (addrs E)) g' → (∀ q ∈ E', h'.get? q.1 = some q.2 ∧ g'.get? q.1 = none) → (∀ b o, g'.get? b = some o → h'.get? b = some o) → Post v E' →
      R (.ok (.ret v)) { s with heap := h', toks := tk' }) →
    codeAny (model prog w) (arO dp un gd outer) (.call (.ref f) ⟨args, []⟩) R s

theorem hide_keeps {h₀ h : Heap} {E : List (Addr × Obj)} (k : ∀ b o, h₀.get? b = some o → h.get? b = some o) (n : ∀ q ∈ E, h₀.get? q.1 = none) : ∀ b o, h₀.get? b = some o → (hideAll h (addrs E)).get? b = some o := fun b o e => hideAll_get _ (k b o e) fun q => by
  obtain ⟨p, hp, rfl⟩ := List.mem_map.mp q
  rw [n p hp] at e; cases e

theorem below_hide {A₀ A : Around} {base h₀ h : Heap} {outer : List Env} {env : Env} {L : Addr} {m : Str → Option Value} {E : List (Addr × Obj)} (B : Below A₀ base outer h₀) (F : Fr h₀ L h m) (N : News h₀ L h E)
    (hA : A.frames = some (env :: outer)) (hf : env.frame = some L) (hk : env.scope.kind = .function) : Below A base (env :: outer) (hideAll h (addrs E)) := by
  have nE : ∀ q ∈ E, h₀.get? q.1 = none := fun q hq => (N q hq).2.2
  have k := hide_keeps (E := E) F.keep nE
  have nL : L ∉ addrs E := fun q => by
    obtain ⟨p, hp, e⟩ := List.mem_map.mp q
    exact (N p hp).2.1 e
  have hnew : base.get? L = none := by
    cases hq : base.get? L with
    | none => rfl
    | some o => exact absurd (Nat.lt_of_lt_of_le (Heap.lt_size (B.stays L o hq)) F.above) (Nat.lt_irrefl _)
  have hns : (hideAll h (addrs E)).Ns L m := by
    obtain ⟨oL, a1, a2, hL, a3⟩ := F.ns
    exact ⟨oL, a1, a2, hideAll_get _ hL nL, a3⟩
  refine ⟨hA, fun b o e => k b o (B.stays b o e), ?_⟩
  exact .cons (by rw [hk]; decide) hf hns hnew (B.frames.of_keeps fun b o e _ => ⟨o, k b o e, rfl⟩)

section
variable {n : Nat} {prog : Program} {w : World} {K : Frag} {f : Addr} {args : List Value} {E : List (Addr × Obj)} {Post : Value → List (Addr × Obj) → Prop}
theorem use_contractT (C : Contract n prog w K f args E Post) {A : Around} {dp un : Nat} {gd : Option (List Code)} {outer : List Env} {env : Env} {A₀ : Around} {base h₀ : Heap} {L : Addr} {m : Str → Option Value} {s : Shared}
    {p : Program} {loose : List Str} {mean : ExcName → Option Value} {mg mb : Str → Option Value} {news : List (Addr × Obj)} {Q Ex : Value → Shared → Prop} (hA : A = arO dp un gd (env :: outer))
    (B : Below A₀ base outer h₀) (F : Fr h₀ L s.heap m) (X : K.In h₀) (N : News h₀ L s.heap news) (T : Top p loose mean mg mb h₀) (XB : K.In base) (TB : Top p loose mean mg mb base) (D : KtsDicts (outer.filterMap (·.frame)) h₀) (hf : env.frame = some L) (hk : env.scope.kind = .function)
    (hd : dp + n < recursionLimit) (hu : un + 10 * n < cLine) (keep : List (Addr × Obj)) (hE : ∀ q ∈ E, q ∈ news) (hK : ∀ q ∈ keep, q ∈ news) (hne : ∀ q ∈ keep, ∀ r ∈ E, q.1 ≠ r.1)
    (h : ∀ v E' h' tk' h₀', h₀' = ktsHeap h' (outer.filterMap (·.frame)) h₀ → KtsTurn (outer.filterMap (·.frame)) h₀ h₀' → Fr h₀' L h' m → News h₀' L h' (keep ++ E') → (∀ q ∈ E', ∀ r ∈ keep, r.1 ≠ q.1) →
      Below A₀ base outer h₀' → K.In h₀' → Top p loose mean mg mb h₀' → KtsDicts (outer.filterMap (·.frame)) h₀' → Post v E' → Q v { s with heap := h', toks := tk' }) :
    wpAny (model prog w) A (call (.ref f) args) Q Ex s := by
  subst hA
  have NE : News h₀ L s.heap E := fun q hq => N q (hE q hq)
  have nE : ∀ q ∈ E, h₀.get? q.1 = none := fun q hq => (NE q hq).2.2
  have st := hide_keeps (E := E) F.keep nE
  have nL : L ∉ addrs E := fun q => by
    obtain ⟨p, hp, e⟩ := List.mem_map.mp q
    exact (NE p hp).2.1 e
  obtain ⟨oL, es, ep, hL, hLd, hLk, hLf⟩ := F.ns
  have hLg := hideAll_get (addrs E) hL nL
  have nL₀ : h₀.get? L = none := kts_self F
  have memF : ∀ b, b ∈ (env :: outer).filterMap (·.frame) → b = L ∨ b ∈ outer.filterMap (·.frame) := fun b hm => by
    obtain ⟨e', he, hf'⟩ := List.mem_filterMap.mp hm
    rcases List.mem_cons.mp he with rfl | he
    · exact .inl (Option.some.inj (hf.symm.trans hf')).symm
    · exact .inr (List.mem_filterMap.mpr ⟨e', he, hf'⟩)
  refine wpAny_call (C dp un gd (env :: outer) base s p loose mean mg mb _ hd hu (below_hide B F NE rfl hf hk) (fun q hq => (NE q hq).1) (X.keeps st) (T.keeps st) XB TB (fun b hb => ?_) fun v E' h' tk' g' T' hE' hk' hp => ?_)
  · rcases memF b hb with rfl | hb
    · exact ⟨oL, es, ep, hLg, hLd⟩
    · obtain ⟨o, es', n', ho', hd'⟩ := D b hb
      exact ⟨o, es', n', st b o ho', hd'⟩
  obtain ⟨sl, hs⟩ := T'.up hLg
  obtain ⟨T₁, S₁⟩ := kts_turn_at (h := h') (fs := outer.filterMap (·.frame)) (g := h₀)
    (fun b hb => by
      obtain ⟨_, o, ho', _⟩ := B.frames.mem hb
      exact ⟨o, ho'⟩)
    (fun b o e nmem => hk' b o (T'.other b o (st b o e) (fun q => by
      rcases memF b q with z | z
      · rw [z, nL₀] at e
        cases e
      · exact nmem z)))
    (fun b o e hm => by
      obtain ⟨sl', hs'⟩ := T'.up (st b o e)
      exact ⟨sl', hk' _ _ hs'⟩)
  have B₃ : Below A₀ base outer (ktsHeap h' (outer.filterMap (·.frame)) h₀) := ⟨B.stack, fun b o e => T₁.other b o (B.stays b o e) (fun hm => by
    rw [(B.frames.mem hm).1] at e
    cases e), B.frames.of_keeps fun b o e _ => by
    obtain ⟨sl', hs'⟩ := T₁.up e
    exact ⟨_, hs', rfl⟩⟩
  have gk : ∀ q ∈ keep, g'.get? q.1 = some q.2 := fun q hq => T'.other _ _ (hideAll_get _ (N q (hK q hq)).1 fun z => by
    obtain ⟨r, hr, e⟩ := List.mem_map.mp z
    exact hne q hq r hr e.symm) fun z => by
      rcases memF _ z with y | y
      · exact (N q (hK q hq)).2.1 y
      · obtain ⟨_, o, ho', _⟩ := B.frames.mem y
        rw [(N q (hK q hq)).2.2] at ho'
        cases ho'
  refine h v E' h' tk' _ rfl T₁ ⟨⟨_, es, ep, hk' _ _ hs, hLd, hLk, hLf⟩, S₁, by rw [T₁.size]; exact F.above⟩ (fun q hq => ?_) (fun q hq r hr e => ?_) B₃ (XB.keeps B₃.stays) (TB.keeps B₃.stays) (D.turn T₁) hp
  · rcases (List.mem_append.mp hq).symm with hq | hq
    · refine ⟨(hE' q hq).1, fun e => ?_, T₁.none_ _ ?_⟩
      · have := (hE' q hq).2
        rw [e, hs] at this; cases this
      · cases z : h₀.get? q.1 with
        | none => rfl
        | some o =>
          obtain ⟨sl', hs'⟩ := T'.up (st _ _ z)
          have := (hE' q hq).2
          rw [hs'] at this; cases this
    · exact ⟨hk' _ _ (gk q hq), (N q (hK q hq)).2.1, T₁.none_ _ (N q (hK q hq)).2.2⟩
  · have := (hE' q hq).2
    rw [← e, gk r hr] at this; cases this

theorem use_contract (C : Contract n prog w K f args E Post) {A : Around} {dp un : Nat} {gd : Option (List Code)} {env : Env} {A₀ : Around} {base h₀ : Heap} {L : Addr} {m : Str → Option Value} {s : Shared}
    {p : Program} {loose : List Str} {mean : ExcName → Option Value} {mg mb : Str → Option Value} {news : List (Addr × Obj)} {Q Ex : Value → Shared → Prop} (hA : A = arO dp un gd [env])
    (B : Below A₀ base [] h₀) (F : Fr h₀ L s.heap m) (X : K.In h₀) (N : News h₀ L s.heap news) (T : Top p loose mean mg mb h₀) (XB : K.In base) (TB : Top p loose mean mg mb base) (hf : env.frame = some L) (hk : env.scope.kind = .function)
    (hd : dp + n < recursionLimit) (hu : un + 10 * n < cLine) (keep : List (Addr × Obj)) (hE : ∀ q ∈ E, q ∈ news) (hK : ∀ q ∈ keep, q ∈ news) (hne : ∀ q ∈ keep, ∀ r ∈ E, q.1 ≠ r.1)
    (h : ∀ v E' h' tk', Fr h₀ L h' m → News h₀ L h' (keep ++ E') → (∀ q ∈ E', ∀ r ∈ keep, r.1 ≠ q.1) → Post v E' → Q v { s with heap := h', toks := tk' }) :
    wpAny (model prog w) A (call (.ref f) args) Q Ex s :=
  use_contractT C hA B F X N T XB TB (fun _ h => nomatch h) hf hk hd hu keep hE hK hne fun v E' h' tk' h₀' e _ F' N' ne _ _ _ _ hp => by
    have e : h₀' = h₀ := e
    subst e
    exact h v E' h' tk' F' N' ne hp
end

/-- a contract that leaves the callers' frames as they are -/
def ContractP (n : Nat) (prog : Program) (w : World) (K : Frag) (f : Addr) (args : List Value) (E : List (Addr × Obj)) (Post : Value → List (Addr × Obj) → Prop) : Prop :=
  ∀ (dp un : Nat) (gd : Option (List Code)) (outer : List Env) (base : Heap) (s : Shared) (p : Program) (loose : List Str) (mean : ExcName → Option Value) (mg mb : Str → Option Value) (R : Result → Shared → Prop),
    dp + n < recursionLimit → un + 10 * n < cLine → Below (arO dp un gd outer) base outer (hideAll s.heap (addrs E)) → (∀ q ∈ E, s.heap.get? q.1 = some q.2) → K.In (hideAll s.heap (addrs E)) →
    Top p loose mean mg mb (hideAll s.heap (addrs E)) →
    (∀ v E' h' tk', (∀ q ∈ E', h'.get? q.1 = some q.2 ∧ (hideAll s.heap (addrs E)).get? q.1 = none) → (∀ b o, (hideAll s.heap (addrs E)).get? b = some o → h'.get? b = some o) → Post v E' →
      R (.ok (.ret v)) { s with heap := h', toks := tk' }) →
    codeAny (model prog w) (arO dp un gd outer) (.call (.ref f) ⟨args, []⟩) R s

section
variable {n : Nat} {prog : Program} {w : World} {K : Frag} {f : Addr} {args : List Value} {E : List (Addr × Obj)} {Post : Value → List (Addr × Obj) → Prop}
theorem use_contractP (C : ContractP n prog w K f args E Post) {A : Around} {dp un : Nat} {gd : Option (List Code)} {outer : List Env} {env : Env} {A₀ : Around} {base h₀ : Heap} {L : Addr} {m : Str → Option Value} {s : Shared}
    {p : Program} {loose : List Str} {mean : ExcName → Option Value} {mg mb : Str → Option Value} {news : List (Addr × Obj)} {Q Ex : Value → Shared → Prop} (hA : A = arO dp un gd (env :: outer))
    (B : Below A₀ base outer h₀) (F : Fr h₀ L s.heap m) (X : K.In h₀) (N : News h₀ L s.heap news) (T : Top p loose mean mg mb h₀) (hf : env.frame = some L) (hk : env.scope.kind = .function)
    (hd : dp + n < recursionLimit) (hu : un + 10 * n < cLine) (keep : List (Addr × Obj)) (hE : ∀ q ∈ E, q ∈ news) (hK : ∀ q ∈ keep, q ∈ news) (hne : ∀ q ∈ keep, ∀ r ∈ E, q.1 ≠ r.1)
    (h : ∀ v E' h' tk', Fr h₀ L h' m → News h₀ L h' (keep ++ E') → (∀ q ∈ E', ∀ r ∈ keep, r.1 ≠ q.1) → Post v E' → Q v { s with heap := h', toks := tk' }) :
    wpAny (model prog w) A (call (.ref f) args) Q Ex s := by
  subst hA
  have NE : News h₀ L s.heap E := fun q hq => N q (hE q hq)
  have nE : ∀ q ∈ E, h₀.get? q.1 = none := fun q hq => (NE q hq).2.2
  have k := hide_keeps (E := E) F.keep nE
  refine wpAny_call (C dp un gd (env :: outer) base s p loose mean mg mb _ hd hu (below_hide B F NE rfl hf hk) (fun q hq => (NE q hq).1) (X.keeps k) (T.keeps k) fun v E' h' tk' hE' hk' hp => ?_)
  have nL : L ∉ addrs E := fun q => by
    obtain ⟨p, hp, e⟩ := List.mem_map.mp q
    exact (NE p hp).2.1 e
  obtain ⟨oL, a1, a2, hL, a3⟩ := F.ns
  have hL' := hideAll_get (addrs E) hL nL
  have gk : ∀ q ∈ keep, (hideAll s.heap (addrs E)).get? q.1 = some q.2 := fun q hq => hideAll_get _ (N q (hK q hq)).1 fun z => by
    obtain ⟨r, hr, e⟩ := List.mem_map.mp z
    exact hne q hq r hr e.symm
  refine h v E' h' tk' ⟨⟨oL, a1, a2, hk' _ _ hL', a3⟩, fun b o e => hk' b o (k b o e), F.above⟩ (fun q hq => ?_) (fun q hq r hr e => ?_) hp
  · rcases (List.mem_append.mp hq).symm with hq | hq
    · refine ⟨(hE' q hq).1, fun e => ?_, ?_⟩
      · have := (hE' q hq).2
        rw [e, hL'] at this; cases this
      · cases z : h₀.get? q.1 with
        | none => rfl
        | some o => have := (hE' q hq).2; rw [k _ _ z] at this; cases this
    · exact ⟨hk' _ _ (gk q hq), (N q (hK q hq)).2⟩
  · have := (hE' q hq).2
    rw [← e, gk r hr] at this; cases this
end

theorem ContractP.toT {n : Nat} {prog : Program} {w : World} {K : Frag} {f : Addr} {args : List Value} {E : List (Addr × Obj)} {Post : Value → List (Addr × Obj) → Prop} (C : ContractP n prog w K f args E Post) : Contract n prog w K f args E Post :=
  fun dp un gd outer base s p loose mean mg mb R hd hu B NE X T _ _ _ h => C dp un gd outer base s p loose mean mg mb R hd hu B NE X T fun v E' h' tk' hE hk hp => h v E' h' tk' _ KtsTurn.refl hE hk hp
theorem call_F {prog : Program} {w : World} {dp un : Nat} {gd : Option (List Code)} {outer : List Env} {s : Shared} {base : Heap} {K : Frag} {R : Result → Shared → Prop}
    {name qual : Str} {params : Arguments} {body : List Stmt} {scope : Scope} {dV kV doc pm cdv ct oc : Value} {an od : Option Addr} {osl : Array (Option Value)} {f : Addr} {args : Args} {binds : List (Str × Value)}
    {E : List (Addr × Obj)} {p : Program} {loose : List Str} {mean : ExcName → Option Value} {mg mb : Str → Option Value}
    (B : Below (arO dp un gd outer) base outer (hideAll s.heap (addrs E))) (NE : ∀ q ∈ E, s.heap.get? q.1 = some q.2) (X : K.In (hideAll s.heap (addrs E))) (T : Top p loose mean mg mb (hideAll s.heap (addrs E)))
    (D : KtsDicts (outer.filterMap (·.frame)) (hideAll s.heap (addrs E))) (ho : K.lookup f = some ⟨oc, od, .func (fnOf name qual params body scope dV kV doc pm an cdv ct), osl⟩) (hcd : codeIn K cdv qual = true) (hroom : dp < recursionLimit)
    (hbind : BindsTo s (fnOf name qual params body scope dV kV doc pm an cdv ct) args binds) (hloc : ∀ y ∈ binds, scope.names.lookup y.1 = some .local)
    (h : ∀ g L' h₁, Fr g L' h₁ (fun y => binds.reverse.lookup y) → News g L' h₁ E → Below (arO dp un gd outer) base outer g → K.In g → Top p loose mean mg mb g → KtsDicts (outer.filterMap (·.frame)) g → KtsTurn (outer.filterMap (·.frame)) (hideAll s.heap (addrs E)) g → 
      wpAny (model prog w) ((arO dp un gd outer).deeper (envOf qual scope L' f cdv)) (execs body (envOf qual scope L' f cdv))
        (fun fl s' => R (.ok (.ret (match fl with | .ret v => v | _ => .none))) s')
        (fun e s' => wpAny (model prog w) ((arO dp un gd outer).deeper (envOf qual scope L' f cdv)) (leaving (envOf qual scope L' f cdv) e) (fun _ s'' => R (.error e) s'') (fun e' s'' => R (.error e') s'') s')
        { s with heap := h₁, toks := s.toks + binds.length })
    (hco : scope.isCoroutine = false := by rfl) (hgen : scope.isGenerator = false := by rfl) (hk : scope.kind = .function := by rfl)
    (hcell : ∀ x ∈ scope.names, x.2 ≠ .cell := by decide) : codeAny (model prog w) (arO dp un gd outer) (.call (.ref f) args) R s := by
  have st : (hideAll s.heap (addrs E)).StaysIn s.heap := fun b o e => of_hideAll _ e
  refine codeAny_call_def (fd := fnOf name qual params body scope dV kV doc pm an cdv ct) (body := body) (binds := binds) hroom (st _ _ (X _ _ ho)) rfl (T.nolimit.keeps st) (codeRec_of (X.keeps st) hcd) rfl hbind hcell hloc (fun h₁ hns hk₁ => ?_) hco hgen hk
  exact h _ s.heap.objs.size h₁ ⟨hns, fun b o e => hk₁ b o (of_hideAll _ e), Nat.le_of_eq (hideAll_size _ _)⟩
    (fun q hq => ⟨hk₁ _ _ (NE q hq), Nat.ne_of_lt (Heap.lt_size (NE q hq)), hideAll_none _ (List.mem_map_of_mem hq)⟩) B X T D KtsTurn.refl
theorem call_P {prog : Program} {w : World} {dp un : Nat} {gd : Option (List Code)} {outer : List Env} {s : Shared} {base : Heap} {K : Frag} {R : Result → Shared → Prop}
    {name qual : Str} {params : Arguments} {body : List Stmt} {scope : Scope} {dV kV doc pm cdv ct oc : Value} {an od : Option Addr} {osl : Array (Option Value)} {f : Addr} {args : Args} {binds : List (Str × Value)}
    {E : List (Addr × Obj)} {p : Program} {loose : List Str} {mean : ExcName → Option Value} {mg mb : Str → Option Value}
    (B : Below (arO dp un gd outer) base outer (hideAll s.heap (addrs E))) (NE : ∀ q ∈ E, s.heap.get? q.1 = some q.2) (X : K.In (hideAll s.heap (addrs E))) (T : Top p loose mean mg mb (hideAll s.heap (addrs E)))
    (ho : K.lookup f = some ⟨oc, od, .func (fnOf name qual params body scope dV kV doc pm an cdv ct), osl⟩) (hcd : codeIn K cdv qual = true) (hroom : dp < recursionLimit)
    (hbind : BindsTo s (fnOf name qual params body scope dV kV doc pm an cdv ct) args binds) (hloc : ∀ y ∈ binds, scope.names.lookup y.1 = some .local)
    (h : ∀ g L' h₁, Fr g L' h₁ (fun y => binds.reverse.lookup y) → News g L' h₁ E → Below (arO dp un gd outer) base outer g → K.In g → Top p loose mean mg mb g → g = hideAll s.heap (addrs E) →
      wpAny (model prog w) ((arO dp un gd outer).deeper (envOf qual scope L' f cdv)) (execs body (envOf qual scope L' f cdv))
        (fun fl s' => R (.ok (.ret (match fl with | .ret v => v | _ => .none))) s')
        (fun e s' => wpAny (model prog w) ((arO dp un gd outer).deeper (envOf qual scope L' f cdv)) (leaving (envOf qual scope L' f cdv) e) (fun _ s'' => R (.error e) s'') (fun e' s'' => R (.error e') s'') s')
        { s with heap := h₁, toks := s.toks + binds.length })
    (hco : scope.isCoroutine = false := by rfl) (hgen : scope.isGenerator = false := by rfl) (hk : scope.kind = .function := by rfl)
    (hcell : ∀ x ∈ scope.names, x.2 ≠ .cell := by decide) : codeAny (model prog w) (arO dp un gd outer) (.call (.ref f) args) R s := by
  have st : (hideAll s.heap (addrs E)).StaysIn s.heap := fun b o e => of_hideAll _ e
  refine codeAny_call_def (fd := fnOf name qual params body scope dV kV doc pm an cdv ct) (body := body) (binds := binds) hroom (st _ _ (X _ _ ho)) rfl (T.nolimit.keeps st) (codeRec_of (X.keeps st) hcd) rfl hbind hcell hloc (fun h₁ hns hk₁ => ?_) hco hgen hk
  exact h _ s.heap.objs.size h₁ ⟨hns, fun b o e => hk₁ b o (of_hideAll _ e), Nat.le_of_eq (hideAll_size _ _)⟩
    (fun q hq => ⟨hk₁ _ _ (NE q hq), Nat.ne_of_lt (Heap.lt_size (NE q hq)), hideAll_none _ (List.mem_map_of_mem hq)⟩) B X T rfl
section
variable {prog : Program} {w : World} {A : Around} {E : Value → Shared → Prop} {s : Shared} {K : Frag} {x C L : Addr} {h₀ : Heap} {m : Str → Option Value} {ox : Obj} {od : Obj} {name : Str}
theorem get_sm {expr : Bool} {Q : Value → Shared → Prop} {p : Addr} {f : Value} {rest : List Value} (F : Fr h₀ L s.heap m) (X₀ : K.In h₀) (I : InstAt s.heap x ox C (some od)) (hg : plainGet K C name = true)
    (hf : findObj K C (some od) name = some (.bind (.builtin "staticmethod.__get__") (.ref p))) (hp : recIn K p "staticmethod" = some (f :: rest)) (hv : handedIn f = true)
    (h : Q f { s with toks := s.toks + 1 }) : wpAny (model prog w) A (getAttr (.ref x) name expr) Q E s :=
  get_bind (X₀.keeps F.keep) I (plainGet_of hg).1 hf (plainGet_of hg).2 (wpAny_call (sm_get (s := { s with toks := s.toks + 1 }) (X₀.keeps F.keep) hp (handed_on hv h)))
theorem findObj_nondata {cd : ClassData} {a g : Value} {es : List DictEntry} {n : Nat} (hc : clsIn K C = some cd) (ha : findIn K (.ref C) name = some (some a)) (hg : specialIn K a "__get__" = some (some g)) (ht : takesIn K a = some false)
    (hl : getL name es = some none) (hn : copiedNames.contains name = false) : findObj K C (some (dictOf es n)) name = some (.bind g a) := by
  unfold findObj
  rw [hc, Option.bind_some, ha, Option.bind_some]
  simp only [hg, ht, Option.bind_some]
  have ho : PySem.W.ownOf cd (some (dictOf es n)) name = some none := by
    unfold PySem.W.ownOf
    split
    · exact (lookIn_dict name es n).trans hl
    · rfl
  rw [ho]
  simp only [hn, Option.bind_some, Bool.false_and, Bool.false_eq_true, if_false]
end
section
variable {prog : Program} {w : World} {K : Type} [DecidableEq K] {knd : KeyKind prog w K} {A : Around} {E : Value → Shared → Prop} {s : Shared} {h₀ : Heap} {L d : Addr} {m : Str → Option Value} {news : List (Addr × Obj)} {g : Obj → List (Addr × Obj)} {o : Obj} {kvs : List (K × Value)} {k : K} {key v : Value}
theorem dk_del {Q : Unit → Shared → Prop} (F : Fr h₀ L s.heap m) (N : News h₀ L s.heap news) (U : UpdF d o news g) (hd : o.IsDictOf knd kvs) (hkey : knd.is k key = true) (hv : (valueAt kvs k).isSome = true) (hsz : kvs.length ≤ sizeLine)
    (h : ∀ h' o', Fr h₀ L h' m → News h₀ L h' (g o') → o'.IsDictOf knd (without kvs k) → Q () { s with heap := h', toks := s.toks + 1 }) : wpAny (model prog w) A (delItem (.ref d) key) Q E s := by
  obtain ⟨pre, post, rfl, hg, a, b⟩ := U.split
  have hm := N (d, o) (List.mem_append_right _ (.head _))
  have hD : s.heap.DictOf knd d kvs := Heap.dictOf_iff.mpr ⟨o, hm.1, hd⟩
  unfold delItem
  try with_reducible refine wpAny_holding ?_
  refine wpAny_bind (wpAny_sequenceKey hD.typeIs (by decide) ?_)
  refine wpAny_bind (wpAny_callSpecial?_slot (name := Str.ofString "__delitem__") hD.typeIs PySem.F.slot_dict_delitem
    (call_meetsIn PySem.F.slot_dict_delitem hD.typeIs PySem.F.entry_dict_delitem (PySem.F.args_dict_delitem_2 _ _) (meets_dict_delitem_pairs knd d hkey) ⟨kvs, hD, hsz, hv, fun h' hmm hs => ?_⟩))
  obtain ⟨o', ho', hd'⟩ := Heap.dictOf_iff.mp hmm
  exact wpAny_pure (h h' o' (F.change hs hm.2.1 hm.2.2) (hg o' ▸ N.setIn a b hs ho') hd')
theorem dk_pop {Q : Value → Shared → Prop} (F : Fr h₀ L s.heap m) (N : News h₀ L s.heap news) (U : UpdF d o news g) (hd : o.IsDictOf knd kvs) (hkey : knd.is k key = true) (hpart : (keyPart key).isSome = true)
    (hv : valueAt kvs k = some v) (hsz : kvs.length ≤ sizeLine)
    (h : ∀ h' o', Fr h₀ L h' m → News h₀ L h' (g o') → o'.IsDictOf knd (without kvs k) → Q v { s with heap := h', toks := s.toks + 1 }) :
    wpAny (model prog w) A (call (.builtin "dict.pop") [.ref d, key]) Q E s := by
  obtain ⟨pre, post, rfl, hg, a, b⟩ := U.split
  have hm := N (d, o) (List.mem_append_right _ (.head _))
  have hD : s.heap.DictOf knd d kvs := Heap.dictOf_iff.mpr ⟨o, hm.1, hd⟩
  refine call_meetsIn PySem.F.slot_dict_pop hD.typeIs PySem.F.entry_dict_pop (PySem.F.args_dict_pop_2 _ _) (meets_dict_pop_there knd d hkey [] (.inl rfl) hpart) ⟨kvs, v, hD, hsz, hv, fun h' hmm hs => ?_⟩
  obtain ⟨o', ho', hd'⟩ := Heap.dictOf_iff.mp hmm
  exact h h' o' (F.change hs hm.2.1 hm.2.2) (hg o' ▸ N.setIn a b hs ho') hd'
theorem dk_pop_missing {Q : Value → Shared → Prop} (hA : A.handled = none) (N : News h₀ L s.heap news) (hm : (d, o) ∈ news) (hd : o.IsDictOf knd kvs) (hlo : (d == sysModules) = false) (hkey : knd.is k key = true) (hpart : (keyPart key).isSome = true)
    (hv : valueAt kvs k = none)
    (h : ∀ h' e, Heap.NewExc s.heap h' e "KeyError" → E (.ref e) { s with heap := h', toks := s.toks + 1 }) :
    wpAny (model prog w) A (call (.builtin "dict.pop") [.ref d, key]) Q E s := by
  have hm := N (d, o) hm
  have hD : s.heap.DictOf knd d kvs := Heap.dictOf_iff.mpr ⟨o, hm.1, hd⟩
  exact call_meetsIn PySem.F.slot_dict_pop hD.typeIs PySem.F.entry_dict_pop (PySem.F.args_dict_pop_2 _ _) (meets_dict_pop_missing knd d hkey hlo hpart) ⟨hA, kvs, hD, hv, h⟩
end
section
variable {K : Type} [DecidableEq K] {kvs : List (K × Value)} {k j : K} {v : Value}
theorem line100 {n : Nat} (h : n ≤ 100) : n ≤ sizeLine := by rw [sizeLine_eq]; omega
theorem without_le : (without kvs k).length ≤ kvs.length := List.length_filter_le _ _
theorem stored_le : (stored kvs k v).length ≤ kvs.length + 1 := by
  unfold stored
  split
  · rw [List.length_map]; omega
  · rw [List.length_append]; simp
theorem line100w (h : kvs.length ≤ 100) : (without kvs k).length ≤ sizeLine := line100 (Nat.le_trans without_le h)
theorem line100s (h : kvs.length ≤ 100) : (stored kvs k v).length ≤ sizeLine := by rw [sizeLine_eq]; have := stored_le (kvs := kvs) (k := k) (v := v); omega
end
theorem bind_via {K : Frag} {a : Addr} {s : Shared} {args : Args} {binds : List (Str × Value)} {oc oc' : Value} {od od' : Option Addr} {osl osl' : Array (Option Value)} {fd fd' : FuncData}
    (h1 : K.lookup a = some ⟨oc', od', .func fd', osl'⟩) (e : K.lookup a = some ⟨oc, od, .func fd, osl⟩) (h2 : BindsTo s fd' args binds) : BindsTo s fd args binds := by
  have := h1.symm.trans e
  cases this
  exact h2
theorem end_P {R : Result → Shared → Prop} {s : Shared} {g h' : Heap} {E E' : List (Addr × Obj)} {L' : Addr} {m' : Str → Option Value} {v : Value} {tk' : Nat} {Post : Value → List (Addr × Obj) → Prop}
    (hret : ∀ v E' h' tk', (∀ q ∈ E', h'.get? q.1 = some q.2 ∧ (hideAll s.heap (addrs E)).get? q.1 = none) → (∀ b o, (hideAll s.heap (addrs E)).get? b = some o → h'.get? b = some o) → Post v E' → R (.ok (.ret v)) { s with heap := h', toks := tk' })
    (hg : g = hideAll s.heap (addrs E)) (F : Fr g L' h' m') (N : News g L' h' E') (hp : Post v E') : R (.ok (.ret v)) { s with heap := h', toks := tk' } := by
  subst hg
  exact hret v E' h' tk' (fun q hq => ⟨(N q hq).1, (N q hq).2.2⟩) F.keep hp
theorem end_F {R : Result → Shared → Prop} {s : Shared} {fs : List Addr} {g h' : Heap} {E E' : List (Addr × Obj)} {L' : Addr} {m' : Str → Option Value} {v : Value} {tk' : Nat} {Post : Value → List (Addr × Obj) → Prop}
    (hret : ∀ v E' h' tk' g', KtsTurn fs (hideAll s.heap (addrs E)) g' → (∀ q ∈ E', h'.get? q.1 = some q.2 ∧ g'.get? q.1 = none) → (∀ b o, g'.get? b = some o → h'.get? b = some o) → Post v E' → R (.ok (.ret v)) { s with heap := h', toks := tk' })
    (hg : KtsTurn fs (hideAll s.heap (addrs E)) g) (F : Fr g L' h' m') (N : News g L' h' E') (hp : Post v E') : R (.ok (.ret v)) { s with heap := h', toks := tk' } :=
  hret v E' h' tk' g hg (fun q hq => ⟨(N q hq).1, (N q hq).2.2⟩) F.keep hp
section
variable {prog : Program} {w : World} {A₀ : Around} {E : Value → Shared → Prop} {s' : Shared} {base g g₀ h : Heap} {outer : List Env} {L a e : Addr} {m : Str → Option Value} {name : Str} {scope : Scope} {cd : Value}
  {b₀ : Stmt} {suite : List Stmt} {pos np : Pos} {rest : List ExceptHandler} {Q : Flow → Shared → Prop} {news : List (Addr × Obj)} {KF : Frag}
  {p : Program} {loose : List Str} {mean : ExcName → Option Value} {mg mb : Str → Option Value} {x : Str} {X T' : String}
theorem caught_newS (K : Below A₀ base outer g) (hx : Heap.NewExc h s'.heap e X) (F : Fr g L h m) (N : News g L h news) (XB : KF.In base) (TB : Top p loose mean mg mb base)
    (D : KtsDicts (outer.filterMap (·.frame)) g) (T0 : KtsTurn (outer.filterMap (·.frame)) g₀ g)
    (ex : nsIn KF mainGlobals x = some none) (hv : bootBuiltins x = some (.type T')) (hn' : x ≠ "__name__")
    (hexc : isSubtype (.type T') (.type "BaseException") = pure true) (hnt : isSubtype (.type ((Manifest.find? T').elim "type" fun y => y.metatype)) (.type "tuple") = pure false) (hsub : isSubtype (.type X) (.type T') = pure true)
    (k : ∀ h' g', KtsTurn (outer.filterMap (·.frame)) g₀ g' → Fr g' L h' m → News g' L h' news → Below A₀ base outer g' → KF.In g' → Top p loose mean mg mb g' → KtsDicts (outer.filterMap (·.frame)) g' →
      wpAny (model prog w) ((A₀.deeper (envOf name scope L a cd)).mark (some (.ref e))) (execs (b₀ :: suite) (envOf name scope L a cd)) Q E { s' with heap := h' })
    (hk : scope.kind = .function := by rfl) (hxk : (envOf name scope L a cd).kindOf x = some .globalImplicit := by rfl) (hdb : (x == ("__debug__" : Str)) = false := by decide)
    (hE : PassesOwnAt (model prog w) ((A₀.deeper (envOf name scope L a cd)).mark (some (.ref e))) (A₀.deeper (envOf name scope L a cd)) (envOf name scope L a cd) E := by passes_own) :
    wpAny (model prog w) (A₀.deeper (envOf name scope L a cd)) (noteFrame (.ref e) (envOf name scope L a cd))
      (fun _ s₂ => wpAny (model prog w) (A₀.deeper (envOf name scope L a cd)) (setFlight (.ref e) none) (fun _ s₃ =>
        wpAny (model prog w) (A₀.deeper (envOf name scope L a cd)) (handleBy (.ref e) (envOf name scope L a cd) (.ExceptHandler (some (.Name x np)) none (b₀ :: suite) pos :: rest)) Q E s₃) E s₂) E s' := by
  have K' := K.push (name := name) (a := a) (cd := cd) F hk
  have hin : ∀ env ∈ (envOf name scope L a cd :: outer), ∀ b, env.frame = some b → b ∈ (envOf name scope L a cd :: outer).filterMap (·.frame) := fun env he b hb => List.mem_filterMap.mpr ⟨env, he, hb⟩
  have st : base.StaysIn (hideAll h ((envOf name scope L a cd :: outer).filterMap (·.frame))) := fun b o q => hideAll_get _ (K'.stays b o q) fun hm => by
    rw [(K'.frames.mem hm).1] at q; cases q
  have sg : ∀ b o, h.get? b = some o → b ∉ (envOf name scope L a cd :: outer).filterMap (·.frame) → (hideAll h ((envOf name scope L a cd :: outer).filterMap (·.frame))).get? b = some o := fun b o q nm => hideAll_get _ q nm
  have hl : ∀ q ∈ news, (hideAll h ((envOf name scope L a cd :: outer).filterMap (·.frame))).get? q.1 = some q.2 ∧ g.get? q.1 = none := fun q hq => by
    refine ⟨hideAll_get _ (N q hq).1 fun hm => ?_, (N q hq).2.2⟩
    obtain ⟨env, he, hf⟩ := List.mem_filterMap.mp hm
    rcases List.mem_cons.mp he with rfl | he
    · exact (N q hq).2.1 (Option.some.inj hf).symm
    · obtain ⟨o, ho, _⟩ := (K.frames.mem (List.mem_filterMap.mpr ⟨env, he, hf⟩)).2
      rw [(N q hq).2.2] at ho; cases ho
  obtain ⟨ob, tp, he, hcls, hd⟩ := hx.there
  have hen : (hideAll h ((envOf name scope L a cd :: outer).filterMap (·.frame))).get? e = none := by
    cases q : (hideAll h ((envOf name scope L a cd :: outer).filterMap (·.frame))).get? e with
    | none => rfl
    | some o => have := of_hideAll _ q; rw [hx.new] at this; cases this
  unfold noteFrame
  simp only [show (envOf name scope L a cd).frame = some L from rfl]
  refine wpAny_bind (wpAny_field he hd (x := .none) rfl ?_)
  rw [if_neg (by decide)]
  refine wpAny_entryW (a0 := tp) K'.stack ((funFrames_hide K'.frames hin).of_keeps fun b o hb _ => ⟨o, hx.keeps b o hb, rfl⟩) rfl he (fun b o hb => hx.keeps b o (of_hideAll _ hb)) hen hd (by show 1 < 6; decide) rfl fun h₄ hN => ?_
  obtain ⟨n1, n2, n3, n4⟩ := hN
  rw [hcls] at n3
  have hsm : h.UpToSlots s'.heap := Heap.UpToSlots.of_keeps hx.keeps
  have hheld₄ : Heap.HeldW (hideAll h ((envOf name scope L a cd :: outer).filterMap (·.frame))) (envOf name scope L a cd :: outer) e (.type X) tp L h₄ := ⟨n1, hen, n2, n3⟩
  have hsm₄ : s'.heap.UpToSlots h₄ := n4
  have hL : (hideAll h ((envOf name scope L a cd :: outer).filterMap (·.frame))).get? L = none := hideAll_none _ (List.mem_filterMap.mpr ⟨_, .head _, rfl⟩)
  refine wpAny_landsW hheld₄ fun h₅ hheld hsm₅' => ?_
  have hsm₅ := hsm₄.trans hsm₅'
  obtain ⟨g₅, T₅, F₅, K₅⟩ := kts_ground K F sg hheld.1 (hsm.trans hsm₅)
  have X₅ : KF.In g₅ := XB.keeps K₅.stays
  have P₅ : TopRead p loose mg mb g₅ := topRead_of (TB.keeps K₅.stays)
  obtain ⟨ob', hob, hobc⟩ := hheld.there
  refine wpAny_handleBy_builtin (X := X) (T := T') (b := true) hexc hnt hsub (name_B F₅ X₅ P₅ ex hv hn' ⟨rfl, ⟨ob', hob, hobc⟩, ?_⟩ hk hxk hdb)
  refine lands_againW hheld fun h₆ hfl₆ hsm₆ => ?_
  obtain ⟨g₆, T₆, F₆, K₆⟩ := kts_ground K F sg hfl₆.1 ((hsm.trans hsm₅).trans hsm₆)
  have Nl : News g₆ L h₆ news := fun q hq => ⟨hfl₆.1 _ _ (hl q hq).1, (fun z => by have := (hl q hq).1; rw [z, hL] at this; cases this), T₆.none_ _ (hl q hq).2⟩
  have X₆ : KF.In g₆ := XB.keeps K₆.stays
  have P₆ : Top p loose mean mg mb g₆ := TB.keeps K₆.stays
  have D₆ : KtsDicts (outer.filterMap (·.frame)) g₆ := D.turn T₆
  exact wpAny_passesOwnAt hE (k h₆ g₆ (T0.trans T₆) F₆ Nl K₆ X₆ P₆ D₆)
end
abbrev lruNs (w : World) (t1 t2 t3 t4 : Tok) (dd oo : Addr) (n : Int) (tn : Tok) (r : Int) (tr : Tok) : Obj :=
  dictOf [⟨PyData.keyHash w.params (Str.ofString "_Cache__data"), .str (Str.ofString "_Cache__data") t1, .ref dd⟩,
    ⟨PyData.keyHash w.params (Str.ofString "_Cache__currsize"), .str (Str.ofString "_Cache__currsize") t2, .int n tn⟩,
    ⟨PyData.keyHash w.params (Str.ofString "_Cache__maxsize"), .str (Str.ofString "_Cache__maxsize") t3, .int r tr⟩,
    ⟨PyData.keyHash w.params (Str.ofString "_LRUCache__order"), .str (Str.ofString "_LRUCache__order") t4, .ref oo⟩] 4
theorem news4 {g h : Heap} {L : Addr} {news : List (Addr × Obj)} {a b c d : Addr × Obj} (N : News g L h news) (ha : a ∈ news) (hb : b ∈ news) (hc : c ∈ news) (hd : d ∈ news) : News g L h [a, b, c, d] := fun q hq => by
  rcases List.mem_cons.mp hq with rfl | hq
  · exact N _ ha
  rcases List.mem_cons.mp hq with rfl | hq
  · exact N _ hb
  rcases List.mem_cons.mp hq with rfl | hq
  · exact N _ hc
  rcases List.mem_cons.mp hq with rfl | hq
  · exact N _ hd
  cases hq
section
variable {M : Model} {A : Around} {E : Value → Shared → Prop} {s : Shared} {K : Frag} {x C L f : Addr} {h₀ : Heap} {m : Str → Option Value} {ox : Obj} {od : Option Obj} {i v : Value}
theorem inst_delItem {Q : Unit → Shared → Prop} (F : Fr h₀ L s.heap m) (X₀ : K.In h₀) (I : InstAt s.heap x ox C od) (hq : noSeq K C = true) (hs : findIn K (.ref C) "__delitem__" = some (some (.ref f))) (hf : isFn K (.ref f) = true)
    (h : wpAny M A (call (.ref f) [.ref x, i]) (fun _ s' => Q () s') E s) : wpAny M A (delItem (.ref x) i) Q E s := by
  have X := X₀.keeps F.keep
  unfold delItem sequenceKey
  refine wpAny_holding (wpAny_bind (wpAny_bind (I.type.here ?_)))
  refine wpAny_bind ((anyM_none X hq).here ?_)
  rw [if_pos (show (!false) = true from rfl)]
  exact wpAny_pure (wpAny_bind (special_fn X I hs (beq_iff_eq.mp hf) (wpAny_mono h (fun _ _ z => wpAny_pure z) fun _ _ z => z)))
end
abbrev rrNs (w : World) (t1 t2 t3 t4 t5 t6 : Tok) (dd fa ii kk : Addr) (n : Int) (tn : Tok) (r : Int) (tr : Tok) : Obj :=
  dictOf [⟨PyData.keyHash w.params (Str.ofString "_Cache__data"), .str (Str.ofString "_Cache__data") t1, .ref dd⟩,
    ⟨PyData.keyHash w.params (Str.ofString "_Cache__currsize"), .str (Str.ofString "_Cache__currsize") t2, .int n tn⟩,
    ⟨PyData.keyHash w.params (Str.ofString "_Cache__maxsize"), .str (Str.ofString "_Cache__maxsize") t3, .int r tr⟩,
    ⟨PyData.keyHash w.params (Str.ofString "_RRCache__choice"), .str (Str.ofString "_RRCache__choice") t4, .ref fa⟩,
    ⟨PyData.keyHash w.params (Str.ofString "_RRCache__index"), .str (Str.ofString "_RRCache__index") t5, .ref ii⟩,
    ⟨PyData.keyHash w.params (Str.ofString "_RRCache__keys"), .str (Str.ofString "_RRCache__keys") t6, .ref kk⟩] 6
section
variable {K : Type} [DecidableEq K] {kvs : List (K × Value)} {k j : K} {v : Value}
theorem valueAt_nil : valueAt ([] : List (K × Value)) k = none := rfl
theorem valueAt_cons {p : K × Value} : valueAt (p :: kvs) k = if p.1 = k then some p.2 else valueAt kvs k := by
  unfold valueAt
  rw [List.find?_cons]
  by_cases h : p.1 = k <;> simp [h]
theorem valueAt_isSome : (valueAt kvs k).isSome = true ↔ k ∈ kvs.map (·.1) := by
  induction kvs with
  | nil => simp [valueAt_nil]
  | cons p r ih =>
    rw [valueAt_cons]
    by_cases h : p.1 = k
    · simp [h]
    · rw [if_neg h, ih]
      simp only [List.map_cons, List.mem_cons]
      exact ⟨.inr, fun q => q.elim (fun e => absurd e.symm h) id⟩
theorem stored_none (h : k ≠ j) (hv : (valueAt kvs k).isSome = false) : (valueAt (stored kvs j v) k).isSome = false := by
  rw [Bool.eq_false_iff] at hv ⊢
  intro hs
  rw [valueAt_isSome] at hs
  refine hv (valueAt_isSome.mpr ?_)
  unfold stored at hs
  split at hs
  · obtain ⟨p, hp, e⟩ := List.mem_map.mp hs
    obtain ⟨q, hq, rfl⟩ := List.mem_map.mp hp
    refine List.mem_map.mpr ⟨q, hq, ?_⟩
    rw [← e]
    split <;> rfl
  · rw [List.map_append] at hs
    rcases List.mem_append.mp hs with hs | hs
    · exact hs
    · simp at hs
      exact absurd hs h
end
section
variable {prog : Program} {w : World} {A : Around} {E : Value → Shared → Prop} {s : Shared} {h₀ : Heap} {L D : Addr} {news : List (Addr × Obj)} {vs : List Value} {ns : List Int} {n : Nat}
theorem len_intsN {Q : Value → Shared → Prop} (N : News h₀ L s.heap news) (hm : (D, listOf vs.toArray n) ∈ news) (hi : IntsAre vs ns) (hz : ns.length ≤ 1000)
    (h : Q (.int ns.length (s.toks + 1)) { s with toks := s.toks + 1 + 1 }) : wpAny (model prog w) A (call (.builtin "len") [.ref D]) Q E s := by
  have e : vs.toArray.size = ns.length := by simp [hi.length]
  exact len_list (PySem.IsL.isList (n := n) (N _ hm).1) (by rw [e]; omega) (by rw [e]; exact h)
end
section
variable {prog : Program} {w : World} {A : Around} {E : Value → Shared → Prop} {s : Shared} {h₀ : Heap} {L D : Addr} {m : Str → Option Value} {news news' : List (Addr × Obj)} {vs : List Value} {ns : List Int} {n : Nat} {k : Int} {t : Tok}
theorem append_ints {Q : Value → Shared → Prop} (F : Fr h₀ L s.heap m) (N : News h₀ L s.heap news) (U : Upd D (listOf vs.toArray n) (listOf (vs ++ [Value.int k t]).toArray (n + 1)) news news') (hi : IntsAre vs ns) (hz : ns.length ≤ 1000)
    (h : ∀ h', Fr h₀ L h' m → News h₀ L h' news' → IntsAre (vs ++ [.int k t]) (ns ++ [k]) → Q .none { s with heap := h' }) : wpAny (model prog w) A (call (.builtin "list.append") [.ref D, .int k t]) Q E s := by
  have e : vs.toArray.size = ns.length := by simp [hi.length]
  refine append_K F N (its := vs.toArray) (n := n) (by rw [List.push_toArray]; exact U) (fun h' F' N' => h h' F' N' (ksk_snoc hi)) (by rw [e, sizeLine_eq]; omega)
end
theorem news_tl {g h : Heap} {L : Addr} {a : Addr × Obj} {l : List (Addr × Obj)} (N : News g L h (a :: l)) : News g L h l := fun q hq => N q (.tail _ hq)
theorem news5 {g h : Heap} {L : Addr} {news : List (Addr × Obj)} {a b c d e : Addr × Obj} (N : News g L h news) (ha : a ∈ news) (hb : b ∈ news) (hc : c ∈ news) (hd : d ∈ news) (he : e ∈ news) : News g L h [a, b, c, d, e] := fun q hq => by
  rcases List.mem_cons.mp hq with rfl | hq
  · exact N _ ha
  exact news4 N hb hc hd he q hq
/-- a for loop over a range with any invariant on the locals and the ledger (whose addresses may change from turn to turn) -/
def EndG (h₀ : Heap) (L : Addr) (J : (Str → Option Value) → List (Addr × Obj) → Prop) (own : List (Addr × Obj)) (s₁ s₂ : Shared) : Prop :=
  ∃ h' tk m' nx, s₂ = { s₁ with heap := h', toks := tk } ∧ Fr h₀ L h' m' ∧ News h₀ L h' (nx ++ own) ∧ OwnOff own (nx.map (·.1)) ∧ J m' nx
def PostG (h₀ : Heap) (L : Addr) (J : (Str → Option Value) → List (Addr × Obj) → Prop) (own : List (Addr × Obj)) (s₁ : Shared) (Q : Flow → Shared → Prop) (f : Flow) (s₂ : Shared) : Prop :=
  match f with
  | .ret v => Q (.ret v) s₂
  | .brk => Q .next s₂
  | _ => EndG h₀ L J own s₁ s₂
section
variable {prog : Program} {w : World} {A : Around} {E : Value → Shared → Prop} {s : Shared} {env : Env} {h₀ : Heap} {x : Str} {body : List Stmt} {Q : Flow → Shared → Prop}
theorem loop_gen {I : Addr} {fp : List Addr} {n : Nat} {P : Nat → Value → Prop} {St : Nat → Heap → Prop} {m₀ : Str → Option Value} {news : List (Addr × Obj)} (J : Nat → (Str → Option Value) → List (Addr × Obj) → Prop)
    (W : Walks prog w A I fp [I] n P St) (hLf : env.locals ∉ fp) (hI0 : h₀.get? I = none) (hIf : I ∈ fp) (hIo : ∀ i h, St i h → ∃ o, h.get? I = some o) (hnw : ∀ p ∈ news, p.1 ≠ I) (hst : St 0 s.heap) (F : Fr h₀ env.locals s.heap m₀) (N : News h₀ env.locals s.heap news) (hj : J 0 m₀ news)
    (turn : ∀ i v m₁ news₁ h tk own, i < n → P i v → OwnOff own (news₁.map (·.1)) → J i m₁ news₁ → Fr h₀ env.locals h (fun y => if y = x then some v else m₁ y) → News h₀ env.locals h (news₁ ++ own) →
      (∀ b ∈ fp, b ∉ news₁.map (·.1)) → wpAny (model prog w) A (execs body env) (PostG h₀ env.locals (fun m' nx => J (i + 1) m' nx ∧ ∀ b ∈ fp, b ≠ I → b ∉ nx.map (·.1)) own { s with heap := h, toks := tk } Q) E { s with heap := h, toks := tk })
    (hfp0 : ∀ b ∈ fp, b ∉ news.map (·.1))
    (done : ∀ m₁ news₁ h tk, J n m₁ news₁ → Fr h₀ env.locals h m₁ → News h₀ env.locals h news₁ → Q .next { s with heap := h, toks := tk }) :
    LoopAtV prog w A h₀ env x body Q E (.ref I) s := by
  let J' : Nat → (Str → Option Value) → List (Addr × Obj) → Prop := fun i m₁ news₁ => (∀ b ∈ fp, b ∉ news₁.map (·.1)) ∧ J i m₁ news₁
  refine ⟨I, fp, [I], n, P, St, m₀, news, J', rfl, W, hLf, (fun b hb => by rw [List.mem_singleton.mp hb]; exact hI0), (fun p hp hm => hnw p hp (List.mem_singleton.mp hm)), hst, F, N, ⟨hfp0, hj⟩, ?_, ?_⟩
  · rintro i v m₁ news₁ s₁ own ⟨hh', tk', rfl⟩ hin hP ⟨hadr, hJ⟩ hoff hown hown2 hfull hst' F₁ N₁
    have hsep : OwnOff own (news₁.map (·.1)) := fun p hp b hb e => hadr p.1 (hown p hp) (e ▸ hb)
    have N₂ : News h₀ env.locals hh' (news₁ ++ own) := fun p hp => N₁ p ((List.mem_append.mp hp).elim (fun h => List.mem_append.mpr (.inr h)) fun h => List.mem_append.mpr (.inl h))
    obtain ⟨oI, hoI⟩ := hIo _ _ hst'
    have hIown : (I, oI) ∈ own := hfull I hIf hI0 oI hoI
    refine wpAny_mono (turn i v m₁ news₁ hh' tk' own hin hP hsep hJ F₁ N₂ hadr) (fun f s₂ p => ?_) fun _ _ e => e
    have fin : EndG h₀ env.locals (fun m' nx => J (i + 1) m' nx ∧ ∀ b ∈ fp, b ≠ I → b ∉ nx.map (·.1)) own { s with heap := hh', toks := tk' } s₂ → LoopStepU h₀ env.locals [I] own (J' (i + 1)) { s with heap := hh', toks := tk' } .next s₂ := by
      rintro ⟨h', tk, m', nx, e, F', N', ho, hm, hb9⟩
      refine ⟨rfl, h', tk, m', nx, e, F', fun p hp => N' p ((List.mem_append.mp hp).elim (fun h => List.mem_append.mpr (.inr h)) fun h => List.mem_append.mpr (.inl h)), fun p hp hq => ?_, fun b hb hbn => ?_, hm⟩
      · exact ho _ hIown p.1 (List.mem_map_of_mem hp) (List.mem_singleton.mp hq).symm
      · by_cases e9 : b = I
        · exact ho _ hIown b hbn e9.symm
        · exact hb9 b hb e9 hbn
    cases f with
    | ret v => exact .ret p
    | brk => exact .brk p
    | next => exact .next (fin p)
    | cont => exact .cont (fin p)
  · rintro h' tk m' news' F' N' _ ⟨_, hJ⟩
    exact done m' news' h' tk hJ F' N'
theorem range_gen {r : Addr} {a₀ b₀ : Int} {t₀ u₀ v₀ : Tok} {n : Nat} {m₀ : Str → Option Value} {news : List (Addr × Obj)} (J : Nat → (Str → Option Value) → List (Addr × Obj) → Prop)
    (hh : A.handled = none) (hr : IsRange s.heap r a₀ b₀ 1 t₀ u₀ v₀) (hsmall : Builtin.Range.small a₀ b₀ 1 = true) (hn : Builtin.Range.rangeSize a₀ b₀ 1 = (n : Int)) (F : Fr h₀ env.locals s.heap m₀) (N : News h₀ env.locals s.heap news) (hj : J 0 m₀ news)
    (turn : ∀ i t m₁ news₁ h tk own, i < n → OwnOff own (news₁.map (·.1)) → J i m₁ news₁ → Fr h₀ env.locals h (fun y => if y = x then some (.int (a₀ + (i : Int)) t) else m₁ y) → News h₀ env.locals h (news₁ ++ own) →
      wpAny (model prog w) A (execs body env) (PostG h₀ env.locals (J (i + 1)) own { s with heap := h, toks := tk } Q) E { s with heap := h, toks := tk })
    (done : ∀ m₁ news₁ h tk, J n m₁ news₁ → Fr h₀ env.locals h m₁ → News h₀ env.locals h news₁ → Q .next { s with heap := h, toks := tk }) :
    wpAny (model prog w) A (pyIter (.ref r)) (fun it s₂ => LoopAtV prog w A h₀ env x body Q E it s₂) E s := by
  refine wpAny_pyIter_range hr hsmall ?_
  have W : Walks prog w A s.heap.objs.size [s.heap.objs.size] [s.heap.objs.size] n (fun i v => i < n ∧ ∃ t, v = .int (a₀ + i * 1) t)
      (fun i h => IsRangeIter h s.heap.objs.size (a₀ + (i : Nat) * 1) ((n : Int) - (i : Nat)) 1) := (Walks.range hh _ a₀ 1 n).bound
  refine loop_gen J W ?_ (next_is_new F) (.head _) ?_ ?_ (by show IsRangeIter _ _ _ _ _; rw [hn]; simpa using Heap.get?_push_size _ rfl) (F.push _) (fun p hp => ⟨Heap.get?_push_of_some _ (N p hp).1, (N p hp).2⟩) hj ?_ ?_ ?_
  · intro hm
    exact absurd F.ns.lt ((List.mem_singleton.mp hm) ▸ Nat.lt_irrefl _)
  · intro i h hs
    exact ⟨_, hs⟩
  · intro p hp e
    exact absurd (Heap.lt_size (N p hp).1) (e ▸ Nat.lt_irrefl _)
  · rintro i v m₁ nx h tk own hi ⟨_, t, rfl⟩ hoff hJ F₁ N₁ _
    have e1 : a₀ + (i : Int) * 1 = a₀ + (i : Int) := by omega
    rw [e1] at F₁
    refine wpAny_mono (turn i t m₁ nx h tk own hi hoff hJ F₁ N₁) (fun f s₂ p => ?_) fun _ _ e => e
    have up : EndG h₀ env.locals (J (i + 1)) own { s with heap := h, toks := tk } s₂ → EndG h₀ env.locals (fun m' nx => J (i + 1) m' nx ∧ ∀ b ∈ [s.heap.objs.size], b ≠ s.heap.objs.size → b ∉ nx.map (·.1)) own { s with heap := h, toks := tk } s₂ := by
      rintro ⟨h', tk', m', nx', e, F', N', ho, hm⟩
      exact ⟨h', tk', m', nx', e, F', N', ho, hm, fun b hb hne => absurd (List.mem_singleton.mp hb) hne⟩
    cases f with
    | ret v => exact p
    | brk => exact p
    | next => exact up p
    | cont => exact up p
  · intro b hb hm
    obtain ⟨p, hp, e⟩ := List.mem_map.mp hm
    rw [List.mem_singleton.mp hb] at e
    exact absurd (Heap.lt_size (N p hp).1) (e ▸ Nat.lt_irrefl _)
  · rintro m₁ nx h tk hJ F₁ N₁
    exact done m₁ nx h tk hJ F₁ N₁
end
theorem call_PX {prog : Program} {w : World} {dp un : Nat} {gd : Option (List Code)} {outer : List Env} {s : Shared} {base : Heap} {K : Frag} {R : Result → Shared → Prop}
    {name qual : Str} {params : Arguments} {body : List Stmt} {scope : Scope} {cl : List (Str × Addr)} {doc pm ctv : Value} {c' f : Addr} {args : Args} {binds : List (Str × Value)} {oc : Obj} {vs : Array Value} {t : Tok}
    {E : List (Addr × Obj)} {p : Program} {loose : List Str} {mean : ExcName → Option Value} {mg mb : Str → Option Value}
    (B : Below (arO dp un gd outer) base outer (hideAll s.heap (addrs E))) (NE : ∀ q ∈ E, s.heap.get? q.1 = some q.2) (X : K.In (hideAll s.heap (addrs E))) (T : Top p loose mean mg mb (hideAll s.heap (addrs E)))
    (ho : (f, fnMade name qual params body scope cl doc pm c' ctv) ∈ E) (hc : (c', oc) ∈ E) (hd : oc.data = .fields vs) (hv : vs[1]? = some (.str qual t)) (hroom : dp < recursionLimit)
    (hbind : BindsTo s (fnX name qual params body scope cl .none .none doc pm none (.ref c') ctv) args binds) (hloc : ∀ y ∈ binds, scope.names.lookup y.1 = some .local)
    (h : ∀ g L' h₁, Fr g L' h₁ (fun y => binds.reverse.lookup y) → News g L' h₁ E → Below (arO dp un gd outer) base outer g → K.In g → Top p loose mean mg mb g → g = hideAll s.heap (addrs E) →
      wpAny (model prog w) ((arO dp un gd outer).deeper (envX qual scope L' f (.ref c') cl)) (execs body (envX qual scope L' f (.ref c') cl))
        (fun fl s' => R (.ok (.ret (match fl with | .ret v => v | _ => .none))) s')
        (fun e s' => wpAny (model prog w) ((arO dp un gd outer).deeper (envX qual scope L' f (.ref c') cl)) (leaving (envX qual scope L' f (.ref c') cl) e) (fun _ s'' => R (.error e) s'') (fun e' s'' => R (.error e') s'') s')
        { s with heap := h₁, toks := s.toks + binds.length })
    (hco : scope.isCoroutine = false) (hgen : scope.isGenerator = false) (hk : scope.kind = .function)
    (hcell : ∀ x ∈ scope.names, x.2 ≠ .cell) : codeAny (model prog w) (arO dp un gd outer) (.call (.ref f) args) R s := by
  have st : (hideAll s.heap (addrs E)).StaysIn s.heap := fun b o e => of_hideAll _ e
  refine codeAny_call_def (fd := fnX name qual params body scope cl .none .none doc pm none (.ref c') ctv) (body := body) (binds := binds) hroom (NE _ ho) rfl (T.nolimit.keeps st) ⟨c', oc, vs, t, rfl, NE _ hc, hd, hv⟩ rfl hbind hcell hloc (fun h₁ hns hk₁ => ?_) hco hgen hk
  exact h _ s.heap.objs.size h₁ ⟨hns, fun b o e => hk₁ b o (of_hideAll _ e), Nat.le_of_eq (hideAll_size _ _)⟩
    (fun q hq => ⟨hk₁ _ _ (NE q hq), Nat.ne_of_lt (Heap.lt_size (NE q hq)), hideAll_none _ (List.mem_map_of_mem hq)⟩) B X T rfl
section
open PyProof.Rows.LCg
variable {prog : Program} {w : World} {A : Around} {s : Shared} {h₀ : Heap} {L : Addr} {m : Str → Option Value} {env : Env}
/-- a comprehension over n items by induction: J i ys after i items; the ledger stays as it is -/
theorem comp_ind {elt : Expr} {x : Str} {scope : Scope} {cl : List (Str × Addr)} {S : List (Addr × Obj) → Prop} {P : Nat → Value → Prop} {Fin : List Value → List (Addr × Obj) → Prop} {n : Nat} {news : List (Addr × Obj)} (J : Nat → List Value → Prop)
    (h0 : J 0 [])
    (step : ∀ i ys, i < n → J i ys → ∀ v I oI C oC D m₂ h tk (E' : Value → Shared → Prop), P i v → NsObj oC m₂ → m₂ x = some v → Fr h₀ L h m → News h₀ L h ((I, oI) :: (C, oC) :: (D, lst ys) :: news) → Off3 I C D news → ((@Ne Nat I C) ∧ (@Ne Nat I D) ∧ (@Ne Nat C D)) →
      wpAny (model prog w) A (eval elt (compEnvC scope cl C env)) (CompEnd h₀ L m { s with heap := h, toks := tk } I oI C oC D (lst ys) S (fun y news' => news' = news ∧ J (i + 1) (ys ++ [y]))) E' { s with heap := h, toks := tk })
    (fin : ∀ ys, J n ys → Fin ys news) : CompRest prog w A h₀ L m env elt x scope cl s S P Fin n 0 [] news := by
  have gen : ∀ k i ys, i + k = n → J i ys → CompRest prog w A h₀ L m env elt x scope cl s S P Fin k i ys news := by
    intro k
    induction k with
    | zero =>
      intro i ys e hj
      have : i = n := by omega
      subst this
      exact CompRest.zero (fin ys hj)
    | succ k ih =>
      intro i ys e hj
      refine CompRest.succ fun v I oI C oC D m₂ h tk E' a1 a2 a3 a4 a5 a6 a7 => ?_
      refine wpAny_mono (step i ys (by omega) hj v I oI C oC D m₂ h tk E' a1 a2 a3 a4 a5 a6 a7) (fun y s₂ c => ?_) fun _ _ z => z
      obtain ⟨h', tk', nw, e1, F', N', o', hS, rfl, hj'⟩ := c
      exact ⟨h', tk', _, e1, F', N', o', hS, ih _ _ (by omega) hj'⟩
  exact gen n 0 [] (by omega) h0
end
section
open PyProof.Rows.LCg PyProof.Rows.LCt
variable {prog : Program} {w : World} {A : Around} {s : Shared} {h₀ : Heap} {L : Addr} {m : Str → Option Value} {env : Env}
theorem comp_indT {ct elt : Expr} {x : Str} {scope : Scope} {cl : List (Str × Addr)} {S : List (Addr × Obj) → Prop} {P : Nat → Value → Prop} {Fin : List Value → List (Addr × Obj) → Prop} {n : Nat} {news : List (Addr × Obj)} (J : Nat → List Value → Prop)
    (h0 : J 0 [])
    (step : ∀ i ys, i < n → J i ys → ∀ v I oI C oC D m₂ h tk (E' : Value → Shared → Prop), P i v → NsObj oC m₂ → m₂ x = some v → Fr h₀ L h m → News h₀ L h ((I, oI) :: (C, oC) :: (D, lst ys) :: news) → Off3 I C D news → ((@Ne Nat I C) ∧ (@Ne Nat I D) ∧ (@Ne Nat C D)) →
      wpAny (model prog w) A (isTrue ct (compEnvC scope cl C env) (eval ct (compEnvC scope cl C env))) (fun ok s' => if ok = true then
        wpAny (model prog w) A (eval elt (compEnvC scope cl C env)) (CompEnd h₀ L m { s with heap := h, toks := tk } I oI C oC D (lst ys) S (fun y news' => news' = news ∧ J (i + 1) (ys ++ [y]))) E' s'
        else CompEnd h₀ L m { s with heap := h, toks := tk } I oI C oC D (lst ys) S (fun _ news' => news' = news ∧ J (i + 1) ys) Value.none s') E' { s with heap := h, toks := tk })
    (fin : ∀ ys, J n ys → Fin ys news) : CompRestT prog w A h₀ L m env ct elt x scope cl s S P Fin n 0 [] news := by
  have gen : ∀ k i ys, i + k = n → J i ys → CompRestT prog w A h₀ L m env ct elt x scope cl s S P Fin k i ys news := by
    intro k
    induction k with
    | zero =>
      intro i ys e hj
      have : i = n := by omega
      subst this
      exact CompRestT.zero (fin ys hj)
    | succ k ih =>
      intro i ys e hj
      refine CompRestT.succ fun v I oI C oC D m₂ h tk E' a1 a2 a3 a4 a5 a6 a7 => ?_
      refine wpAny_mono (step i ys (by omega) hj v I oI C oC D m₂ h tk E' a1 a2 a3 a4 a5 a6 a7) (fun ok s₂ c => ?_) fun _ _ z => z
      cases ok with
      | true =>
        rw [if_pos rfl] at c ⊢
        refine wpAny_mono c (fun y s₃ c => ?_) fun _ _ z => z
        obtain ⟨h', tk', nw, e1, F', N', o', hS, rfl, hj'⟩ := c
        exact ⟨h', tk', _, e1, F', N', o', hS, ih _ _ (by omega) hj'⟩
      | false =>
        rw [if_neg Bool.false_ne_true] at c ⊢
        obtain ⟨h', tk', nw, e1, F', N', o', hS, rfl, hj'⟩ := c
        exact ⟨h', tk', _, e1, F', N', o', hS, ih _ _ (by omega) hj'⟩
  exact gen n 0 [] (by omega) h0
end
theorem kf_ints_of {us : List Value} {ns : List Int} (h : IntsAre us ns) : kf_ints us = true := by
  induction h with
  | nil => rfl
  | cons n t _ ih => exact ih
theorem kf_at_of {k : Int} {us : List Value} {ns : List Int} (h : IntsAre us ns) (hk : k ∈ ns) : kf_at k us = some (ns.idxOf k) := by
  induction h with
  | nil => cases hk
  | @cons n t vs ms h' ih =>
    unfold kf_at
    have e : isInt k (Value.int n t) = (n == k) := by
      unfold isInt
      first | rfl | (by_cases q : n = k <;> simp [q, eq_comm])
    rw [e, List.idxOf_cons]
    cases q : (n == k) with
    | true => rfl
    | false =>
      have hk' : k ∈ ms := by
        rcases List.mem_cons.mp hk with rfl | hk
        · simp at q
        · exact hk
      rw [ih hk']
      rfl
section
variable {prog : Program} {w : World} {A : Around} {E : Value → Shared → Prop} {s : Shared} {h₀ : Heap} {L D : Addr} {news : List (Addr × Obj)} {us : List Value} {ns : List Int} {n : Nat} {k : Int} {t : Tok}
theorem index_ints {Q : Value → Shared → Prop} (N : News h₀ L s.heap news) (hm : (D, listOf us.toArray n) ∈ news) (hi : IntsAre us ns) (hk : k ∈ ns) (hz : ns.length ≤ 100)
    (h : ns.idxOf k < ns.length → Q (.int (ns.idxOf k : Nat) s.toks) { s with toks := s.toks + 1 }) : wpAny (model prog w) A (call (.builtin "list.index") [.ref D, .int k t]) Q E s :=
  kf_index N hm (kf_ints_of hi) (kf_at_of hi hk) rfl (by show us.length ≤ _; rw [sizeLine_eq, hi.length]; omega) (h (List.idxOf_lt_length_of_mem hk))
end
theorem any_ints {k : Int} {us : List Value} {ns : List Int} (h : IntsAre us ns) : us.any (isInt k) = decide (k ∈ ns) := by
  induction h with
  | nil => rfl
  | @cons n t vs ms h' ih =>
    rw [List.any_cons, ih]
    have e : isInt k (Value.int n t) = (n == k) := by
      unfold isInt
      first | rfl | (by_cases q : n = k <;> simp [q, eq_comm])
    rw [e]
    by_cases q : n = k
    · simp [q]
    · have q2 : ¬ k = n := fun z => q z.symm
      have q3 : (n == k) = false := by simpa using q
      simp [q2, q3]
section
variable {kvs : List (Int × Value)} {k j : Int} {v : Value}
theorem keys_without : (without kvs k).map (·.1) = (kvs.map (·.1)).filter (fun y => decide (y ≠ k)) := by
  unfold without
  rw [List.filter_map]
  rfl
theorem valueAt_none (h : k ∉ kvs.map (·.1)) : valueAt kvs k = none := by
  cases e : valueAt kvs k with
  | none => rfl
  | some z => exact absurd (valueAt_isSome.mp (by rw [e]; rfl)) h
theorem valueAt_there (h : k ∈ kvs.map (·.1)) : ∃ z, valueAt kvs k = some z := Option.isSome_iff_exists.mp (valueAt_isSome.mpr h)
theorem stored_new (h : k ∉ kvs.map (·.1)) : stored kvs k v = kvs ++ [(k, v)] := PyProof.Rows.stored_absent (valueAt_none h) v
theorem valueAt_snoc_ne (h : j ≠ k) : valueAt (kvs ++ [(k, v)]) j = valueAt kvs j := by
  induction kvs with
  | nil => rw [List.nil_append, valueAt_cons, if_neg (fun e => h e.symm)]
  | cons p r ih => rw [List.cons_append, valueAt_cons, valueAt_cons, ih]
theorem valueAt_snoc_self (h : k ∉ kvs.map (·.1)) : valueAt (kvs ++ [(k, v)]) k = some v := by
  induction kvs with
  | nil => rw [List.nil_append, valueAt_cons, if_pos rfl]
  | cons p r ih =>
    rw [List.map_cons, List.mem_cons, not_or] at h
    rw [List.cons_append, valueAt_cons, if_neg (fun e => h.1 e.symm), ih h.2]
theorem valueAt_without_ne (h : j ≠ k) : valueAt (without kvs k) j = valueAt kvs j := by
  unfold without
  induction kvs with
  | nil => rfl
  | cons p r ih =>
    rw [List.filter_cons]
    by_cases e : p.1 = k
    · rw [if_neg (by simp [e]), ih, valueAt_cons, if_neg (fun q => h (q.symm.trans e))]
    · rw [if_pos (by simp [e]), valueAt_cons, valueAt_cons, ih]
theorem any_key : kvs.any (fun kv => kv.1 = k) = true ↔ k ∈ kvs.map (·.1) := by
  rw [← valueAt_isSome, PyProof.Rows.valueAt_isSome_eq_any]
theorem keys_stored_old (h : k ∈ kvs.map (·.1)) : (stored kvs k v).map (·.1) = kvs.map (·.1) := by
  unfold stored
  rw [if_pos (any_key.mpr h), List.map_map]
  refine List.map_congr_left fun p _ => ?_
  show (if p.1 = k then (p.1, v) else p).1 = p.1
  split <;> rfl
theorem valueAt_mapped (h : j ≠ k) : valueAt (kvs.map fun kv => if kv.1 = k then (kv.1, v) else kv) j = valueAt kvs j := by
  induction kvs with
  | nil => rfl
  | cons q r ih =>
    rw [List.map_cons, valueAt_cons, valueAt_cons, ih]
    by_cases e : q.1 = k
    · rw [if_pos e, if_neg (show ¬q.1 = j from fun z => h (z.symm.trans e)), if_neg (show ¬q.1 = j from fun z => h (z.symm.trans e))]
    · rw [if_neg e]
theorem valueAt_stored_ne (h : j ≠ k) : valueAt (stored kvs k v) j = valueAt kvs j := by
  unfold stored
  split
  · exact valueAt_mapped h
  · exact valueAt_snoc_ne h
theorem valueAt_stored_self : valueAt (stored kvs k v) k = some v := by
  unfold stored
  split
  · rename_i h
    rw [any_key] at h
    induction kvs with
    | nil => cases h
    | cons p r ih =>
      rw [List.map_cons, valueAt_cons]
      by_cases e : p.1 = k
      · rw [if_pos e, if_pos e]
      · rw [if_neg e, if_neg e]
        rw [List.map_cons, List.mem_cons] at h
        exact ih (h.resolve_left fun z => e z.symm)
  · rename_i h
    exact valueAt_snoc_self fun z => h (any_key.mpr z)
theorem length_keys {O : List Int} (h : (kvs.map (·.1)).Perm O) : kvs.length = O.length := by
  have := h.length_eq
  simpa using this
end
section
open PyProof.Rows.LCg
variable {prog : Program} {w : World} {A : Around} {E : Value → Shared → Prop} {s : Shared} {h₀ : Heap} {L : Addr} {m : Str → Option Value} {env : Env}
/-- the source of a comprehension is an iterator over the keys of a dict with int keys -/
def CompKeys (prog : Program) (w : World) (A : Around) (h₀ : Heap) (L : Addr) (m : Str → Option Value) (env : Env) (elt : Expr) (x : Str) (scope : Scope) (cl : List (Str × Addr)) (Fin : Shared → List Value → List (Addr × Obj) → Prop) (it : Value) (s₂ : Shared) : Prop :=
  ∃ (I d : Addr) (oI od : Obj) (kvs : List (Int × Value)) (ep : Nat) (news : List (Addr × Obj)), it = .ref I ∧ A.handled = none ∧ Fr h₀ L s₂.heap m ∧ News h₀ L s₂.heap ((I, oI) :: news) ∧ (∀ p ∈ news, p.1 ≠ I) ∧
    KdkIter oI d 0 kvs.length ep ∧ KdkAt (PySem.intKind prog w) od kvs ep ∧ (d, od) ∈ news ∧ kvs.length ≤ sizeLine ∧
    CompRest prog w A h₀ L m env elt x scope cl s₂ (fun nw => (d, od) ∈ nw) (fun i v => ∃ k y, kvs[i]? = some (k, y) ∧ (PySem.intKind prog w).is k v = true) (Fin s₂) kvs.length 0 [] news
theorem ListComp_Keys {elt iter : Expr} {x : Str} {px : Pos} {scope : Scope} {cl : List (Str × Addr)} {pos : Pos} {Q : Value → Shared → Prop} (F₀ : Fr h₀ L s.heap m)
    (hclos : closureFor scope env = pure cl) (hcell : ∀ y ∈ scope.names, y.2 ≠ .cell) (hkind : scope.kind = .function)
    (hnames : ∀ y ∈ scope.names, y.2 = .local → scope.names.lookup y.1 = some .local) (hx : scope.names.lookup x = some .local)
    (h : wpAny (model prog w) A (eval iter env) (fun xv s₁ => wpAny (model prog w) A (pyIter xv) (CompKeys prog w A h₀ L m env elt x scope cl (fun s₂ => FinE h₀ L m s₂ Q)) E s₁) E s)
    (hs : ∀ x, foldedSetIterable iter env x = pure x := by intro _; rfl) :
    wpAny (model prog w) A (eval (.ListComp elt [⟨.Name x px, iter, [], 0⟩] scope pos) env) Q E s := by
  rw [eval_ListComp]
  refine wpAny_comprehension_free (use := none) rfl hs hclos hkind hnames (wpAny_mono h (fun xv s₁ h₁ => ?_) fun _ _ e => e)
  refine wpAny_mono h₁ (fun it s₂ h₂ => ?_) fun _ _ e => e
  obtain ⟨I, d, oI, od, kvs, ep, news, rfl, hh, F, N, off, hi, ha, hd, hsz, R⟩ := h₂
  have NI := N (I, oI) (.head _)
  have Nn : News h₀ L s₂.heap news := fun p hp => N p (.tail _ hp)
  have hdI : d ≠ I := off _ hd
  refine block_U (Walks.dictKeys (knd := PySem.intKind prog w) hh I d hdI kvs ep) hsz (fun i h st => by obtain ⟨o, e, _⟩ := st.1; exact ⟨o, e⟩) (S := fun nw => (d, od) ∈ nw)
    (fun i h h' o nw st e e' k N' S' => ⟨by obtain ⟨o', q, r⟩ := st.1; rw [e] at q; cases q; exact ⟨o, e', r⟩, ha.dictAt (N' _ S').1⟩) hcell hkind hx ⟨hi.at NI.1, ha.dictAt (Nn _ hd).1⟩ (fun b hb => ?_)
    F Nn (fun e => NI.2.1 e.symm) NI.2.2 off hd R ?_
  · rcases List.mem_cons.mp hb with rfl | hb
    · exact Heap.lt_size NI.1
    · rw [List.mem_singleton.mp hb]; exact Heap.lt_size (Nn _ hd).1
  · intro D C h tk m' ys news' F' N' o1 hn hC₀ hD₀ hCL hDL hCD offC fin
    refine ⟨m', hn, fun h'' hs'' => fin D h'' tk (F'.change hs'' hCL hC₀) (fun p hp => ?_) o1⟩
    refine ⟨hs''.extBut _ _ ?_ (N' p hp).1, (N' p hp).2⟩
    rcases List.mem_cons.mp hp with rfl | hp
    · exact Ne.symm hCD
    · exact offC p hp
end
theorem allLt_mem {d : Addr} : ∀ {l : List (Addr × Obj)}, AllLt d l → ∀ p ∈ l, p.1 < d
  | [], _, _, h => nomatch h
  | _ :: _, H, p, h => by
    rcases List.mem_cons.mp h with rfl | h
    · exact H.1
    · exact allLt_mem H.2 p h
theorem allLt_ne {d : Addr} {l : List (Addr × Obj)} (h : AllLt d l) : ∀ p ∈ l, p.1 ≠ d := fun p hp => Nat.ne_of_lt (allLt_mem h p hp)
section
variable {prog : Program} {w : World} {A : Around} {E : Value → Shared → Prop} {env : Env} {x : Str} {body : List Stmt} {Q : Flow → Shared → Prop}
/-- a for loop over a range whose invariant speaks of the whole state: the callers' frames may change on the way -/
theorem range_owit {I : Addr} {n : Nat} {a : Int} (hh : A.handled = none) (Inv : Nat → Shared → Prop) (e : Nat)
    (hI : ∀ i s, Inv i s → IsRangeIter s.heap I (a + (i : Nat) * 1) ((n : Int) - (i : Nat)) 1)
    (step : ∀ i s t h' tk, i < n → Inv i s → IsRangeIter h' I (a + ((i + 1 : Nat) : Int) * 1) ((n : Int) - ((i + 1 : Nat) : Int)) 1 → (∀ b o, b ≠ I → s.heap.get? b = some o → h'.get? b = some o) →
      wpAny (model prog w) A (storeName env x (.int (a + (i : Int)) t)) (fun _ s₂ => wpAny (model prog w) A (execs body env) (OwitFlow Q (fun s' => Inv (i + 1) s')) E s₂) E { s with heap := h', toks := tk })
    (done : ∀ s h' tk, Inv n s → (∀ b o, b ≠ I → s.heap.get? b = some o → h'.get? b = some o) → Q .next { s with heap := h', toks := tk }) :
    ∀ k i s, i + k = n → Inv i s → OwitRest prog w A E env x body Q I (k + 1 + e) s := by
  have W := (Walks.range (prog := prog) (w := w) hh I a 1 n).bound
  intro k
  induction k with
  | zero =>
    intro i s hi hs
    have hin : i = n := by omega
    subst hin
    rw [show 0 + 1 + e = e + 1 by omega]
    refine OwitRest.succ (W.done s _ _ (hI _ _ hs) fun h' tk hk => ?_)
    exact done s h' tk hs fun b o hb => hk b o (fun z => hb (List.mem_singleton.mp z))
  | succ k ih =>
    intro i s hi hs
    rw [show k + 1 + 1 + e = (k + 1 + e) + 1 by omega]
    refine OwitRest.succ (W.item i s _ _ (by omega) (hI _ _ hs) fun v h' tk hv hst hk => ?_)
    obtain ⟨_, t, rfl⟩ := hv
    have e1 : a + (i : Int) * 1 = a + (i : Int) := by omega
    rw [e1]
    refine wpAny_mono (step i s t h' tk (by omega) hs hst fun b o hb => hk b o (fun z => hb (List.mem_singleton.mp z))) (fun _ s₂ h₂ => ?_) fun _ _ z => z
    refine wpAny_mono h₂ (fun f s₃ h₃ => ?_) fun _ _ z => z
    cases f with
    | next => exact ih (i + 1) s₃ (by omega) h₃
    | cont => exact ih (i + 1) s₃ (by omega) h₃
    | brk => exact h₃
    | ret v => exact h₃
end
structure RRStep (rank : Int → Nat) (r : Nat) (k : Int) (M M' : List Int) : Prop where
  nd : M'.Nodup
  hit : k ∈ M → M' = M
  miss : k ∉ M → M.length < r → M' = M ++ [k]
  evict : k ∉ M → M.length = r → ∃ f, f ∈ M ∧ (∀ j ∈ M, rank j ≤ rank f) ∧ M'.length = M.length ∧ ∀ j, j ∈ M' ↔ j = k ∨ (j ∈ M ∧ j ≠ f)
theorem perm_of_mem {A B : List Int} (ha : A.Nodup) (hb : B.Nodup) (h : ∀ j, j ∈ A ↔ j ∈ B) : A.Perm B := by
  rw [List.perm_iff_count]
  intro a
  rw [ha.count, hb.count]
  simp only [h a]
theorem dict_nodup {prog : Program} {w : World} {o : Obj} {kvs : List (Int × Value)} (h : o.IsDictOf (intKind prog w) kvs) : (kvs.map (·.1)).Nodup := by
  obtain ⟨es, ep, _, _, _, _, hn⟩ := h
  exact hn
section
variable {n : Nat} {prog : Program} {w : World} {K : Frag} {f : Addr} {args : List Value} {E F : List (Addr × Obj)} {Post Post' : Value → List (Addr × Obj) → Prop}
theorem Contract.mono (C : Contract n prog w K f args E Post) (h : ∀ v E', Post v E' → Post' v E') : Contract n prog w K f args E Post' :=
  fun dp un gd outer base s p loose mean mg mb R hd hu B NE X T XB TB D hret => C dp un gd outer base s p loose mean mg mb R hd hu B NE X T XB TB D fun v E' h' tk' g' a b c d => hret v E' h' tk' g' a b c (h _ _ d)
theorem ContractP.mono (C : ContractP n prog w K f args E Post) (h : ∀ v E', Post v E' → Post' v E') : ContractP n prog w K f args E Post' :=
  fun dp un gd outer base s p loose mean mg mb R hd hu B NE X T hret => C dp un gd outer base s p loose mean mg mb R hd hu B NE X T fun v E' h' tk' a b d => hret v E' h' tk' a b (h _ _ d)
theorem ContractP.frame (C : ContractP n prog w K f args E Post) (hne : ∀ q ∈ F, ∀ r ∈ E, q.1 ≠ r.1) : ContractP n prog w K f args (E ++ F) fun v E'' => ∃ E', Post v E' ∧ E'' = E' ++ F := by
  intro dp un gd outer base s p loose mean mg mb R hd hu B NE X T hret
  have k : ∀ b o, (hideAll s.heap (addrs (E ++ F))).get? b = some o → (hideAll s.heap (addrs E)).get? b = some o := fun b o e => hideAll_get _ (of_hideAll _ e) fun hm => by
    have this : (hideAll s.heap (addrs (E ++ F))).get? b = none := hideAll_none _ (by unfold addrs at hm ⊢; rw [List.map_append]; exact List.mem_append_left _ hm)
    rw [e] at this; cases this
  refine C dp un gd outer base s p loose mean mg mb R hd hu ⟨B.stack, fun b o e => k b o (B.stays b o e), B.frames.of_keeps fun b o e _ => ⟨o, k b o e, rfl⟩⟩ (fun q hq => NE q (List.mem_append_left _ hq)) (X.keeps k) (T.keeps k) fun v E' h' tk' a b c => ?_
  refine hret v (E' ++ F) h' tk' (fun q hq => ?_) (fun b' o e => b b' o (k b' o e)) ⟨E', c, rfl⟩
  rcases List.mem_append.mp hq with hq | hq
  · refine ⟨(a q hq).1, ?_⟩
    cases e : (hideAll s.heap (addrs (E ++ F))).get? q.1 with
    | none => rfl
    | some o => have := (a q hq).2; rw [k _ _ e] at this; cases this
  · exact ⟨b _ _ (hideAll_get _ (NE q (List.mem_append_right _ hq)) fun hm => by
      obtain ⟨r, hr, e⟩ := List.mem_map.mp hm
      exact hne q hq r hr e.symm), hideAll_none _ (List.mem_map_of_mem (List.mem_append_right _ hq))⟩
end
section
variable {M : List Int} {f k : Int} {i : Nat}
theorem rr_last (h : M ≠ []) : M.getD (-1 + (M.length : Int)).toNat 0 = M.getLast h := by
  have hp := List.length_pos_iff.mpr h
  rw [show (-1 + (M.length : Int)).toNat = M.length - 1 by omega, List.getLast_eq_getElem, List.getD_eq_getElem?_getD, List.getElem?_eq_getElem (by omega)]
  rfl
theorem get_inj (hd : M.Nodup) {a b : Nat} {x : Int} (ha : M[a]? = some x) (hb : M[b]? = some x) : a = b := by
  obtain ⟨la, ea⟩ := List.getElem?_eq_some_iff.mp ha
  obtain ⟨lb, eb⟩ := List.getElem?_eq_some_iff.mp hb
  rcases Nat.lt_trichotomy a b with h | h | h
  · exact absurd (ea.trans eb.symm) ((List.pairwise_iff_getElem.mp hd) a b la lb h)
  · exact h
  · exact absurd (eb.trans ea.symm) ((List.pairwise_iff_getElem.mp hd) b a lb la h)
/-- the list after the key at i gave its place to the last one -/
def rrCut (M : List Int) (i : Nat) : List Int := if i = M.length - 1 then M.dropLast else (M.set i (M.getD (-1 + (M.length : Int)).toNat 0)).dropLast
theorem rrCut_len : (rrCut M i).length = M.length - 1 := by unfold rrCut; split <;> simp
theorem rrCut_get (hi : i < M.length) {j : Nat} (hj : j < M.length - 1) : (rrCut M i)[j]? = if j = i then M[M.length - 1]? else M[j]? := by
  unfold rrCut
  have hl : M.getD (-1 + (M.length : Int)).toNat 0 = M[M.length - 1] := by
    rw [show (-1 + (M.length : Int)).toNat = M.length - 1 by omega, List.getD_eq_getElem?_getD, List.getElem?_eq_getElem (by omega)]
    rfl
  split
  · rename_i h
    rw [if_neg (by omega), List.getElem?_dropLast, if_pos hj]
  · rename_i h
    rw [List.getElem?_dropLast, List.length_set, if_pos hj, List.getElem?_set, hl]
    by_cases e : j = i
    · rw [if_pos e.symm, if_pos e, if_pos hi, List.getElem?_eq_getElem (by omega)]
    · rw [if_neg (fun q => e q.symm), if_neg e]
theorem rrCut_mem (hd : M.Nodup) (hi : M[i]? = some f) (j : Int) : j ∈ rrCut M i ↔ j ∈ M ∧ j ≠ f := by
  obtain ⟨hl, _⟩ := List.getElem?_eq_some_iff.mp hi
  constructor
  · intro h
    obtain ⟨a, ha⟩ := List.mem_iff_getElem?.mp h
    have hla : a < M.length - 1 := by
      obtain ⟨q, _⟩ := List.getElem?_eq_some_iff.mp ha
      rwa [rrCut_len] at q
    rw [rrCut_get hl hla] at ha
    split at ha
    · refine ⟨List.mem_of_getElem? ha, ?_⟩
      rintro rfl
      have := get_inj hd ha hi
      omega
    · refine ⟨List.mem_of_getElem? ha, ?_⟩
      rintro rfl
      exact absurd (get_inj hd ha hi) (by assumption)
  · rintro ⟨h, hne⟩
    obtain ⟨a, ha⟩ := List.mem_iff_getElem?.mp h
    obtain ⟨la, _⟩ := List.getElem?_eq_some_iff.mp ha
    have hai : a ≠ i := fun e => hne (by rw [e, hi] at ha; exact (Option.some.inj ha).symm)
    refine List.mem_iff_getElem?.mpr ?_
    by_cases e : a = M.length - 1
    · refine ⟨i, ?_⟩
      rw [rrCut_get hl (by omega), if_pos rfl, ← e]
      exact ha
    · refine ⟨a, ?_⟩
      rw [rrCut_get hl (by omega), if_neg hai]
      exact ha
theorem rrCut_nodup (hd : M.Nodup) (hi : i < M.length) : (rrCut M i).Nodup := by
  refine List.pairwise_iff_getElem.mpr fun a b la lb hab e => ?_
  rw [rrCut_len] at la lb
  have ga := rrCut_get hi la
  have gb := rrCut_get hi lb
  rw [List.getElem?_eq_getElem (by rw [rrCut_len]; omega)] at ga gb
  rw [e] at ga
  have gg := ga.symm.trans gb
  have hs : ∀ c, c < M.length → M[c]? = some M[c]! := fun c hc => by rw [List.getElem?_eq_getElem hc, List.getElem!_eq_getElem?_getD, List.getElem?_eq_getElem hc]; rfl
  split at gg <;> split at gg
  · omega
  · have := get_inj hd (hs _ (by omega)) (gg.symm.trans (hs _ (by omega))); omega
  · have := get_inj hd (hs _ (by omega)) (gg.trans (hs _ (by omega))); omega
  · have := get_inj hd (hs _ (by omega)) (gg.symm.trans (hs _ (by omega))); omega
end
theorem nd_mid {l1 l2 l3 : List Nat} (h : (l1 ++ l2 ++ l3).Nodup) : (∀ a ∈ l1, ∀ b ∈ l2, a ≠ b) ∧ ∀ a ∈ l3, ∀ b ∈ l2, a ≠ b := by
  rw [List.nodup_append] at h
  obtain ⟨h1, _, h3⟩ := h
  rw [List.nodup_append] at h1
  exact ⟨h1.2.2, fun a ha b hb e => h3 b (List.mem_append_right _ hb) a ha e.symm⟩
theorem nd_ne {l : List Nat} (h : l.Nodup) {i j : Nat} {a b : Nat} (hi : l[i]? = some a) (hj : l[j]? = some b) (hij : i ≠ j) : a ≠ b := by
  rintro rfl
  obtain ⟨la, ea⟩ := List.getElem?_eq_some_iff.mp hi
  obtain ⟨lb, eb⟩ := List.getElem?_eq_some_iff.mp hj
  rcases Nat.lt_or_gt_of_ne hij with q | q
  · exact (List.pairwise_iff_getElem.mp h) i j la lb q (ea.trans eb.symm)
  · exact (List.pairwise_iff_getElem.mp h) j i lb la q (eb.trans ea.symm)
/-- a contract that also leans on a fact H of the base heap -/
def ContractPH (H : Heap → Prop) (n : Nat) (prog : Program) (w : World) (K : Frag) (f : Addr) (args : List Value) (E : List (Addr × Obj)) (Post : Value → List (Addr × Obj) → Prop) : Prop :=
  ∀ (dp un : Nat) (gd : Option (List Code)) (outer : List Env) (base : Heap) (s : Shared) (p : Program) (loose : List Str) (mean : ExcName → Option Value) (mg mb : Str → Option Value) (R : Result → Shared → Prop),
    dp + n < recursionLimit → un + 10 * n < cLine → Below (arO dp un gd outer) base outer (hideAll s.heap (addrs E)) → (∀ q ∈ E, s.heap.get? q.1 = some q.2) → K.In (hideAll s.heap (addrs E)) →
    Top p loose mean mg mb (hideAll s.heap (addrs E)) → H base →
    (∀ v E' h' tk', (∀ q ∈ E', h'.get? q.1 = some q.2 ∧ (hideAll s.heap (addrs E)).get? q.1 = none) → (∀ b o, (hideAll s.heap (addrs E)).get? b = some o → h'.get? b = some o) → Post v E' →
      R (.ok (.ret v)) { s with heap := h', toks := tk' }) →
    codeAny (model prog w) (arO dp un gd outer) (.call (.ref f) ⟨args, []⟩) R s
theorem use_contractPH {H : Heap → Prop} {n : Nat} {prog : Program} {w : World} {K : Frag} {f : Addr} {args : List Value} {E : List (Addr × Obj)} {Post : Value → List (Addr × Obj) → Prop}
    (C : ContractPH H n prog w K f args E Post) {A : Around} {dp un : Nat} {gd : Option (List Code)} {outer : List Env} {env : Env} {A₀ : Around} {base h₀ : Heap} {L : Addr} {m : Str → Option Value} {s : Shared}
    {p : Program} {loose : List Str} {mean : ExcName → Option Value} {mg mb : Str → Option Value} {news : List (Addr × Obj)} {Q Ex : Value → Shared → Prop} (hA : A = arO dp un gd (env :: outer))
    (B : Below A₀ base outer h₀) (F : Fr h₀ L s.heap m) (X : K.In h₀) (N : News h₀ L s.heap news) (T : Top p loose mean mg mb h₀) (hH : H base) (hf : env.frame = some L) (hk : env.scope.kind = .function)
    (hd : dp + n < recursionLimit) (hu : un + 10 * n < cLine) (keep : List (Addr × Obj)) (hE : ∀ q ∈ E, q ∈ news) (hK : ∀ q ∈ keep, q ∈ news) (hne : ∀ q ∈ keep, ∀ r ∈ E, q.1 ≠ r.1)
    (h : ∀ v E' h' tk', Fr h₀ L h' m → News h₀ L h' (keep ++ E') → (∀ q ∈ E', ∀ r ∈ keep, r.1 ≠ q.1) → Post v E' → Q v { s with heap := h', toks := tk' }) :
    wpAny (model prog w) A (call (.ref f) args) Q Ex s := by
  have NE : News h₀ L s.heap E := fun q hq => N q (hE q hq)
  have nE : ∀ q ∈ E, h₀.get? q.1 = none := fun q hq => (NE q hq).2.2
  subst hA
  have k := hide_keeps (E := E) F.keep nE
  refine wpAny_call (C dp un gd (env :: outer) base s p loose mean mg mb _ hd hu (below_hide B F NE rfl hf hk) (fun q hq => (NE q hq).1) (X.keeps k) (T.keeps k) hH fun v E' h' tk' hE' hk' hp => ?_)
  have nL : L ∉ addrs E := fun q => by
    obtain ⟨p, hp, e⟩ := List.mem_map.mp q
    exact (NE p hp).2.1 e
  obtain ⟨oL, a1, a2, hL, a3⟩ := F.ns
  have hL' := hideAll_get (addrs E) hL nL
  have gk : ∀ q ∈ keep, (hideAll s.heap (addrs E)).get? q.1 = some q.2 := fun q hq => hideAll_get _ (N q (hK q hq)).1 fun z => by
    obtain ⟨r, hr, e⟩ := List.mem_map.mp z
    exact hne q hq r hr e.symm
  refine h v E' h' tk' ⟨⟨oL, a1, a2, hk' _ _ hL', a3⟩, fun b o e => hk' b o (k b o e), F.above⟩ (fun q hq => ?_) (fun q hq r hr e => ?_) hp
  · rcases (List.mem_append.mp hq).symm with hq | hq
    · refine ⟨(hE' q hq).1, fun e => ?_, ?_⟩
      · have := (hE' q hq).2
        rw [e, hL'] at this; cases this
      · cases z : h₀.get? q.1 with
        | none => rfl
        | some o => have := (hE' q hq).2; rw [k _ _ z] at this; cases this
    · exact ⟨hk' _ _ (gk q hq), (N q (hK q hq)).2⟩
  · have := (hE' q hq).2
    rw [← e, gk r hr] at this; cases this
/-- the least recently used cache as a list of keys, the one used longest ago first -/
def lruStep (r : Nat) (O : List Int) (x : Int) : List Int := if x ∈ O then O.filter (fun y => decide (y ≠ x)) ++ [x] else (if O.length < r then O else O.tail) ++ [x]
/-- u may stand before v when the present place is c -/
def Side (c u v : Int) : Prop := ¬(v < u ∧ u ≤ c) ∧ ¬(c ≤ u ∧ u < v)
theorem side_turn {c x u v : Int} (h : Side c u v) (hx : x - c ≤ 1) (hx2 : c - x ≤ 1) (hu : u ≠ x) : Side x u v := by
  unfold Side at *
  omega
theorem side_last {x u : Int} : Side x u x := by unfold Side; omega
theorem lru_side {r : Nat} {O : List Int} {c x : Int} (h : O.Pairwise (Side c)) (hx : x - c ≤ 1) (hx2 : c - x ≤ 1) : (lruStep r O x).Pairwise (Side x) := by
  unfold lruStep
  split
  · rw [List.pairwise_append]
    refine ⟨?_, List.pairwise_singleton _ _, fun a _ b hb => by rw [List.mem_singleton.mp hb]; exact side_last⟩
    refine (h.filter _).imp_of_mem fun {a b} ha _ q => side_turn q hx hx2 ?_
    have := (List.mem_filter.mp ha).2
    simpa using this
  · rename_i hn
    rw [List.pairwise_append]
    refine ⟨?_, List.pairwise_singleton _ _, fun a _ b hb => by rw [List.mem_singleton.mp hb]; exact side_last⟩
    have sub : ∀ l : List Int, l.Sublist O → l.Pairwise (Side x) := fun l hl =>
      (h.sublist hl).imp_of_mem fun {a b} ha _ q => side_turn q hx hx2 fun e => hn (e ▸ hl.subset ha)
    split
    · exact sub _ (List.Sublist.refl _)
    · exact sub _ (List.tail_sublist _)
def Convex (O : List Int) : Prop := ∀ u ∈ O, ∀ v ∈ O, ∀ t, u ≤ t → t ≤ v → t ∈ O
theorem mem_lruStep_self {r : Nat} {O : List Int} {x : Int} : x ∈ lruStep r O x := by
  unfold lruStep
  split <;> simp
theorem lru_nodup {r : Nat} {O : List Int} {x : Int} (h : O.Nodup) : (lruStep r O x).Nodup := by
  unfold lruStep
  split
  · rw [List.nodup_append]
    refine ⟨h.filter _, by simp, fun a ha b hb => ?_⟩
    rw [List.mem_singleton.mp hb]
    simpa using (List.mem_filter.mp ha).2
  · rename_i hn
    rw [List.nodup_append]
    refine ⟨?_, by simp, fun a ha b hb => ?_⟩
    · split
      · exact h
      · exact h.sublist (List.tail_sublist _)
    · rw [List.mem_singleton.mp hb]
      rintro rfl
      split at ha
      · exact hn ha
      · exact hn (List.mem_of_mem_tail ha)
/-- where a missing place lies next to the present one, all that is held lies on the other side, and the head is the far end -/
theorem far_end {O : List Int} {c x h : Int} {T : List Int} (hO : O = h :: T) (hs : O.Pairwise (Side c)) (hd : O.Nodup) (hc : c ∈ O) (hv : Convex O) (hx : x - c ≤ 1) (hx2 : c - x ≤ 1) (hn : x ∉ O) :
    (x = c + 1 ∧ (∀ v ∈ O, v ≤ c) ∧ ∀ v ∈ T, h < v) ∨ (x = c - 1 ∧ (∀ v ∈ O, c ≤ v) ∧ ∀ v ∈ T, v < h) := by
  have hne : x ≠ c := fun e => hn (e ▸ hc)
  subst hO
  have hs' := List.pairwise_cons.mp hs
  have hd' := List.nodup_cons.mp hd
  rcases (by omega : x = c + 1 ∨ x = c - 1) with e | e
  · left
    have le : ∀ v ∈ h :: T, v ≤ c := fun v hv' => by
      rcases Int.lt_or_le c v with q | q
      · exact absurd (hv c hc v hv' x (by omega) (by omega)) hn
      · exact q
    refine ⟨e, le, fun v hT => ?_⟩
    have := (hs'.1 v hT).1
    have h1 := le h (.head _)
    have h2 : v ≠ h := fun q => hd'.1 (q ▸ hT)
    omega
  · right
    have ge : ∀ v ∈ h :: T, c ≤ v := fun v hv' => by
      rcases Int.lt_or_le v c with q | q
      · exact absurd (hv v hv' c hc x (by omega) (by omega)) hn
      · exact q
    refine ⟨e, ge, fun v hT => ?_⟩
    have := (hs'.1 v hT).2
    have h1 := ge h (.head _)
    have h2 : v ≠ h := fun q => hd'.1 (q ▸ hT)
    omega
theorem lru_convex {r : Nat} {O : List Int} {c x : Int} (hr : 1 ≤ r) (hs : O.Pairwise (Side c)) (hd : O.Nodup) (hc : c ∈ O) (hv : Convex O) (hx : x - c ≤ 1) (hx2 : c - x ≤ 1) : Convex (lruStep r O x) := by
  by_cases hm : x ∈ O
  · have e : ∀ t, t ∈ lruStep r O x ↔ t ∈ O := fun t => by
      unfold lruStep
      rw [if_pos hm]
      simp only [List.mem_append, List.mem_filter, List.mem_singleton, decide_eq_true_eq]
      exact ⟨fun q => q.elim (fun z => z.1) fun z => z ▸ hm, fun q => if z : t = x then .inr z else .inl ⟨q, z⟩⟩
    intro u hu v hv' t h1 h2
    exact (e t).mpr (hv u ((e u).mp hu) v ((e v).mp hv') t h1 h2)
  · unfold lruStep
    rw [if_neg hm]
    cases hO : O with
    | nil => rw [hO] at hc; cases hc
    | cons h T =>
      have F := far_end hO hs hd hc hv hx hx2 hm
      rw [hO] at hv hc hm F
      intro u hu v hv' t h1 h2
      rw [List.mem_append, List.mem_singleton] at hu hv' ⊢
      have tl : (if (h :: T).length < r then h :: T else (h :: T).tail) = h :: T ∨ (if (h :: T).length < r then h :: T else (h :: T).tail) = T := by split <;> simp
      rcases tl with e | e
      · rw [e] at hu hv' ⊢
        by_cases ht : t = x
        · exact .inr ht
        · left
          rcases F with ⟨e1, f1, f2⟩ | ⟨e1, f1, f2⟩
          · have hu' : u ∈ h :: T := by
              rcases hu with q | q
              · exact q
              · rcases hv' with z | z
                · have := f1 v z; omega
                · omega
            refine hv u hu' c hc t h1 ?_
            rcases hv' with z | z
            · have := f1 v z; omega
            · omega
          · have hv'' : v ∈ h :: T := by
              rcases hv' with q | q
              · exact q
              · rcases hu with z | z
                · have := f1 u z; omega
                · omega
            refine hv c hc v hv'' t ?_ h2
            rcases hu with z | z
            · have := f1 u z; omega
            · omega
      · rw [e] at hu hv' ⊢
        by_cases ht : t = x
        · exact .inr ht
        · left
          rcases F with ⟨e1, f1, f2⟩ | ⟨e1, f1, f2⟩
          · have hu' : u ∈ T := by
              rcases hu with q | q
              · exact q
              · rcases hv' with z | z
                · have := f1 v (.tail _ z); omega
                · omega
            have tO : t ∈ h :: T := hv u (.tail _ hu') c hc t h1 (by
              rcases hv' with z | z
              · have := f1 v (.tail _ z); omega
              · omega)
            rcases List.mem_cons.mp tO with q | q
            · have := f2 u hu'; omega
            · exact q
          · have hv'' : v ∈ T := by
              rcases hv' with q | q
              · exact q
              · rcases hu with z | z
                · have := f1 u (.tail _ z); omega
                · omega
            have tO : t ∈ h :: T := hv c hc v (.tail _ hv'') t (by
              rcases hu with z | z
              · have := f1 u (.tail _ z); omega
              · omega) h2
            rcases List.mem_cons.mp tO with q | q
            · have := f2 v hv''; omega
            · exact q
theorem sorted_from : ∀ {l : List Int}, l.Pairwise (· ≤ ·) → l.Nodup → Convex l → ∀ i, i < l.length → l.getD i 0 = l.getD 0 0 + i := by
  intro l
  induction l with
  | nil => intro _ _ _ i h; simp at h
  | cons a l ih =>
    intro hs hn hc i hi
    have hs' := List.pairwise_cons.mp hs
    have hn' := List.nodup_cons.mp hn
    cases i with
    | zero => simp
    | succ i =>
      cases l with
      | nil => simp at hi
      | cons b l =>
        have hb : b = a + 1 := by
          have h1 := hs'.1 b (.head _)
          have h2 : b ≠ a := fun e => hn'.1 (e ▸ .head _)
          have h3 := hc a (.head _) b (.tail _ (.head _)) (a + 1) (by omega) (by omega)
          rcases List.mem_cons.mp h3 with e | e
          · omega
          · rcases List.mem_cons.mp e with e | e
            · omega
            · have := (List.pairwise_cons.mp hs'.2).1 _ e; omega
        have hc' : Convex (b :: l) := fun u hu v hv t h1 h2 => by
          rcases List.mem_cons.mp (hc u (.tail _ hu) v (.tail _ hv) t h1 h2) with e | e
          · have h4 := hs'.1 u hu
            have h5 : u ≠ a := fun e => hn'.1 (e ▸ hu)
            omega
          · exact e
        have := ih hs'.2 hn'.2 hc' i (by simpa using hi)
        simp only [List.getD_cons_succ, List.getD_cons_zero] at this ⊢
        omega
theorem sorted_span {l O : List Int} (hs : l.Pairwise (· ≤ ·)) (hp : l.Perm O) (hO : O.Nodup) (hc : Convex O) (h0 : 0 < l.length) : l.getD (-1 + (l.length : Int)).toNat 0 - l.getD (Int.toNat 0) 0 = (l.length : Int) - 1 := by
  have hn : l.Nodup := hp.nodup_iff.mpr hO
  have hc' : Convex l := fun u hu v hv t h1 h2 => hp.mem_iff.mpr (hc u (hp.mem_iff.mp hu) v (hp.mem_iff.mp hv) t h1 h2)
  have := sorted_from hs hn hc' (-1 + (l.length : Int)).toNat (by omega)
  rw [this]
  show l.getD 0 0 + _ - l.getD 0 0 = _
  omega
def nextUse (ws : List Int) (p : Nat) (k : Int) : Nat := p + 1 + (ws.drop (p + 1)).idxOf k
theorem nextUse_hit {ws : List Int} {p i : Nat} {k : Int} (h1 : ∀ j, j < i → ws.getD (p + 1 + j) 0 ≠ k) (h2 : ws.getD (p + 1 + i) 0 = k) (h3 : p + 1 + i < ws.length) : nextUse ws p k = p + 1 + i := by
  unfold nextUse
  congr 1
  have key : ∀ (l : List Int) (i : Nat), i < l.length → (∀ j, j < i → l.getD j 0 ≠ k) → l.getD i 0 = k → l.idxOf k = i := by
    intro l
    induction l with
    | nil => intro i h; simp at h
    | cons a r ih =>
      intro i h h1 h2
      cases i with
      | zero => simp at h2; simp [List.idxOf_cons, h2]
      | succ i =>
        have ha : a ≠ k := by simpa using h1 0 (Nat.succ_pos _)
        have := ih i (by simpa using h) (fun j hj => by simpa using h1 (j + 1) (by omega)) (by simpa using h2)
        rw [List.idxOf_cons, this]
        have hb : (a == k) = false := by simpa using ha
        rw [hb]
        rfl
  refine key _ i (by simp; omega) (fun j hj => ?_) ?_
  · have := h1 j hj
    simpa [List.getD_eq_getElem?_getD, List.getElem?_drop] using this
  · simpa [List.getD_eq_getElem?_getD, List.getElem?_drop] using h2
theorem nextUse_miss {ws : List Int} {p : Nat} {k : Int} (hp : p < ws.length) (h1 : ∀ j, j < ws.length - (p + 1) → ws.getD (p + 1 + j) 0 ≠ k) : nextUse ws p k = ws.length := by
  unfold nextUse
  have hn : k ∉ ws.drop (p + 1) := by
    intro hm
    obtain ⟨j, hj, e⟩ := List.mem_iff_getElem.mp hm
    simp only [List.length_drop] at hj
    refine h1 j hj ?_
    rw [List.getElem_drop] at e
    rw [List.getD_eq_getElem?_getD, List.getElem?_eq_getElem (by omega)]
    simpa using e
  rw [List.idxOf_eq_length hn, List.length_drop]
  omega
theorem filter_len {O : List Int} {k : Int} (hn : O.Nodup) (h : k ∈ O) : (O.filter (fun y => decide (y ≠ k))).length + 1 = O.length := by
  have e : O.filter (fun y => decide (y ≠ k)) = O.erase k := by
    rw [hn.erase_eq_filter]
    refine List.filter_congr fun y _ => ?_
    show decide (¬y = k) = !(y == k)
    by_cases q : y = k <;> simp [q]
  rw [e, List.length_erase_of_mem h]
  have := List.length_pos_of_mem h
  omega
/-- law 01: gaps between two following asks of the same key -/
def nxt (row : List Int) (t : Nat) (k : Int) : Nat := t + (row.drop t).idxOf k
theorem nextUse_nxt (row : List Int) (t : Nat) (k : Int) : nextUse row t k = nxt row (t + 1) k := rfl
structure Gap (row : List Int) (q p : Nat) : Prop where
  lt : q < p
  len : p < row.length
  eq : row.getD q 0 = row.getD p 0
  no : ∀ m, q < m → m < p → row.getD m 0 ≠ row.getD p 0
theorem drop_cons {row : List Int} {t : Nat} (h : t < row.length) : row.drop t = row.getD t 0 :: row.drop (t + 1) := by
  rw [List.drop_eq_getElem_cons h, List.getD_eq_getElem?_getD, List.getElem?_eq_getElem h]
  rfl
theorem nxt_same {row : List Int} {t : Nat} (h : t < row.length) : nxt row t (row.getD t 0) = t := by
  unfold nxt
  rw [drop_cons h, List.idxOf_cons]
  simp
theorem nxt_other {row : List Int} {t : Nat} {k : Int} (h : t < row.length) (hk : k ≠ row.getD t 0) : nxt row t k = nxt row (t + 1) k := by
  unfold nxt
  have e : (row.getD t 0 == k) = false := by simpa using fun z : row.getD t 0 = k => hk z.symm
  rw [drop_cons h, List.idxOf_cons, e]
  simp only [cond_false]
  omega
theorem nxt_ge {row : List Int} {t : Nat} {k : Int} : t ≤ nxt row t k := Nat.le_add_right _ _
theorem nxt_gap {row : List Int} {q p : Nat} (g : Gap row q p) : nxt row (q + 1) (row.getD q 0) = p := by
  have gen : ∀ d m, m + d = p → q < m → nxt row m (row.getD q 0) = p := by
    intro d
    induction d with
    | zero =>
      intro m e _
      have : m = p := by omega
      subst this
      rw [g.eq]
      exact nxt_same g.len
    | succ d ih =>
      intro m e hm
      have hl := g.len
      rw [nxt_other (by omega) (fun z => g.no m hm (by omega) (by rw [← z, g.eq]))]
      exact ih (m + 1) (by omega) (by omega)
  have := g.lt
  exact gen (p - (q + 1)) (q + 1) (by omega) (by omega)
section
variable {α : Type}
theorem len_filter_or (p q : α → Bool) : ∀ l : List α, (l.filter fun x => p x || q x).length ≤ (l.filter p).length + (l.filter q).length
  | [] => by simp
  | a :: l => by
    have := len_filter_or p q l
    simp only [List.filter_cons]
    cases p a <;> cases q a <;> simp <;> omega
theorem len_filter_imp {p q : α → Bool} : ∀ {l : List α}, (∀ x ∈ l, p x = true → q x = true) → (l.filter p).length ≤ (l.filter q).length
  | [], _ => by simp
  | a :: l, h => by
    have ih := len_filter_imp (l := l) fun x hx => h x (.tail _ hx)
    have ha := h a (.head _)
    simp only [List.filter_cons]
    cases e : p a <;> cases e2 : q a <;> simp_all <;> omega
theorem len_filter_congr {p q : α → Bool} {l : List α} (h : ∀ x ∈ l, p x = q x) : (l.filter p).length = (l.filter q).length := by rw [List.filter_congr h]
end
def bn (b : Bool) : Nat := if b = true then 1 else 0
theorem len_filter_erase {p : Int → Bool} {l : List Int} {a : Int} (h : a ∈ l) : (l.filter p).length = ((l.erase a).filter p).length + bn (p a) := by
  have hp : l.Perm (a :: l.erase a) := List.perm_cons_erase h
  rw [(hp.filter p).length_eq, List.filter_cons]
  unfold bn
  split <;> simp
/-- gaps kept, at most r - 1 over any place -/
structure Feasible (r : Nat) (row : List Int) (S : List (Nat × Nat)) : Prop where
  nd : S.Nodup
  gap : ∀ g ∈ S, Gap row g.1 g.2
  few : ∀ t, (S.filter fun g => decide (g.1 < t) && decide (t < g.2)).length + 1 ≤ r
def below (S : List (Nat × Nat)) (t u : Nat) : Nat := (S.filter fun g => decide (g.1 < t) && decide (g.2 ≤ u)).length
theorem below_step {row : List Int} {S : List (Nat × Nat)} {r t u : Nat} (H : Feasible r row S) (ht : t < row.length) : below S (t + 1) u ≤ below S t u + bn (decide (nxt row (t + 1) (row.getD t 0) ≤ u)) := by
  have h1 : below S (t + 1) u ≤ below S t u + (S.filter fun g => decide (g.1 = t) && decide (g.2 ≤ u)).length := by
    refine Nat.le_trans (len_filter_imp (q := fun g => (decide (g.1 < t) && decide (g.2 ≤ u)) || (decide (g.1 = t) && decide (g.2 ≤ u))) fun g _ h => ?_) (len_filter_or _ _ _)
    simp only [Bool.and_eq_true, decide_eq_true_eq, Bool.or_eq_true] at h ⊢
    omega
  have h2 : (S.filter fun g => decide (g.1 = t) && decide (g.2 ≤ u)).length ≤ bn (decide (nxt row (t + 1) (row.getD t 0) ≤ u)) := by
    have hall : ∀ g ∈ S.filter (fun g => decide (g.1 = t) && decide (g.2 ≤ u)), g = (t, nxt row (t + 1) (row.getD t 0)) ∧ nxt row (t + 1) (row.getD t 0) ≤ u := by
      intro g hg
      obtain ⟨h3, h4⟩ := List.mem_filter.mp hg
      simp only [Bool.and_eq_true, decide_eq_true_eq] at h4
      have h5 := nxt_gap (H.gap g h3)
      rw [h4.1] at h5
      exact ⟨Prod.ext h4.1 h5.symm, by rw [h5]; exact h4.2⟩
    have hnd : (S.filter (fun g => decide (g.1 = t) && decide (g.2 ≤ u))).Nodup := H.nd.filter _
    match hL : S.filter (fun g => decide (g.1 = t) && decide (g.2 ≤ u)) with
    | [] => rw [hL]; exact Nat.zero_le _
    | [a] =>
      rw [hL] at hall ⊢
      have := (hall a (.head _)).2
      unfold bn
      rw [if_pos (decide_eq_true this)]
      exact Nat.le_refl _
    | a :: b :: l =>
      rw [hL] at hall hnd
      have e : a = b := (hall a (.head _)).1.trans (hall b (.tail _ (.head _))).1.symm
      exact absurd (e ▸ List.Mem.head _) (List.nodup_cons.mp hnd).1
  omega
theorem below_cut {row : List Int} {S : List (Nat × Nat)} {r t u : Nat} (H : Feasible r row S) : below S t u + 1 ≤ below S t t + r := by
  have h1 : below S t u ≤ below S t t + (S.filter fun g => decide (g.1 < t) && decide (t < g.2)).length := by
    refine Nat.le_trans (len_filter_imp (q := fun g => (decide (g.1 < t) && decide (g.2 ≤ t)) || (decide (g.1 < t) && decide (t < g.2))) fun g _ h => ?_) (len_filter_or _ _ _)
    simp only [Bool.and_eq_true, decide_eq_true_eq, Bool.or_eq_true] at h ⊢
    omega
  have := H.few t
  omega
inductive MinRun (r : Nat) (row : List Int) : Nat → List Int → List Nat → Prop where
  | zero : MinRun r row 0 [] []
  | step {t : Nat} {M M' : List Int} {f : List Nat} : MinRun r row t M f → t < row.length → RRStep (nextUse row t) r (row.getD t 0) M M' → MinRun r row (t + 1) M' (if row.getD t 0 ∈ M then f ++ [t] else f)
theorem MinRun.small {r : Nat} {row : List Int} {t : Nat} {M : List Int} {f : List Nat} (hr : 1 ≤ r) (h : MinRun r row t M f) : M.Nodup ∧ M.length ≤ r := by
  induction h with
  | zero => exact ⟨List.nodup_nil, Nat.zero_le _⟩
  | @step t M M' f _ ht R ih =>
    refine ⟨R.nd, ?_⟩
    by_cases hx : row.getD t 0 ∈ M
    · rw [R.hit hx]; exact ih.2
    · rcases Nat.lt_or_ge M.length r with q | q
      · rw [R.miss hx q, List.length_append, List.length_singleton]; omega
      · obtain ⟨f', _, _, e, _⟩ := R.evict hx (by omega)
        omega
theorem min_below {r : Nat} {row : List Int} {S : List (Nat × Nat)} (hr : 1 ≤ r) (H : Feasible r row S) {t : Nat} {M : List Int} {f : List Nat} (h : MinRun r row t M f) :
    ∀ u, t ≤ u + 1 → u < row.length → below S t u ≤ f.length + (M.filter fun k => decide (nxt row t k ≤ u)).length := by
  induction h with
  | zero =>
    intro u _ _
    have : below S 0 u = 0 := by unfold below; simp
    omega
  | @step t M M' f hM ht R ih =>
    intro u hu hul
    have hsm := hM.small hr
    have h0 := below_step (u := u) H ht
    have h1 := ih u (by omega) hul
    have oth : ∀ k, k ≠ row.getD t 0 → (decide (nxt row (t + 1) k ≤ u)) = decide (nxt row t k ≤ u) := fun k hk => by rw [nxt_other ht hk]
    by_cases hx : row.getD t 0 ∈ M
    · rw [if_pos hx, R.hit hx, List.length_append, List.length_singleton]
      rw [len_filter_erase hx] at h1 ⊢
      have e : ((M.erase (row.getD t 0)).filter fun k => decide (nxt row (t + 1) k ≤ u)).length = ((M.erase (row.getD t 0)).filter fun k => decide (nxt row t k ≤ u)).length :=
        len_filter_congr fun k hk => oth k fun e => by rw [e] at hk; exact (hsm.1.not_mem_erase) hk
      rw [e]
      have e2 : bn (decide (nxt row t (row.getD t 0) ≤ u)) = 1 := by rw [nxt_same ht]; simp [bn]; omega
      omega
    · rw [if_neg hx]
      rcases Nat.lt_or_ge M.length r with q | q
      · rw [R.miss hx q, List.filter_append, List.length_append]
        have e : (M.filter fun k => decide (nxt row (t + 1) k ≤ u)).length = (M.filter fun k => decide (nxt row t k ≤ u)).length :=
          len_filter_congr fun k hk => oth k fun e => hx (e ▸ hk)
        have e2 : ([row.getD t 0].filter fun k => decide (nxt row (t + 1) k ≤ u)).length = bn (decide (nxt row (t + 1) (row.getD t 0) ≤ u)) := by
          unfold bn
          rw [List.filter_cons]
          split <;> simp
        omega
      · obtain ⟨v, hv1, hv2, hv3, hv4⟩ := R.evict hx (by omega)
        have hvx : v ≠ row.getD t 0 := fun e => hx (e ▸ hv1)
        have hp : M'.Perm (row.getD t 0 :: M.erase v) := perm_of_mem R.nd (List.nodup_cons.mpr ⟨fun z => hx (List.mem_of_mem_erase z), hsm.1.erase v⟩) fun j => by
          rw [hv4, List.mem_cons, hsm.1.mem_erase_iff]
          exact or_congr Iff.rfl and_comm
        rw [(hp.filter _).length_eq, List.filter_cons]
        rw [len_filter_erase hv1] at h1
        have e : ((M.erase v).filter fun k => decide (nxt row (t + 1) k ≤ u)).length = ((M.erase v).filter fun k => decide (nxt row t k ≤ u)).length :=
          len_filter_congr fun k hk => oth k fun e => hx (e ▸ List.mem_of_mem_erase hk)
        have e2 : (if decide (nxt row (t + 1) (row.getD t 0) ≤ u) = true then row.getD t 0 :: (M.erase v).filter (fun k => decide (nxt row (t + 1) k ≤ u)) else (M.erase v).filter (fun k => decide (nxt row (t + 1) k ≤ u))).length =
            ((M.erase v).filter fun k => decide (nxt row t k ≤ u)).length + bn (decide (nxt row (t + 1) (row.getD t 0) ≤ u)) := by
          unfold bn
          split <;> simp [e]
        rw [e2]
        by_cases hle : nxt row t v ≤ u
        · -- all held are asked by u: the count is r - 1
          have hfull : ((M.erase v).filter fun k => decide (nxt row t k ≤ u)) = M.erase v := List.filter_eq_self.mpr fun k hk => by
            have hkM := List.mem_of_mem_erase hk
            have hkx : k ≠ row.getD t 0 := fun e => hx (e ▸ hkM)
            have := hv2 k hkM
            rw [nextUse_nxt, nextUse_nxt, ← nxt_other ht hkx, ← nxt_other ht hvx] at this
            simpa using Nat.le_trans this hle
          rw [hfull, List.length_erase_of_mem hv1]
          have c1 := below_cut (t := t) (u := u) H
          have c2 := ih t (by omega) ht
          have c3 : (M.filter fun k => decide (nxt row t k ≤ t)).length = 0 := by
            rw [List.length_eq_zero_iff, List.filter_eq_nil_iff]
            intro k hk
            have hkx : k ≠ row.getD t 0 := fun e => hx (e ▸ hk)
            have := nxt_ge (row := row) (t := t + 1) (k := k)
            rw [← nxt_other ht hkx] at this
            simp only [decide_eq_true_eq]
            omega
          omega
        · have : bn (decide (nxt row t v ≤ u)) = 0 := by simp [bn, hle]
          omega
theorem min_best {r : Nat} {row : List Int} {S : List (Nat × Nat)} (hr : 1 ≤ r) (H : Feasible r row S) {M : List Int} {f : List Nat} (h : MinRun r row row.length M f) : S.length ≤ f.length := by
  rcases Nat.eq_zero_or_pos row.length with h0 | h0
  · have : S = [] := List.eq_nil_iff_forall_not_mem.mpr fun g hg => by have := (H.gap g hg).len; omega
    simp [this]
  · have h1 := min_below hr H h (row.length - 1) (by omega) (by omega)
    have h2 : below S row.length (row.length - 1) = S.length := by
      unfold below
      rw [List.filter_eq_self.mpr fun g hg => ?_]
      have := (H.gap g hg).len
      have := (H.gap g hg).lt
      simp only [Bool.and_eq_true, decide_eq_true_eq]
      omega
    have h3 : (M.filter fun k => decide (nxt row row.length k ≤ row.length - 1)).length = 0 := by
      rw [List.length_eq_zero_iff, List.filter_eq_nil_iff]
      intro k _
      have := nxt_ge (row := row) (t := row.length) (k := k)
      simp only [decide_eq_true_eq]
      omega
    omega
theorem gap_unique {row : List Int} {q q' p : Nat} (g : Gap row q p) (g' : Gap row q' p) : q = q' := by
  rcases Nat.lt_trichotomy q q' with h | h | h
  · exact absurd g'.eq (g.no q' h g'.lt)
  · exact h
  · exact absurd g.eq (g'.no q h g.lt)
open Classical in
noncomputable def prv (row : List Int) (p : Nat) : Nat := if h : ∃ q, Gap row q p then Classical.choose h else 0
theorem prv_gap {row : List Int} {q p : Nat} (g : Gap row q p) : prv row p = q := by
  unfold prv
  have h : ∃ q, Gap row q p := ⟨q, g⟩
  rw [dif_pos h]
  exact gap_unique (Classical.choose_spec h) g
theorem nodup_le : ∀ {A B : List Int}, A.Nodup → (∀ v ∈ A, v ∈ B) → A.length ≤ B.length
  | [], _, _, _ => Nat.zero_le _
  | a :: A, B, hA, hs => by
    have hA' := List.nodup_cons.mp hA
    have ha : a ∈ B := hs a (.head _)
    have := nodup_le (A := A) (B := B.erase a) hA'.2 fun u hu => (List.mem_erase_of_ne (fun q : u = a => hA'.1 (q ▸ hu))).mpr (hs u (.tail _ hu))
    rw [List.length_erase_of_mem ha] at this
    have := List.length_pos_of_mem ha
    simp only [List.length_cons]
    omega
/-- a cache's content over the asks: C t before ask t -/
structure Runs (r : Nat) (row : List Int) (C : Nat → List Int) : Prop where
  nd : ∀ t, t ≤ row.length → (C t).Nodup
  len : ∀ t, t ≤ row.length → (C t).length ≤ r
  zero : C 0 = []
  mem : ∀ t, t < row.length → row.getD t 0 ∈ C (t + 1)
  sub : ∀ t, t < row.length → ∀ k ∈ C (t + 1), k = row.getD t 0 ∨ k ∈ C t
def hitsOf (row : List Int) (C : Nat → List Int) (n : Nat) : List Nat := (List.range n).filter fun t => decide (row.getD t 0 ∈ C t)
theorem run_gap {r : Nat} {row : List Int} {C : Nat → List Int} (R : Runs r row C) {p : Nat} (hp : p < row.length) (hm : row.getD p 0 ∈ C p) : ∃ q, Gap row q p ∧ ∀ t, q < t → t ≤ p → row.getD p 0 ∈ C t := by
  have gen : ∀ d m, m + d = p → (∀ t, m ≤ t → t ≤ p → row.getD p 0 ∈ C t) → (∀ t, m ≤ t → t < p → row.getD t 0 ≠ row.getD p 0) → ∃ q, Gap row q p ∧ ∀ t, q < t → t ≤ p → row.getD p 0 ∈ C t := by
    intro d m
    induction m generalizing d with
    | zero =>
      intro e h1 _
      have := h1 0 (Nat.le_refl _) (Nat.zero_le _)
      rw [R.zero] at this
      cases this
    | succ m ih =>
      intro e h1 h2
      by_cases he : row.getD m 0 = row.getD p 0
      · exact ⟨m, ⟨by omega, hp, he, fun t h3 h4 => h2 t h3 h4⟩, fun t h3 h4 => h1 t h3 h4⟩
      · refine ih (d + 1) (by omega) (fun t h3 h4 => ?_) (fun t h3 h4 => ?_)
        · rcases Nat.eq_or_lt_of_le h3 with e3 | e3
          · subst e3
            exact (R.sub m (by omega) _ (h1 (m + 1) (Nat.le_refl _) (by omega))).resolve_left fun z => he z.symm
          · exact h1 t e3 h4
        · rcases Nat.eq_or_lt_of_le h3 with e3 | e3
          · subst e3; exact he
          · exact h2 t e3 h4
  exact gen 0 p (by omega) (fun t h3 h4 => by rw [show t = p by omega]; exact hm) (fun t h3 h4 => by omega)
noncomputable def gapsOf (row : List Int) (f : List Nat) : List (Nat × Nat) := f.map fun p => (prv row p, p)
theorem run_feasible {r : Nat} {row : List Int} {C : Nat → List Int} (hr : 1 ≤ r) (R : Runs r row C) : Feasible r row (gapsOf row (hitsOf row C row.length)) := by
  have hmem : ∀ g ∈ gapsOf row (hitsOf row C row.length), Gap row g.1 g.2 ∧ ∀ t, g.1 < t → t ≤ g.2 → row.getD g.2 0 ∈ C t := by
    intro g hg
    obtain ⟨p, hp, rfl⟩ := List.mem_map.mp hg
    obtain ⟨h1, h2⟩ := List.mem_filter.mp hp
    have hpl := List.mem_range.mp h1
    obtain ⟨q, hq, hc⟩ := run_gap R hpl (by simpa using h2)
    rw [prv_gap hq]
    exact ⟨hq, hc⟩
  have hnd : (gapsOf row (hitsOf row C row.length)).Nodup := by
    unfold gapsOf
    refine List.pairwise_map.mpr ?_
    have : (hitsOf row C row.length).Nodup := List.nodup_range.filter _
    exact this.imp fun h e => h (congrArg Prod.snd e)
  refine ⟨hnd, fun g hg => (hmem g hg).1, fun t => ?_⟩
  rcases Nat.lt_or_ge t row.length with ht | ht
  · have key : ∀ g ∈ (gapsOf row (hitsOf row C row.length)).filter (fun g => decide (g.1 < t) && decide (t < g.2)), g ∈ gapsOf row (hitsOf row C row.length) ∧ g.1 < t ∧ t < g.2 := by
      intro g hg
      obtain ⟨h1, h2⟩ := List.mem_filter.mp hg
      simp only [Bool.and_eq_true, decide_eq_true_eq] at h2
      exact ⟨h1, h2⟩
    have hL : (((gapsOf row (hitsOf row C row.length)).filter fun g => decide (g.1 < t) && decide (t < g.2)).map fun g => row.getD g.2 0).Nodup := by
      refine List.pairwise_map.mpr ((hnd.filter _).imp_of_mem ?_)
      intro a b ha hb hab e
      obtain ⟨a1, a2, a3⟩ := key a ha
      obtain ⟨b1, b2, b3⟩ := key b hb
      have ga := (hmem a a1).1
      have gb := (hmem b b1).1
      have e2 : a.2 = b.2 := by
        rcases Nat.lt_trichotomy a.2 b.2 with q | q | q
        · exact absurd e (gb.no a.2 (by omega) q)
        · exact q
        · exact absurd e.symm (ga.no b.2 (by omega) q)
      exact hab (Prod.ext (gap_unique ga (e2 ▸ gb)) e2)
    have hcons : (row.getD t 0 :: (((gapsOf row (hitsOf row C row.length)).filter fun g => decide (g.1 < t) && decide (t < g.2)).map fun g => row.getD g.2 0)).Nodup := by
      refine List.nodup_cons.mpr ⟨fun h => ?_, hL⟩
      obtain ⟨g, hg, e⟩ := List.mem_map.mp h
      obtain ⟨g1, g2, g3⟩ := key g hg
      exact (hmem g g1).1.no t g2 g3 e.symm
    have := nodup_le (B := C (t + 1)) hcons fun v hv => by
      rcases List.mem_cons.mp hv with rfl | hv
      · exact R.mem t ht
      · obtain ⟨g, hg, rfl⟩ := List.mem_map.mp hv
        obtain ⟨g1, g2, g3⟩ := key g hg
        exact (hmem g g1).2 (t + 1) (by omega) (by omega)
    have h5 := R.len (t + 1) (by omega)
    rw [List.length_cons, List.length_map] at this
    omega
  · have : ((gapsOf row (hitsOf row C row.length)).filter fun g => decide (g.1 < t) && decide (t < g.2)) = [] := List.filter_eq_nil_iff.mpr fun g hg => by
      have := (hmem g hg).1.len
      simp only [Bool.and_eq_true, decide_eq_true_eq]
      omega
    rw [this]
    simpa using hr
theorem gaps_len {row : List Int} {f : List Nat} : (gapsOf row f).length = f.length := List.length_map ..
theorem hits_snoc {row : List Int} {C : Nat → List Int} {n : Nat} : hitsOf row C (n + 1) = if row.getD n 0 ∈ C n then hitsOf row C n ++ [n] else hitsOf row C n := by
  unfold hitsOf
  rw [List.range_succ, List.filter_append]
  by_cases h : row.getD n 0 ∈ C n
  · rw [if_pos h, List.filter_cons, if_pos (decide_eq_true h)]; rfl
  · rw [if_neg h, List.filter_cons, if_neg (by simpa using h)]; simp
theorem min_hist {r : Nat} {row : List Int} (hr : 1 ≤ r) {t : Nat} {M : List Int} {f : List Nat} (h : MinRun r row t M f) :
    ∃ C : Nat → List Int, C t = M ∧ f = hitsOf row C t ∧ C 0 = [] ∧ (∀ i, i ≤ t → (C i).Nodup ∧ (C i).length ≤ r) ∧ ∀ i, i < t → row.getD i 0 ∈ C (i + 1) ∧ ∀ k ∈ C (i + 1), k = row.getD i 0 ∨ k ∈ C i := by
  induction h with
  | zero => exact ⟨fun _ => [], rfl, rfl, rfl, fun i _ => ⟨List.nodup_nil, Nat.zero_le _⟩, fun i h => absurd h (Nat.not_lt_zero _)⟩
  | @step t M M' f hM ht R ih =>
    obtain ⟨C, h1, h2, h3, h4, h5⟩ := ih
    have hsm := (MinRun.step hM ht R).small hr
    obtain ⟨D, dlo, dhi⟩ : ∃ D : Nat → List Int, (∀ i, i ≤ t → D i = C i) ∧ D (t + 1) = M' := ⟨fun i => if i ≤ t then C i else M', fun i h => if_pos h, if_neg (by omega)⟩
    have hhit : hitsOf row D t = hitsOf row C t := by
      unfold hitsOf
      refine List.filter_congr fun i hi => ?_
      rw [dlo i (Nat.le_of_lt (List.mem_range.mp hi))]
    refine ⟨D, dhi, ?_, by rw [dlo 0 (Nat.zero_le _)]; exact h3, fun i hi => ?_, fun i hi => ?_⟩
    · rw [hits_snoc, hhit, dlo t (Nat.le_refl _), h1, h2]
    · rcases Nat.lt_or_ge t i with q | q
      · rw [show i = t + 1 by omega, dhi]; exact hsm
      · rw [dlo i q]; exact h4 i q
    · rcases Nat.lt_or_ge i t with q | q
      · rw [dlo (i + 1) (by omega), dlo i (by omega)]; exact h5 i q
      · have e : i = t := by omega
        subst e
        rw [dhi, dlo i (Nat.le_refl _), h1]
        by_cases hx : row.getD i 0 ∈ M
        · rw [R.hit hx]; exact ⟨hx, fun k hk => .inr hk⟩
        · have hs := (hM.small hr).2
          rcases Nat.lt_or_ge M.length r with q | q
          · rw [R.miss hx q]
            exact ⟨List.mem_append_right _ (.head _), fun k hk => (List.mem_append.mp hk).elim .inr fun z => .inl (List.mem_singleton.mp z)⟩
          · obtain ⟨v, _, _, _, hv⟩ := R.evict hx (by omega)
            exact ⟨(hv _).mpr (.inl rfl), fun k hk => ((hv k).mp hk).elim .inl fun z => .inr z.1⟩
theorem min_feasible {r : Nat} {row : List Int} (hr : 1 ≤ r) {M : List Int} {f : List Nat} (h : MinRun r row row.length M f) : ∃ S, Feasible r row S ∧ S.length = f.length := by
  obtain ⟨C, h1, h2, h3, h4, h5⟩ := min_hist hr h
  exact ⟨gapsOf row (hitsOf row C row.length), run_feasible hr ⟨fun t ht => (h4 t ht).1, fun t ht => (h4 t ht).2, h3, fun t ht => (h5 t ht).1, fun t ht => (h5 t ht).2⟩, by rw [gaps_len, h2]⟩
theorem feasible_more {r r' : Nat} {row : List Int} {S : List (Nat × Nat)} (H : Feasible r row S) (h : r ≤ r') : Feasible r' row S := ⟨H.nd, H.gap, fun t => Nat.le_trans (H.few t) h⟩
theorem getD_rev {row : List Int} {i : Nat} (h : i < row.length) : row.reverse.getD i 0 = row.getD (row.length - 1 - i) 0 := by
  rw [List.getD_eq_getElem?_getD, List.getElem?_reverse h, List.getD_eq_getElem?_getD]
theorem gap_rev {row : List Int} {q p : Nat} (g : Gap row q p) : Gap row.reverse (row.length - 1 - p) (row.length - 1 - q) := by
  have h1 := g.lt
  have h2 := g.len
  refine ⟨by omega, by rw [List.length_reverse]; omega, ?_, fun m m1 m2 => ?_⟩
  · rw [getD_rev (by omega), getD_rev (by omega), show row.length - 1 - (row.length - 1 - p) = p by omega, show row.length - 1 - (row.length - 1 - q) = q by omega]
    exact g.eq.symm
  · rw [getD_rev (by omega), getD_rev (by omega), show row.length - 1 - (row.length - 1 - q) = q by omega, g.eq]
    exact g.no _ (by omega) (by omega)
def turnG (row : List Int) (g : Nat × Nat) : Nat × Nat := (row.length - 1 - g.2, row.length - 1 - g.1)
theorem feasible_rev {r : Nat} {row : List Int} {S : List (Nat × Nat)} (H : Feasible r row S) : Feasible r row.reverse (S.map (turnG row)) := by
  refine ⟨List.pairwise_map.mpr (H.nd.imp_of_mem ?_), fun g hg => ?_, fun t => ?_⟩
  · intro a b ha hb hab e
    have ga := H.gap a ha
    have gb := H.gap b hb
    have := ga.lt; have := ga.len; have := gb.lt; have := gb.len
    have e1 := congrArg Prod.fst e
    have e2 := congrArg Prod.snd e
    simp only [turnG] at e1 e2
    exact hab (Prod.ext (by omega) (by omega))
  · obtain ⟨g', hg', rfl⟩ := List.mem_map.mp hg
    exact gap_rev (H.gap g' hg')
  · rw [List.filter_map, List.length_map]
    refine Nat.le_trans (Nat.succ_le_succ (len_filter_imp (q := fun g => decide (g.1 < row.length - 1 - t) && decide (row.length - 1 - t < g.2)) fun g hg h => ?_)) (H.few (row.length - 1 - t))
    have gg := H.gap g hg
    have := gg.lt; have := gg.len
    have h2 : (decide (row.length - 1 - g.2 < t) && decide (t < row.length - 1 - g.1)) = true := h
    rw [Bool.and_eq_true, decide_eq_true_eq, decide_eq_true_eq] at h2 ⊢
    omega
/-- forward and backward the one that looks ahead answers as many -/
theorem min_rev {r : Nat} {row : List Int} (hr : 1 ≤ r) {M M' : List Int} {f f' : List Nat} (h : MinRun r row row.length M f) (h' : MinRun r row.reverse row.reverse.length M' f') : f'.length = f.length := by
  obtain ⟨S, H, e⟩ := min_feasible hr h
  obtain ⟨S', H', e'⟩ := min_feasible hr h'
  have h1 := min_best hr (feasible_rev H) h'
  have h2 := min_best hr (by have := feasible_rev H'; rwa [List.reverse_reverse] at this) h
  rw [List.length_map] at h1 h2
  omega
theorem min_more {r r' : Nat} {row : List Int} (hr : 1 ≤ r) (hrr : r ≤ r') {M M' : List Int} {f f' : List Nat} (h : MinRun r row row.length M f) (h' : MinRun r' row row.length M' f') : f.length ≤ f'.length := by
  obtain ⟨S, H, e⟩ := min_feasible hr h
  have := min_best (Nat.le_trans hr hrr) (feasible_more H hrr) h'
  omega
theorem run_le_min {r : Nat} {row : List Int} {C : Nat → List Int} (hr : 1 ≤ r) (R : Runs r row C) {M : List Int} {f : List Nat} (h : MinRun r row row.length M f) : (hitsOf row C row.length).length ≤ f.length := by
  have := min_best hr (run_feasible hr R) h
  rwa [gaps_len] at this
def recStep (R : List Int) (x : Int) : List Int := R.filter (fun y => decide (y ≠ x)) ++ [x]
/-- the keys by their last use, the one used longest ago first -/
def recOf (ws : List Int) : List Int := ws.foldl recStep []
def lruAt (r : Nat) (ws : List Int) : List Int := ws.foldl (lruStep r) []
theorem recOf_snoc {ws : List Int} {x : Int} : recOf (ws ++ [x]) = recStep (recOf ws) x := by simp [recOf]
theorem lruAt_snoc {r : Nat} {ws : List Int} {x : Int} : lruAt r (ws ++ [x]) = lruStep r (lruAt r ws) x := by simp [lruAt]
theorem snoc_ind {P : List Int → Prop} (h0 : P []) (h1 : ∀ ws x, P ws → P (ws ++ [x])) (ws : List Int) : P ws := by
  have : ∀ n (ws : List Int), ws.length = n → P ws := by
    intro n
    induction n with
    | zero => intro ws e; rw [List.eq_nil_of_length_eq_zero e]; exact h0
    | succ n ih =>
      intro ws e
      have hne : ws ≠ [] := by intro z; rw [z] at e; cases e
      rw [← List.dropLast_concat_getLast hne]
      exact h1 _ _ (ih _ (by rw [List.length_dropLast, e]; rfl))
  exact this _ ws rfl
theorem recOf_nodup (ws : List Int) : (recOf ws).Nodup := by
  refine snoc_ind (P := fun ws => (recOf ws).Nodup) List.nodup_nil (fun ws x ih => ?_) ws
  rw [recOf_snoc]
  unfold recStep
  rw [List.nodup_append]
  refine ⟨ih.filter _, by simp, fun a ha b hb => ?_⟩
  rw [List.mem_singleton.mp hb]
  simpa using (List.mem_filter.mp ha).2
theorem recOf_mem (ws : List Int) (k : Int) : k ∈ recOf ws ↔ k ∈ ws := by
  refine snoc_ind (P := fun ws => k ∈ recOf ws ↔ k ∈ ws) Iff.rfl (fun ws x ih => ?_) ws
  rw [recOf_snoc]
  unfold recStep
  simp only [List.mem_append, List.mem_filter, List.mem_singleton, decide_eq_true_eq, ih]
  by_cases e : k = x <;> simp [e]
theorem recOf_append (a b : List Int) : recOf (a ++ b) = (recOf a).filter (fun y => decide (y ∉ b)) ++ recOf b := by
  refine snoc_ind (P := fun b => recOf (a ++ b) = (recOf a).filter (fun y => decide (y ∉ b)) ++ recOf b) ?_ (fun b x ih => ?_) b
  · rw [List.append_nil]
    have : (recOf a).filter (fun y => decide (y ∉ ([] : List Int))) = recOf a := List.filter_eq_self.mpr fun y _ => by simp
    rw [this]
    simp [recOf]
  · rw [← List.append_assoc, recOf_snoc, ih, recOf_snoc]
    unfold recStep
    rw [List.filter_append, List.filter_filter, List.append_assoc]
    congr 1
    refine List.filter_congr fun y _ => ?_
    by_cases e : y = x <;> simp [e]
theorem lru_rec {r : Nat} (hr : 1 ≤ r) (ws : List Int) : lruAt r ws = (recOf ws).drop ((recOf ws).length - r) := by
  refine snoc_ind (P := fun ws => lruAt r ws = (recOf ws).drop ((recOf ws).length - r)) (by simp [lruAt, recOf]) (fun ws x ih => ?_) ws
  rw [lruAt_snoc, recOf_snoc, ih]
  have hn := recOf_nodup ws
  generalize recOf ws = R at hn
  have hsplit : R.take (R.length - r) ++ R.drop (R.length - r) = R := List.take_append_drop _ _
  have hA : (R.take (R.length - r)).length = R.length - r := by rw [List.length_take]; omega
  have hD : (R.drop (R.length - r)).length = R.length - (R.length - r) := List.length_drop
  generalize R.take (R.length - r) = A at hsplit hA
  generalize hDe : R.drop (R.length - r) = D at hsplit hD
  subst hsplit
  rw [List.length_append] at hA hD hDe
  have hn' := List.nodup_append.mp hn
  unfold recStep lruStep
  rw [List.filter_append]
  by_cases hx : x ∈ D
  · have hxA : x ∉ A := fun z => hn'.2.2 x z x hx rfl
    have e : A.filter (fun y => decide (y ≠ x)) = A := List.filter_eq_self.mpr fun y hy => by
      have : y ≠ x := fun z => hxA (z ▸ hy)
      simpa using this
    have hl := filter_len hn'.2.1 hx
    rw [if_pos hx, e, List.append_assoc, List.length_append, List.length_append, List.length_singleton]
    rw [show A.length + ((D.filter fun y => decide (y ≠ x)).length + 1) - r = A.length by omega, List.drop_left]
  · have e2 : D.filter (fun y => decide (y ≠ x)) = D := List.filter_eq_self.mpr fun y hy => by
      have : y ≠ x := fun z => hx (z ▸ hy)
      simpa using this
    rw [if_neg hx, e2]
    by_cases hxA : x ∈ A
    · have hl := filter_len hn'.1 hxA
      have hAp := List.length_pos_of_mem hxA
      rw [if_neg (by omega), List.append_assoc, List.length_append, List.length_append, List.length_singleton]
      rw [show (A.filter fun y => decide (y ≠ x)).length + (D.length + 1) - r = (A.filter fun y => decide (y ≠ x)).length + 1 by omega, List.drop_append]
      rw [List.drop_of_length_le (by omega), List.nil_append, show (A.filter fun y => decide (y ≠ x)).length + 1 - (A.filter fun y => decide (y ≠ x)).length = 1 by omega]
      cases hD9 : D with
      | nil => rw [hD9] at hD; simp at hD; omega
      | cons a D => rfl
    · have e : A.filter (fun y => decide (y ≠ x)) = A := List.filter_eq_self.mpr fun y hy => by
        have : y ≠ x := fun z => hxA (z ▸ hy)
        simpa using this
      rw [e, List.append_assoc, List.length_append, List.length_append, List.length_singleton]
      rcases Nat.lt_or_ge D.length r with q | q
      · have hA0 : A = [] := List.eq_nil_of_length_eq_zero (by omega)
        subst hA0
        rw [if_pos q, List.nil_append, List.length_nil, show 0 + (D.length + 1) - r = 0 by omega]
        rfl
      · rw [if_neg (by omega), show A.length + (D.length + 1) - r = A.length + 1 by omega, List.drop_append, List.drop_of_length_le (by omega), List.nil_append, show A.length + 1 - A.length = 1 by omega]
        cases hD9 : D with
        | nil => rw [hD9] at q; simp at q; omega
        | cons a D => rfl
theorem take_snoc {row : List Int} {t : Nat} (h : t < row.length) : row.take (t + 1) = row.take t ++ [row.getD t 0] := by
  rw [List.take_add_one, List.getElem?_eq_getElem h, List.getD_eq_getElem?_getD, List.getElem?_eq_getElem h]
  rfl
theorem lru_small {r : Nat} (hr : 1 ≤ r) (ws : List Int) : (lruAt r ws).Nodup ∧ (lruAt r ws).length ≤ r := by
  rw [lru_rec hr]
  refine ⟨(recOf_nodup ws).sublist (List.drop_sublist _ _), ?_⟩
  rw [List.length_drop]
  omega
theorem lru_runs {r : Nat} (hr : 1 ≤ r) (row : List Int) : Runs r row fun t => lruAt r (row.take t) := by
  refine ⟨fun t _ => (lru_small hr _).1, fun t _ => (lru_small hr _).2, rfl, fun t ht => ?_, fun t ht k hk => ?_⟩
  · show _ ∈ lruAt r (row.take (t + 1))
    rw [take_snoc ht, lruAt_snoc]
    exact mem_lruStep_self
  · have hk' : k ∈ lruStep r (lruAt r (row.take t)) (row.getD t 0) := by
      have : k ∈ lruAt r (row.take (t + 1)) := hk
      rwa [take_snoc ht, lruAt_snoc] at this
    unfold lruStep at hk'
    split at hk'
    · rcases List.mem_append.mp hk' with z | z
      · exact .inr (List.mem_filter.mp z).1
      · exact .inl (List.mem_singleton.mp z)
    · rcases List.mem_append.mp hk' with z | z
      · right
        split at z
        · exact z
        · exact List.mem_of_mem_tail z
      · exact .inl (List.mem_singleton.mp z)
/-- the asks that the least recently used cache answers -/
def lruHits (r : Nat) (row : List Int) : List Nat := (List.range row.length).filter fun t => decide (row.getD t 0 ∈ lruAt r (row.take t))
theorem lruHits_eq (r : Nat) (row : List Int) : lruHits r row = hitsOf row (fun t => lruAt r (row.take t)) row.length := rfl
theorem lru_le_min {r : Nat} {row : List Int} (hr : 1 ≤ r) {M : List Int} {f : List Nat} (h : MinRun r row row.length M f) : (lruHits r row).length ≤ f.length := run_le_min hr (lru_runs hr row) h
theorem lru_more {r r' : Nat} (hr : 1 ≤ r) (hrr : r ≤ r') {ws : List Int} {k : Int} (h : k ∈ lruAt r ws) : k ∈ lruAt r' ws := by
  rw [lru_rec hr] at h
  rw [lru_rec (Nat.le_trans hr hrr)]
  exact (List.drop_sublist_drop_left _ (by omega)).subset h
theorem lruHits_more {r r' : Nat} (hr : 1 ≤ r) (hrr : r ≤ r') {row : List Int} : (lruHits r row).length ≤ (lruHits r' row).length :=
  len_filter_imp fun t _ h => by
    rw [decide_eq_true_eq] at h ⊢
    exact lru_more hr hrr h
theorem mem_drop_mid {A B : List Int} {x : Int} {r : Nat} (hn : (A ++ x :: B).Nodup) : x ∈ (A ++ x :: B).drop ((A ++ x :: B).length - r) ↔ B.length < r := by
  have hn' := List.nodup_append.mp hn
  have hA : x ∉ A := fun z => hn'.2.2 x z x (.head _) rfl
  have hB := (List.nodup_cons.mp hn'.2.1).1
  rw [List.length_append, List.length_cons, List.drop_append]
  constructor
  · intro h
    rcases List.mem_append.mp h with z | z
    · exact absurd (List.mem_of_mem_drop z) hA
    · rcases Nat.lt_or_ge B.length r with q | q
      · exact q
      · rw [show A.length + (B.length + 1) - r - A.length = (B.length - r) + 1 by omega, List.drop_succ_cons] at z
        exact absurd (List.mem_of_mem_drop z) hB
  · intro h
    rw [show A.length + (B.length + 1) - r - A.length = 0 by omega]
    exact List.mem_append_right _ (.head _)
def between (row : List Int) (q p : Nat) : List Int := (row.take p).drop (q + 1)
theorem lru_gap {r : Nat} {row : List Int} {q p : Nat} (hr : 1 ≤ r) (g : Gap row q p) : row.getD p 0 ∈ lruAt r (row.take p) ↔ (recOf (between row q p)).length < r := by
  have h1 := g.lt
  have h2 := g.len
  have hs : row.take p = row.take q ++ [row.getD q 0] ++ between row q p := by
    rw [← take_snoc (by omega)]
    unfold between
    have : row.take (q + 1) = (row.take p).take (q + 1) := by rw [List.take_take, show min (q + 1) p = q + 1 by omega]
    rw [this, List.take_append_drop]
  have hx : row.getD q 0 ∉ between row q p := by
    intro hm
    obtain ⟨i, hi⟩ := List.mem_iff_getElem?.mp hm
    unfold between at hi
    rw [List.getElem?_drop, List.getElem?_take] at hi
    split at hi
    · rename_i hlt
      refine g.no (q + 1 + i) (by omega) hlt ?_
      rw [← g.eq, List.getD_eq_getElem?_getD, hi]
      rfl
    · cases hi
  have hR : recOf (row.take p) = ((recOf (row.take q)).filter (fun y => decide (y ≠ row.getD q 0))).filter (fun y => decide (y ∉ between row q p)) ++ row.getD q 0 :: recOf (between row q p) := by
    rw [hs, recOf_append, recOf_snoc]
    unfold recStep
    rw [List.filter_append, show [row.getD q 0].filter (fun y => decide (y ∉ between row q p)) = [row.getD q 0] from List.filter_eq_self.mpr fun y hy => by rw [List.mem_singleton.mp hy]; simpa using hx, List.append_assoc]
    rfl
  rw [lru_rec hr, hR, ← g.eq]
  exact mem_drop_mid (hR ▸ recOf_nodup _)
/-- the pairs of neighbouring asks that the least recently used cache answers -/
def LruPair (r : Nat) (row : List Int) (g : Nat × Nat) : Prop := Gap row g.1 g.2 ∧ (recOf (between row g.1 g.2)).length < r
theorem between_rev {row : List Int} {q p : Nat} (h1 : q < p) (h2 : p < row.length) : between row.reverse (row.length - 1 - p) (row.length - 1 - q) = (between row q p).reverse := by
  unfold between
  rw [List.take_reverse, List.drop_reverse, List.length_drop]
  congr 1
  rw [show row.length - (row.length - 1 - q) = q + 1 by omega, show row.length - (q + 1) - (row.length - 1 - p + 1) = p - (q + 1) by omega, List.take_drop]
  congr 2
  omega
theorem recOf_rev_len (b : List Int) : (recOf b.reverse).length = (recOf b).length :=
  (perm_of_mem (recOf_nodup _) (recOf_nodup _) fun j => by rw [recOf_mem, recOf_mem, List.mem_reverse]).length_eq
theorem lruPair_rev {r : Nat} {row : List Int} {g : Nat × Nat} (h : LruPair r row g) : LruPair r row.reverse (turnG row g) := by
  refine ⟨gap_rev h.1, ?_⟩
  show (recOf (between row.reverse (row.length - 1 - g.2) (row.length - 1 - g.1))).length < r
  rw [between_rev h.1.lt h.1.len, recOf_rev_len]
  exact h.2
theorem turnG_turn {row : List Int} {g : Nat × Nat} (h : g.1 < g.2) (h2 : g.2 < row.length) : turnG row.reverse (turnG row g) = g := by
  unfold turnG
  rw [List.length_reverse]
  exact Prod.ext (by dsimp only; omega) (by dsimp only; omega)
theorem lru_pairs_mem {r : Nat} {row : List Int} (hr : 1 ≤ r) (g : Nat × Nat) : g ∈ gapsOf row (lruHits r row) ↔ LruPair r row g := by
  constructor
  · intro h
    have H := (run_feasible hr (lru_runs hr row)).gap g h
    refine ⟨H, ?_⟩
    obtain ⟨p, hp, rfl⟩ := List.mem_map.mp h
    have := (List.mem_filter.mp hp).2
    rw [decide_eq_true_eq] at this
    exact (lru_gap hr H).mp this
  · rintro ⟨h1, h2⟩
    refine List.mem_map.mpr ⟨g.2, List.mem_filter.mpr ⟨List.mem_range.mpr h1.len, ?_⟩, Prod.ext (prv_gap h1) rfl⟩
    rw [decide_eq_true_eq]
    exact (lru_gap hr h1).mpr h2
/-- backward the same pairs -/
theorem lru_turned {r : Nat} {row : List Int} (hr : 1 ≤ r) : ((gapsOf row.reverse (lruHits r row.reverse)).map (turnG row.reverse)).Perm (gapsOf row (lruHits r row)) := by
  have h1 := (run_feasible hr (lru_runs hr row))
  have h2 := (run_feasible hr (lru_runs hr row.reverse))
  rw [← lruHits_eq] at h1 h2
  refine (List.perm_ext_iff_of_nodup ?_ h1.nd).mpr fun g => ?_
  · have := (feasible_rev h2).nd
    exact this
  · rw [lru_pairs_mem hr, List.mem_map]
    constructor
    · rintro ⟨g', hg', rfl⟩
      rw [lru_pairs_mem hr] at hg'
      have := lruPair_rev hg'
      rwa [List.reverse_reverse] at this
    · intro h
      refine ⟨turnG row g, (lru_pairs_mem hr _).mpr (lruPair_rev h), turnG_turn h.1.lt h.1.len⟩
theorem eq_of_lt_mem : ∀ {a b : List Nat}, a.Pairwise (· < ·) → b.Pairwise (· < ·) → (∀ x, x ∈ a ↔ x ∈ b) → a = b
  | [], [], _, _, _ => rfl
  | [], y :: b, _, _, h => absurd ((h y).mpr (.head _)) (by simp)
  | x :: a, [], _, _, h => absurd ((h x).mp (.head _)) (by simp)
  | x :: a, y :: b, ha, hb, h => by
    have ha' := List.pairwise_cons.mp ha
    have hb' := List.pairwise_cons.mp hb
    have e : x = y := by
      rcases List.mem_cons.mp ((h x).mp (.head _)) with q | q
      · exact q
      · rcases List.mem_cons.mp ((h y).mpr (.head _)) with z | z
        · exact z.symm
        · have := hb'.1 x q; have := ha'.1 y z; omega
    subst e
    congr 1
    refine eq_of_lt_mem ha'.2 hb'.2 fun z => ?_
    constructor
    · intro hz
      rcases List.mem_cons.mp ((h z).mp (.tail _ hz)) with q | q
      · have := ha'.1 z hz; omega
      · exact q
    · intro hz
      rcases List.mem_cons.mp ((h z).mpr (.tail _ hz)) with q | q
      · have := hb'.1 z hz; omega
      · exact q
/-- the answers of round k -/
def roundOf (n k : Nat) (f : List Nat) : List Nat := (f.filter fun p => decide (k * n ≤ p) && decide (p < (k + 1) * n)).map fun p => p - k * n
theorem round_mem {n k : Nat} {f : List Nat} (i : Nat) : i ∈ roundOf n k f ↔ i < n ∧ k * n + i ∈ f := by
  unfold roundOf
  rw [List.mem_map]
  constructor
  · rintro ⟨p, hp, rfl⟩
    obtain ⟨h1, h2⟩ := List.mem_filter.mp hp
    rw [Bool.and_eq_true, decide_eq_true_eq, decide_eq_true_eq, Nat.add_mul, Nat.one_mul] at h2
    refine ⟨by omega, ?_⟩
    rw [show k * n + (p - k * n) = p by omega]
    exact h1
  · rintro ⟨h1, h2⟩
    refine ⟨k * n + i, List.mem_filter.mpr ⟨h2, ?_⟩, by omega⟩
    rw [Bool.and_eq_true, decide_eq_true_eq, decide_eq_true_eq, Nat.add_mul, Nat.one_mul]
    omega
theorem round_lt {n k : Nat} {f : List Nat} (h : f.Pairwise (· < ·)) : (roundOf n k f).Pairwise (· < ·) := by
  unfold roundOf
  refine List.pairwise_map.mpr ((h.filter _).imp_of_mem ?_)
  intro a b ha hb hab
  have h1 := (List.mem_filter.mp ha).2
  rw [Bool.and_eq_true, decide_eq_true_eq, decide_eq_true_eq] at h1
  omega
theorem lruHits_lt (r : Nat) (row : List Int) : (lruHits r row).Pairwise (· < ·) := List.pairwise_lt_range.filter _
theorem lruHits_mem {r : Nat} {row : List Int} (i : Nat) : i ∈ lruHits r row ↔ i < row.length ∧ row.getD i 0 ∈ lruAt r (row.take i) := by
  unfold lruHits
  rw [List.mem_filter, List.mem_range, decide_eq_true_eq]
theorem getD_right {l l' : List Int} {i j : Nat} (h : j = l.length + i) : (l ++ l').getD j 0 = l'.getD i 0 := by
  subst h
  simp only [List.getD_eq_getElem?_getD]
  rw [List.getElem?_append_right (by omega), show l.length + i - l.length = i by omega]
theorem getD_leftN {l l' : List Int} {i : Nat} (h : i < l.length) : (l ++ l').getD i 0 = l.getD i 0 := by
  simp only [List.getD_eq_getElem?_getD]
  rw [List.getElem?_append_left h]
theorem take_right {l l' : List Int} {i j : Nat} (h : j = l.length + i) : (l ++ l').take j = l ++ l'.take i := by
  subst h
  rw [List.take_append, List.take_of_length_le (by omega), show l.length + i - l.length = i by omega]
theorem rec_again (row s : List Int) : recOf (row ++ (row ++ s)) = recOf (row ++ s) := by
  rw [recOf_append row (row ++ s), List.filter_eq_nil_iff.mpr fun y hy => ?_, List.nil_append]
  have : y ∈ row := (recOf_mem row y).mp hy
  simp [this]
theorem lru_longer {r : Nat} (hr : 1 ≤ r) {a b : List Int} {k : Int} (h : k ∈ lruAt r b) : k ∈ lruAt r (a ++ b) := by
  rw [lru_rec hr] at h
  rw [lru_rec hr, recOf_append, List.drop_append]
  refine List.mem_append_right _ ((List.drop_sublist_drop_left _ ?_).subset h)
  rw [List.length_append]
  omega
section
variable {r : Nat} {row : List Int}
theorem round0 : roundOf row.length 0 (lruHits r (row ++ (row ++ row))) = lruHits r row := by
  refine eq_of_lt_mem (round_lt (lruHits_lt _ _)) (lruHits_lt _ _) fun i => ?_
  rw [round_mem, lruHits_mem, lruHits_mem, Nat.zero_mul, Nat.zero_add, List.length_append]
  constructor
  · rintro ⟨h1, _, h2⟩
    rw [getD_leftN h1, List.take_append, show i - row.length = 0 by omega, List.take_zero, List.append_nil] at h2
    exact ⟨h1, h2⟩
  · rintro ⟨h1, h2⟩
    refine ⟨h1, by omega, ?_⟩
    rw [getD_leftN h1, List.take_append, show i - row.length = 0 by omega, List.take_zero, List.append_nil]
    exact h2
theorem round1_mem (i : Nat) : i ∈ roundOf row.length 1 (lruHits r (row ++ (row ++ row))) ↔ i < row.length ∧ row.getD i 0 ∈ lruAt r (row ++ row.take i) := by
  rw [round_mem, lruHits_mem, Nat.one_mul, List.length_append, List.length_append]
  constructor
  · rintro ⟨h1, _, h2⟩
    rw [getD_right (i := i) rfl, getD_leftN h1, take_right (i := i) rfl, List.take_append, show i - row.length = 0 by omega, List.take_zero, List.append_nil] at h2
    exact ⟨h1, h2⟩
  · rintro ⟨h1, h2⟩
    refine ⟨h1, by omega, ?_⟩
    rw [getD_right (i := i) rfl, getD_leftN h1, take_right (i := i) rfl, List.take_append, show i - row.length = 0 by omega, List.take_zero, List.append_nil]
    exact h2
theorem round2_mem (i : Nat) : i ∈ roundOf row.length 2 (lruHits r (row ++ (row ++ row))) ↔ i < row.length ∧ row.getD i 0 ∈ lruAt r (row ++ (row ++ row.take i)) := by
  rw [round_mem, lruHits_mem, List.length_append, List.length_append]
  constructor
  · rintro ⟨h1, _, h2⟩
    rw [getD_right (i := row.length + i) (by omega), getD_right (i := i) rfl, take_right (i := row.length + i) (by omega), take_right (i := i) rfl] at h2
    exact ⟨h1, h2⟩
  · rintro ⟨h1, h2⟩
    refine ⟨h1, by omega, ?_⟩
    rw [getD_right (i := row.length + i) (by omega), getD_right (i := i) rfl, take_right (i := row.length + i) (by omega), take_right (i := i) rfl]
    exact h2
theorem round12 (hr : 1 ≤ r) : roundOf row.length 1 (lruHits r (row ++ (row ++ row))) = roundOf row.length 2 (lruHits r (row ++ (row ++ row))) := by
  refine eq_of_lt_mem (round_lt (lruHits_lt _ _)) (round_lt (lruHits_lt _ _)) fun i => ?_
  rw [round1_mem, round2_mem, lru_rec hr, lru_rec hr, rec_again]
theorem round01 (hr : 1 ≤ r) : ∀ i ∈ lruHits r row, i ∈ roundOf row.length 1 (lruHits r (row ++ (row ++ row))) := by
  intro i hi
  rw [lruHits_mem] at hi
  rw [round1_mem]
  exact ⟨hi.1, lru_longer hr hi.2⟩
theorem lruHits_pos : ∀ i ∈ lruHits r row, 0 < i := by
  intro i hi
  rw [lruHits_mem] at hi
  rcases Nat.eq_zero_or_pos i with e | e
  · rw [e] at hi
    have := hi.2
    simp [lruAt] at this
  · exact e
end
section
open PyProof.Rows.LCg
variable {prog : Program} {w : World} {A : Around} {E : Value → Shared → Prop} {s : Shared} {h₀ : Heap} {L : Addr} {m : Str → Option Value} {env : Env}
theorem lookup_relabel_cell {env : Env} : ∀ {names : List (Str × NameKind)} {x : Str}, names.lookup x = some .cell →
    (names.map fun (n, k) => if (k == NameKind.free && env.scope.kind == .function && env.kindOf n == some .cell) then (n, NameKind.cell) else (n, k)).lookup x = some .cell
  | [], _, h => by simp at h
  | (n, k) :: r, x, h => by
    have ih := @lookup_relabel_cell env r x
    show List.lookup x ((if (k == NameKind.free && env.scope.kind == .function && env.kindOf n == some .cell) = true then (n, NameKind.cell) else (n, k)) :: _) = _
    cases hx : x == n with
    | true =>
      simp only [List.lookup_cons, hx] at h
      cases h
      simp [List.lookup_cons, hx]
    | false =>
      simp only [List.lookup_cons, hx] at h
      by_cases hc : (k == NameKind.free && env.scope.kind == .function && env.kindOf n == some .cell) = true
      · rw [if_pos hc]; simp only [List.lookup_cons, hx]; exact ih h
      · rw [if_neg hc]; simp only [List.lookup_cons, hx]; exact ih h
theorem newEnv_cell1 {M : Model} {scope : Scope} {globals : Addr} {cl : List (Str × Addr)} {qual : Str} {x : Str} {Q : Env → Shared → Prop}
    (hc1 : ∀ n acc, cellsFrom n scope.names acc = (x, n) :: acc) (hc2 : ∀ h : Heap, pushCells h scope.names = h.push { cls := .type "cell", data := .cell none })
    (h : Q { scope, locals := s.heap.objs.size, globals, cells := (x, s.heap.objs.size + 1) :: cl, qual, func := none, code := env.code, frame := env.frame, builtins := env.builtins }
      { s with heap := (s.heap.push { cls := .type "dict", data := .dict #[] }).push { cls := .type "cell", data := .cell none } }) :
    wpAny M A (newFunctionEnv scope globals cl [] qual none .none (some env)) Q E s := by
  simp only [newFunctionEnv, Option.isSome_some, if_true]
  refine wpAny_bind (wpAny_alloc ?_)
  refine wpAny_bind (wpAny_layCells _ (fun name kind cells => by cases hkc : kind == NameKind.cell <;> simp) _ _ _ _ ?_)
  rw [hc1, hc2, show ({ s with heap := s.heap.push { cls := .type "dict", data := .dict #[] } } : Shared).heap.objs.size = s.heap.objs.size + 1 from Heap.size_push ..]
  refine wpAny_bind ?_
  rw [List.forIn_nil]
  exact wpAny_pure (wpAny_pure h)
/-- addresses off those of a comprehension's own objects -/
def Off4 (I C c D : Addr) (news : List (Addr × Obj)) : Prop := ∀ p ∈ news, (@Ne Nat p.1 I) ∧ (@Ne Nat p.1 C) ∧ (@Ne Nat p.1 c) ∧ (@Ne Nat p.1 D)
def CompEndC (h₀ : Heap) (L : Addr) (m : Str → Option Value) (s₁ : Shared) (I : Addr) (oI : Obj) (C : Addr) (oC : Obj) (c : Addr) (oc : Obj) (D : Addr) (oD : Obj) (rest : Value → List (Addr × Obj) → Prop) (y : Value) (s₂ : Shared) : Prop :=
  ∃ h' tk news', s₂ = { s₁ with heap := h', toks := tk } ∧ Fr h₀ L h' m ∧ News h₀ L h' ((I, oI) :: (C, oC) :: (c, oc) :: (D, oD) :: news') ∧ Off4 I C c D news' ∧ rest y news'
/-- the turns of a comprehension whose variable is a cell, by an invariant -/
def StepC (prog : Program) (w : World) (A : Around) (h₀ : Heap) (L : Addr) (m : Str → Option Value) (env : Env) (elt : Expr) (x : Str) (scope : Scope) (cl : List (Str × Addr)) (s : Shared) (P : Nat → Value → Prop) (n : Nat) (J : Nat → List Value → List (Addr × Obj) → Prop) : Prop :=
  ∀ i ys nw v I oI C oC c oc D h tk (E' : Value → Shared → Prop), i < n → J i ys nw → P i v → oc.data = .cell (some v) → Fr h₀ L h m → News h₀ L h ((I, oI) :: (C, oC) :: (c, oc) :: (D, lst ys) :: nw) → Off4 I C c D nw →
    ((@LT.lt Nat _ I D) ∧ (@LT.lt Nat _ D C) ∧ (@LT.lt Nat _ C c)) →
    wpAny (model prog w) A (eval elt (compEnvC scope ((x, c) :: cl) C env)) (CompEndC h₀ L m { s with heap := h, toks := tk } I oI C oC c oc D (lst ys) (fun y nw' => J (i + 1) (ys ++ [y]) nw')) E' { s with heap := h, toks := tk }
theorem block_C {elt iter : Expr} {x : Str} {px : Pos} {scope : Scope} {cl : List (Str × Addr)} {pos : Pos} {s₂ : Shared} {I : Addr} {fp : List Addr} {n : Nat} {P : Nat → Value → Prop} {St : Nat → Heap → Prop} {S : List (Addr × Obj) → Prop} {news : List (Addr × Obj)}
    {RR : Value → Addr → Result → Shared → Prop} (J : Nat → List Value → List (Addr × Obj) → Prop)
    (W : Walks prog w A I fp [I] n P St) (hsz : n ≤ sizeLine) (hIo : ∀ i h, St i h → ∃ o, h.get? I = some o)
    (hSt : ∀ i h h' o nw, St i h → h.get? I = some o → h'.get? I = some o → (∀ b o, h₀.get? b = some o → h'.get? b = some o) → News h₀ L h' nw → S nw → St i h')
    (hc1 : ∀ n acc, cellsFrom n scope.names acc = (x, n) :: acc) (hc2 : ∀ h : Heap, pushCells h scope.names = h.push { cls := .type "cell", data := .cell none })
    (hkind : scope.kind = .function) (hx : scope.names.lookup x = some .cell) (hst : St 0 s₂.heap) (hfp : ∀ b ∈ fp, b < s₂.heap.objs.size)
    (F : Fr h₀ L s₂.heap m) (N : News h₀ L s₂.heap news) (hIL : L ≠ I) (hI₀ : h₀.get? I = none) (off : ∀ p ∈ news, p.1 ≠ I) (hS : ∀ i ys nw, J i ys nw → S nw)
    (j0 : J 0 [] news) (R : StepC prog w A h₀ L m env elt x scope cl s₂ P n J)
    (hRR : ∀ D C h tk m' ys news', Fr h₀ L h m → News h₀ L h ((D, lst ys) :: news') → (∀ p ∈ news', p.1 ≠ D) → h.Ns C m' → h₀.get? C = none → h₀.get? D = none → C ≠ L → D ≠ L → C ≠ D → (∀ p ∈ news', p.1 ≠ C) → J n ys news' → RR (.ref D) C (.ok .next) { s₂ with heap := h, toks := tk }) :
    wpAny (model prog w) A (newList []) (fun acc s₃ => wpAny (model prog w) A (newFunctionEnv scope env.globals cl [] env.qual none .none (some env)) (fun cenv s₄ =>
      codeAny (model prog w) A (.compStart (.ListComp elt [⟨.Name x px, iter, [], 0⟩] scope pos) 0 (.ref I) acc { cenv with scope := relabel scope env }) (RR acc cenv.locals) s₄) E s₃) E s₂ := by
  refine wpAny_newObj_type (newEnv_cell1 hc1 hc2 ?_)
  dsimp only
  generalize hH2 : s₂.heap.push { cls := .type "list", dict := none, data := .seq ([] : List Value).toArray } = H2
  have hC : H2.objs.size = s₂.heap.objs.size + 1 := by rw [← hH2, Heap.size_push]
  generalize hH3 : (H2.push { cls := .type "dict", data := .dict #[] }).push { cls := .type "cell", data := .cell none } = h₁
  have hsz3 : (H2.push { cls := .type "dict", data := .dict #[] }).objs.size = H2.objs.size + 1 := Heap.size_push ..
  have hDC : s₂.heap.objs.size ≠ H2.objs.size := by rw [hC]; exact Nat.ne_of_lt (Nat.lt_succ_self _)
  have hDc : s₂.heap.objs.size ≠ H2.objs.size + 1 := by rw [hC]; exact Nat.ne_of_lt (Nat.lt_succ_of_lt (Nat.lt_succ_self _))
  have hCc : H2.objs.size ≠ H2.objs.size + 1 := Nat.ne_of_lt (Nat.lt_succ_self _)
  have below : ∀ b, b < s₂.heap.objs.size → b ≠ H2.objs.size ∧ b ≠ s₂.heap.objs.size ∧ b ≠ H2.objs.size + 1 := fun b hb => ⟨by rw [hC]; exact Nat.ne_of_lt (Nat.lt_succ_of_lt hb), Nat.ne_of_lt hb, by rw [hC]; exact Nat.ne_of_lt (Nat.lt_succ_of_lt (Nat.lt_succ_of_lt hb))⟩
  have hDf : s₂.heap.objs.size ∉ fp := fun hm => Nat.lt_irrefl _ (hfp _ hm)
  have hCf : H2.objs.size ∉ fp := fun hm => (below _ (hfp _ hm)).1 rfl
  have hcf : H2.objs.size + 1 ∉ fp := fun hm => (below _ (hfp _ hm)).2.2 rfl
  have hIf : I ∈ fp := W.sub I (List.mem_singleton.mpr rfl)
  have hIlt : I < s₂.heap.objs.size := hfp I hIf
  have old : ∀ b o, s₂.heap.get? b = some o → h₁.get? b = some o := fun b o e => by
    rw [← hH3]; exact Heap.get?_push_of_some _ (Heap.get?_push_of_some _ (hH2 ▸ Heap.get?_push_of_some _ e))
  have hacc : h₁.get? s₂.heap.objs.size = some (lst []) := by
    rw [← hH3]; exact Heap.get?_push_of_some _ (Heap.get?_push_of_some _ (hH2 ▸ Heap.get?_push_size _ rfl))
  have hns₁ : h₁.Ns H2.objs.size (fun _ => none) := (Heap.Ns.new H2 (.type "dict")).keeps fun b o e => by rw [← hH3]; exact Heap.get?_push_of_some _ e
  have hcell₁ : h₁.IsCell (H2.objs.size + 1) none := ⟨_, by rw [← hH3, ← hsz3]; exact Heap.get?_push_size _ rfl, rfl⟩
  have hst₁ : St 0 h₁ := W.frame _ _ _ hst fun b _ o e => old b o e
  have fresh : ∀ a, s₂.heap.objs.size ≤ a → s₂.heap.get? a = none := fun a ha => by
    cases e : s₂.heap.get? a with
    | none => rfl
    | some o' => exact absurd (Heap.lt_size e) (Nat.not_lt.mpr ha)
  have fresh₀ : ∀ a, s₂.heap.objs.size ≤ a → h₀.get? a = none := fun a ha => by
    cases e : h₀.get? a with
    | none => rfl
    | some o' => have := F.keep a o' e; rw [fresh a ha] at this; cases this
  have hD₀ : h₀.get? s₂.heap.objs.size = none := fresh₀ _ (Nat.le_refl _)
  have hC₀ : h₀.get? H2.objs.size = none := fresh₀ _ (by rw [hC]; exact Nat.le_succ _)
  have hc₀ : h₀.get? (H2.objs.size + 1) = none := fresh₀ _ (by rw [hC]; exact Nat.le_succ_of_le (Nat.le_succ _))
  have hLlt : L < s₂.heap.objs.size := F.ns.lt
  have hDL : s₂.heap.objs.size ≠ L := Ne.symm (below L hLlt).2.1
  have hCL : H2.objs.size ≠ L := Ne.symm (below L hLlt).1
  have hcL : H2.objs.size + 1 ≠ L := Ne.symm (below L hLlt).2.2
  have hCI : I ≠ H2.objs.size := (below I hIlt).1
  have hcI : I ≠ H2.objs.size + 1 := (below I hIlt).2.2
  have hDI : I ≠ s₂.heap.objs.size := (below I hIlt).2.1
  have off₀ : Off4 I H2.objs.size (H2.objs.size + 1) s₂.heap.objs.size news := fun p hp =>
    ⟨off p hp, (below _ (Heap.lt_size (N p hp).1)).1, (below _ (Heap.lt_size (N p hp).1)).2.2, (below _ (Heap.lt_size (N p hp).1)).2.1⟩
  have loop : ∀ s₃ : Shared, s₃ = { s₂ with heap := h₁ } →
      codeAny (model prog w) A (.compLoop (.ListComp elt [⟨.Name x px, iter, [], 0⟩] scope pos) 0 (.ref I) (.ref s₂.heap.objs.size) (compEnvC scope ((x, H2.objs.size + 1) :: cl) H2.objs.size env))
        (RR (.ref s₂.heap.objs.size) H2.objs.size) s₃ := by
    rintro s₃ rfl
    refine codeAny_compLoop_tests
      (fun k s' => ∃ h' tk i ys m' news' cv, s' = { s₂ with heap := h', toks := tk } ∧ i ≤ n ∧ k = n + 1 - i ∧ ys.length = i ∧ St i h' ∧ Fr h₀ L h' m ∧ h'.Ns H2.objs.size m' ∧ h'.IsCell (H2.objs.size + 1) cv ∧ News h₀ L h' ((s₂.heap.objs.size, lst ys) :: news') ∧
        Off4 I H2.objs.size (H2.objs.size + 1) s₂.heap.objs.size news' ∧ J i ys news') ?_ (n + 1)
      ⟨h₁, _, 0, [], _, news, none, rfl, Nat.zero_le _, rfl, rfl, hst₁, F.keeps old, hns₁, hcell₁, fun p hp => ?_, off₀, j0⟩
    · rintro k s' ⟨h', tk, i, ys, m', news', cv, rfl, hi, rfl, hyl, hst', F', hn', hc', N', off', hJ⟩
      by_cases hlt : i < n
      · refine W.item i _ _ _ hlt hst' fun v h₂ tk₂ hPv hst₂ hk₂ => ?_
        have hc₂ : h₂.IsCell (H2.objs.size + 1) cv := by
          obtain ⟨o, a, b⟩ := hc'
          exact ⟨o, hk₂ _ o (by simpa using Ne.symm hcI) a, b⟩
        refine wpAny_assign_Name (wpAny_storeName_cell (env := compEnvC scope ((x, H2.objs.size + 1) :: cl) H2.objs.size env) hkind (lookup_relabel_cell hx) (by show List.lookup x ((x, _) :: cl) = _; simp) hc₂ (fun h₃ hcc₃ hs₃ => ?_))
        refine wpAny_tests_nil ?_
        simp only [if_true]
        have hst₃ : St (i + 1) h₃ := W.frame _ _ _ hst₂ fun b hb o e => hs₃.extBut b o (fun q => hcf (by have q' : b = H2.objs.size + 1 := q; rw [← q']; exact hb)) e
        obtain ⟨oI, heI⟩ := hIo _ _ hst₃
        have hn₃ : h₃.Ns H2.objs.size m' := (hn'.at' fun o e => hk₂ _ o (by simpa using Ne.symm hCI) e).sameBut hs₃ hCc
        obtain ⟨oC, heC, hoC⟩ := ns_obj hn₃
        obtain ⟨oc, hec, hoc⟩ := hcc₃
        have F₃ : Fr h₀ L h₃ m := (fr_but F' hk₂ hIL hI₀).change hs₃ hcL hc₀
        have off4 := off'
        have N₂ : News h₀ L h₂ ((s₂.heap.objs.size, lst ys) :: news') := news_but N' hk₂ fun p hp => by
          rcases List.mem_cons.mp hp with rfl | hp
          · exact Ne.symm hDI
          · exact (off4 p hp).1
        have N₃ : News h₀ L h₃ ((I, oI) :: (H2.objs.size, oC) :: (H2.objs.size + 1, oc) :: (s₂.heap.objs.size, lst ys) :: news') := fun p hp => by
          rcases List.mem_cons.mp hp with rfl | hp
          · exact ⟨heI, Ne.symm hIL, hI₀⟩
          · rcases List.mem_cons.mp hp with rfl | hp
            · exact ⟨heC, hCL, hC₀⟩
            · rcases List.mem_cons.mp hp with rfl | hp
              · exact ⟨hec, hcL, hc₀⟩
              · have z := N₂ p hp
                refine ⟨hs₃.extBut _ _ ?_ z.1, z.2⟩
                rcases List.mem_cons.mp hp with rfl | hp
                · exact hDc
                · exact (off4 p hp).2.2.1
        refine wpAny_mono (R i ys news' v I oI H2.objs.size oC (H2.objs.size + 1) oc s₂.heap.objs.size h₃ _ _ hlt hJ hPv hoc F₃ N₃ off' ⟨hIlt, by rw [hC]; exact Nat.lt_succ_self _, Nat.lt_succ_self _⟩) (fun y s₄ h₄ => ?_) fun _ _ e => e
        obtain ⟨h₄, tk₄, news₄, rfl, F₄, N₄, off₄, hJ₄⟩ := h₄
        have zI := (N₄ (I, oI) List.mem_cons_self).1
        have zC := (N₄ (H2.objs.size, oC) (List.mem_cons_of_mem _ List.mem_cons_self)).1
        have zc := (N₄ (H2.objs.size + 1, oc) (List.mem_cons_of_mem _ (List.mem_cons_of_mem _ List.mem_cons_self))).1
        have zD := (N₄ (s₂.heap.objs.size, lst ys) (List.mem_cons_of_mem _ (List.mem_cons_of_mem _ (List.mem_cons_of_mem _ List.mem_cons_self)))).1
        have N₄' : News h₀ L h₄ news₄ := fun p hp => N₄ p (List.mem_cons_of_mem _ (List.mem_cons_of_mem _ (List.mem_cons_of_mem _ (List.mem_cons_of_mem _ hp))))
        have hst₄ : St (i + 1) h₄ := hSt _ _ _ _ _ hst₃ heI zI F₄.keep N₄' (hS _ _ _ hJ₄)
        refine append_at (hsz := by show ys.toArray.size ≤ sizeLine; rw [List.size_toArray, hyl]; exact Nat.le_trans hi hsz) zD fun h₅ hs₅ hD₅ => ?_
        have off4' := off₄
        refine ⟨n + 1 - (i + 1), by omega, h₅, tk₄, i + 1, ys ++ [y], _, news₄, some v, rfl, hlt, rfl, by rw [List.length_append, List.length_singleton, hyl], W.frame _ _ _ hst₄ fun b hb o e => hs₅.extBut b o (fun q => hDf (q ▸ hb)) e, F₄.change hs₅ hDL hD₀,
          (hoC.ns zC).sameBut hs₅ (Ne.symm hDC), ⟨oc, hs₅.extBut _ _ (Ne.symm hDc) zc, hoc⟩, fun p hp => ?_, off₄, hJ₄⟩
        rcases List.mem_cons.mp hp with rfl | hp
        · exact ⟨hD₅.trans (congrArg some (lst_snoc ys y)), hDL, hD₀⟩
        · exact ⟨hs₅.extBut _ _ (off4' p hp).2.2.2 (N₄' p hp).1, (N₄' p hp).2⟩
      · obtain rfl : i = n := Nat.le_antisymm hi (Nat.not_lt.mp hlt)
        refine W.done _ _ _ hst' fun h₂ tk₂ hk₂ => ?_
        exact hRR _ _ h₂ tk₂ _ ys news' (fr_but F' hk₂ hIL hI₀) (news_but N' hk₂ fun p hp => by
          rcases List.mem_cons.mp hp with rfl | hp
          · exact Ne.symm hDI
          · exact (off' p hp).1) (fun p hp => (off' p hp).2.2.2) (hn'.at' fun o e => hk₂ _ o (by simpa using Ne.symm hCI) e) hC₀ hD₀ hCL hDL (Ne.symm hDC) (fun p hp => (off' p hp).2.1) hJ
    · rcases List.mem_cons.mp hp with rfl | hp
      · exact ⟨hacc, hDL, hD₀⟩
      · exact ⟨old _ _ (N p hp).1, (N p hp).2⟩
  have hse : ({ s₂ with heap := h₁ } : Shared) = { s₂ with heap := h₁ } := rfl
  exact codeAny_compStart_list (loop _ rfl) (W.self 0 _ _ _ hst₁ (loop _ rfl))
end
section
open PyProof.Rows.LCg
variable {prog : Program} {w : World} {A : Around} {E : Value → Shared → Prop} {s : Shared} {h₀ : Heap} {L : Addr} {m : Str → Option Value} {env : Env}
/-- the end of a comprehension whose variable is a cell: what is left is the list and the ledger -/
def FinC (h₀ : Heap) (L : Addr) (m : Str → Option Value) (s : Shared) (Q : Value → Shared → Prop) (J : List Value → List (Addr × Obj) → Prop) : Prop :=
  ∀ D h tk ys nw, J ys nw → Fr h₀ L h m → News h₀ L h ((D, lst ys) :: nw) → (∀ p ∈ nw, p.1 ≠ D) → Q (.ref D) { s with heap := h, toks := tk }
def SrcCL (prog : Program) (w : World) (A : Around) (h₀ : Heap) (L : Addr) (m : Str → Option Value) (env : Env) (elt : Expr) (x : Str) (scope : Scope) (cl : List (Str × Addr)) (Q : Value → Shared → Prop) (xv : Value) (s₁ : Shared) : Prop :=
  ∃ ax its news J, xv = .ref ax ∧ A.handled = none ∧ Fr h₀ L s₁.heap m ∧ News h₀ L s₁.heap news ∧ (∀ i ys nw, J i ys nw → SrcAt h₀ ax its nw) ∧ its.size ≤ sizeLine ∧ J 0 [] news ∧
    ∀ s₂ : Shared, (∃ h, s₂ = { s₁ with heap := h }) → StepC prog w A h₀ L m env elt x scope cl s₂ (fun i v => its[i]? = some v) its.size J ∧ FinC h₀ L m s₂ Q (J its.size)
theorem ListComp_CL {elt iter : Expr} {x : Str} {px : Pos} {scope : Scope} {cl : List (Str × Addr)} {pos : Pos} {Q : Value → Shared → Prop}
    (hclos : closureFor scope env = pure cl) (hc1 : ∀ n acc, cellsFrom n scope.names acc = (x, n) :: acc) (hc2 : ∀ h : Heap, pushCells h scope.names = h.push { cls := .type "cell", data := .cell none }) (hkind : scope.kind = .function)
    (hnames : ∀ y ∈ scope.names, y.2 = .local → scope.names.lookup y.1 = some .local) (hx : scope.names.lookup x = some .cell)
    (h : wpAny (model prog w) A (eval iter env) (SrcCL prog w A h₀ L m env elt x scope cl Q) E s)
    (hs : ∀ x, foldedSetIterable iter env x = pure x := by intro _; rfl) :
    wpAny (model prog w) A (eval (.ListComp elt [⟨.Name x px, iter, [], 0⟩] scope pos) env) Q E s := by
  rw [eval_ListComp]
  refine wpAny_comprehension_free (use := none) rfl hs hclos hkind hnames (wpAny_mono h (fun xv s₁ h₁ => ?_) fun _ _ e => e)
  obtain ⟨ax, its, news, J, rfl, hh, F, N, S, hsz, j0, R⟩ := h₁
  have hl := (S _ _ _ j0).list F.keep N
  have hlt : ax < s₁.heap.objs.size := by obtain ⟨_, e, _⟩ := hl; exact Heap.lt_size e
  refine wpAny_pyIter_list hl ?_
  have up : ∀ b o, s₁.heap.get? b = some o → (s₁.heap.push { cls := .type "list_iterator", data := .fields #[.ref ax, .int 0 0] }).get? b = some o := fun b o e => Heap.get?_push_of_some _ e
  refine block_C J (Walks.list hh s₁.heap.objs.size ax (Nat.ne_of_lt hlt) its) hsz (fun i h st => by obtain ⟨o, e, _⟩ := st.1; exact ⟨o, e⟩) list_st hc1 hc2 hkind hx ⟨⟨_, Heap.get?_push_size _ rfl, rfl, rfl⟩, hl.push _⟩ (fun b hb => ?_)
    (F.keeps up) (N.grown up) (Nat.ne_of_lt F.ns.lt) (next_is_new F) (fun p hp => Nat.ne_of_lt (Heap.lt_size (N p hp).1)) S j0 (R _ ⟨_, rfl⟩).1 ?_
  · show b < (s₁.heap.push _).objs.size
    rw [Heap.size_push]
    rcases List.mem_cons.mp hb with rfl | hb
    · exact Nat.lt_succ_self _
    · rw [List.mem_singleton.mp hb]; exact Nat.lt_succ_of_lt hlt
  · intro D C h tk m' ys news' F' N' o1 hn hC₀ hD₀ hCL hDL hCD offC hj
    refine ⟨m', hn, fun h'' hs'' => (R { s₁ with heap := h'' } ⟨_, rfl⟩).2 D h'' tk ys news' hj (F'.change hs'' hCL hC₀) (fun p hp => ?_) o1⟩
    refine ⟨hs''.extBut _ _ ?_ (N' p hp).1, (N' p hp).2⟩
    rcases List.mem_cons.mp hp with rfl | hp
    · exact Ne.symm hCD
    · exact offC p hp
def SrcCR (prog : Program) (w : World) (A : Around) (h₀ : Heap) (L : Addr) (m : Str → Option Value) (env : Env) (elt : Expr) (x : Str) (scope : Scope) (cl : List (Str × Addr)) (Q : Value → Shared → Prop) (xv : Value) (s₁ : Shared) : Prop :=
  ∃ r a b t u v n news J, xv = .ref r ∧ A.handled = none ∧ Fr h₀ L s₁.heap m ∧ News h₀ L s₁.heap news ∧ IsRange s₁.heap r a b 1 t u v ∧ Builtin.Range.small a b 1 = true ∧ Builtin.Range.rangeSize a b 1 = ((n : Nat) : Int) ∧ n ≤ sizeLine ∧ J 0 [] news ∧
    ∀ s₂ : Shared, (∃ h, s₂ = { s₁ with heap := h }) → StepC prog w A h₀ L m env elt x scope cl s₂ (fun i v => ∃ t, v = .int (a + (i : Int)) t) n J ∧ FinC h₀ L m s₂ Q (J n)
theorem ListComp_CR {elt iter : Expr} {x : Str} {px : Pos} {scope : Scope} {cl : List (Str × Addr)} {pos : Pos} {Q : Value → Shared → Prop}
    (hclos : closureFor scope env = pure cl) (hc1 : ∀ n acc, cellsFrom n scope.names acc = (x, n) :: acc) (hc2 : ∀ h : Heap, pushCells h scope.names = h.push { cls := .type "cell", data := .cell none }) (hkind : scope.kind = .function)
    (hnames : ∀ y ∈ scope.names, y.2 = .local → scope.names.lookup y.1 = some .local) (hx : scope.names.lookup x = some .cell)
    (h : wpAny (model prog w) A (eval iter env) (SrcCR prog w A h₀ L m env elt x scope cl Q) E s)
    (hs : ∀ x, foldedSetIterable iter env x = pure x := by intro _; rfl) :
    wpAny (model prog w) A (eval (.ListComp elt [⟨.Name x px, iter, [], 0⟩] scope pos) env) Q E s := by
  rw [eval_ListComp]
  refine wpAny_comprehension_free (use := none) rfl hs hclos hkind hnames (wpAny_mono h (fun xv s₁ h₁ => ?_) fun _ _ e => e)
  obtain ⟨r, a, b, t, u, v, n, news, J, rfl, hh, F, N, hr, hsm, hn, hsz, j0, R⟩ := h₁
  refine wpAny_pyIter_range hr hsm ?_
  refine block_C (S := fun _ => True) J (range_walks hh a n) hsz (fun i h st => ⟨_, st⟩) range_st hc1 hc2 hkind hx (by show IsRangeIter _ _ _ _ _; rw [hn]; simpa using Heap.get?_push_size _ rfl) (fun b hb => ?_)
    (F.keeps fun _ _ e => Heap.get?_push_of_some _ e) (N.grown fun _ _ e => Heap.get?_push_of_some _ e) (Nat.ne_of_lt F.ns.lt) (next_is_new F) (fun p hp => Nat.ne_of_lt (Heap.lt_size (N p hp).1)) (fun _ _ _ _ => trivial) j0 (R _ ⟨_, rfl⟩).1 ?_
  · rw [List.mem_singleton.mp hb]
    show s₁.heap.objs.size < (s₁.heap.push _).objs.size
    rw [Heap.size_push]; exact Nat.lt_succ_self _
  · intro D C h tk m' ys news' F' N' o1 hn hC₀ hD₀ hCL hDL hCD offC hj
    refine ⟨m', hn, fun h'' hs'' => (R { s₁ with heap := h'' } ⟨_, rfl⟩).2 D h'' tk ys news' hj (F'.change hs'' hCL hC₀) (fun p hp => ?_) o1⟩
    refine ⟨hs''.extBut _ _ ?_ (N' p hp).1, (N' p hp).2⟩
    rcases List.mem_cons.mp hp with rfl | hp
    · exact Ne.symm hCD
    · exact offC p hp
end
section
variable {n : Nat} {k : Nat → Int} {cmp : Nat → Nat → (Bool → Shared → Prop) → Shared → Prop} {s : Shared}
/-- an order of the places 0 .. n-1 -/
structure PermR (n : Nat) (p : Array Nat) : Prop where
  perm : p.toList.Perm (List.range n)
theorem PermR.size {p : Array Nat} (h : PermR n p) : p.size = n := by have := h.perm.length_eq; simpa using this
theorem PermR.lt {p : Array Nat} (h : PermR n p) {i : Nat} (hi : i < n) : p.getD i 0 < n := by
  have hs : i < p.size := by rw [h.size]; exact hi
  have hm : p.getD i 0 ∈ p.toList := by
    have e : p.getD i 0 = p[i] := by simp [Array.getD, hs]
    rw [e]; simp
  exact List.mem_range.mp (h.perm.mem_iff.mp hm)
theorem PermR.inj {p : Array Nat} (h : PermR n p) {i j : Nat} (hi : i < n) (hj : j < n) (e : p.getD i 0 = p.getD j 0) : i = j := by
  have hs : i < p.size := by rw [h.size]; exact hi
  have hs' : j < p.size := by rw [h.size]; exact hj
  have hnd : p.toList.Nodup := h.perm.nodup_iff.mpr List.nodup_range
  have e1 : p.getD i 0 = p.toList[i]'(by simpa using hs) := by simp [Array.getD, hs]
  have e2 : p.getD j 0 = p.toList[j]'(by simpa using hs') := by simp [Array.getD, hs']
  rw [e1, e2] at e
  rcases Nat.lt_trichotomy i j with z | z | z
  · exact absurd e ((List.pairwise_iff_getElem.mp hnd) i j _ _ z)
  · exact z
  · exact absurd e.symm ((List.pairwise_iff_getElem.mp hnd) j i _ _ z)
theorem PermR.to {p q : Array Nat} (h : PermR n p) (hq : q.Perm p) : PermR n q := ⟨(Array.perm_iff_toList_perm.mp hq).trans h.perm⟩
def Asc (k : Nat → Int) (p : Array Nat) (a : Nat) : Prop := ∀ i j, i < j → j < a → k (p.getD i 0) < k (p.getD j 0)
def Desc (k : Nat → Int) (p : Array Nat) (a : Nat) : Prop := ∀ i j, i < j → j < a → k (p.getD j 0) < k (p.getD i 0)
/-- keys apart, and a comparison that answers by them -/
structure CmpBy (n : Nat) (k : Nat → Int) (cmp : Nat → Nat → (Bool → Shared → Prop) → Shared → Prop) (s : Shared) : Prop where
  inj : ∀ i j, i < n → j < n → k i = k j → i = j
  ask : ∀ i j C, i < n → j < n → C (decide (k i < k j)) s → cmp i j C s
theorem CmpBy.ne (H : CmpBy n k cmp s) {p : Array Nat} (hp : PermR n p) {i j : Nat} (hi : i < n) (hj : j < n) (hij : i ≠ j) : k (p.getD i 0) ≠ k (p.getD j 0) :=
  fun e => hij (hp.inj hi hj (H.inj _ _ (hp.lt hi) (hp.lt hj) e))
theorem getD_of {p q : Array Nat} {i j : Nat} (h : p[i]? = q[j]?) : p.getD i 0 = q.getD j 0 := by
  rw [Array.getD_eq_getD_getElem?, Array.getD_eq_getD_getElem?, h]
theorem asc_wp (H : CmpBy n k cmp s) {p : Array Nat} (hp : PermR n p) {Q : Nat → Shared → Prop} : ∀ (f a : Nat), 1 ≤ a → a + f ≤ n → Asc k p a →
    (∀ m, a ≤ m → m ≤ a + f → Asc k p m → (m = a + f ∨ k (p.getD m 0) < k (p.getD (m - 1) 0)) → Q m s) → (kas_asc p f a).kasWp cmp Q s
  | 0, a, h1, h2, h3, h => h a (Nat.le_refl _) (Nat.le_refl _) h3 (.inl rfl)
  | f + 1, a, h1, h2, h3, h => by
    unfold kas_asc
    refine H.ask _ _ _ (hp.lt (by omega)) (hp.lt (by omega)) ?_
    by_cases hc : k (p.getD a 0) < k (p.getD (a - 1) 0)
    · (rw [decide_eq_true hc]; dsimp only; rw [if_pos rfl])
      exact h a (Nat.le_refl _) (by omega) h3 (.inr hc)
    · (rw [decide_eq_false hc]; dsimp only; rw [if_neg Bool.false_ne_true])
      refine asc_wp H hp f (a + 1) (by omega) (by omega) (fun i j hij hj => ?_) fun m m1 m2 m3 m4 => h m (by omega) (by omega) m3 (by rw [show a + (f + 1) = a + 1 + f by omega]; exact m4)
      have hlast : k (p.getD (a - 1) 0) < k (p.getD a 0) := by
        have := H.ne hp (i := a - 1) (j := a) (by omega) (by omega) (by omega)
        omega
      by_cases hja : j = a
      · subst hja
        by_cases hi : i = j - 1
        · subst hi; exact hlast
        · exact Int.lt_trans (h3 i (j - 1) (by omega) (by omega)) hlast
      · exact h3 i j hij (by omega)
theorem desc_wp (H : CmpBy n k cmp s) {p : Array Nat} (hp : PermR n p) {Q : Array Nat × Nat × Nat → Shared → Prop} : ∀ (f a : Nat), 1 ≤ a → a + f ≤ n → Desc k p a →
    (∀ m, a ≤ m → m ≤ a + f → Desc k p m → Q (p, m, 0) s) → (kas_desc f p a 0).kasWp cmp Q s
  | 0, a, h1, h2, h3, h => h a (Nat.le_refl _) (Nat.le_refl _) h3
  | f + 1, a, h1, h2, h3, h => by
    unfold kas_desc
    refine H.ask _ _ _ (hp.lt (by omega)) (hp.lt (by omega)) ?_
    by_cases hc : k (p.getD a 0) < k (p.getD (a - 1) 0)
    · (rw [decide_eq_true hc]; dsimp only; rw [if_pos rfl, if_neg (by omega)])
      refine desc_wp H hp f (a + 1) (by omega) (by omega) (fun i j hij hj => ?_) fun m m1 m2 m3 => h m (by omega) (by omega) m3
      by_cases hja : j = a
      · subst hja
        by_cases hi : i = j - 1
        · subst hi; exact hc
        · exact Int.lt_trans hc (h3 i (j - 1) (by omega) (by omega))
      · exact h3 i j hij (by omega)
    · (rw [decide_eq_false hc]; dsimp only; rw [if_neg Bool.false_ne_true])
      refine H.ask _ _ _ (hp.lt (by omega)) (hp.lt (by omega)) ?_
      have hlast : k (p.getD (a - 1) 0) < k (p.getD a 0) := by
        have := H.ne hp (i := a - 1) (j := a) (by omega) (by omega) (by omega)
        omega
      (rw [decide_eq_true hlast]; dsimp only; rw [if_pos rfl])
      exact h a (Nat.le_refl _) (by omega) h3
theorem rev_getD {p : Array Nat} {m : Nat} (hm : m ≤ p.size) (i : Nat) : (kas_rev p 0 m).getD i 0 = if i < m then p.getD (m - 1 - i) 0 else p.getD i 0 := by
  unfold kas_rev
  have e := getElem?_mirror_all (xs := p) (i := 0) hm i
  by_cases h : i < m
  · rw [if_pos ⟨Nat.zero_le _, h⟩, show 0 + m - 1 - i = m - 1 - i by omega] at e
    rw [if_pos h]
    exact getD_of e
  · rw [if_neg (fun z => h z.2)] at e
    rw [if_neg h]
    exact getD_of e
theorem tail3_wp (H : CmpBy n k cmp s) {p : Array Nat} (hp : PermR n p) {m : Nat} (h1 : 1 ≤ m) (hm : m ≤ n) (hd : Desc k p m) {Q : Nat × Array Nat → Shared → Prop}
    (h : ∀ m' p', 1 ≤ m' → m' ≤ n → PermR n p' → Asc k p' m' → Q (m', p') s) : (kas_tail3 m n p).kasWp cmp Q s := by
  have hp' : PermR n (kas_rev p 0 m) := hp.to (mirror_perm _ _ _ _)
  have ha : Asc k (kas_rev p 0 m) m := fun i j hij hj => by
    rw [rev_getD (by rw [hp.size]; exact hm), rev_getD (by rw [hp.size]; exact hm), if_pos (by omega), if_pos hj]
    exact hd _ _ (by omega) (by omega)
  unfold kas_tail3
  rw [KasT.kasWp_bind]
  refine asc_wp H hp' (n - m) m h1 (by omega) ha fun m' a1 a2 a3 _ => ?_
  exact h m' _ (by omega) (by omega) hp' a3
theorem count_wp (H : CmpBy n k cmp s) {p : Array Nat} (hp : PermR n p) (h2 : 2 ≤ n) {Q : Nat × Array Nat → Shared → Prop}
    (h : ∀ m' p', 1 ≤ m' → m' ≤ n → PermR n p' → Asc k p' m' → Q (m', p') s) : (kas_count n p).kasWp cmp Q s := by
  unfold kas_count
  rw [KasT.kasWp_bind]
  refine asc_wp H hp (n - 1) 1 (Nat.le_refl _) (by omega) (fun i j hij hj => by omega) fun m m1 m2 m3 m4 => ?_
  by_cases he : m = n
  · rw [if_pos (by simpa using he)]
    exact h m p m1 (by omega) hp m3
  · rw [if_neg (by simpa using he)]
    by_cases hg : m > 1
    · rw [if_pos hg]
      refine H.ask _ _ _ (hp.lt (by omega)) (hp.lt (by omega)) ?_
      (rw [decide_eq_true (m3 0 (m - 1) (by omega) (by omega))]; dsimp only; rw [if_pos rfl])
      exact h m p m1 (by omega) hp m3
    · rw [if_neg hg]
      obtain rfl : m = 1 := by omega
      have hlast : k (p.getD 1 0) < k (p.getD 0 0) := by
        rcases m4 with m4 | m4
        · omega
        · exact m4
      unfold kas_descPart
      rw [KasT.kasWp_bind]
      refine desc_wp H hp (n - (1 + 1)) (1 + 1) (by omega) (by omega) (fun i j hij hj => ?_) fun m' a1 a2 a3 => ?_
      · obtain rfl : i = 0 := by omega
        obtain rfl : j = 1 := by omega
        exact hlast
      · dsimp only
        rw [if_neg (by omega)]
        exact tail3_wp H hp (by omega) (by omega) a3 h
theorem place_wp (H : CmpBy n k cmp s) {p : Array Nat} (hp : PermR n p) {x : Nat} (hx : x < n) (ha : Asc k p x) {Q : Nat → Shared → Prop} : ∀ (f l r : Nat), l ≤ r → r ≤ x → r - l ≤ f →
    (∀ i, i < l → k (p.getD i 0) < k (p.getD x 0)) → (∀ i, r ≤ i → i < x → k (p.getD x 0) < k (p.getD i 0)) →
    (∀ l', l' ≤ x → (∀ i, i < l' → k (p.getD i 0) < k (p.getD x 0)) → (∀ i, l' ≤ i → i < x → k (p.getD x 0) < k (p.getD i 0)) → Q l' s) → (kas_place p x f l r).kasWp cmp Q s
  | 0, l, r, h1, h2, h3, hl, hr, h => h l (by omega) hl fun i hi => hr i (by omega)
  | f + 1, l, r, h1, h2, h3, hl, hr, h => by
    unfold kas_place
    by_cases hge : l ≥ r
    · rw [if_pos hge]
      exact h l (by omega) hl fun i hi => hr i (by omega)
    · rw [if_neg hge]
      refine H.ask _ _ _ (hp.lt hx) (hp.lt (by omega)) ?_
      by_cases hc : k (p.getD x 0) < k (p.getD ((l + r) / 2) 0)
      · (rw [decide_eq_true hc]; dsimp only; rw [if_pos rfl])
        refine place_wp H hp hx ha f l ((l + r) / 2) (by omega) (by omega) (by omega) hl (fun i i1 i2 => ?_) h
        rcases Nat.lt_or_ge ((l + r) / 2) i with z | z
        · exact Int.lt_trans hc (ha _ _ z i2)
        · rw [show i = (l + r) / 2 by omega]; exact hc
      · (rw [decide_eq_false hc]; dsimp only; rw [if_neg Bool.false_ne_true])
        have hlt : k (p.getD ((l + r) / 2) 0) < k (p.getD x 0) := by
          have := H.ne hp (i := (l + r) / 2) (j := x) (by omega) hx (by omega)
          omega
        refine place_wp H hp hx ha f ((l + r) / 2 + 1) r (by omega) h2 (by omega) (fun i hi => ?_) hr h
        rcases Nat.lt_or_ge i ((l + r) / 2) with z | z
        · exact Int.lt_trans (ha _ _ z (by omega)) hlt
        · rw [show i = (l + r) / 2 by omega]; exact hlt
theorem bub_getD {p : Array Nat} {x l : Nat} (hx : x < p.size) (hl : l ≤ x) (i : Nat) : (bubble p x (x - l)).getD i 0 = if i = l then p.getD x 0 else if l < i ∧ i ≤ x then p.getD (i - 1) 0 else p.getD i 0 := by
  have e := getElem?_bubble hx (x - l) (by omega) i
  rw [show x - (x - l) = l by omega] at e
  by_cases h1 : i = l
  · rw [if_pos h1] at e ⊢; exact getD_of e
  · rw [if_neg h1] at e ⊢
    by_cases h2 : l < i ∧ i ≤ x
    · rw [if_pos h2] at e ⊢; exact getD_of e
    · rw [if_neg h2] at e ⊢; exact getD_of e
theorem bin_wp (H : CmpBy n k cmp s) {Q : Array Nat → Shared → Prop} (h : ∀ p', PermR n p' → Asc k p' n → Q p' s) : ∀ (f x : Nat) (p : Array Nat), PermR n p → x + f = n → Asc k p x → (kas_bin f p x).kasWp cmp Q s
  | 0, x, p, hp, hx, ha => h p hp ((show x = n by omega) ▸ ha)
  | f + 1, x, p, hp, hx, ha => by
    unfold kas_bin
    rw [KasT.kasWp_bind]
    refine place_wp H hp (by omega) ha x 0 x (by omega) (Nat.le_refl _) (by omega) (fun i hi => by omega) (fun i i1 i2 => by omega) fun l hl hlo hhi => ?_
    refine bin_wp H h f (x + 1) _ (hp.to (bubble_perm _ _ _)) (by omega) fun i j hij hj => ?_
    have hs : x < p.size := by rw [hp.size]; omega
    rw [bub_getD hs hl, bub_getD hs hl]
    by_cases a1 : i = l
    · rw [if_pos a1, if_neg (show ¬j = l by omega), if_pos (show l < j ∧ j ≤ x by omega)]
      exact hhi _ (by omega) (by omega)
    · rw [if_neg a1]
      by_cases a2 : l < i ∧ i ≤ x
      · rw [if_pos a2, if_neg (show ¬j = l by omega), if_pos (show l < j ∧ j ≤ x by omega)]
        exact ha _ _ (by omega) (by omega)
      · rw [if_neg a2]
        by_cases a3 : j = l
        · rw [if_pos a3]
          exact hlo _ (by omega)
        · rw [if_neg a3]
          by_cases a4 : l < j ∧ j ≤ x
          · rw [if_pos a4]
            exact ha _ _ (by omega) (by omega)
          · rw [if_neg a4]
            exact ha _ _ hij (by omega)
theorem sort_wp (H : CmpBy n k cmp s) (h2 : 2 ≤ n) {Q : Array Nat → Shared → Prop} (h : ∀ p', PermR n p' → Asc k p' n → Q p' s) : (kas_sort n).kasWp cmp Q s := by
  unfold kas_sort
  rw [KasT.kasWp_bind]
  refine count_wp H ⟨by simp⟩ h2 fun m p m1 m2 hp ha => ?_
  dsimp only
  by_cases hlt : m < n
  · rw [if_pos hlt]
    exact bin_wp H h _ _ _ hp (by omega) (by rw [show max m 1 = m by omega]; exact ha)
  · rw [if_neg hlt]
    exact h p hp ((show m = n by omega) ▸ ha)
end
section
variable {prog : Program} {w : World} {A : Around} {E : Value → Shared → Prop} {s : Shared} {h₀ : Heap} {L l a a' : Addr} {m : Str → Option Value} {news : List (Addr × Obj)} {vs : List Value}
abbrev pd (g : Int × Int) : Dat := .tuple [.int g.1, .int g.2]
/-- a pair's key: the pairs are ordered as their keys are -/
def pkey (g : Int × Int) : Int := 1000 * g.1 + g.2
theorem dat_ints {L9 : List (Addr × Obj)} {ws : List Value} {x y : Int} (h : DatAll L9 ws [.int x, .int y]) : ∃ t u, ws = [.int x t, .int y u] := by
  cases h with
  | cons h1 h2 =>
    cases h2 with
    | cons h3 h4 =>
      cases h4
      cases h1
      cases h3
      exact ⟨_, _, rfl⟩
theorem dat_pair {L9 : List (Addr × Obj)} {v : Value} {g : Int × Int} (h : DatIn L9 v (pd g)) : ∃ a t u n, v = .ref a ∧ (a, ({ cls := .type "tuple", data := .seq #[.int g.1 t, .int g.2 u] n } : Obj)) ∈ L9 := by
  cases h with
  | tuple hm r =>
    obtain ⟨t, u, rfl⟩ := dat_ints r
    exact ⟨_, t, u, _, rfl, hm⟩
theorem pair_lt {o o' : Obj} {e p e' p' : Int} {t u t' u' : Tok} {n n' : Nat} {C : Bool → Shared → Prop} (h1 : s.heap.get? a = some o) (d1 : o.data = .seq #[.int e t, .int p u] n) (h2 : s.heap.get? a' = some o') (d2 : o'.data = .seq #[.int e' t', .int p' u'] n')
    (hC : C (decide (e < e' ∨ (e = e' ∧ p < p'))) s) : wpAny (model prog w) A (keyLt' (tuples' true) (.ref a) (.ref a')) C E s := by
  refine kat_lt h1 d1 h2 d2 ?_
  show KatLex prog w A true (decide (2 < 2)) C [(Value.int e t, Value.int e' t'), (Value.int p u, Value.int p' u')] 0 s
  refine kat_cons (wpAny_eqBool_int ?_)
  by_cases he : e = e'
  · rw [show (e == e') = true from beq_iff_eq.mpr he]
    refine kat_yes (kat_cons (wpAny_eqBool_int ?_))
    by_cases hp : p = p'
    · rw [show (p == p') = true from beq_iff_eq.mpr hp]
      refine kat_yes (kat_nil ?_)
      rw [show decide (2 < 2) = decide (e < e' ∨ (e = e' ∧ p < p')) from by rw [decide_eq_false (by omega), decide_eq_false (by omega)]]
      exact hC
    · rw [show (p == p') = false from beq_eq_false_iff_ne.mpr hp]
      refine kat_no (kat_one _ _ (PyProof.Rows.lt_int ?_))
      show C (decide (p < p')) s
      rw [show decide (p < p') = decide (e < e' ∨ (e = e' ∧ p < p')) from decide_eq_decide.mpr (by omega)]
      exact hC
  · rw [show (e == e') = false from beq_eq_false_iff_ne.mpr he]
    refine kat_no (oneLt_int ?_)
    rw [show decide (e < e') = decide (e < e' ∨ (e = e' ∧ p < p')) from decide_eq_decide.mpr (by omega)]
    exact hC
theorem pairs_tups {h : Heap} {h₀ : Heap} {L : Addr} {L9 : List (Addr × Obj)} (N : News h₀ L h L9) : ∀ {vs : List Value} {gs : List (Int × Int)}, DatAll L9 vs (gs.map pd) → ∃ fs : List Value, fs.length = gs.length ∧ KatTups h vs fs ∧ ∀ v ∈ fs, ∃ n t, v = .int n t
  | [], [], _ => ⟨[], rfl, KatTups.nil, fun _ h => nomatch h⟩
  | v :: vs, g :: gs, .cons h1 h2 => by
    obtain ⟨a, t, u, n, rfl, hm⟩ := dat_pair h1
    obtain ⟨fs, a1, a2, a3⟩ := pairs_tups N h2
    refine ⟨.int g.1 t :: fs, by simp [a1], KatTups.cons (N _ hm).1 rfl rfl rfl a2, fun v hv => ?_⟩
    rcases List.mem_cons.mp hv with rfl | hv
    · exact ⟨_, _, rfl⟩
    · exact a3 v hv
theorem datAll_at {L9 : List (Addr × Obj)} {vs : List Value} {gs : List (Int × Int)} (h : DatAll L9 vs (gs.map pd)) {i : Nat} (hi : i < gs.length) : DatIn L9 (vs.getD i Value.none) (pd (gs.getD i (0, 0))) := by
  obtain ⟨v, h1, h2⟩ := h.get (k := i) (by rw [List.length_map]; exact hi)
  rw [List.getD_eq_getElem?_getD, h1, List.getD_eq_getElem?_getD, List.getElem?_eq_getElem hi]
  simpa using h2
theorem datAll_pick {L9 : List (Addr × Obj)} {vs : List Value} {gs : List (Int × Int)} (h : DatAll L9 vs (gs.map pd)) : ∀ (p : List Nat), (∀ i ∈ p, i < gs.length) → DatAll L9 (p.map fun i => vs.getD i Value.none) ((p.map fun i => gs.getD i (0, 0)).map pd)
  | [], _ => .nil
  | i :: p, hp => .cons (datAll_at h (hp i (.head _))) (datAll_pick h p fun j hj => hp j (.tail _ hj))
theorem range_getD (gs : List (Int × Int)) : ((List.range gs.length).map fun i => gs.getD i (0, 0)) = gs := by
  refine List.ext_getElem (by simp) fun i h1 h2 => ?_
  simp [List.getD_eq_getElem?_getD, List.getElem?_eq_getElem h2]
/-- a list with fewer than two items is sorted as it is -/
theorem lsort_short {n : Nat} {P : PySem.Fin → Shared → Prop} (F : Fr h₀ L s.heap m) (N : News h₀ L s.heap news) (ho : s.heap.get? a = some (seqObj "list" vs.toArray n)) (haL : a ≠ L) (ha0 : h₀.get? a = none) (hna : ∀ p ∈ news, p.1 ≠ a)
    (h2 : vs.length < 2) (h : ∀ h' c, Fr h₀ L h' m → News h₀ L h' ((a, seqObj "list" vs.toArray c) :: news) → P (.done (.ret .none)) { s with heap := h' }) :
    wpAny (model prog w) A (Builtin.«list.sort» ⟨[.ref a], []⟩) P E s := by
  have s1 := Heap.SameBut.update s.heap a (Obj.mapSeq fun _ => (#[] : Array Value))
  obtain ⟨e1, ho1⟩ : ∃ e1, (s.heap.update a (Obj.mapSeq fun _ => (#[] : Array Value))).get? a = some (seqObj "list" #[] e1) := ⟨_, get?_update_seq ho fun _ => #[]⟩
  have F3 : Fr h₀ L (((s.heap.update a (Obj.mapSeq fun _ => (#[] : Array Value))).push (seqObj "tuple" vs.toArray 0)).push (seqObj "list" #[] 0)) m := ((kas_fr F s1 haL ha0).push _).push _
  have N2 : News h₀ L (((s.heap.update a (Obj.mapSeq fun _ => (#[] : Array Value))).push (seqObj "tuple" vs.toArray 0)).push (seqObj "list" #[] 0)) news :=
    (kas_news N s1 hna).grown fun b x e => Heap.get?_push_of_some _ (Heap.get?_push_of_some _ e)
  have ho3 : (((s.heap.update a (Obj.mapSeq fun _ => (#[] : Array Value))).push (seqObj "tuple" vs.toArray 0)).push (seqObj "list" #[] 0)).get? a = some (seqObj "list" #[] e1) := Heap.get?_push_of_some _ (Heap.get?_push_of_some _ ho1)
  rw [list_sort_plain]
  refine wpAny_bind (listItems_at ho rfl ?_)
  refine wpAny_bind (listUpdate_at ho rfl ?_ (by rw [List.size_toArray, sizeLine_eq]; omega) (Nat.zero_le _))
  refine wpAny_bind (seqEpoch_at ho1 rfl ?_)
  refine wpAny_bind (wpAny_newTuple ?_ (by show vs.length ≤ _; rw [sizeLine_eq]; omega))
  refine wpAny_bind (wpAny_newList ?_ (Nat.zero_le _))
  refine wpAny_holding ?_
  show wpAny (model prog w) A _ P E { s with heap := ((s.heap.update a (Obj.mapSeq fun _ => (#[] : Array Value))).push (seqObj "tuple" vs.toArray 0)).push (seqObj "list" #[] 0) }
  dsimp only
  have hn2 : vs.toArray.size < 2 := by rw [List.size_toArray]; exact h2
  rw [if_pos hn2, if_pos hn2]
  refine wpAny_bind (wpAny_pure ?_)
  refine wpAny_bind (wpAny_pure ?_)
  dsimp only
  have hout : (arrOf (SortSt.mk' general' (vs.toArray.zip vs.toArray) #[] 7 none)).map (·.2) = vs.toArray := by
    show (vs.toArray.zip vs.toArray).map (·.2) = vs.toArray
    apply Array.toList_inj.mp
    rw [Array.toList_map]
    have : (vs.toArray.zip vs.toArray).toList = vs.zip vs := by simp
    rw [this]
    exact List.map_snd_zip (Nat.le_refl _)
  rw [hout]
  obtain ⟨c2, hc2⟩ : ∃ c2, ((((s.heap.update a (Obj.mapSeq fun _ => (#[] : Array Value))).push (seqObj "tuple" vs.toArray 0)).push (seqObj "list" #[] 0)).update a (Obj.mapSeq fun _ => vs.toArray)).get? a = some (seqObj "list" vs.toArray c2) := ⟨_, get?_update_seq ho3 fun _ => vs.toArray⟩
  have s2 := Heap.SameBut.update (((s.heap.update a (Obj.mapSeq fun _ => (#[] : Array Value))).push (seqObj "tuple" vs.toArray 0)).push (seqObj "list" #[] 0)) a (Obj.mapSeq fun _ => vs.toArray)
  refine wpAny_bind (seqEpoch_at ho3 rfl ?_)
  refine wpAny_bind (listUpdate_at ho3 rfl ?_ (Nat.zero_le _) (by rw [List.size_toArray, sizeLine_eq]; omega))
  simp only [bne_self_eq_false, Bool.false_eq_true, if_false]
  refine wpAny_pure (h _ c2 (kas_fr F3 s2 haL ha0) fun p hp => ?_)
  rcases List.mem_cons.mp hp with rfl | hp
  · exact ⟨hc2, haL, ha0⟩
  · exact ⟨(s2.2 p.1 (hna p hp)).trans (N2 p hp).1, (N p hp).2⟩
end
section
variable {prog : Program} {w : World} {A : Around} {E : Value → Shared → Prop} {s : Shared} {h₀ : Heap} {L l : Addr} {m : Str → Option Value} {news L9 : List (Addr × Obj)} {vs : List Value} {gs : List (Int × Int)}
theorem sorted_short {Q : Value → Shared → Prop} (F : Fr h₀ L s.heap m) (N : News h₀ L s.heap news) (hl : s.heap.IsList l vs.toArray) (h2 : vs.length < 2)
    (h : ∀ D h' c, Fr h₀ L h' m → News h₀ L h' ((D, listOf vs.toArray c) :: news) → (∀ q ∈ news, q.1 < D) → Q (.ref D) { s with heap := h' }) :
    wpAny (model prog w) A (call (.builtin "sorted") [.ref l]) Q E s := by
  refine Calls.call_function_entry kind_sorted plain_sorted entry_sorted (args_sorted1 _) ?_
  unfold Builtin.«sorted»
  refine wpAny_bind (m := checkCount "sorted" 1 1 _) (wpAny_pure ?_)
  refine wpAny_bind (collect_list hl ?_ (by rw [sizeLine_eq]; omega))
  refine wpAny_bind (wpAny_newList ?_ (by rw [sizeLine_eq]; omega))
  have hsz : ((s.heap.push (seqObj "list" #[] 0)).update s.heap.objs.size (Obj.mapSeq (· ++ vs.toArray))).objs.size = s.heap.objs.size + 1 := by
    rw [Heap.size_update, size_push']
  have hoL : (((s.heap.push (seqObj "list" #[] 0)).update s.heap.objs.size (Obj.mapSeq (· ++ vs.toArray))).push (seqObj "list" vs.toArray 0)).get? (s.heap.objs.size + 1) = some (seqObj "list" vs.toArray 0) := by
    rw [← hsz]; exact Heap.get?_push_size _ rfl
  have keep : ∀ b o, s.heap.get? b = some o → (((s.heap.push (seqObj "list" #[] 0)).update s.heap.objs.size (Obj.mapSeq (· ++ vs.toArray))).push (seqObj "list" vs.toArray 0)).get? b = some o := fun b o q => by
    have hlt : b < s.heap.objs.size := Heap.lt_size q
    rw [Heap.get?_push_ne _ _ _ (by rw [hsz]; exact Nat.ne_of_lt (Nat.lt_succ_of_lt hlt)), Heap.get?_update_ne _ _ _ _ (Nat.ne_of_lt hlt), Heap.get?_push_ne _ _ _ (Nat.ne_of_lt hlt)]
    exact q
  have hL : L < s.heap.objs.size := F.ns.lt
  show wpAny _ _ _ _ _ { s with heap := ((s.heap.push (seqObj "list" #[] 0)).update s.heap.objs.size (Obj.mapSeq (· ++ vs.toArray))).push (seqObj "list" vs.toArray 0) }
  rw [hsz]
  refine wpAny_bind (wpAny_holding (wpAny_call_entry slot_list_sort ⟨_, hoL, rfl⟩ entry_list_sort ?body (args_list_sort _)))
  case body =>
    refine lsort_short (s := { s with heap := ((s.heap.push (seqObj "list" #[] 0)).update s.heap.objs.size (Obj.mapSeq (· ++ vs.toArray))).push (seqObj "list" vs.toArray 0) })
      (F.kept keep) (N.grown keep) hoL (Nat.ne_of_gt (Nat.lt_succ_of_lt hL)) (Heap.get?_none_of_le (Nat.le_trans F.above (Nat.le_succ_of_le (Nat.le_of_lt hL))))
      (fun p hp => Nat.ne_of_lt (Nat.lt_succ_of_lt (Heap.lt_size (N p hp).1))) h2 fun h' c F' N' => ?_
    exact ⟨_, rfl, wpAny_pure ⟨_, rfl, h _ h' c F' N' fun q hq => Nat.lt_succ_of_lt (Heap.lt_size (N q hq).1)⟩⟩
/-- sorted(..) of a list of pairs: the same pairs, by their keys -/
theorem sorted_pairs {Q : Value → Shared → Prop} (F : Fr h₀ L s.heap m) (N : News h₀ L s.heap news) (hl : s.heap.IsList l vs.toArray) (hd : DatAll L9 vs (gs.map pd)) (hs : ∀ p ∈ L9, p ∈ news) (h64 : gs.length < 64)
    (hb : ∀ g ∈ gs, 0 ≤ g.2 ∧ g.2 < 1000) (hnd : gs.Nodup)
    (h : ∀ (D : Addr) (h' : Heap) (c : Nat) (vs' : List Value) (gs' : List (Int × Int)), Fr h₀ L h' m → News h₀ L h' ((D, listOf vs'.toArray c) :: news) → (∀ q ∈ news, q.1 < D) → DatAll L9 vs' (gs'.map pd) → gs'.Perm gs → gs'.Pairwise (fun a b => pkey a < pkey b) → Q (.ref D) { s with heap := h' }) :
    wpAny (model prog w) A (call (.builtin "sorted") [.ref l]) Q E s := by
  have hlen : vs.length = gs.length := by rw [hd.length, List.length_map]
  by_cases h2 : vs.length < 2
  · refine sorted_short F N hl h2 fun D h' c F' N' hlt => h D h' c vs gs F' N' hlt hd (List.Perm.refl _) ?_
    match gs, hlen with
    | [], _ => exact .nil
    | [_], _ => exact List.pairwise_singleton _ _
    | _ :: _ :: _, e => exact absurd h2 (by rw [e]; simp)
  · refine kat_sorted F N hl (by omega) (by omega) fun D e1 h' F' N' hlt => ?_
    have N9 : News h₀ L h' L9 := fun p hp => N' p (.tail _ (hs p hp))
    obtain ⟨fs, hfl, hft, hfi⟩ := pairs_tups N9 hd
    refine kat_kind (s := { s with heap := h' }) (T := Value.type "int") hft (by omega) (fun v hv => ?_) (by decide) ?_
    · obtain ⟨n, t, rfl⟩ := hfi v hv
      exact Looks.now
    · have hkey : ∀ i j, i < gs.length → j < gs.length → pkey (gs.getD i (0, 0)) = pkey (gs.getD j (0, 0)) → i = j := fun i j hi hj e => by
        have m1 : gs.getD i (0, 0) ∈ gs := by rw [List.getD_eq_getElem?_getD, List.getElem?_eq_getElem hi]; exact List.getElem_mem _
        have m2 : gs.getD j (0, 0) ∈ gs := by rw [List.getD_eq_getElem?_getD, List.getElem?_eq_getElem hj]; exact List.getElem_mem _
        have b1 := hb _ m1
        have b2 := hb _ m2
        unfold pkey at e
        have e2 : gs.getD i (0, 0) = gs.getD j (0, 0) := Prod.ext (by omega) (by omega)
        rw [List.getD_eq_getElem?_getD, List.getElem?_eq_getElem hi, List.getD_eq_getElem?_getD, List.getElem?_eq_getElem hj] at e2
        have e3 : gs[i] = gs[j] := e2
        rcases Nat.lt_trichotomy i j with z | z | z
        · exact absurd e3 ((List.pairwise_iff_getElem.mp hnd) i j hi hj z)
        · exact z
        · exact absurd e3.symm ((List.pairwise_iff_getElem.mp hnd) j i hj hi z)
      refine sort_wp (k := fun i => pkey (gs.getD i (0, 0))) ⟨fun i j hi hj e => hkey i j (hlen ▸ hi) (hlen ▸ hj) e, fun i j C hi hj hC => ?_⟩ (by omega) fun p hp ha => ?_
      · rw [hlen] at hi hj
        obtain ⟨a, t, u, n, e1, m1⟩ := dat_pair (datAll_at hd hi)
        obtain ⟨a', t', u', n', e2, m2⟩ := dat_pair (datAll_at hd hj)
        unfold kas_ask
        rw [e1, e2]
        refine pair_lt (N9 _ m1).1 rfl (N9 _ m2).1 rfl ?_
        have b1 := hb (gs.getD i (0, 0)) (by rw [List.getD_eq_getElem?_getD, List.getElem?_eq_getElem hi]; exact List.getElem_mem _)
        have b2 := hb (gs.getD j (0, 0)) (by rw [List.getD_eq_getElem?_getD, List.getElem?_eq_getElem hj]; exact List.getElem_mem _)
        unfold pkey at hC
        rwa [show decide ((gs.getD i (0, 0)).1 < (gs.getD j (0, 0)).1 ∨ ((gs.getD i (0, 0)).1 = (gs.getD j (0, 0)).1 ∧ (gs.getD i (0, 0)).2 < (gs.getD j (0, 0)).2)) = decide (1000 * (gs.getD i (0, 0)).1 + (gs.getD i (0, 0)).2 < 1000 * (gs.getD j (0, 0)).1 + (gs.getD j (0, 0)).2) from decide_eq_decide.mpr (by omega)]
      · rw [hlen] at hp ha
        have hpm : ∀ i ∈ p.toList, i < gs.length := fun i hi => List.mem_range.mp (hp.perm.mem_iff.mp hi)
        refine KasFin.intro (news := (D, seqObj "list" #[] e1) :: news) (g := fun o => (D, o) :: news) F' N' ?_ fun h9 c F9 N9' => ?_
        · exact UpdF.head fun q hq => Nat.ne_of_lt (hlt q hq)
        · refine h D h9 c _ (p.toList.map fun i => gs.getD i (0, 0)) F9 N9' hlt (datAll_pick hd p.toList hpm) ?_ ?_
          · have := hp.perm.map fun i => gs.getD i (0, 0)
            rwa [range_getD] at this
          · rw [List.pairwise_map, List.pairwise_iff_getElem]
            intro i j hi hj hij
            have hj' : j < gs.length := by rw [Array.length_toList, hp.size] at hj; exact hj
            have := ha i j hij hj'
            have hi2 : i < p.size := by simpa using hi
            have hj2 : j < p.size := by simpa using hj
            have e1 : p.getD i 0 = p.toList[i] := by simp [Array.getD, hi2]
            have e2 : p.getD j 0 = p.toList[j] := by simp [Array.getD, hj2]
            rw [e1, e2] at this
            exact this
theorem pairs_same {a b : List (Int × Int)} (hp : a.Perm b) (ha : a.Pairwise (fun x y => pkey x < pkey y)) (hb : b.Pairwise (fun x y => pkey x < pkey y)) : a = b := by
  induction a generalizing b with
  | nil => exact hp.nil_eq
  | cons x r ih =>
    cases b with
    | nil => exact absurd hp.length_eq (by simp)
    | cons y t =>
      have hx : x ∈ y :: t := hp.mem_iff.mp (.head _)
      have hy : y ∈ x :: r := hp.mem_iff.mpr (.head _)
      have e : x = y := by
        rcases List.mem_cons.mp hx with h | h
        · exact h
        · rcases List.mem_cons.mp hy with h' | h'
          · exact h'.symm
          · have a1 := (List.pairwise_cons.mp ha).1 y h'
            have a2 := (List.pairwise_cons.mp hb).1 x h
            omega
      subst e
      rw [ih (List.Perm.cons_inv hp) (List.pairwise_cons.mp ha).2 (List.pairwise_cons.mp hb).2]
end
/-- a contract entry for a def whose parameters are captured -/
theorem call_PC {prog : Program} {w : World} {dp un : Nat} {gd : Option (List Code)} {outer : List Env} {s : Shared} {base : Heap} {K : Frag} {R : Result → Shared → Prop}
    {name qual : Str} {params : Arguments} {body : List Stmt} {scope : Scope} {dV kV doc pm cdv ct oc : Value} {an od : Option Addr} {osl : Array (Option Value)} {f : Addr} {args : Args} {binds : List (Str × Value)}
    {E : List (Addr × Obj)} {p : Program} {loose : List Str} {mean : ExcName → Option Value} {mg mb : Str → Option Value}
    (B : Below (arO dp un gd outer) base outer (hideAll s.heap (addrs E))) (NE : ∀ q ∈ E, s.heap.get? q.1 = some q.2) (X : K.In (hideAll s.heap (addrs E))) (T : Top p loose mean mg mb (hideAll s.heap (addrs E)))
    (ho : K.lookup f = some ⟨oc, od, .func (fnOf name qual params body scope dV kV doc pm an cdv ct), osl⟩) (hcd : codeIn K cdv qual = true) (hroom : dp < recursionLimit)
    (hbind : BindsTo s (fnOf name qual params body scope dV kV doc pm an cdv ct) args binds) (hkind : (binds.all fun y => scope.names.lookup y.1 == some .local || scope.names.lookup y.1 == some .cell) = true)
    (hnd : ((cellsFrom 0 scope.names []).map (·.1)).Nodup)
    (h : ∀ g L' h₁ tk cells, Fr g L' h₁ (bindL (envOfC qual scope L' f cdv).kindOf binds fun _ => none) → News g L' h₁ (cells ++ E) →
      CellsAre (bindC (envOfC qual scope L' f cdv).kindOf binds fun _ => none) (cellsFrom (L' + 1) scope.names []) cells → Below (arO dp un gd outer) base outer g → K.In g → Top p loose mean mg mb g → g = hideAll s.heap (addrs E) → (∀ p ∈ E, p.1 < L') →
      wpAny (model prog w) ((arO dp un gd outer).deeper (envOfC qual scope L' f cdv)) (execs body (envOfC qual scope L' f cdv))
        (fun fl s' => R (.ok (.ret (match fl with | .ret v => v | _ => .none))) s')
        (fun e s' => wpAny (model prog w) ((arO dp un gd outer).deeper (envOfC qual scope L' f cdv)) (leaving (envOfC qual scope L' f cdv) e) (fun _ s'' => R (.error e) s'') (fun e' s'' => R (.error e') s'') s')
        { s with heap := h₁, toks := tk })
    (hco : scope.isCoroutine = false) (hgen : scope.isGenerator = false) (hk : scope.kind = .function) : codeAny (model prog w) (arO dp un gd outer) (.call (.ref f) args) R s := by
  have st : (hideAll s.heap (addrs E)).StaysIn s.heap := fun b o e => of_hideAll _ e
  refine codeAny_call_function (body := body) hroom (st _ _ (X _ _ ho)) rfl hco hgen rfl (codeRec_of (X.keeps st) hcd) (hbind _ _ _ _ ?_)
  refine wpAny_newFunctionEnv_cells hk (kindsX hkind _) fun env' he s' x => ?_
  subst he
  refine ⟨(T.nolimit.keeps st).keeps x.toInCall.keep, codeAny_func ?_⟩
  obtain ⟨h₁, tk, rfl, _⟩ := x.done
  have hk₁ := x.toInCall.keep
  obtain ⟨cells, NC, Y⟩ := Cl.news (h₀ := s.heap) (Nat.le_refl _) fun n c hm => ⟨x.cell n c (lookup_of_mem_nodup (cellsFrom_names scope.names 0 (s.heap.objs.size + 1) [] [] rfl ▸ hnd) hm), x.above n c hm⟩
  refine h _ s.heap.objs.size h₁ tk cells ⟨x.toInCall.ns, fun b o e => hk₁ b o (of_hideAll _ e), Nat.le_of_eq (hideAll_size _ _)⟩ (fun p hp => ?_) Y B X T rfl (fun p hp => Heap.lt_size (NE p hp))
  rcases List.mem_append.mp hp with hp | hp
  · refine ⟨(NC p hp).1, (NC p hp).2.1, ?_⟩
    cases q : (hideAll s.heap (addrs E)).get? p.1 with
    | none => rfl
    | some o => have := of_hideAll _ q; rw [(NC p hp).2.2] at this; cases this
  · exact ⟨hk₁ _ _ (NE p hp), Nat.ne_of_lt (Heap.lt_size (NE p hp)), hideAll_none _ (List.mem_map_of_mem hp)⟩
theorem ints_snoc {us : List Value} {ns : List Int} (h : IntsAre us ns) {n : Int} {t : Tok} : IntsAre (us ++ [.int n t]) (ns ++ [n]) := by
  induction h with
  | nil => exact .cons n t .nil
  | cons a u _ ih => exact .cons a u ih
theorem ints_at {us : List Value} {ns : List Int} (h : IntsAre us ns) : ∀ {i : Nat} {v : Value}, us[i]? = some v → ∃ t, v = .int (ns.getD i 0) t ∧ i < ns.length := by
  induction h with
  | nil => intro i v e; simp at e
  | @cons n t vs ms h' ih =>
    intro i v e
    cases i with
    | zero => simp at e; exact ⟨t, by simp [e.symm], by simp⟩
    | succ i =>
      obtain ⟨t', h1, h2⟩ := ih (i := i) (by simpa using e)
      exact ⟨t', by simpa using h1, by simp; omega⟩
section
open PyProof.Rows.LCg
variable {prog : Program} {w : World} {A : Around} {s : Shared} {h₀ : Heap} {L : Addr} {m : Str → Option Value} {env : Env}
/-- a comprehension by induction; the ledger may change from turn to turn -/
theorem comp_indN {elt : Expr} {x : Str} {scope : Scope} {cl : List (Str × Addr)} {S : List (Addr × Obj) → Prop} {P : Nat → Value → Prop} {Fin : List Value → List (Addr × Obj) → Prop} {n : Nat} {news : List (Addr × Obj)} (J : Nat → List Value → List (Addr × Obj) → Prop)
    (h0 : J 0 [] news)
    (step : ∀ i ys nw, i < n → J i ys nw → ∀ v I oI C oC D m₂ h tk (E' : Value → Shared → Prop), P i v → NsObj oC m₂ → m₂ x = some v → Fr h₀ L h m → News h₀ L h ((I, oI) :: (C, oC) :: (D, lst ys) :: nw) → Off3 I C D nw → ((@Ne Nat I C) ∧ (@Ne Nat I D) ∧ (@Ne Nat C D)) →
      wpAny (model prog w) A (eval elt (compEnvC scope cl C env)) (CompEnd h₀ L m { s with heap := h, toks := tk } I oI C oC D (lst ys) S (fun y news' => J (i + 1) (ys ++ [y]) news')) E' { s with heap := h, toks := tk })
    (fin : ∀ ys nw, J n ys nw → Fin ys nw) : CompRest prog w A h₀ L m env elt x scope cl s S P Fin n 0 [] news := by
  have gen : ∀ k i ys nw, i + k = n → J i ys nw → CompRest prog w A h₀ L m env elt x scope cl s S P Fin k i ys nw := by
    intro k
    induction k with
    | zero =>
      intro i ys nw e hj
      have : i = n := by omega
      subst this
      exact CompRest.zero (fin ys nw hj)
    | succ k ih =>
      intro i ys nw e hj
      refine CompRest.succ fun v I oI C oC D m₂ h tk E' a1 a2 a3 a4 a5 a6 a7 => ?_
      refine wpAny_mono (step i ys nw (by omega) hj v I oI C oC D m₂ h tk E' a1 a2 a3 a4 a5 a6 a7) (fun y s₂ c => ?_) fun _ _ z => z
      obtain ⟨h', tk', nw', e1, F', N', o', hS, hj'⟩ := c
      exact ⟨h', tk', _, e1, F', N', o', hS, ih _ _ _ (by omega) hj'⟩
  exact gen n 0 [] news (by omega) h0
end
section
open PyProof.Rows.LCg PyProof.Rows.LCp
variable {prog : Program} {w : World} {A : Around} {s : Shared} {h₀ : Heap} {L : Addr} {m : Str → Option Value} {env : Env}
/-- a comprehension over pairs by induction -/
theorem comp_indP {elt : Expr} {x x₂ : Str} {scope : Scope} {cl : List (Str × Addr)} {S : List (Addr × Obj) → Prop} {P : Nat → Value → Prop} {Fin : List Value → List (Addr × Obj) → Prop} {n : Nat} {news : List (Addr × Obj)} (J : Nat → List Value → List (Addr × Obj) → Prop)
    (h0 : J 0 [] news)
    (step : ∀ i ys nw, i < n → J i ys nw → ∀ v, P i v → ∃ (t : Addr) (ot : Obj) (v₁ v₂ : Value) (nt : Nat), v = .ref t ∧ (t, ot) ∈ nw ∧ ot.cls = .type "tuple" ∧ ot.data = .seq #[v₁, v₂] nt ∧
      ∀ I oI C oC D m₂ h tk (E' : Value → Shared → Prop), NsObj oC m₂ → m₂ x = some v₁ → m₂ x₂ = some v₂ → Fr h₀ L h m → News h₀ L h ((I, oI) :: (C, oC) :: (D, lst ys) :: nw) → Off3 I C D nw → ((@Ne Nat I C) ∧ (@Ne Nat I D) ∧ (@Ne Nat C D)) →
      wpAny (model prog w) A (eval elt (compEnvC scope cl C env)) (CompEnd h₀ L m { s with heap := h, toks := tk } I oI C oC D (lst ys) S (fun y news' => J (i + 1) (ys ++ [y]) news')) E' { s with heap := h, toks := tk })
    (fin : ∀ ys nw, J n ys nw → Fin ys nw) : CompRestP prog w A h₀ L m env elt x x₂ scope cl s S P Fin n 0 [] news := by
  have gen : ∀ k i ys nw, i + k = n → J i ys nw → CompRestP prog w A h₀ L m env elt x x₂ scope cl s S P Fin k i ys nw := by
    intro k
    induction k with
    | zero =>
      intro i ys nw e hj
      have : i = n := by omega
      subst this
      exact CompRestP.zero (fin ys nw hj)
    | succ k ih =>
      intro i ys nw e hj
      refine CompRestP.succ fun v hv => ?_
      obtain ⟨t, ot, v₁, v₂, nt, e0, hm, hc, hd, st⟩ := step i ys nw (by omega) hj v hv
      refine ⟨t, ot, v₁, v₂, nt, e0, hm, hc, hd, fun I oI C oC D m₂ h tk E' a2 a3 a3' a4 a5 a6 a7 => ?_⟩
      refine wpAny_mono (st I oI C oC D m₂ h tk E' a2 a3 a3' a4 a5 a6 a7) (fun y s₂ c => ?_) fun _ _ z => z
      obtain ⟨h', tk', nw', e1, F', N', o', hS, hj'⟩ := c
      exact ⟨h', tk', _, e1, F', N', o', hS, ih _ _ _ (by omega) hj'⟩
  exact gen n 0 [] news (by omega) h0
end
section
variable {prog : Program} {w : World} {A : Around} {E : Value → Shared → Prop} {s : Shared} {h₀ : Heap} {L : Addr} {m : Str → Option Value} {news : List (Addr × Obj)}
theorem mul3_list {l : Addr} {vs : List Value} {k : Nat} {u : Tok} {Q : Value → Shared → Prop} (F : Fr h₀ L s.heap m) (N : News h₀ L s.heap news) (hm : (l, listOf vs.toArray k) ∈ news) (hz : vs.length ≤ 1000)
    (h : ∀ D h', Fr h₀ L h' m → News h₀ L h' ((D, listOf (vs ++ (vs ++ vs)).toArray 0) :: news) → (∀ q ∈ news, q.1 < D) → Q (.ref D) { s with heap := h' }) :
    wpAny (model prog w) A (binaryOp .Mult (.ref l) (.int 3 u)) Q E s := by
  refine mul_list F N (items := vs.toArray) (k := k) (N _ hm).1 (by decide) (by decide) (by rw [List.size_toArray]; show vs.length * 3 ≤ 2 ^ 24; omega) fun h' F' N' => ?_
  refine h _ h' F' ?_ fun q hq => Heap.lt_size (N q hq).1
  have e : (List.foldl (fun x1 x2 => x1 ++ x2) #[] (List.replicate (if vs.toArray.isEmpty = true then 0 else Int.toNat 3) vs.toArray)) = (vs ++ (vs ++ vs)).toArray := by
    cases vs with
    | nil => rfl
    | cons a r =>
      rw [if_neg (by simp)]
      show List.foldl (fun x1 x2 => x1 ++ x2) #[] [(a :: r).toArray, (a :: r).toArray, (a :: r).toArray] = _
      simp
  rw [e] at N'
  exact N'
theorem ints_append : ∀ {us vs : List Value} {ns ms : List Int}, IntsAre us ns → IntsAre vs ms → IntsAre (us ++ vs) (ns ++ ms)
  | _, _, _, _, .nil, h => h
  | _, _, _, _, .cons n t r, h => .cons n t (ints_append r h)
end
def lawStmt : Option Stmt := PySem.Challenge.rw_fc0035_01.row.prog.main.body.getLast?
def lawBody : List Stmt := match lawStmt with | some (.FunctionDef _ _ b _ _ _ _ _ _ _) => b | _ => []
def lawScope : Scope := match lawStmt with | some (.FunctionDef _ _ _ _ _ _ sc _ _ _) => sc | _ => default
def loopStmt : Option Stmt := lawBody[5]?
def loopBody : List Stmt := match loopStmt with | some (.For _ _ b _ _) => b | _ => []
set_option maxHeartbeats 16000000 in
theorem bind857 (w : World) {s : Shared} {oc : Value} {od : Option Addr} {osl : Array (Option Value)} {fd : FuncData} (X : (tjCSoBpQsPZBkyzz.heap_39 w.params).In s.heap) (a b : Value) (e : (tjCSoBpQsPZBkyzz.heap_39 w.params).lookup 857 = some ⟨oc, od, .func fd, osl⟩) :
    BindsTo s fd ⟨[a, b], []⟩ [(Str.ofString "self", a), (Str.ofString "key", b), (Str.ofString "cache_getitem", .ref 728)] := by
  refine' bind_via ?h1 e ?h2
  case h1 => k_is
  case h2 => k_dflt (exact binds_K X rfl (by k_is) rfl rfl rfl)
set_option maxHeartbeats 16000000 in
theorem bind865 (w : World) {s : Shared} {oc : Value} {od : Option Addr} {osl : Array (Option Value)} {fd : FuncData} (X : (tjCSoBpQsPZBkyzz.heap_39 w.params).In s.heap) (a b c : Value) (e : (tjCSoBpQsPZBkyzz.heap_39 w.params).lookup 865 = some ⟨oc, od, .func fd, osl⟩) :
    BindsTo s fd ⟨[a, b, c], []⟩ [(Str.ofString "self", a), (Str.ofString "key", b), (Str.ofString "value", c), (Str.ofString "cache_setitem", .ref 735)] := by
  refine' bind_via ?h1 e ?h2
  case h1 => k_is
  case h2 => k_dflt (exact binds_K X rfl (by k_is) rfl rfl rfl)
set_option maxHeartbeats 16000000 in
theorem bind873 (w : World) {s : Shared} {oc : Value} {od : Option Addr} {osl : Array (Option Value)} {fd : FuncData} (X : (tjCSoBpQsPZBkyzz.heap_39 w.params).In s.heap) (a b : Value) (e : (tjCSoBpQsPZBkyzz.heap_39 w.params).lookup 873 = some ⟨oc, od, .func fd, osl⟩) :
    BindsTo s fd ⟨[a, b], []⟩ [(Str.ofString "self", a), (Str.ofString "key", b), (Str.ofString "cache_delitem", .ref 742)] := by
  refine' bind_via ?h1 e ?h2
  case h1 => k_is
  case h2 => k_dflt (exact binds_K X rfl (by k_is) rfl rfl rfl)
set_option maxHeartbeats 16000000 in
theorem bind930 (w : World) {s : Shared} {oc : Value} {od : Option Addr} {osl : Array (Option Value)} {fd : FuncData} (X : (tjCSoBpQsPZBkyzz.heap_39 w.params).In s.heap) (a b c : Value) (e : (tjCSoBpQsPZBkyzz.heap_39 w.params).lookup 930 = some ⟨oc, od, .func fd, osl⟩) :
    BindsTo s fd ⟨[a, b, c], []⟩ [(Str.ofString "self", a), (Str.ofString "key", b), (Str.ofString "value", c), (Str.ofString "cache_setitem", .ref 735)] := by
  refine' bind_via ?h1 e ?h2
  case h1 => k_is
  case h2 => k_dflt (exact binds_K X rfl (by k_is) rfl rfl rfl)
set_option maxHeartbeats 16000000 in
theorem bind938 (w : World) {s : Shared} {oc : Value} {od : Option Addr} {osl : Array (Option Value)} {fd : FuncData} (X : (tjCSoBpQsPZBkyzz.heap_39 w.params).In s.heap) (a b : Value) (e : (tjCSoBpQsPZBkyzz.heap_39 w.params).lookup 938 = some ⟨oc, od, .func fd, osl⟩) :
    BindsTo s fd ⟨[a, b], []⟩ [(Str.ofString "self", a), (Str.ofString "key", b), (Str.ofString "cache_delitem", .ref 742)] := by
  refine' bind_via ?h1 e ?h2
  case h1 => k_is
  case h2 => k_dflt (exact binds_K X rfl (by k_is) rfl rfl rfl)
set_option maxHeartbeats 16000000 in
theorem bind794 (w : World) {s : Shared} {oc : Value} {od : Option Addr} {osl : Array (Option Value)} {fd : FuncData} (X : (tjCSoBpQsPZBkyzz.heap_39 w.params).In s.heap) (a b c : Value) (e : (tjCSoBpQsPZBkyzz.heap_39 w.params).lookup 794 = some ⟨oc, od, .func fd, osl⟩) :
    BindsTo s fd ⟨[a, b, c], []⟩ [(Str.ofString "self", a), (Str.ofString "key", b), (Str.ofString "default", c)] := by
  refine' bind_via ?h1 e ?h2
  case h1 => k_is
  case h2 => k_dflt (exact binds_K X rfl (by k_is) rfl rfl rfl)
set_option maxHeartbeats 16000000 in
theorem bind849 (w : World) {s : Shared} {oc : Value} {od : Option Addr} {osl : Array (Option Value)} {fd : FuncData} (X : (tjCSoBpQsPZBkyzz.heap_39 w.params).In s.heap) (a b : Value) (e : (tjCSoBpQsPZBkyzz.heap_39 w.params).lookup 849 = some ⟨oc, od, .func fd, osl⟩) :
    BindsTo s fd ⟨[a, b], []⟩ [(Str.ofString "self", a), (Str.ofString "maxsize", b), (Str.ofString "getsizeof", .none)] := by
  refine' bind_via ?h1 e ?h2
  case h1 => k_is
  case h2 => k_dflt (exact binds_K X rfl (by k_is) rfl rfl rfl)
set_option maxHeartbeats 16000000 in
theorem bind914 (w : World) {s : Shared} {oc : Value} {od : Option Addr} {osl : Array (Option Value)} {fd : FuncData} (X : (tjCSoBpQsPZBkyzz.heap_39 w.params).In s.heap) (a b c : Value) (e : (tjCSoBpQsPZBkyzz.heap_39 w.params).lookup 914 = some ⟨oc, od, .func fd, osl⟩) :
    BindsTo s fd ⟨[a, b, c], []⟩ [(Str.ofString "self", a), (Str.ofString "maxsize", b), (Str.ofString "choice", c), (Str.ofString "getsizeof", .none)] := by
  refine' bind_via ?h1 e ?h2
  case h1 => k_is
  case h2 => k_dflt (exact binds_K X rfl (by k_is) rfl rfl rfl)
set_option maxHeartbeats 16000000 in
theorem bind714 (w : World) {s : Shared} {oc : Value} {od : Option Addr} {osl : Array (Option Value)} {fd : FuncData} (X : (tjCSoBpQsPZBkyzz.heap_39 w.params).In s.heap) (a b c : Value) (e : (tjCSoBpQsPZBkyzz.heap_39 w.params).lookup 714 = some ⟨oc, od, .func fd, osl⟩) :
    BindsTo s fd ⟨[a, b, c], []⟩ [(Str.ofString "self", a), (Str.ofString "maxsize", b), (Str.ofString "getsizeof", c)] := by
  refine' bind_via ?h1 e ?h2
  case h1 => k_is
  case h2 => k_dflt (exact binds_K X rfl (by k_is) rfl rfl rfl)
section
local macro_rules | `(tactic| k_room) => `(tactic| ((try simp only [depth_under_make, depth_under_kw, depth_in1, depth_deeper, depth_caller]); (try dsimp only [arO]); omega))
local macro_rules | `(tactic| k_units) => `(tactic| ktr_units)
local macro_rules | `(tactic| walk_at "getAttr ref") => `(tactic| (k_here; k_dflt (refine' get_sm ?k1 ?k2 ?k3 ?k4 (findObj_nondata ?c1 ?c2 ?c3 ?c4 ?c5 ?c6) ?k5 ?k6 ?_; (case k1 => k_asm); (case k2 => k_asm); (case k3 => (refine' InstAt.of_news ?N9 ?h91 ?h92; (case N9 => k_asm); (case h91 => k_memK); (case h92 => k_memK))); (case k4 => k_is); (case c1 => k_is); (case c2 => k_is); (case c3 => k_is); (case c4 => k_is); (case c5 => k_get); (case c6 => decide +kernel); (case k5 => k_is); (case k6 => k_handed); k_whole)))
local macro_rules | `(tactic| walk_at "compareOp In int ref") => `(tactic| (k_here; k_dflt (first
  | refine kda_in (knd := PySem.intKind _ _) (by k_asm) (by k_mem) (by k_asm) (by k_asm) (intKind_is _ _ _ _) true (by assumption) ?_
  | refine kda_in (knd := PySem.intKind _ _) (by k_asm) (by k_mem) (by k_asm) (by k_asm) (intKind_is _ _ _ _) false (by assumption) ?_)))
local macro_rules | `(tactic| walk_at "compareOp NotIn int ref") => `(tactic| (k_here; k_dflt (first
  | refine kdg_notin (knd := PySem.intKind _ _) (by k_asm) (by k_mem) (by k_asm) (by k_asm) (intKind_is _ _ _ _) true (by assumption) ?_
  | refine kdg_notin (knd := PySem.intKind _ _) (by k_asm) (by k_mem) (by k_asm) (by k_asm) (intKind_is _ _ _ _) false (by assumption) ?_); (try dsimp only [Bool.not_true, Bool.not_false])))
local macro_rules | `(tactic| walk_at "subscriptTail") => `(tactic| (k_here; (with_reducible show wpAny _ _ (subscriptTail _ _ (Value.ref _) (Value.int _ _)) _ _ _); k_dflt (refine kdt_tail (knd := PySem.intKind _ _) (by k_asm) (by k_mem) (by assumption) ?_)))
local macro_rules | `(tactic| walk_at "getItem ref int") => `(tactic| (k_here; k_dflt (refine kdt_getItem (knd := PySem.intKind _ _) (by k_asm) (by k_mem) (by assumption) (intKind_is _ _ _ _) (by assumption) ?_)))
local macro_rules | `(tactic| walk_at "setItem ref int") => `(tactic| (k_here; k_dflt (refine' kda_set (knd := PySem.intKind _ _) ?F ?N ?U ?d (intKind_is _ _ _ _) ?z ?_; (case F => k_asm); (case N => k_asm); (case U => k_updF); (case d => assumption); (case z => (first | exact line100 (by assumption) | exact line100w (by assumption) | exact line100s (by assumption)))); intro h' o' F' N' hd'; (try dsimp only at N')))
local macro_rules | `(tactic| walk_at "delItem ref int") => `(tactic| (k_here; k_dflt (refine' dk_del (knd := PySem.intKind _ _) ?F ?N ?U ?d (intKind_is _ _ _ _) ?v ?z ?_; (case F => k_asm); (case N => k_asm); (case U => k_updF); (case d => assumption); (case v => assumption); (case z => (first | exact line100 (by assumption) | exact line100w (by assumption) | exact line100s (by assumption)))); intro h' o' F' N' hd'; (try dsimp only at N')))
local macro_rules | `(tactic| walk_at "call builtin:dict.pop") => `(tactic| (k_here; (with_reducible show wpAny _ _ (call (Value.builtin "dict.pop") [Value.ref _, Value.int _ _]) _ _ _); k_dflt (refine' dk_pop (knd := PySem.intKind _ _) ?F ?N ?U ?d (intKind_is _ _ _ _) rfl ?v ?z ?_; (case F => k_asm); (case N => k_asm); (case U => k_updF); (case d => assumption); (case v => assumption); (case z => (first | exact line100 (by assumption) | exact line100w (by assumption) | exact line100s (by assumption)))); intro h' o' F' N' hd'; (try dsimp only at N')))
local macro_rules | `(tactic| walk_at "subscriptTail Attribute") => `(tactic| (k_here; (with_reducible show wpAny _ _ (subscriptTail _ _ (Value.ref _) (Value.int _ _)) _ _ _); k_dflt (refine kdt_tail (knd := PySem.intKind _ _) (by k_asm) (by k_mem) (by assumption) ?_)))
local macro_rules | `(tactic| k_enter) => `(tactic| (refine' code_def ?k1 ?k2 ?k3 ?k4 ?k5 ?kA ?kF ?kK ?k6 ?k7 ?k8 ?k9 ?kB ?_ ?c2 ?c3 ?c4 ?c5; (case kA => exact rfl); (case kF => exact rfl); (case kK => first | exact rfl | assumption); (case k1 => k_asm); (case k2 => k_asm); (case k3 => k_asm); (case k4 => k_asm); (case k5 => k_asm); (case k6 => k_is); (case k7 => k_is); (case k8 => k_room); (case k9 => exact BindsTo.of_eq rfl); (case c5 => decide); (case kB => exact locs rfl); (case c2 => exact rfl); (case c3 => exact rfl); (case c4 => exact rfl); k_whole; intro g' L' h' FG' F' N' B' X' T'; (try dsimp only); (try k_lift B'); (try k_fold)))
local macro_rules | `(tactic| walk_at "call ref") => `(tactic| (k_here; k_dflt (refine wpAny_call ?_; k_enter)))
local macro_rules | `(tactic| walk_at "call ref") => `(tactic| (k_here; (with_reducible show wpAny _ _ (call (Value.ref 857) _) _ _ _); k_dflt (refine wpAny_call ?_; (refine' code_def ?k1 ?k2 ?k3 ?k4 ?k5 ?kA ?kF ?kK ?k6 ?k7 ?k8 ?k9 ?kB ?_ ?c2 ?c3 ?c4 ?c5; (case kA => exact rfl); (case kF => exact rfl); (case kK => first | exact rfl | assumption); (case k1 => k_asm); (case k2 => k_asm); (case k3 => k_asm); (case k4 => k_asm); (case k5 => k_asm); (case k6 => k_is); (case k7 => k_is); (case k8 => k_room); (case k9 => exact bind857 _ (by k_in) _ _ (by k_is)); (case c5 => decide); (case kB => exact locs rfl); (case c2 => exact rfl); (case c3 => exact rfl); (case c4 => exact rfl); k_whole; intro g' L' h' FG' F' N' B' X' T'; (try dsimp only); (try k_lift B'); (try k_fold)))))
local macro_rules | `(tactic| walk_at "call ref") => `(tactic| (k_here; (with_reducible show wpAny _ _ (call (Value.ref 865) _) _ _ _); k_dflt (refine wpAny_call ?_; (refine' code_def ?k1 ?k2 ?k3 ?k4 ?k5 ?kA ?kF ?kK ?k6 ?k7 ?k8 ?k9 ?kB ?_ ?c2 ?c3 ?c4 ?c5; (case kA => exact rfl); (case kF => exact rfl); (case kK => first | exact rfl | assumption); (case k1 => k_asm); (case k2 => k_asm); (case k3 => k_asm); (case k4 => k_asm); (case k5 => k_asm); (case k6 => k_is); (case k7 => k_is); (case k8 => k_room); (case k9 => exact bind865 _ (by k_in) _ _ _ (by k_is)); (case c5 => decide); (case kB => exact locs rfl); (case c2 => exact rfl); (case c3 => exact rfl); (case c4 => exact rfl); k_whole; intro g' L' h' FG' F' N' B' X' T'; (try dsimp only); (try k_lift B'); (try k_fold)))))
local macro_rules | `(tactic| walk_at "call ref") => `(tactic| (k_here; (with_reducible show wpAny _ _ (call (Value.ref 873) _) _ _ _); k_dflt (refine wpAny_call ?_; (refine' code_def ?k1 ?k2 ?k3 ?k4 ?k5 ?kA ?kF ?kK ?k6 ?k7 ?k8 ?k9 ?kB ?_ ?c2 ?c3 ?c4 ?c5; (case kA => exact rfl); (case kF => exact rfl); (case kK => first | exact rfl | assumption); (case k1 => k_asm); (case k2 => k_asm); (case k3 => k_asm); (case k4 => k_asm); (case k5 => k_asm); (case k6 => k_is); (case k7 => k_is); (case k8 => k_room); (case k9 => exact bind873 _ (by k_in) _ _ (by k_is)); (case c5 => decide); (case kB => exact locs rfl); (case c2 => exact rfl); (case c3 => exact rfl); (case c4 => exact rfl); k_whole; intro g' L' h' FG' F' N' B' X' T'; (try dsimp only); (try k_lift B'); (try k_fold)))))
local macro_rules | `(tactic| walk_at "call ref") => `(tactic| (k_here; (with_reducible show wpAny _ _ (call (Value.ref 930) _) _ _ _); k_dflt (refine wpAny_call ?_; (refine' code_def ?k1 ?k2 ?k3 ?k4 ?k5 ?kA ?kF ?kK ?k6 ?k7 ?k8 ?k9 ?kB ?_ ?c2 ?c3 ?c4 ?c5; (case kA => exact rfl); (case kF => exact rfl); (case kK => first | exact rfl | assumption); (case k1 => k_asm); (case k2 => k_asm); (case k3 => k_asm); (case k4 => k_asm); (case k5 => k_asm); (case k6 => k_is); (case k7 => k_is); (case k8 => k_room); (case k9 => exact bind930 _ (by k_in) _ _ _ (by k_is)); (case c5 => decide); (case kB => exact locs rfl); (case c2 => exact rfl); (case c3 => exact rfl); (case c4 => exact rfl); k_whole; intro g' L' h' FG' F' N' B' X' T'; (try dsimp only); (try k_lift B'); (try k_fold)))))
local macro_rules | `(tactic| walk_at "call ref") => `(tactic| (k_here; (with_reducible show wpAny _ _ (call (Value.ref 938) _) _ _ _); k_dflt (refine wpAny_call ?_; (refine' code_def ?k1 ?k2 ?k3 ?k4 ?k5 ?kA ?kF ?kK ?k6 ?k7 ?k8 ?k9 ?kB ?_ ?c2 ?c3 ?c4 ?c5; (case kA => exact rfl); (case kF => exact rfl); (case kK => first | exact rfl | assumption); (case k1 => k_asm); (case k2 => k_asm); (case k3 => k_asm); (case k4 => k_asm); (case k5 => k_asm); (case k6 => k_is); (case k7 => k_is); (case k8 => k_room); (case k9 => exact bind938 _ (by k_in) _ _ (by k_is)); (case c5 => decide); (case kB => exact locs rfl); (case c2 => exact rfl); (case c3 => exact rfl); (case c4 => exact rfl); k_whole; intro g' L' h' FG' F' N' B' X' T'; (try dsimp only); (try k_lift B'); (try k_fold)))))
local macro_rules | `(tactic| walk_at "call ref") => `(tactic| (k_here; (with_reducible show wpAny _ _ (call (Value.ref 714) _) _ _ _); k_dflt (refine wpAny_call ?_; (refine' code_def ?k1 ?k2 ?k3 ?k4 ?k5 ?kA ?kF ?kK ?k6 ?k7 ?k8 ?k9 ?kB ?_ ?c2 ?c3 ?c4 ?c5; (case kA => exact rfl); (case kF => exact rfl); (case kK => first | exact rfl | assumption); (case k1 => k_asm); (case k2 => k_asm); (case k3 => k_asm); (case k4 => k_asm); (case k5 => k_asm); (case k6 => k_is); (case k7 => k_is); (case k8 => k_room); (case k9 => exact bind714 _ (by k_in) _ _ _ (by k_is)); (case c5 => decide); (case kB => exact locs rfl); (case c2 => exact rfl); (case c3 => exact rfl); (case c4 => exact rfl); k_whole; intro g' L' h' FG' F' N' B' X' T'; (try dsimp only); (try k_lift B'); (try k_fold)))))
local macro_rules | `(tactic| walk_at "call ref") => `(tactic| (k_here; (with_reducible show wpAny _ _ (call (Value.ref 897) _) _ _ _); k_dflt (refine' call_cls ?k1 ?k2 ?k3 ?k4 ?k5 ?k6 ?_; (case k1 => k_asm); (case k2 => k_asm); (case k3 => k_asm); (case k4 => k_is); (case k5 => k_is); (case k6 => k_is); k_whole; intro x' d' h' F' N' l1 l2; (try k_lt l1); (try k_lt2 l2); (try k_sweep); (refine' code_def ?k1 ?k2 ?k3 ?k4 ?k5 ?kA ?kF ?kK ?k6 ?k7 ?k8 ?k9 ?kB ?_ ?c2 ?c3 ?c4 ?c5; (case kA => exact rfl); (case kF => exact rfl); (case kK => first | exact rfl | assumption); (case k1 => k_asm); (case k2 => k_asm); (case k3 => k_asm); (case k4 => k_asm); (case k5 => k_asm); (case k6 => k_is); (case k7 => k_is); (case k8 => k_room); (case k9 => exact bind849 _ (by k_in) _ _ (by k_is)); (case c5 => decide); (case kB => exact locs rfl); (case c2 => exact rfl); (case c3 => exact rfl); (case c4 => exact rfl); k_whole; intro g' L' h' FG' F' N' B' X' T'; (try dsimp only); (try k_lift B'); (try k_fold)))))
local macro_rules | `(tactic| walk_at "call ref") => `(tactic| (k_here; (with_reducible show wpAny _ _ (call (Value.ref 955) _) _ _ _); k_dflt (refine' call_cls ?k1 ?k2 ?k3 ?k4 ?k5 ?k6 ?_; (case k1 => k_asm); (case k2 => k_asm); (case k3 => k_asm); (case k4 => k_is); (case k5 => k_is); (case k6 => k_is); k_whole; intro x' d' h' F' N' l1 l2; (try k_lt l1); (try k_lt2 l2); (try k_sweep); (refine' code_def ?k1 ?k2 ?k3 ?k4 ?k5 ?kA ?kF ?kK ?k6 ?k7 ?k8 ?k9 ?kB ?_ ?c2 ?c3 ?c4 ?c5; (case kA => exact rfl); (case kF => exact rfl); (case kK => first | exact rfl | assumption); (case k1 => k_asm); (case k2 => k_asm); (case k3 => k_asm); (case k4 => k_asm); (case k5 => k_asm); (case k6 => k_is); (case k7 => k_is); (case k8 => k_room); (case k9 => exact bind914 _ (by k_in) _ _ _ (by k_is)); (case c5 => decide); (case kB => exact locs rfl); (case c2 => exact rfl); (case c3 => exact rfl); (case c4 => exact rfl); k_whole; intro g' L' h' FG' F' N' B' X' T'; (try dsimp only); (try k_lift B'); (try k_fold)))))
local macro_rules | `(tactic| cell_enter) => `(tactic| (refine' call_F ?k1 ?k2 ?k3 ?k4 ?kD ?k6 ?k7 ?k8 ?k9 ?kB ?_ ?c2 ?c3 ?c4 ?c5; (case k1 => with_reducible assumption); (case k2 => with_reducible assumption); (case k3 => with_reducible assumption); (case k4 => with_reducible assumption); (case kD => with_reducible assumption); (case k6 => k_is); (case k7 => k_is); (case k8 => omega); (case k9 => first | exact bind794 _ (Frag.In.keeps (by with_reducible assumption) (fun _ _ e => of_hideAll _ e)) _ _ _ (by k_is) | exact BindsTo.of_eq rfl); (case c5 => decide); (case kB => exact locs rfl); (case c2 => exact rfl); (case c3 => exact rfl); (case c4 => exact rfl); k_whole; intro g' L' h' F' N' B' X' T' D' TT'; (try dsimp only); (try k_fold)))
local macro_rules | `(tactic| walk_at "WhlIf") => `(tactic| first | (refine WhlIf.no (decide_eq_false (by omega)) ?_) | (refine WhlIf.yes (decide_eq_true (by omega)) ?_))
local macro_rules | `(tactic| walk_at "call builtin:dict.pop") => `(tactic| (k_here; (with_reducible show wpAny _ _ (call (Value.builtin "dict.pop") [Value.ref _, Value.int _ _]) _ _ _); k_dflt (refine' dk_pop_missing (knd := PySem.intKind _ _) rfl ?N ?M ?d ?lo (intKind_is _ _ _ _) rfl ?v ?_; (case N => k_asm); (case M => k_mem); (case d => assumption); (case lo => assumption); (case v => assumption)); intro h' e' x'))
local macro_rules | `(tactic| walk_at "getAttr ref") => `(tactic| (k_here; k_dflt (refine' get_cls ?k1 ?k2 ?k3 ?k4 ?k5 ?k6 ?k7 ?k8 ?k9 ?k10 ?_; (case k1 => k_asm); (case k2 => k_asm); (case k3 => (refine' InstAt.of_news ?N9 ?h91 ?h92; (case N9 => k_asm); (case h91 => k_memK); (case h92 => k_memK))); (case k4 => k_is); (case k5 => k_is); (case k6 => k_is); (case k7 => k_is); (case k8 => k_handed); (case k9 => decide +kernel); (case k10 => k_get); k_whole)))
local macro_rules | `(tactic| walk_at "getAttr ref") => `(tactic| (k_here; k_dflt (refine' get_own ?k1 ?k2 ?k3 ?k4 ?k5 ?k6 ?k7 ?k8 ?k9 ?_; (case k1 => k_asm); (case k2 => k_asm); (case k3 => (refine' InstAt.of_news ?N9 ?h91 ?h92; (case N9 => k_asm); (case h91 => k_memK); (case h92 => k_memK))); (case k4 => k_is); (case k5 => k_is); (case k6 => k_is); (case k7 => k_is); (case k8 => k_get); (case k9 => k_handed); k_whole)))
local macro_rules | `(tactic| walk_at "getAttr ref") => `(tactic| (k_here; (with_reducible show wpAny _ _ (getAttr (Value.ref 830) _ _) _ _ _); k_dflt (refine' cls_val ?k1 ?k2 ?k3 ?k4 ?k5 ?k6 ?_; (case k1 => k_asm); (case k2 => k_asm); (case k3 => k_is); (case k4 => k_is); (case k5 => k_is); (case k6 => k_handed); k_whole)))
local macro_rules | `(tactic| walk_at "delItem ref int") => `(tactic| (k_here; (with_reducible show wpAny _ _ (delItem (Value.ref _) _) _ _ _); k_dflt (refine' inst_delItem ?F ?X ?I ?hQ ?hS ?hF ?_; (case I => (refine' InstAt.of_news ?N9 ?h91 ?h92; (case N9 => k_asm); (case h91 => k_memK); (case h92 => k_memK))); (case F => k_asm); (case X => k_asm); (case hS => k_is); (case hF => k_is); (case hQ => k_is); k_whole)))
local macro_rules | `(tactic| walk_at "setItem ref") => `(tactic| (k_here; (with_reducible show wpAny _ _ (setItem (Value.ref _) _ _) _ _ _); k_dflt (refine' ksp_setItem ?F ?X ?I ?hQ ?hS ?hF ?_; (case F => k_asm); (case X => k_asm); (case I => (refine' InstAt.of_news ?N9 ?h91 ?h92; (case N9 => k_asm); (case h91 => k_memK); (case h92 => k_memK))); (case hS => k_is); (case hF => k_is); (case hQ => k_is); k_whole)))
local macro_rules | `(tactic| walk_at "getMethod ref") => `(tactic| (k_here; k_dflt (refine' method_inst ?k1 ?k2 ?k3 ?k4 ?k5 ?k6 ?k7 ?_; (case k3 => (refine' InstAt.of_news ?N9 ?h91 ?h92; (case N9 => k_asm); (case h91 => k_memK); (case h92 => k_memK))); (case k1 => k_asm); (case k2 => k_asm); (case k4 => k_is); (case k5 => k_is); (case k6 => k_is); (case k7 => k_get); k_whole)))
local macro_rules | `(tactic| walk_at "compareOp In") => `(tactic| (k_here; (with_reducible show wpAny _ _ (compareOp CmpOp.In _ (Value.ref _)) _ _ _); k_dflt (refine' in_K ?k1 ?k2 ?k3 ?k4 ?k5 ?_; (case k3 => (refine' InstAt.of_news ?N9 ?h91 ?h92; (case N9 => k_asm); (case h91 => k_memK); (case h92 => k_memK))); (case k1 => k_asm); (case k2 => k_asm); (case k4 => k_is); (case k5 => k_is); k_whole)))
local macro_rules | `(tactic| walk_at "last exec While") => `(tactic| (k_here; k_dflt (refine whl_start 2 ?_)))
local macro_rules | `(tactic| walk_at "exec While") => `(tactic| (k_here; k_dflt (refine whl_start 2 ?_)))
local macro_rules | `(tactic| k_in) => `(tactic| first | with_reducible assumption | exact Frag.In.keeps (by with_reducible assumption) (Fr.keep (by with_reducible assumption)))
local macro_rules | `(tactic| walk_at "callWith ref") => `(tactic| (k_here; (with_reducible show wpAny _ _ (callWith _ (Value.ref _) _ (backTo _ (starEach (_ :: _) _)) []) _ _ _); k_dflt (refine' callWith_K ?k1 ?k2 ?_; (case k1 => with_reducible assumption); (case k2 => k_is); k_whole)))
local macro_rules | `(tactic| walk_at "callWith ref") => `(tactic| (k_here; (with_reducible show wpAny _ _ (callWith _ (Value.ref _) _ (backTo _ (starEach [] _)) []) _ _ _); k_dflt (refine' callWith_K0 ?k1 ?k2 ?_; (case k1 => k_in); (case k2 => k_is); k_whole)))
local macro_rules | `(tactic| walk_at "getMethod ref") => `(tactic| (k_here; (with_reducible show wpAny _ _ (getMethod (Value.ref 830) _ _) _ _ _); k_dflt (refine' method_of_cls ?k1 ?k2 ?k3 ?_; (case k1 => k_asm); (case k2 => k_asm); (case k3 => k_is); k_whole)))
local macro_rules | `(tactic| walk_at "setItem ref int") => `(tactic| (k_here; (with_reducible show wpAny _ _ (setItem (Value.ref _) _ _) _ _ _); k_dflt (refine' ksp_setItem ?F ?X ?I ?hQ ?hS ?hF ?_; (case F => k_asm); (case X => k_asm); (case I => (refine' InstAt.of_news ?N9 ?h91 ?h92; (case N9 => k_asm); (case h91 => k_memK); (case h92 => k_memK))); (case hS => k_is); (case hF => k_is); (case hQ => k_is); k_whole)))
local macro_rules | `(tactic| cell_call) => `(tactic| (refine' call_P ?k1 ?k2 ?k3 ?k4 ?k6 ?k7 ?k8 ?k9 ?kB ?_ ?c2 ?c3 ?c4 ?c5; (case k1 => with_reducible assumption); (case k2 => with_reducible assumption); (case k3 => with_reducible assumption); (case k4 => with_reducible assumption); (case k6 => k_is); (case k7 => k_is); (case k8 => omega); (case k9 => first | exact bind794 _ (Frag.In.keeps (by with_reducible assumption) (fun _ _ e => of_hideAll _ e)) _ _ _ (by k_is) | exact BindsTo.of_eq rfl); (case c5 => decide); (case kB => exact locs rfl); (case c2 => exact rfl); (case c3 => exact rfl); (case c4 => exact rfl); k_whole; intro g' L' h' F' N' B' X' T' TT'; (try dsimp only); (try k_fold)))
local macro_rules | `(tactic| walk_at "subscriptTail") => `(tactic| (k_here; (with_reducible show wpAny _ _ (subscriptTail _ _ (Value.ref _) (Value.int _ _)) _ _ _); k_dflt (refine' item_list_ints_negR ?l9 ?i9 ?a9 ?b9 ?c9 ?_; (case l9 => exact News.isList (by k_asm) (by k_memK)); (case i9 => with_reducible assumption); (case a9 => omega); (case b9 => omega); (case c9 => omega)); intro _))
local macro_rules | `(tactic| walk_at "call builtin:list.pop") => `(tactic| (k_here; (with_reducible show wpAny _ _ (call (Value.builtin _) [Value.ref _]) _ _ _); k_dflt (refine' kpa_pop ?F ?N ?U ?i ?l ?z ?_; (case F => k_asm); (case N => k_asm); (case U => k_upd); (case i => with_reducible assumption); (case l => ((try simp only [List.length_set]); omega)); (case z => (rw [PySem.sizeLine_eq]; (try simp only [List.length_set]); omega))); (intro h' t' F' N' hI'; (try dsimp only [List.nil_append, List.cons_append] at N'))))
local macro_rules | `(tactic| walk_at "call builtin:len") => `(tactic| (k_here; (with_reducible show wpAny _ _ (call (Value.builtin _) [Value.ref _]) _ _ _); k_dflt (refine' len_intsN ?N ?m ?i ?z ?_; (case N => k_asm); (case m => k_memK); (case i => with_reducible assumption); (case z => ((try simp only [List.length_dropLast, List.length_set, List.length_append, List.length_cons, List.length_nil]); omega)))))
local macro_rules | `(tactic| walk_at "call builtin:list.append") => `(tactic| (k_here; (with_reducible show wpAny _ _ (call (Value.builtin _) [Value.ref _, Value.int _ _]) _ _ _); k_dflt (refine' append_ints ?k1 ?k2 ?k3 ?i ?z ?_; (case k1 => k_asm); (case k2 => k_asm); (case k3 => k_upd); (case i => with_reducible assumption); (case z => ((try simp only [List.length_dropLast, List.length_set, List.length_append, List.length_cons, List.length_nil]); omega)); k_whole); intro h' F' N' hI'; (try k_sweep)))
set_option maxHeartbeats 16000000 in
theorem lru_hit (w : World) (x dx dd oo : Addr) (t1 t2 t3 t4 tn tr tk : Tok) (n r k : Int) (v u z : Value) (od1 od2 : Obj) (kvs ovs : List (Int × Value))
   (ne1 : @Ne Nat x dx) (ne2 : @Ne Nat x dd) (ne3 : @Ne Nat x oo) (ne4 : @Ne Nat dx dd) (ne5 : @Ne Nat dx oo) (ne6 : @Ne Nat dd oo)
   (lo1 : (dd == sysModules) = false) (lo2 : (oo == sysModules) = false)
   (hd1 : od1.IsDictOf (intKind PySem.Challenge.rw_fc0035_01.row.prog w) kvs) (hd2 : od2.IsDictOf (intKind PySem.Challenge.rw_fc0035_01.row.prog w) ovs)
   (hv1 : valueAt kvs k = some u) (hs1 : (valueAt kvs k).isSome = true) (hv2 : valueAt ovs k = some z) (hz1 : kvs.length ≤ 100) (hz2 : ovs.length ≤ 100) :
   Contract 20 PySem.Challenge.rw_fc0035_01.row.prog w (tjCSoBpQsPZBkyzz.heap_39 w.params) 794 [.ref x, .int k tk, v] [(x, instObj 897 dx), (dx, lruNs w t1 t2 t3 t4 dd oo n tn r tr), (dd, od1), (oo, od2)]
     fun a E' => a = u ∧ ∃ od2', E' = [(x, instObj 897 dx), (dx, lruNs w t1 t2 t3 t4 dd oo n tn r tr), (dd, od1), (oo, od2')] ∧ od2'.IsDictOf (intKind PySem.Challenge.rw_fc0035_01.row.prog w) (stored (without ovs k) k z) := by
  unfold Contract
  intro dp un gd outer base s p loose mean mg mb R hdp hun B NE X T XB TB D hret
  k_dflt cell_enter
  k_steps
  dsimp only
  repeat (k_unfold; dsimp only)
  refine' end_F hret ?zg ?zF ?zN ?zp
  case zg => assumption
  case zF => assumption
  case zN => assumption
  case zp => exact ⟨rfl, _, rfl, by assumption⟩
set_option maxHeartbeats 16000000 in
theorem rr_hit (w : World) (x dx dd fa ii kk : Addr) (t1 t2 t3 t4 t5 t6 tn tr tk : Tok) (n r k : Int) (v u : Value) (od1 od2 : Obj) (kvs ivs : List (Int × Value)) (vs : List Value) (nl : Nat)
   (ne1 : @Ne Nat x dx) (ne2 : @Ne Nat x dd) (ne3 : @Ne Nat x ii) (ne4 : @Ne Nat x kk) (ne5 : @Ne Nat dx dd) (ne6 : @Ne Nat dx ii) (ne7 : @Ne Nat dx kk) (ne8 : @Ne Nat dd ii) (ne9 : @Ne Nat dd kk) (ne10 : @Ne Nat ii kk)
   (lo1 : (dd == sysModules) = false) (lo2 : (ii == sysModules) = false)
   (hd1 : od1.IsDictOf (intKind PySem.Challenge.rw_fc0035_01.row.prog w) kvs) (hd2 : od2.IsDictOf (intKind PySem.Challenge.rw_fc0035_01.row.prog w) ivs)
   (hv1 : valueAt kvs k = some u) (hs1 : (valueAt kvs k).isSome = true) (hz1 : kvs.length ≤ 100) :
   ContractP 20 PySem.Challenge.rw_fc0035_01.row.prog w (tjCSoBpQsPZBkyzz.heap_39 w.params) 794 [.ref x, .int k tk, v] [(x, instObj 955 dx), (dx, rrNs w t1 t2 t3 t4 t5 t6 dd fa ii kk n tn r tr), (dd, od1), (ii, od2), (kk, listOf vs.toArray nl)]
     fun a E' => a = u ∧ E' = [(x, instObj 955 dx), (dx, rrNs w t1 t2 t3 t4 t5 t6 dd fa ii kk n tn r tr), (dd, od1), (ii, od2), (kk, listOf vs.toArray nl)] := by
  unfold ContractP
  intro dp un gd outer base s p loose mean mg mb R hdp hun B NE X T hret
  k_dflt cell_call
  k_steps
  dsimp only
  repeat (k_unfold; dsimp only)
  refine' end_P hret ?zg ?zF ?zN ?zp
  case zg => assumption
  case zF => assumption
  case zN => assumption
  case zp => exact ⟨rfl, rfl⟩
section
local macro_rules | `(tactic| walk_at "call ref") => `(tactic| (k_here; (with_reducible show wpAny _ _ (call (Value.ref 865) _) _ _ _); k_dflt (refine wpAny_call ?_; (refine' code_defS ?k1 ?k2 ?k3 ?k4 ?k5 ?XB ?TB ?D ?T0 ?kA ?k6 ?k7 ?k8 ?k9 ?kB ?_ ?cK ?c2 ?c3 ?c4 ?c5; (case kA => exact rfl); (case k2 => k_asm); (case k1 => k_asm); (case XB => k_asm); (case TB => k_asm); (case D => k_asm); (case T0 => first | with_reducible assumption | exact KtsTurn.refl | assumption); (case k3 => k_asm); (case k4 => k_asm); (case k5 => k_asm); (case k6 => k_is); (case k7 => k_is); (case k8 => k_room); (case k9 => exact bind865 _ (by k_in) _ _ _ (by k_is)); (case kB => exact locs rfl); (case cK => exact rfl); (case c2 => exact rfl); (case c3 => exact rfl); (case c4 => exact rfl); (case c5 => decide); k_whole; intro g' L' h' FG' F' N' B' X' T' D'; (try dsimp only); (try k_lift B'); (try k_fold)))))
local macro_rules | `(tactic| walk_at "call ref") => `(tactic| (k_here; (with_reducible show wpAny _ _ (call (Value.ref 894) _) _ _ _); k_dflt (refine wpAny_call ?_; (refine' code_defS ?k1 ?k2 ?k3 ?k4 ?k5 ?XB ?TB ?D ?T0 ?kA ?k6 ?k7 ?k8 ?k9 ?kB ?_ ?cK ?c2 ?c3 ?c4 ?c5; (case kA => exact rfl); (case k2 => k_asm); (case k1 => k_asm); (case XB => k_asm); (case TB => k_asm); (case D => k_asm); (case T0 => first | with_reducible assumption | exact KtsTurn.refl | assumption); (case k3 => k_asm); (case k4 => k_asm); (case k5 => k_asm); (case k6 => k_is); (case k7 => k_is); (case k8 => k_room); (case k9 => exact BindsTo.of_eq rfl); (case kB => exact locs rfl); (case cK => exact rfl); (case c2 => exact rfl); (case c3 => exact rfl); (case c4 => exact rfl); (case c5 => decide); k_whole; intro g' L' h' FG' F' N' B' X' T' D'; (try dsimp only); (try k_lift B'); (try k_fold)))))
local macro_rules | `(tactic| walk_at "noteFrame ref") => `(tactic| (k_here; (with_reducible rename Heap.NewExc _ _ _ _ => nxX); k_dflt (refine' caught_newS (T' := "KeyError") ?K nxX ?F ?N ?XB ?TB ?D ?T0 ?ex PyProof.Rows.Boot.«KeyError» ?hn kr_isExc_KeyError kr_notTuple_KeyError ?hs ?_; (case F => k_asm); (case K => k_asm); (case N => k_asm); (case XB => k_asm); (case TB => k_asm); (case D => k_asm); (case T0 => first | with_reducible assumption | exact KtsTurn.refl | assumption); (case hs => kts_sub); (case ex => k_is); (case hn => decide); k_whole); clear nxX; intro h' g' T' F' N' K' X' P' D'; (try k_lift K'); (try k_sweep)))
set_option maxHeartbeats 16000000 in
theorem lru_miss (w : World) (x dx dd oo : Addr) (t1 t2 t3 t4 tn tr tk : Tok) (n r k : Int) (v : Value) (od1 od2 : Obj) (kvs ovs : List (Int × Value))
   (ne1 : @Ne Nat x dx) (ne2 : @Ne Nat x dd) (ne3 : @Ne Nat x oo) (ne4 : @Ne Nat dx dd) (ne5 : @Ne Nat dx oo) (ne6 : @Ne Nat dd oo)
   (lo1 : (dd == sysModules) = false) (lo2 : (oo == sysModules) = false)
   (hd1 : od1.IsDictOf (intKind PySem.Challenge.rw_fc0035_01.row.prog w) kvs) (hd2 : od2.IsDictOf (intKind PySem.Challenge.rw_fc0035_01.row.prog w) ovs)
   (hs1 : (valueAt kvs k).isSome = false) (hv2 : valueAt ovs k = none) (hz1 : kvs.length ≤ 100) (hz2 : ovs.length ≤ 100) (hr1 : 1 ≤ r) (hr4 : r ≤ 4) (hn0 : 0 ≤ n) (hn : n < r) :
   Contract 20 PySem.Challenge.rw_fc0035_01.row.prog w (tjCSoBpQsPZBkyzz.heap_39 w.params) 794 [.ref x, .int k tk, v] [(x, instObj 897 dx), (dx, lruNs w t1 t2 t3 t4 dd oo n tn r tr), (dd, od1), (oo, od2)]
     fun a E' => a = v ∧ ∃ od1' od2' tn', E' = [(x, instObj 897 dx), (dx, lruNs w t1 t2 t3 t4 dd oo (n + 1) tn' r tr), (dd, od1'), (oo, od2')] ∧ od1'.IsDictOf (intKind PySem.Challenge.rw_fc0035_01.row.prog w) (stored kvs k v) ∧ od2'.IsDictOf (intKind PySem.Challenge.rw_fc0035_01.row.prog w) (stored ovs k .none) := by
  unfold Contract
  intro dp un gd outer base s p loose mean mg mb R hdp hun B NE X T XB TB D hret
  k_dflt cell_enter
  k_steps
  dsimp only
  repeat (k_unfold; dsimp only)
  refine' end_F hret ?zg ?zF ?zN ?zp
  case zg => assumption
  case zF => assumption
  case zN => assumption
  case zp => exact ⟨rfl, _, _, _, rfl, by assumption, by assumption⟩
set_option maxHeartbeats 16000000 in
theorem lru_evict (w : World) (x dx dd oo : Addr) (t1 t2 t3 t4 tn tr tk : Tok) (n r k k0 : Int) (v u0 z0 : Value) (od1 od2 : Obj) (kvs ovs : List (Int × Value))
   (ne1 : @Ne Nat x dx) (ne2 : @Ne Nat x dd) (ne3 : @Ne Nat x oo) (ne4 : @Ne Nat dx dd) (ne5 : @Ne Nat dx oo) (ne6 : @Ne Nat dd oo)
   (lo1 : (dd == sysModules) = false) (lo2 : (oo == sysModules) = false)
   (hd1 : od1.IsDictOf (intKind PySem.Challenge.rw_fc0035_01.row.prog w) kvs) (hd2 : od2.IsDictOf (intKind PySem.Challenge.rw_fc0035_01.row.prog w) ((k0, z0) :: ovs))
   (hs1 : (valueAt kvs k).isSome = false) (hs2 : (valueAt (without kvs k0) k).isSome = false) (hv1 : valueAt kvs k0 = some u0) (hw1 : (valueAt kvs k0).isSome = true) (hw2 : (valueAt ((k0, z0) :: ovs) k0).isSome = true)
   (hv2 : valueAt (without ((k0, z0) :: ovs) k0) k = none) (hz1 : kvs.length ≤ 100) (hz2 : ((k0, z0) :: ovs).length ≤ 100) (hz3 : (without kvs k0).length ≤ 100) (hz4 : (without ((k0, z0) :: ovs) k0).length ≤ 100) (hr1 : 1 ≤ r) (hr4 : r ≤ 4) (hn : n = r) :
   Contract 20 PySem.Challenge.rw_fc0035_01.row.prog w (tjCSoBpQsPZBkyzz.heap_39 w.params) 794 [.ref x, .int k tk, v] [(x, instObj 897 dx), (dx, lruNs w t1 t2 t3 t4 dd oo n tn r tr), (dd, od1), (oo, od2)]
     fun a E' => a = v ∧ ∃ od1' od2' n' tn', E' = [(x, instObj 897 dx), (dx, lruNs w t1 t2 t3 t4 dd oo n' tn' r tr), (dd, od1'), (oo, od2')] ∧ n' = n ∧ od1'.IsDictOf (intKind PySem.Challenge.rw_fc0035_01.row.prog w) (stored (without kvs k0) k v) ∧ od2'.IsDictOf (intKind PySem.Challenge.rw_fc0035_01.row.prog w) (stored (without ((k0, z0) :: ovs) k0) k .none) := by
  unfold Contract
  intro dp un gd outer base s p loose mean mg mb R hdp hun B NE X T XB TB D hret
  k_dflt cell_enter
  k_steps
  dsimp only
  repeat (k_unfold; dsimp only)
  refine' end_F hret ?zg ?zF ?zN ?zp
  case zN => exact news4 (a := (x, instObj 897 dx)) (b := (dx, lruNs w t1 t2 t3 t4 dd oo (n - 1 + 1) _ r tr)) (c := (dd, _)) (d := (oo, _)) (by assumption) (by k_mem) (by k_mem) (by k_mem) (by k_mem)
  case zp => exact ⟨rfl, _, _, _, _, rfl, Int.sub_add_cancel n 1, by assumption, by assumption⟩
  case zg => assumption
  case zF => assumption
end
set_option maxHeartbeats 16000000 in
theorem rr_miss (w : World) (x dx dd fa ii kk : Addr) (t1 t2 t3 t4 t5 t6 tn tr tk : Tok) (n r k : Int) (v : Value) (od1 od2 : Obj) (kvs ivs : List (Int × Value)) (vs : List Value) (ks : List Int) (nl : Nat)
   (ne1 : @Ne Nat x dx) (ne2 : @Ne Nat x dd) (ne3 : @Ne Nat x ii) (ne4 : @Ne Nat x kk) (ne5 : @Ne Nat dx dd) (ne6 : @Ne Nat dx ii) (ne7 : @Ne Nat dx kk) (ne8 : @Ne Nat dd ii) (ne9 : @Ne Nat dd kk) (ne10 : @Ne Nat ii kk)
   (lo1 : (dd == sysModules) = false) (lo2 : (ii == sysModules) = false)
   (hd1 : od1.IsDictOf (intKind PySem.Challenge.rw_fc0035_01.row.prog w) kvs) (hd2 : od2.IsDictOf (intKind PySem.Challenge.rw_fc0035_01.row.prog w) ivs) (hks : IntsAre vs ks)
   (hs1 : (valueAt kvs k).isSome = false) (hv2 : (valueAt ivs k).isSome = false) (hz1 : kvs.length ≤ 100) (hz2 : ivs.length ≤ 100) (hz3 : ks.length ≤ 100) (hr1 : 1 ≤ r) (hr4 : r ≤ 4) (hn0 : 0 ≤ n) (hn : n < r) :
   ContractP 20 PySem.Challenge.rw_fc0035_01.row.prog w (tjCSoBpQsPZBkyzz.heap_39 w.params) 794 [.ref x, .int k tk, v] [(x, instObj 955 dx), (dx, rrNs w t1 t2 t3 t4 t5 t6 dd fa ii kk n tn r tr), (dd, od1), (ii, od2), (kk, listOf vs.toArray nl)]
     fun a E' => a = v ∧ ∃ od1' od2' tn' ti vs' nl', E' = [(x, instObj 955 dx), (dx, rrNs w t1 t2 t3 t4 t5 t6 dd fa ii kk (n + 1) tn' r tr), (dd, od1'), (ii, od2'), (kk, listOf vs'.toArray nl')] ∧
       od1'.IsDictOf (intKind PySem.Challenge.rw_fc0035_01.row.prog w) (stored kvs k v) ∧ od2'.IsDictOf (intKind PySem.Challenge.rw_fc0035_01.row.prog w) (stored ivs k (.int ks.length ti)) ∧ IntsAre vs' (ks ++ [k]) := by
  unfold ContractP
  intro dp un gd outer base s p loose mean mg mb R hdp hun B NE X T hret
  k_dflt cell_call
  k_steps
  dsimp only
  repeat (k_unfold; dsimp only)
  refine' end_P hret ?zg ?zF ?zN ?zp
  case zg => assumption
  case zF => assumption
  case zN => assumption
  case zp => exact ⟨rfl, _, _, _, _, _, _, by first | rfl | rw [List.push_toArray], by assumption, by assumption, ksk_snoc hks⟩
section
local macro_rules | `(tactic| walk_at "getMethod ref") => `(tactic| (k_here; (with_reducible show wpAny _ _ (getMethod (Value.ref _) (Str.ofString "_RRCache__choice") _) _ _ _); k_dflt (refine' kmu_own ?k1 ?k2 ?k3 ?k4 ?k5 ?_; (case k1 => k_asm); (case k2 => k_asm); (case k3 => (refine' InstAt.of_news ?N9 ?h91 ?h92; (case N9 => k_asm); (case h91 => k_memK); (case h92 => k_memK))); (case k4 => k_is); (case k5 => k_is); k_whole)))
local macro_rules | `(tactic| walk_at "callWith ref") => `(tactic| (k_here; k_dflt (refine' callWith_F ?k1 ?_; (case k1 => exact FnAt.of (by k_asm) (by k_memK)); k_whole)))
local macro_rules | `(tactic| walk_at "And") => `(tactic| ((with_reducible show FnAt _ _ ∧ _); k_dflt (refine ⟨FnAt.of (by k_asm) (by k_memK), ?_⟩); (try dsimp only [List.nil_append, List.cons_append])))
local macro_rules | `(tactic| k_all) => `(tactic| first | with_reducible assumption | exact List.forall_mem_nil _ | (refine List.forall_mem_cons.mpr ⟨by k_ne, ?_⟩; k_all))
local macro_rules | `(tactic| walk_at "compareOp NotIn int ref") => `(tactic| (k_here; k_dflt (refine kdg_notin (knd := PySem.intKind _ _) (by k_asm) (by k_memK) (by k_asm) (by k_asm) (intKind_is _ _ _ _) false (by first | assumption | exact stored_none (by assumption) (by assumption)) ?_); (try dsimp only [Bool.not_true, Bool.not_false])))
set_option maxHeartbeats 16000000 in
theorem rr_evict (w : World) (x dx dd fa ii kk : Addr) (t1 t2 t3 t4 t5 t6 tn tr tk ti : Tok) (n r k k0 i : Int) (v u0 : Value) (od1 od2 : Obj) (kvs ivs : List (Int × Value)) (vs : List Value) (ks : List Int) (nl : Nat) (EC : List (Addr × Obj)) (oc9 : Value) (od9 : Option Addr) (fd9 : FuncData) (sl9 : Array (Option Value))
   (ne1 : @Ne Nat x dx) (ne2 : @Ne Nat x dd) (ne3 : @Ne Nat x ii) (ne4 : @Ne Nat x kk) (ne5 : @Ne Nat dx dd) (ne6 : @Ne Nat dx ii) (ne7 : @Ne Nat dx kk) (ne8 : @Ne Nat dd ii) (ne9 : @Ne Nat dd kk) (ne10 : @Ne Nat ii kk)
   (nf1 : @Ne Nat x fa) (nf2 : @Ne Nat dx fa) (nf3 : @Ne Nat dd fa) (nf4 : @Ne Nat ii fa) (nf5 : @Ne Nat kk fa)
   (hE1 : ∀ q ∈ EC, q.1 ≠ x) (hE2 : ∀ q ∈ EC, q.1 ≠ dx) (hE3 : ∀ q ∈ EC, q.1 ≠ dd) (hE4 : ∀ q ∈ EC, q.1 ≠ ii) (hE5 : ∀ q ∈ EC, q.1 ≠ kk)
   (lo1 : (dd == sysModules) = false) (lo2 : (ii == sysModules) = false)
   (hd1 : od1.IsDictOf (intKind PySem.Challenge.rw_fc0035_01.row.prog w) kvs) (hd2 : od2.IsDictOf (intKind PySem.Challenge.rw_fc0035_01.row.prog w) ivs) (hks : IntsAre vs ks)
   (HC : ContractP 10 PySem.Challenge.rw_fc0035_01.row.prog w (tjCSoBpQsPZBkyzz.heap_39 w.params) fa [.ref kk] ((kk, listOf vs.toArray nl) :: (fa, ⟨oc9, od9, .func fd9, sl9⟩) :: EC) fun a E' => (∃ t, a = .int k0 t) ∧ E' = (kk, listOf vs.toArray nl) :: (fa, ⟨oc9, od9, .func fd9, sl9⟩) :: EC)
   (hs1 : (valueAt kvs k).isSome = false) (hv1 : valueAt kvs k0 = some u0) (hw1 : (valueAt kvs k0).isSome = true) (hi1 : valueAt ivs k0 = some (.int i ti)) (hi2 : (valueAt ivs k).isSome = false)
   (hi0 : 0 ≤ i) (hil : i < ks.length) (hi3 : (valueAt (without ivs k0) k).isSome = false) (hkl : k ≠ ks.getD (-1 + (ks.length : Int)).toNat 0) (hlen : vs.length = ks.length)
   (hz1 : kvs.length ≤ 100) (hz2 : ivs.length ≤ 100) (hz3 : ks.length ≤ 100) (hz4 : (without kvs k0).length ≤ 100) (hz5 : (without ivs k0).length ≤ 100) (hr1 : 1 ≤ r) (hr4 : r ≤ 4) (hn : n = r) (hkn : (ks.length : Int) = r) :
   ContractP 20 PySem.Challenge.rw_fc0035_01.row.prog w (tjCSoBpQsPZBkyzz.heap_39 w.params) 794 [.ref x, .int k tk, v] ([(x, instObj 955 dx), (dx, rrNs w t1 t2 t3 t4 t5 t6 dd fa ii kk n tn r tr), (dd, od1), (ii, od2), (kk, listOf vs.toArray nl), (fa, ⟨oc9, od9, .func fd9, sl9⟩)] ++ EC)
     fun a E' => a = v ∧ ∃ od1' od2' n' tn' ti tj m vs' nl', m = (ks.length : Int) - 1 ∧ E' = [(x, instObj 955 dx), (dx, rrNs w t1 t2 t3 t4 t5 t6 dd fa ii kk n' tn' r tr), (dd, od1'), (ii, od2'), (kk, listOf vs'.toArray nl'), (fa, ⟨oc9, od9, .func fd9, sl9⟩)] ++ EC ∧ n' = n ∧
       od1'.IsDictOf (intKind PySem.Challenge.rw_fc0035_01.row.prog w) (stored (without kvs k0) k v) ∧ ((i = (ks.length : Int) - 1 ∧ od2'.IsDictOf (intKind PySem.Challenge.rw_fc0035_01.row.prog w) (stored (without ivs k0) k (.int m ti)) ∧ IntsAre vs' (ks.dropLast ++ [k])) ∨ (i ≠ (ks.length : Int) - 1 ∧ od2'.IsDictOf (intKind PySem.Challenge.rw_fc0035_01.row.prog w) (stored (stored (without ivs k0) (ks.getD (-1 + (ks.length : Int)).toNat 0) (.int i tj)) k (.int m ti)) ∧ IntsAre vs' ((ks.set i.toNat (ks.getD (-1 + (ks.length : Int)).toNat 0)).dropLast ++ [k]))) := by
  unfold ContractP
  intro dp un gd outer base s p loose mean mg mb R hdp hun B NE X T hret
  simp only [List.cons_append, List.nil_append] at B NE X T hret ⊢
  k_dflt cell_call
  have hne : ∀ q ∈ [(x, instObj 955 dx), (dx, rrNs w t1 t2 t3 t4 t5 t6 dd fa ii kk n tn r tr), (dd, od1), (ii, od2)], ∀ r ∈ (kk, listOf vs.toArray nl) :: (fa, (⟨oc9, od9, .func fd9, sl9⟩ : Obj)) :: EC, q.1 ≠ r.1 := by
    intro q hq r hr
    simp only [List.mem_cons, List.not_mem_nil, or_false] at hq hr
    rcases hr with rfl | rfl | hr
    · rcases hq with rfl | rfl | rfl | rfl <;> assumption
    · rcases hq with rfl | rfl | rfl | rfl <;> assumption
    · rcases hq with rfl | rfl | rfl | rfl
      · exact (hE1 r hr).symm
      · exact (hE2 r hr).symm
      · exact (hE3 r hr).symm
      · exact (hE4 r hr).symm
  k_steps
  refine' use_contractP HC rfl ?B ?F ?X ?N ?T rfl rfl ?d ?u [(x, instObj 955 dx), (dx, rrNs w t1 t2 t3 t4 t5 t6 dd fa ii kk n tn r tr), (dd, od1), (ii, od2)] ?E ?K hne ?_
  case B => with_reducible assumption
  case F => with_reducible assumption
  case X => with_reducible assumption
  case N => with_reducible assumption
  case T => with_reducible assumption
  case d => show dp + 1 + 1 + 1 + 1 + 10 < recursionLimit; omega
  case u => show un + 3 + 3 + 3 + 3 + 10 * 10 < cLine; omega
  case E => exact fun q hq => .tail _ (.tail _ (.tail _ (.tail _ hq)))
  case K => exact fun q hq => List.mem_append_left ((kk, listOf vs.toArray nl) :: (fa, (⟨oc9, od9, .func fd9, sl9⟩ : Obj)) :: EC) hq
  intro v' E' h' tk' F' N' ne' hp
  obtain ⟨⟨t9, rfl⟩, rfl⟩ := hp
  simp only [List.cons_append, List.nil_append] at N'
  k_steps
  all_goals (dsimp only; repeat (k_unfold; dsimp only))
  · refine' end_P hret ?zg ?zF ?zN ?zp
    case zg => assumption
    case zF => assumption
    case zN => exact news_tl (by assumption)
    case zp =>
      refine' ⟨rfl, _, _, _, _, _, _, _, _, _, ?me, rfl, Int.sub_add_cancel n 1, ?h1, .inr ⟨?h2, ?h3, ?h4⟩⟩
      case h1 => assumption
      case h3 => assumption
      case h4 => assumption
      case h2 => assumption
      case me => (simp only [List.length_dropLast, List.length_set]; omega)
  · refine' end_P hret ?zg ?zF ?zN ?zp
    case zg => assumption
    case zF => assumption
    case zN => exact news_tl (by assumption)
    case zp =>
      refine' ⟨rfl, _, _, _, _, _, 0, _, _, _, ?me, rfl, Int.sub_add_cancel n 1, ?h1, .inl ⟨?h2, ?h3, ?h4⟩⟩
      case h1 => assumption
      case h3 => assumption
      case h4 => assumption
      case h2 => assumption
      case me => (simp only [List.length_dropLast, List.length_set]; omega)
end
end
def LruIs (w : World) (od1 od2 : Obj) (n : Int) (O : List Int) (kvs : List (Int × Value)) : Prop :=
  od1.IsDictOf (intKind PySem.Challenge.rw_fc0035_01.row.prog w) kvs ∧ (∃ ovs, od2.IsDictOf (intKind PySem.Challenge.rw_fc0035_01.row.prog w) ovs ∧ ovs.map (·.1) = O) ∧ (kvs.map (·.1)).Perm O ∧ O.Nodup ∧ n = O.length
theorem lru_set (w : World) (x dx dd oo : Addr) (t1 t2 t3 t4 tn tr tk : Tok) (n r k : Int) (r0 : Nat) (v : Value) (od1 od2 : Obj) (O : List Int) (kvs : List (Int × Value))
   (ne1 : @Ne Nat x dx) (ne2 : @Ne Nat x dd) (ne3 : @Ne Nat x oo) (ne4 : @Ne Nat dx dd) (ne5 : @Ne Nat dx oo) (ne6 : @Ne Nat dd oo)
   (lo1 : (dd == sysModules) = false) (lo2 : (oo == sysModules) = false) (I : LruIs w od1 od2 n O kvs) (hr : r = r0) (hr1 : 1 ≤ r0) (hr4 : r0 ≤ 4) (hO : O.length ≤ r0) :
   Contract 20 PySem.Challenge.rw_fc0035_01.row.prog w (tjCSoBpQsPZBkyzz.heap_39 w.params) 794 [.ref x, .int k tk, v] [(x, instObj 897 dx), (dx, lruNs w t1 t2 t3 t4 dd oo n tn r tr), (dd, od1), (oo, od2)]
     fun a E' => ∃ od1' od2' n' tn' kvs', E' = [(x, instObj 897 dx), (dx, lruNs w t1 t2 t3 t4 dd oo n' tn' r tr), (dd, od1'), (oo, od2')] ∧ LruIs w od1' od2' n' (lruStep r0 O k) kvs' ∧
       (k ∈ O → valueAt kvs k = some a) ∧ (k ∉ O → a = v) ∧ valueAt kvs' k = some a ∧ ∀ j ∈ lruStep r0 O k, j ≠ k → j ∈ O ∧ valueAt kvs' j = valueAt kvs j := by
  obtain ⟨hd1, ⟨ovs, hd2, ho⟩, hp, hn, rfl⟩ := I
  have lk : kvs.length = O.length := length_keys hp
  have lo : ovs.length = O.length := by rw [← ho]; simp
  have memk : ∀ j, j ∈ kvs.map (·.1) ↔ j ∈ O := fun j => hp.mem_iff
  by_cases h : k ∈ O
  · obtain ⟨u, hu⟩ := valueAt_there ((memk k).mpr h)
    obtain ⟨z, hz⟩ := valueAt_there (kvs := ovs) (by rw [ho]; exact h)
    refine (lru_hit w x dx dd oo t1 t2 t3 t4 tn tr tk O.length r k v u z od1 od2 kvs ovs ne1 ne2 ne3 ne4 ne5 ne6 lo1 lo2 hd1 hd2 hu (by rw [hu]; rfl) hz (by omega) (by omega)).mono ?_
    rintro a E' ⟨rfl, od2', rfl, q⟩
    have hk : k ∉ (without ovs k).map (·.1) := by rw [keys_without]; simp
    have e1 : (stored (without ovs k) k z).map (·.1) = lruStep r0 O k := by
      rw [stored_new hk, List.map_append, keys_without, ho]
      unfold lruStep
      rw [if_pos h]
      rfl
    have pl : O.Perm (lruStep r0 O k) := perm_of_mem hn (lru_nodup hn) fun j => by
      unfold lruStep
      rw [if_pos h]
      simp only [List.mem_append, List.mem_filter, List.mem_singleton, decide_eq_true_eq]
      exact ⟨fun q => if z : j = k then .inr z else .inl ⟨q, z⟩, fun q => q.elim (fun z => z.1) fun z => z ▸ h⟩
    exact ⟨_, _, _, _, kvs, rfl, ⟨hd1, ⟨_, q, e1⟩, hp.trans pl, lru_nodup hn, by rw [pl.length_eq]⟩, fun _ => hu, fun q => absurd h q, hu, fun j hj _ => ⟨pl.mem_iff.mpr hj, rfl⟩⟩
  · have hkv : k ∉ kvs.map (·.1) := fun q => h ((memk k).mp q)
    have hov : k ∉ ovs.map (·.1) := by rw [ho]; exact h
    have n1 : (valueAt kvs k).isSome = false := by rw [valueAt_none hkv]; rfl
    rcases Nat.lt_or_ge O.length r0 with q | q
    · refine (lru_miss w x dx dd oo t1 t2 t3 t4 tn tr tk O.length r k v od1 od2 kvs ovs ne1 ne2 ne3 ne4 ne5 ne6 lo1 lo2 hd1 hd2 n1 (valueAt_none hov) (by omega) (by omega) (by omega) (by omega) (by omega) (by omega)).mono ?_
      rintro a E' ⟨rfl, od1', od2', tn', rfl, q1, q2⟩
      have e0 : lruStep r0 O k = O ++ [k] := by unfold lruStep; rw [if_neg h, if_pos q]
      rw [stored_new hkv] at q1
      rw [stored_new hov] at q2
      refine ⟨_, _, _, _, _, rfl, ⟨q1, ⟨_, q2, by rw [List.map_append, ho, e0]; rfl⟩, by rw [List.map_append, e0]; exact hp.append_right [k], lru_nodup hn, by rw [e0]; simp⟩, fun z => absurd z h, fun _ => rfl, valueAt_snoc_self hkv, fun j hj hne => ⟨?_, valueAt_snoc_ne hne⟩⟩
      rw [e0] at hj
      exact (List.mem_append.mp hj).resolve_right fun z => hne (List.mem_singleton.mp z)
    · cases hc : ovs with
      | nil => rw [hc] at lo; simp at lo; omega
      | cons f ovs' =>
        obtain ⟨k0, z0⟩ := f
        subst hc
        rw [List.map_cons] at ho
        have hk0 : k0 ∈ O := by rw [← ho]; exact .head _
        have hne : k ≠ k0 := fun e => h (e ▸ hk0)
        obtain ⟨u0, hu0⟩ := valueAt_there ((memk k0).mpr hk0)
        have hn' := hn
        rw [← ho] at hn'
        have hn2 := List.nodup_cons.mp hn'
        have ew : without ((k0, z0) :: ovs') k0 = ovs' := by
          have : without ((k0, z0) :: ovs') k0 = without ovs' k0 := by
            unfold without
            rw [List.filter_cons, if_neg (by simp)]
          rw [this]
          exact PySem.without_of_not_mem ovs' k0 hn2.1
        have hkw : k ∉ (without kvs k0).map (·.1) := by
          rw [keys_without]
          exact fun z => hkv (List.mem_filter.mp z).1
        have hov' : k ∉ ovs'.map (·.1) := fun z => h (by rw [← ho]; exact .tail _ z)
        have lw := without_le (kvs := kvs) (k := k0)
        have lo' : ovs'.length + 1 = O.length := by rw [← ho]; simp
        refine (lru_evict w x dx dd oo t1 t2 t3 t4 tn tr tk O.length r k k0 v u0 z0 od1 od2 kvs ovs' ne1 ne2 ne3 ne4 ne5 ne6 lo1 lo2 hd1 hd2 n1 (by rw [valueAt_none hkw]; rfl) hu0 (by rw [hu0]; rfl) (by rw [valueAt_cons, if_pos rfl]; rfl)
          (by rw [ew]; exact valueAt_none hov') (by omega) (by rw [List.length_cons]; omega) (by omega) (by rw [ew]; omega) (by omega) (by omega) (by omega)).mono ?_
        rintro a E' ⟨rfl, od1', od2', n', tn', rfl, q0, q1, q2⟩
        have e0 : lruStep r0 O k = ovs'.map (·.1) ++ [k] := by
          unfold lruStep
          rw [if_neg h, if_neg (by omega), ← ho]
          rfl
        rw [stored_new hkw] at q1
        rw [ew, stored_new hov'] at q2
        refine ⟨_, _, _, _, _, rfl, ⟨q1, ⟨_, q2, by rw [List.map_append, e0]; rfl⟩, ?_, lru_nodup hn, ?_⟩, fun z => absurd z h, fun _ => rfl, valueAt_snoc_self hkw, fun j hj hne2 => ?_⟩
        · rw [List.map_append, e0, keys_without]
          refine List.Perm.append_right _ (perm_of_mem (hp.nodup_iff.mpr hn |>.filter _) hn2.2 fun j => ?_)
          rw [List.mem_filter, memk, ← ho, List.mem_cons, decide_eq_true_eq]
          exact ⟨fun z => z.1.resolve_left z.2, fun z => ⟨.inr z, fun e => hn2.1 (e ▸ z)⟩⟩
        · rw [q0, e0, List.length_append, List.length_map]
          simp only [List.length_singleton]
          omega
        · rw [e0] at hj
          have hj' := (List.mem_append.mp hj).resolve_right fun z => hne2 (List.mem_singleton.mp z)
          refine ⟨by rw [← ho]; exact .tail _ hj', ?_⟩
          rw [valueAt_snoc_ne hne2, valueAt_without_ne (fun e : j = k0 => hn2.1 (e ▸ hj'))]
def RrIs (w : World) (od1 od2 : Obj) (vs : List Value) (n : Int) (M : List Int) (kvs : List (Int × Value)) : Prop :=
  od1.IsDictOf (intKind PySem.Challenge.rw_fc0035_01.row.prog w) kvs ∧ (∃ ivs, od2.IsDictOf (intKind PySem.Challenge.rw_fc0035_01.row.prog w) ivs ∧ (ivs.map (·.1)).Perm M ∧ ∀ (i : Nat) j, M[i]? = some j → ∃ t, valueAt ivs j = some (.int i t)) ∧ IntsAre vs M ∧ (kvs.map (·.1)).Perm M ∧ M.Nodup ∧ n = M.length
theorem snoc_get {l : List Int} {k j : Int} {idx : Nat} (h : (l ++ [k])[idx]? = some j) : (idx < l.length ∧ l[idx]? = some j) ∨ (idx = l.length ∧ j = k) := by
  rw [List.getElem?_append] at h
  split at h
  · exact .inl ⟨by assumption, h⟩
  · rename_i q
    cases e : idx - l.length with
    | zero => rw [e] at h; simp at h; exact .inr ⟨by omega, h.symm⟩
    | succ d => rw [e] at h; simp at h
theorem rr_set (w : World) (x dx dd fa ii kk : Addr) (t1 t2 t3 t4 t5 t6 tn tr tk : Tok) (n r k : Int) (r0 : Nat) (v : Value) (od1 od2 : Obj) (M : List Int) (kvs : List (Int × Value)) (vs : List Value) (nl : Nat) (EC : List (Addr × Obj)) (oc9 : Value) (od9 : Option Addr) (fd9 : FuncData) (sl9 : Array (Option Value)) (rank : Int → Nat)
   (ne1 : @Ne Nat x dx) (ne2 : @Ne Nat x dd) (ne3 : @Ne Nat x ii) (ne4 : @Ne Nat x kk) (ne5 : @Ne Nat dx dd) (ne6 : @Ne Nat dx ii) (ne7 : @Ne Nat dx kk) (ne8 : @Ne Nat dd ii) (ne9 : @Ne Nat dd kk) (ne10 : @Ne Nat ii kk)
   (nf1 : @Ne Nat x fa) (nf2 : @Ne Nat dx fa) (nf3 : @Ne Nat dd fa) (nf4 : @Ne Nat ii fa) (nf5 : @Ne Nat kk fa)
   (hE1 : ∀ q ∈ EC, q.1 ≠ x) (hE2 : ∀ q ∈ EC, q.1 ≠ dx) (hE3 : ∀ q ∈ EC, q.1 ≠ dd) (hE4 : ∀ q ∈ EC, q.1 ≠ ii) (hE5 : ∀ q ∈ EC, q.1 ≠ kk)
   (lo1 : (dd == sysModules) = false) (lo2 : (ii == sysModules) = false) (I : RrIs w od1 od2 vs n M kvs) (hr : r = r0) (hr1 : 1 ≤ r0) (hr4 : r0 ≤ 4) (hM : M.length ≤ r0)
   (HC : k ∉ M → M.length = r0 → ∃ f, f ∈ M ∧ (∀ j ∈ M, rank j ≤ rank f) ∧ ContractP 10 PySem.Challenge.rw_fc0035_01.row.prog w (tjCSoBpQsPZBkyzz.heap_39 w.params) fa [.ref kk] ((kk, listOf vs.toArray nl) :: (fa, ⟨oc9, od9, .func fd9, sl9⟩) :: EC) fun a E' => (∃ t, a = .int f t) ∧ E' = (kk, listOf vs.toArray nl) :: (fa, ⟨oc9, od9, .func fd9, sl9⟩) :: EC) :
   ContractP 20 PySem.Challenge.rw_fc0035_01.row.prog w (tjCSoBpQsPZBkyzz.heap_39 w.params) 794 [.ref x, .int k tk, v] ([(x, instObj 955 dx), (dx, rrNs w t1 t2 t3 t4 t5 t6 dd fa ii kk n tn r tr), (dd, od1), (ii, od2), (kk, listOf vs.toArray nl), (fa, ⟨oc9, od9, .func fd9, sl9⟩)] ++ EC)
     fun a E' => ∃ od1' od2' n' tn' vs' nl' M' kvs', E' = [(x, instObj 955 dx), (dx, rrNs w t1 t2 t3 t4 t5 t6 dd fa ii kk n' tn' r tr), (dd, od1'), (ii, od2'), (kk, listOf vs'.toArray nl'), (fa, ⟨oc9, od9, .func fd9, sl9⟩)] ++ EC ∧ RrIs w od1' od2' vs' n' M' kvs' ∧ RRStep rank r0 k M M' ∧
       (k ∈ M → valueAt kvs k = some a) ∧ (k ∉ M → a = v) ∧ valueAt kvs' k = some a ∧ ∀ j ∈ M', j ≠ k → j ∈ M ∧ valueAt kvs' j = valueAt kvs j := by
  obtain ⟨hd1, ⟨ivs, hd2, hip, hix⟩, hvs, hp, hn, rfl⟩ := I
  have lk : kvs.length = M.length := length_keys hp
  have li : ivs.length = M.length := length_keys hip
  have memk : ∀ j, j ∈ kvs.map (·.1) ↔ j ∈ M := fun j => hp.mem_iff
  have memi : ∀ j, j ∈ ivs.map (·.1) ↔ j ∈ M := fun j => hip.mem_iff
  have hfr : ∀ q ∈ (fa, (⟨oc9, od9, .func fd9, sl9⟩ : Obj)) :: EC, ∀ r' ∈ [(x, instObj 955 dx), (dx, rrNs w t1 t2 t3 t4 t5 t6 dd fa ii kk M.length tn r tr), (dd, od1), (ii, od2), (kk, listOf vs.toArray nl)], q.1 ≠ r'.1 := by
    intro q hq r' hr'
    simp only [List.mem_cons, List.not_mem_nil, or_false] at hq hr'
    rcases hq with rfl | hq
    · rcases hr' with rfl | rfl | rfl | rfl | rfl
      · exact fun e => nf1 e.symm
      · exact fun e => nf2 e.symm
      · exact fun e => nf3 e.symm
      · exact fun e => nf4 e.symm
      · exact fun e => nf5 e.symm
    · rcases hr' with rfl | rfl | rfl | rfl | rfl
      · exact hE1 q hq
      · exact hE2 q hq
      · exact hE3 q hq
      · exact hE4 q hq
      · exact hE5 q hq
  by_cases h : k ∈ M
  · obtain ⟨u, hu⟩ := valueAt_there ((memk k).mpr h)
    refine ((rr_hit w x dx dd fa ii kk t1 t2 t3 t4 t5 t6 tn tr tk M.length r k v u od1 od2 kvs ivs vs nl ne1 ne2 ne3 ne4 ne5 ne6 ne7 ne8 ne9 ne10 lo1 lo2 hd1 hd2 hu (by rw [hu]; rfl) (by omega)).frame hfr).mono ?_
    rintro a E' ⟨E9, ⟨rfl, rfl⟩, rfl⟩
    exact ⟨_, _, _, _, vs, _, M, kvs, rfl, ⟨hd1, ⟨ivs, hd2, hip, hix⟩, hvs, hp, hn, rfl⟩, ⟨hn, fun _ => rfl, fun q => absurd h q, fun q => absurd h q⟩, fun _ => hu, fun q => absurd h q, hu, fun j hj _ => ⟨hj, rfl⟩⟩
  · have hkv : k ∉ kvs.map (·.1) := fun q => h ((memk k).mp q)
    have hki : k ∉ ivs.map (·.1) := fun q => h ((memi k).mp q)
    have n1 : (valueAt kvs k).isSome = false := by rw [valueAt_none hkv]; rfl
    have n2 : (valueAt ivs k).isSome = false := by rw [valueAt_none hki]; rfl
    rcases Nat.lt_or_ge M.length r0 with q | q
    · refine ((rr_miss w x dx dd fa ii kk t1 t2 t3 t4 t5 t6 tn tr tk M.length r k v od1 od2 kvs ivs vs M nl ne1 ne2 ne3 ne4 ne5 ne6 ne7 ne8 ne9 ne10 lo1 lo2 hd1 hd2 hvs n1 n2 (by omega) (by omega) (by omega) (by omega) (by omega) (by omega) (by omega)).frame hfr).mono ?_
      rintro a E' ⟨E9, ⟨rfl, od1', od2', tn', ti, vs', nl', rfl, q1, q2, q3⟩, rfl⟩
      rw [stored_new hkv] at q1
      rw [stored_new hki] at q2
      have hnd : (M ++ [k]).Nodup := List.nodup_append.mpr ⟨hn, by simp, fun a ha b hb => by rw [List.mem_singleton.mp hb]; exact fun e => h (e ▸ ha)⟩
      refine ⟨_, _, _, _, vs', _, M ++ [k], _, rfl, ⟨q1, ⟨_, q2, by rw [List.map_append]; exact hip.append_right [k], fun i j hj => ?_⟩, q3, by rw [List.map_append]; exact hp.append_right [k], hnd, by simp⟩, ⟨hnd, fun z => absurd z h, fun _ _ => rfl, fun _ z => by omega⟩, fun z => absurd z h, fun _ => rfl, valueAt_snoc_self hkv, fun j hj hne => ⟨?_, valueAt_snoc_ne hne⟩⟩
      · rcases snoc_get hj with ⟨_, g⟩ | ⟨g1, rfl⟩
        · obtain ⟨t, ht⟩ := hix i j g
          exact ⟨t, by rw [valueAt_snoc_ne (fun e : j = k => h (e ▸ List.mem_of_getElem? g))]; exact ht⟩
        · exact ⟨ti, by rw [valueAt_snoc_self hki, g1]⟩
      · exact (List.mem_append.mp hj).resolve_right fun z => hne (List.mem_singleton.mp z)
    · have hM0 : M.length = r0 := by omega
      obtain ⟨f, f1, f2, HC⟩ := HC h hM0
      obtain ⟨i, hi⟩ := List.mem_iff_getElem?.mp f1
      obtain ⟨il, _⟩ := List.getElem?_eq_some_iff.mp hi
      obtain ⟨ti, hti⟩ := hix i f hi
      obtain ⟨u0, hu0⟩ := valueAt_there ((memk f).mpr f1)
      have hkw : k ∉ (without kvs f).map (·.1) := by rw [keys_without]; exact fun z => hkv (List.mem_filter.mp z).1
      have hkiw : k ∉ (without ivs f).map (·.1) := by rw [keys_without]; exact fun z => hki (List.mem_filter.mp z).1
      have lw := without_le (kvs := kvs) (k := f)
      have lw2 := without_le (kvs := ivs) (k := f)
      have hlast : M[M.length - 1]? = some (M.getD (-1 + (M.length : Int)).toNat 0) := by
        rw [show (-1 + (M.length : Int)).toNat = M.length - 1 by omega, List.getD_eq_getElem?_getD, List.getElem?_eq_getElem (by omega)]
        rfl
      have hlm : M.getD (-1 + (M.length : Int)).toNat 0 ∈ M := List.mem_of_getElem? hlast
      have hcn := rrCut_nodup hn il
      have hcm := rrCut_mem hn hi
      have hcl := rrCut_len (M := M) (i := i)
      have hkc : k ∉ rrCut M i := fun z => h ((hcm k).mp z).1
      have hnd : (rrCut M i ++ [k]).Nodup := List.nodup_append.mpr ⟨hcn, by simp, fun a ha b hb => by rw [List.mem_singleton.mp hb]; exact fun e => hkc (e ▸ ha)⟩
      have hpw : ((without kvs f).map (·.1)).Perm (rrCut M i) := perm_of_mem (by rw [keys_without]; exact (hp.nodup_iff.mpr hn).filter _) hcn fun j => by
        rw [keys_without, List.mem_filter, memk, hcm, decide_eq_true_eq]
      have hpiw : ((without ivs f).map (·.1)).Perm (rrCut M i) := perm_of_mem (by rw [keys_without]; exact (hip.nodup_iff.mpr hn).filter _) hcn fun j => by
        rw [keys_without, List.mem_filter, memi, hcm, decide_eq_true_eq]
      refine (rr_evict w x dx dd fa ii kk t1 t2 t3 t4 t5 t6 tn tr tk ti M.length r k f i v u0 od1 od2 kvs ivs vs M nl EC oc9 od9 fd9 sl9 ne1 ne2 ne3 ne4 ne5 ne6 ne7 ne8 ne9 ne10 nf1 nf2 nf3 nf4 nf5 hE1 hE2 hE3 hE4 hE5 lo1 lo2 hd1 hd2 hvs HC
        n1 hu0 (by rw [hu0]; rfl) hti n2 (by omega) (by omega) (by rw [valueAt_none hkiw]; rfl) (fun e => h (e ▸ hlm)) hvs.length (by omega) (by omega) (by omega) (by omega) (by omega) (by omega) (by omega) (by omega) (by omega)).mono ?_
      rintro a E' ⟨rfl, od1', od2', n', tn', ti', tj, m, vs', nl', hm, rfl, hn', q1, q2⟩
      rw [stored_new hkw] at q1
      have fin : ∀ ivs', od2'.IsDictOf (intKind PySem.Challenge.rw_fc0035_01.row.prog w) ivs' → (ivs'.map (·.1)).Perm (rrCut M i ++ [k]) → (∀ (a : Nat) j, (rrCut M i)[a]? = some j → ∃ t, valueAt ivs' j = some (.int a t)) → valueAt ivs' k = some (.int m ti') → IntsAre vs' (rrCut M i ++ [k]) →
          ∃ od1'' od2'' n'' tn'' vs'' nl'' M' kvs', [(x, instObj 955 dx), (dx, rrNs w t1 t2 t3 t4 t5 t6 dd fa ii kk n' tn' r tr), (dd, od1'), (ii, od2'), (kk, listOf vs'.toArray nl'), (fa, (⟨oc9, od9, .func fd9, sl9⟩ : Obj))] ++ EC = [(x, instObj 955 dx), (dx, rrNs w t1 t2 t3 t4 t5 t6 dd fa ii kk n'' tn'' r tr), (dd, od1''), (ii, od2''), (kk, listOf vs''.toArray nl''), (fa, (⟨oc9, od9, .func fd9, sl9⟩ : Obj))] ++ EC ∧ RrIs w od1'' od2'' vs'' n'' M' kvs' ∧ RRStep rank r0 k M M' ∧
            (k ∈ M → valueAt kvs k = some a) ∧ (k ∉ M → a = a) ∧ valueAt kvs' k = some a ∧ ∀ j ∈ M', j ≠ k → j ∈ M ∧ valueAt kvs' j = valueAt kvs j := by
        intro ivs' g1 g2 g3 g4 g5
        refine ⟨od1', od2', n', tn', vs', nl', rrCut M i ++ [k], _, rfl, ⟨q1, ⟨ivs', g1, g2, fun b j hj => ?_⟩, g5, by rw [List.map_append]; exact hpw.append_right [k], hnd, ?_⟩, ⟨hnd, fun z => absurd z h, fun _ z => by omega, fun _ _ => ⟨f, f1, f2, ?_, fun j => ?_⟩⟩, fun z => absurd z h, fun _ => rfl, valueAt_snoc_self hkw, fun j hj hne => ?_⟩
        · rcases snoc_get hj with ⟨_, g⟩ | ⟨e, rfl⟩
          · exact g3 b j g
          · rw [hcl] at e
            exact ⟨ti', by rw [g4, hm, e]; congr 2; omega⟩
        · rw [hn', List.length_append, List.length_singleton, hcl]; omega
        · rw [List.length_append, List.length_singleton, hcl]; omega
        · rw [List.mem_append, List.mem_singleton, hcm]; exact or_comm
        · have hj' := (List.mem_append.mp hj).resolve_right fun z => hne (List.mem_singleton.mp z)
          have hj2 := (hcm j).mp hj'
          exact ⟨hj2.1, by rw [valueAt_snoc_ne hne, valueAt_without_ne hj2.2]⟩
      have old : ∀ (a : Nat) j, a ≠ i → M[a]? = some j → ∃ t, valueAt (without ivs f) j = some (.int a t) := fun a j ha hj => by
        obtain ⟨t, ht⟩ := hix a j hj
        refine ⟨t, ?_⟩
        rw [valueAt_without_ne (fun e : j = f => ha (get_inj hn (e ▸ hj) hi))]
        exact ht
      rcases q2 with ⟨ei, q2, q3⟩ | ⟨ei, q2, q3⟩
      · have ec : rrCut M i = M.dropLast := by unfold rrCut; rw [if_pos (by omega)]
        rw [stored_new hkiw] at q2
        refine fin _ q2 (by rw [List.map_append]; exact hpiw.append_right [k]) (fun a j hj => ?_) (valueAt_snoc_self hkiw) (by rw [ec]; exact q3)
        have hjk : j ≠ k := fun e => hkc (e ▸ List.mem_of_getElem? hj)
        rw [valueAt_snoc_ne hjk]
        have hal : a < M.length - 1 := by
          obtain ⟨z, _⟩ := List.getElem?_eq_some_iff.mp hj
          omega
        rw [rrCut_get il hal, if_neg (by omega)] at hj
        exact old a j (by omega) hj
      · have ec : rrCut M i = (M.set i (M.getD (-1 + (M.length : Int)).toNat 0)).dropLast := by unfold rrCut; rw [if_neg (by omega)]
        have hlf : M.getD (-1 + (M.length : Int)).toNat 0 ≠ f := fun e => by
          have := get_inj hn (e ▸ hlast) hi
          omega
        have hlk : M.getD (-1 + (M.length : Int)).toNat 0 ∈ (without ivs f).map (·.1) := by
          rw [keys_without, List.mem_filter, memi, decide_eq_true_eq]
          exact ⟨hlm, hlf⟩
        have hks : k ∉ (stored (without ivs f) (M.getD (-1 + (M.length : Int)).toNat 0) (.int i tj)).map (·.1) := by rw [keys_stored_old hlk]; exact hkiw
        rw [stored_new hks] at q2
        refine fin _ q2 (by rw [List.map_append, keys_stored_old hlk]; exact hpiw.append_right [k]) (fun a j hj => ?_) (valueAt_snoc_self hks) (by rw [ec]; simpa using q3)
        have hjk : j ≠ k := fun e => hkc (e ▸ List.mem_of_getElem? hj)
        rw [valueAt_snoc_ne hjk]
        have hal : a < M.length - 1 := by
          obtain ⟨z, _⟩ := List.getElem?_eq_some_iff.mp hj
          omega
        rw [rrCut_get il hal] at hj
        split at hj
        · rename_i e
          rw [hlast] at hj
          rw [← Option.some.inj hj, valueAt_stored_self]
          exact ⟨tj, by rw [e]⟩
        · rename_i e
          have hjl : j ≠ M.getD (-1 + (M.length : Int)).toNat 0 := fun z => by
            have := get_inj hn (z ▸ hj) hlast
            omega
          rw [valueAt_stored_ne hjl]
          exact old a j e hj
section
local macro_rules | `(tactic| k_room) => `(tactic| ((try simp only [depth_under_make, depth_under_kw, depth_in1, depth_deeper, depth_caller]); (try dsimp only [arO]); omega))
local macro_rules | `(tactic| k_units) => `(tactic| ktr_units)
local macro_rules | `(tactic| walk_at "getAttr ref") => `(tactic| (k_here; k_dflt (refine' get_sm ?k1 ?k2 ?k3 ?k4 (findObj_nondata ?c1 ?c2 ?c3 ?c4 ?c5 ?c6) ?k5 ?k6 ?_; (case k1 => k_asm); (case k2 => k_asm); (case k3 => (refine' InstAt.of_news ?N9 ?h91 ?h92; (case N9 => k_asm); (case h91 => k_memK); (case h92 => k_memK))); (case k4 => k_is); (case c1 => k_is); (case c2 => k_is); (case c3 => k_is); (case c4 => k_is); (case c5 => k_get); (case c6 => decide +kernel); (case k5 => k_is); (case k6 => k_handed); k_whole)))
local macro_rules | `(tactic| walk_at "compareOp In int ref") => `(tactic| (k_here; k_dflt (first
  | refine kda_in (knd := PySem.intKind _ _) (by k_asm) (by k_mem) (by k_asm) (by k_asm) (intKind_is _ _ _ _) true (by assumption) ?_
  | refine kda_in (knd := PySem.intKind _ _) (by k_asm) (by k_mem) (by k_asm) (by k_asm) (intKind_is _ _ _ _) false (by assumption) ?_)))
local macro_rules | `(tactic| walk_at "compareOp NotIn int ref") => `(tactic| (k_here; k_dflt (first
  | refine kdg_notin (knd := PySem.intKind _ _) (by k_asm) (by k_mem) (by k_asm) (by k_asm) (intKind_is _ _ _ _) true (by assumption) ?_
  | refine kdg_notin (knd := PySem.intKind _ _) (by k_asm) (by k_mem) (by k_asm) (by k_asm) (intKind_is _ _ _ _) false (by assumption) ?_); (try dsimp only [Bool.not_true, Bool.not_false])))
local macro_rules | `(tactic| walk_at "subscriptTail") => `(tactic| (k_here; (with_reducible show wpAny _ _ (subscriptTail _ _ (Value.ref _) (Value.int _ _)) _ _ _); k_dflt (refine kdt_tail (knd := PySem.intKind _ _) (by k_asm) (by k_mem) (by assumption) ?_)))
local macro_rules | `(tactic| walk_at "getItem ref int") => `(tactic| (k_here; k_dflt (refine kdt_getItem (knd := PySem.intKind _ _) (by k_asm) (by k_mem) (by assumption) (intKind_is _ _ _ _) (by assumption) ?_)))
local macro_rules | `(tactic| walk_at "setItem ref int") => `(tactic| (k_here; k_dflt (refine' kda_set (knd := PySem.intKind _ _) ?F ?N ?U ?d (intKind_is _ _ _ _) ?z ?_; (case F => k_asm); (case N => k_asm); (case U => k_updF); (case d => assumption); (case z => (first | exact line100 (by assumption) | exact line100w (by assumption) | exact line100s (by assumption)))); intro h' o' F' N' hd'; (try dsimp only at N')))
local macro_rules | `(tactic| walk_at "delItem ref int") => `(tactic| (k_here; k_dflt (refine' dk_del (knd := PySem.intKind _ _) ?F ?N ?U ?d (intKind_is _ _ _ _) ?v ?z ?_; (case F => k_asm); (case N => k_asm); (case U => k_updF); (case d => assumption); (case v => assumption); (case z => (first | exact line100 (by assumption) | exact line100w (by assumption) | exact line100s (by assumption)))); intro h' o' F' N' hd'; (try dsimp only at N')))
local macro_rules | `(tactic| walk_at "call builtin:dict.pop") => `(tactic| (k_here; (with_reducible show wpAny _ _ (call (Value.builtin "dict.pop") [Value.ref _, Value.int _ _]) _ _ _); k_dflt (refine' dk_pop (knd := PySem.intKind _ _) ?F ?N ?U ?d (intKind_is _ _ _ _) rfl ?v ?z ?_; (case F => k_asm); (case N => k_asm); (case U => k_updF); (case d => assumption); (case v => assumption); (case z => (first | exact line100 (by assumption) | exact line100w (by assumption) | exact line100s (by assumption)))); intro h' o' F' N' hd'; (try dsimp only at N')))
local macro_rules | `(tactic| walk_at "subscriptTail Attribute") => `(tactic| (k_here; (with_reducible show wpAny _ _ (subscriptTail _ _ (Value.ref _) (Value.int _ _)) _ _ _); k_dflt (refine kdt_tail (knd := PySem.intKind _ _) (by k_asm) (by k_mem) (by assumption) ?_)))
local macro_rules | `(tactic| k_enter) => `(tactic| (refine' code_def ?k1 ?k2 ?k3 ?k4 ?k5 ?kA ?kF ?kK ?k6 ?k7 ?k8 ?k9 ?kB ?_ ?c2 ?c3 ?c4 ?c5; (case kA => exact rfl); (case kF => exact rfl); (case kK => first | exact rfl | assumption); (case k1 => k_asm); (case k2 => k_asm); (case k3 => k_asm); (case k4 => k_asm); (case k5 => k_asm); (case k6 => k_is); (case k7 => k_is); (case k8 => k_room); (case k9 => exact BindsTo.of_eq rfl); (case c5 => decide); (case kB => exact locs rfl); (case c2 => exact rfl); (case c3 => exact rfl); (case c4 => exact rfl); k_whole; intro g' L' h' FG' F' N' B' X' T'; (try dsimp only); (try k_lift B'); (try k_fold)))
local macro_rules | `(tactic| walk_at "call ref") => `(tactic| (k_here; k_dflt (refine wpAny_call ?_; k_enter)))
local macro_rules | `(tactic| walk_at "call ref") => `(tactic| (k_here; (with_reducible show wpAny _ _ (call (Value.ref 857) _) _ _ _); k_dflt (refine wpAny_call ?_; (refine' code_def ?k1 ?k2 ?k3 ?k4 ?k5 ?kA ?kF ?kK ?k6 ?k7 ?k8 ?k9 ?kB ?_ ?c2 ?c3 ?c4 ?c5; (case kA => exact rfl); (case kF => exact rfl); (case kK => first | exact rfl | assumption); (case k1 => k_asm); (case k2 => k_asm); (case k3 => k_asm); (case k4 => k_asm); (case k5 => k_asm); (case k6 => k_is); (case k7 => k_is); (case k8 => k_room); (case k9 => exact bind857 _ (by k_in) _ _ (by k_is)); (case c5 => decide); (case kB => exact locs rfl); (case c2 => exact rfl); (case c3 => exact rfl); (case c4 => exact rfl); k_whole; intro g' L' h' FG' F' N' B' X' T'; (try dsimp only); (try k_lift B'); (try k_fold)))))
local macro_rules | `(tactic| walk_at "call ref") => `(tactic| (k_here; (with_reducible show wpAny _ _ (call (Value.ref 865) _) _ _ _); k_dflt (refine wpAny_call ?_; (refine' code_def ?k1 ?k2 ?k3 ?k4 ?k5 ?kA ?kF ?kK ?k6 ?k7 ?k8 ?k9 ?kB ?_ ?c2 ?c3 ?c4 ?c5; (case kA => exact rfl); (case kF => exact rfl); (case kK => first | exact rfl | assumption); (case k1 => k_asm); (case k2 => k_asm); (case k3 => k_asm); (case k4 => k_asm); (case k5 => k_asm); (case k6 => k_is); (case k7 => k_is); (case k8 => k_room); (case k9 => exact bind865 _ (by k_in) _ _ _ (by k_is)); (case c5 => decide); (case kB => exact locs rfl); (case c2 => exact rfl); (case c3 => exact rfl); (case c4 => exact rfl); k_whole; intro g' L' h' FG' F' N' B' X' T'; (try dsimp only); (try k_lift B'); (try k_fold)))))
local macro_rules | `(tactic| walk_at "call ref") => `(tactic| (k_here; (with_reducible show wpAny _ _ (call (Value.ref 873) _) _ _ _); k_dflt (refine wpAny_call ?_; (refine' code_def ?k1 ?k2 ?k3 ?k4 ?k5 ?kA ?kF ?kK ?k6 ?k7 ?k8 ?k9 ?kB ?_ ?c2 ?c3 ?c4 ?c5; (case kA => exact rfl); (case kF => exact rfl); (case kK => first | exact rfl | assumption); (case k1 => k_asm); (case k2 => k_asm); (case k3 => k_asm); (case k4 => k_asm); (case k5 => k_asm); (case k6 => k_is); (case k7 => k_is); (case k8 => k_room); (case k9 => exact bind873 _ (by k_in) _ _ (by k_is)); (case c5 => decide); (case kB => exact locs rfl); (case c2 => exact rfl); (case c3 => exact rfl); (case c4 => exact rfl); k_whole; intro g' L' h' FG' F' N' B' X' T'; (try dsimp only); (try k_lift B'); (try k_fold)))))
local macro_rules | `(tactic| walk_at "call ref") => `(tactic| (k_here; (with_reducible show wpAny _ _ (call (Value.ref 930) _) _ _ _); k_dflt (refine wpAny_call ?_; (refine' code_def ?k1 ?k2 ?k3 ?k4 ?k5 ?kA ?kF ?kK ?k6 ?k7 ?k8 ?k9 ?kB ?_ ?c2 ?c3 ?c4 ?c5; (case kA => exact rfl); (case kF => exact rfl); (case kK => first | exact rfl | assumption); (case k1 => k_asm); (case k2 => k_asm); (case k3 => k_asm); (case k4 => k_asm); (case k5 => k_asm); (case k6 => k_is); (case k7 => k_is); (case k8 => k_room); (case k9 => exact bind930 _ (by k_in) _ _ _ (by k_is)); (case c5 => decide); (case kB => exact locs rfl); (case c2 => exact rfl); (case c3 => exact rfl); (case c4 => exact rfl); k_whole; intro g' L' h' FG' F' N' B' X' T'; (try dsimp only); (try k_lift B'); (try k_fold)))))
local macro_rules | `(tactic| walk_at "call ref") => `(tactic| (k_here; (with_reducible show wpAny _ _ (call (Value.ref 938) _) _ _ _); k_dflt (refine wpAny_call ?_; (refine' code_def ?k1 ?k2 ?k3 ?k4 ?k5 ?kA ?kF ?kK ?k6 ?k7 ?k8 ?k9 ?kB ?_ ?c2 ?c3 ?c4 ?c5; (case kA => exact rfl); (case kF => exact rfl); (case kK => first | exact rfl | assumption); (case k1 => k_asm); (case k2 => k_asm); (case k3 => k_asm); (case k4 => k_asm); (case k5 => k_asm); (case k6 => k_is); (case k7 => k_is); (case k8 => k_room); (case k9 => exact bind938 _ (by k_in) _ _ (by k_is)); (case c5 => decide); (case kB => exact locs rfl); (case c2 => exact rfl); (case c3 => exact rfl); (case c4 => exact rfl); k_whole; intro g' L' h' FG' F' N' B' X' T'; (try dsimp only); (try k_lift B'); (try k_fold)))))
local macro_rules | `(tactic| walk_at "call ref") => `(tactic| (k_here; (with_reducible show wpAny _ _ (call (Value.ref 714) _) _ _ _); k_dflt (refine wpAny_call ?_; (refine' code_def ?k1 ?k2 ?k3 ?k4 ?k5 ?kA ?kF ?kK ?k6 ?k7 ?k8 ?k9 ?kB ?_ ?c2 ?c3 ?c4 ?c5; (case kA => exact rfl); (case kF => exact rfl); (case kK => first | exact rfl | assumption); (case k1 => k_asm); (case k2 => k_asm); (case k3 => k_asm); (case k4 => k_asm); (case k5 => k_asm); (case k6 => k_is); (case k7 => k_is); (case k8 => k_room); (case k9 => exact bind714 _ (by k_in) _ _ _ (by k_is)); (case c5 => decide); (case kB => exact locs rfl); (case c2 => exact rfl); (case c3 => exact rfl); (case c4 => exact rfl); k_whole; intro g' L' h' FG' F' N' B' X' T'; (try dsimp only); (try k_lift B'); (try k_fold)))))
local macro_rules | `(tactic| walk_at "call ref") => `(tactic| (k_here; (with_reducible show wpAny _ _ (call (Value.ref 897) _) _ _ _); k_dflt (refine' call_cls ?k1 ?k2 ?k3 ?k4 ?k5 ?k6 ?_; (case k1 => k_asm); (case k2 => k_asm); (case k3 => k_asm); (case k4 => k_is); (case k5 => k_is); (case k6 => k_is); k_whole; intro x' d' h' F' N' l1 l2; (try k_lt l1); (try k_lt2 l2); (try k_sweep); (refine' code_def ?k1 ?k2 ?k3 ?k4 ?k5 ?kA ?kF ?kK ?k6 ?k7 ?k8 ?k9 ?kB ?_ ?c2 ?c3 ?c4 ?c5; (case kA => exact rfl); (case kF => exact rfl); (case kK => first | exact rfl | assumption); (case k1 => k_asm); (case k2 => k_asm); (case k3 => k_asm); (case k4 => k_asm); (case k5 => k_asm); (case k6 => k_is); (case k7 => k_is); (case k8 => k_room); (case k9 => exact bind849 _ (by k_in) _ _ (by k_is)); (case c5 => decide); (case kB => exact locs rfl); (case c2 => exact rfl); (case c3 => exact rfl); (case c4 => exact rfl); k_whole; intro g' L' h' FG' F' N' B' X' T'; (try dsimp only); (try k_lift B'); (try k_fold)))))
local macro_rules | `(tactic| walk_at "call ref") => `(tactic| (k_here; (with_reducible show wpAny _ _ (call (Value.ref 955) _) _ _ _); k_dflt (refine' call_cls ?k1 ?k2 ?k3 ?k4 ?k5 ?k6 ?_; (case k1 => k_asm); (case k2 => k_asm); (case k3 => k_asm); (case k4 => k_is); (case k5 => k_is); (case k6 => k_is); k_whole; intro x' d' h' F' N' l1 l2; (try k_lt l1); (try k_lt2 l2); (try k_sweep); (refine' code_def ?k1 ?k2 ?k3 ?k4 ?k5 ?kA ?kF ?kK ?k6 ?k7 ?k8 ?k9 ?kB ?_ ?c2 ?c3 ?c4 ?c5; (case kA => exact rfl); (case kF => exact rfl); (case kK => first | exact rfl | assumption); (case k1 => k_asm); (case k2 => k_asm); (case k3 => k_asm); (case k4 => k_asm); (case k5 => k_asm); (case k6 => k_is); (case k7 => k_is); (case k8 => k_room); (case k9 => exact bind914 _ (by k_in) _ _ _ (by k_is)); (case c5 => decide); (case kB => exact locs rfl); (case c2 => exact rfl); (case c3 => exact rfl); (case c4 => exact rfl); k_whole; intro g' L' h' FG' F' N' B' X' T'; (try dsimp only); (try k_lift B'); (try k_fold)))))
local macro_rules | `(tactic| cell_enter) => `(tactic| (refine' call_F ?k1 ?k2 ?k3 ?k4 ?kD ?k6 ?k7 ?k8 ?k9 ?kB ?_ ?c2 ?c3 ?c4 ?c5; (case k1 => with_reducible assumption); (case k2 => with_reducible assumption); (case k3 => with_reducible assumption); (case k4 => with_reducible assumption); (case kD => with_reducible assumption); (case k6 => k_is); (case k7 => k_is); (case k8 => omega); (case k9 => first | exact bind794 _ (Frag.In.keeps (by with_reducible assumption) (fun _ _ e => of_hideAll _ e)) _ _ _ (by k_is) | exact BindsTo.of_eq rfl); (case c5 => decide); (case kB => exact locs rfl); (case c2 => exact rfl); (case c3 => exact rfl); (case c4 => exact rfl); k_whole; intro g' L' h' F' N' B' X' T' D' TT'; (try dsimp only); (try k_fold)))
local macro_rules | `(tactic| walk_at "WhlIf") => `(tactic| first | (refine WhlIf.no (decide_eq_false (by omega)) ?_) | (refine WhlIf.yes (decide_eq_true (by omega)) ?_))
local macro_rules | `(tactic| walk_at "call builtin:dict.pop") => `(tactic| (k_here; (with_reducible show wpAny _ _ (call (Value.builtin "dict.pop") [Value.ref _, Value.int _ _]) _ _ _); k_dflt (refine' dk_pop_missing (knd := PySem.intKind _ _) rfl ?N ?M ?d ?lo (intKind_is _ _ _ _) rfl ?v ?_; (case N => k_asm); (case M => k_mem); (case d => assumption); (case lo => assumption); (case v => assumption)); intro h' e' x'))
local macro_rules | `(tactic| walk_at "getAttr ref") => `(tactic| (k_here; k_dflt (refine' get_cls ?k1 ?k2 ?k3 ?k4 ?k5 ?k6 ?k7 ?k8 ?k9 ?k10 ?_; (case k1 => k_asm); (case k2 => k_asm); (case k3 => (refine' InstAt.of_news ?N9 ?h91 ?h92; (case N9 => k_asm); (case h91 => k_memK); (case h92 => k_memK))); (case k4 => k_is); (case k5 => k_is); (case k6 => k_is); (case k7 => k_is); (case k8 => k_handed); (case k9 => decide +kernel); (case k10 => k_get); k_whole)))
local macro_rules | `(tactic| walk_at "getAttr ref") => `(tactic| (k_here; k_dflt (refine' get_own ?k1 ?k2 ?k3 ?k4 ?k5 ?k6 ?k7 ?k8 ?k9 ?_; (case k1 => k_asm); (case k2 => k_asm); (case k3 => (refine' InstAt.of_news ?N9 ?h91 ?h92; (case N9 => k_asm); (case h91 => k_memK); (case h92 => k_memK))); (case k4 => k_is); (case k5 => k_is); (case k6 => k_is); (case k7 => k_is); (case k8 => k_get); (case k9 => k_handed); k_whole)))
local macro_rules | `(tactic| walk_at "getAttr ref") => `(tactic| (k_here; (with_reducible show wpAny _ _ (getAttr (Value.ref 830) _ _) _ _ _); k_dflt (refine' cls_val ?k1 ?k2 ?k3 ?k4 ?k5 ?k6 ?_; (case k1 => k_asm); (case k2 => k_asm); (case k3 => k_is); (case k4 => k_is); (case k5 => k_is); (case k6 => k_handed); k_whole)))
local macro_rules | `(tactic| walk_at "delItem ref int") => `(tactic| (k_here; (with_reducible show wpAny _ _ (delItem (Value.ref _) _) _ _ _); k_dflt (refine' inst_delItem ?F ?X ?I ?hQ ?hS ?hF ?_; (case I => (refine' InstAt.of_news ?N9 ?h91 ?h92; (case N9 => k_asm); (case h91 => k_memK); (case h92 => k_memK))); (case F => k_asm); (case X => k_asm); (case hS => k_is); (case hF => k_is); (case hQ => k_is); k_whole)))
local macro_rules | `(tactic| walk_at "setItem ref") => `(tactic| (k_here; (with_reducible show wpAny _ _ (setItem (Value.ref _) _ _) _ _ _); k_dflt (refine' ksp_setItem ?F ?X ?I ?hQ ?hS ?hF ?_; (case F => k_asm); (case X => k_asm); (case I => (refine' InstAt.of_news ?N9 ?h91 ?h92; (case N9 => k_asm); (case h91 => k_memK); (case h92 => k_memK))); (case hS => k_is); (case hF => k_is); (case hQ => k_is); k_whole)))
local macro_rules | `(tactic| walk_at "getMethod ref") => `(tactic| (k_here; k_dflt (refine' method_inst ?k1 ?k2 ?k3 ?k4 ?k5 ?k6 ?k7 ?_; (case k3 => (refine' InstAt.of_news ?N9 ?h91 ?h92; (case N9 => k_asm); (case h91 => k_memK); (case h92 => k_memK))); (case k1 => k_asm); (case k2 => k_asm); (case k4 => k_is); (case k5 => k_is); (case k6 => k_is); (case k7 => k_get); k_whole)))
local macro_rules | `(tactic| walk_at "compareOp In") => `(tactic| (k_here; (with_reducible show wpAny _ _ (compareOp CmpOp.In _ (Value.ref _)) _ _ _); k_dflt (refine' in_K ?k1 ?k2 ?k3 ?k4 ?k5 ?_; (case k3 => (refine' InstAt.of_news ?N9 ?h91 ?h92; (case N9 => k_asm); (case h91 => k_memK); (case h92 => k_memK))); (case k1 => k_asm); (case k2 => k_asm); (case k4 => k_is); (case k5 => k_is); k_whole)))
local macro_rules | `(tactic| walk_at "last exec While") => `(tactic| (k_here; k_dflt (refine whl_start 2 ?_)))
local macro_rules | `(tactic| walk_at "exec While") => `(tactic| (k_here; k_dflt (refine whl_start 2 ?_)))
local macro_rules | `(tactic| k_in) => `(tactic| first | with_reducible assumption | exact Frag.In.keeps (by with_reducible assumption) (Fr.keep (by with_reducible assumption)))
local macro_rules | `(tactic| walk_at "callWith ref") => `(tactic| (k_here; (with_reducible show wpAny _ _ (callWith _ (Value.ref _) _ (backTo _ (starEach (_ :: _) _)) []) _ _ _); k_dflt (refine' callWith_K ?k1 ?k2 ?_; (case k1 => with_reducible assumption); (case k2 => k_is); k_whole)))
local macro_rules | `(tactic| walk_at "callWith ref") => `(tactic| (k_here; (with_reducible show wpAny _ _ (callWith _ (Value.ref _) _ (backTo _ (starEach [] _)) []) _ _ _); k_dflt (refine' callWith_K0 ?k1 ?k2 ?_; (case k1 => k_in); (case k2 => k_is); k_whole)))
local macro_rules | `(tactic| walk_at "getMethod ref") => `(tactic| (k_here; (with_reducible show wpAny _ _ (getMethod (Value.ref 830) _ _) _ _ _); k_dflt (refine' method_of_cls ?k1 ?k2 ?k3 ?_; (case k1 => k_asm); (case k2 => k_asm); (case k3 => k_is); k_whole)))
local macro_rules | `(tactic| walk_at "setItem ref int") => `(tactic| (k_here; (with_reducible show wpAny _ _ (setItem (Value.ref _) _ _) _ _ _); k_dflt (refine' ksp_setItem ?F ?X ?I ?hQ ?hS ?hF ?_; (case F => k_asm); (case X => k_asm); (case I => (refine' InstAt.of_news ?N9 ?h91 ?h92; (case N9 => k_asm); (case h91 => k_memK); (case h92 => k_memK))); (case hS => k_is); (case hF => k_is); (case hQ => k_is); k_whole)))
local macro_rules | `(tactic| cell_call) => `(tactic| (refine' call_P ?k1 ?k2 ?k3 ?k4 ?k6 ?k7 ?k8 ?k9 ?kB ?_ ?c2 ?c3 ?c4 ?c5; (case k1 => with_reducible assumption); (case k2 => with_reducible assumption); (case k3 => with_reducible assumption); (case k4 => with_reducible assumption); (case k6 => k_is); (case k7 => k_is); (case k8 => omega); (case k9 => first | exact bind794 _ (Frag.In.keeps (by with_reducible assumption) (fun _ _ e => of_hideAll _ e)) _ _ _ (by k_is) | exact BindsTo.of_eq rfl); (case c5 => decide); (case kB => exact locs rfl); (case c2 => exact rfl); (case c3 => exact rfl); (case c4 => exact rfl); k_whole; intro g' L' h' F' N' B' X' T' TT'; (try dsimp only); (try k_fold)))
local macro_rules | `(tactic| walk_at "subscriptTail") => `(tactic| (k_here; (with_reducible show wpAny _ _ (subscriptTail _ _ (Value.ref _) (Value.int _ _)) _ _ _); k_dflt (refine' item_list_ints_negR ?l9 ?i9 ?a9 ?b9 ?c9 ?_; (case l9 => exact News.isList (by k_asm) (by k_memK)); (case i9 => with_reducible assumption); (case a9 => omega); (case b9 => omega); (case c9 => omega)); intro _))
local macro_rules | `(tactic| walk_at "call builtin:list.pop") => `(tactic| (k_here; (with_reducible show wpAny _ _ (call (Value.builtin _) [Value.ref _]) _ _ _); k_dflt (refine' kpa_pop ?F ?N ?U ?i ?l ?z ?_; (case F => k_asm); (case N => k_asm); (case U => k_upd); (case i => with_reducible assumption); (case l => ((try simp only [List.length_set]); omega)); (case z => (rw [PySem.sizeLine_eq]; (try simp only [List.length_set]); omega))); (intro h' t' F' N' hI'; (try dsimp only [List.nil_append, List.cons_append] at N'))))
local macro_rules | `(tactic| walk_at "call builtin:len") => `(tactic| (k_here; (with_reducible show wpAny _ _ (call (Value.builtin _) [Value.ref _]) _ _ _); k_dflt (refine' len_intsN ?N ?m ?i ?z ?_; (case N => k_asm); (case m => k_memK); (case i => with_reducible assumption); (case z => ((try simp only [List.length_dropLast, List.length_set, List.length_append, List.length_cons, List.length_nil]); omega)))))
local macro_rules | `(tactic| walk_at "call builtin:list.append") => `(tactic| (k_here; (with_reducible show wpAny _ _ (call (Value.builtin _) [Value.ref _, Value.int _ _]) _ _ _); k_dflt (refine' append_ints ?k1 ?k2 ?k3 ?i ?z ?_; (case k1 => k_asm); (case k2 => k_asm); (case k3 => k_upd); (case i => with_reducible assumption); (case z => ((try simp only [List.length_dropLast, List.length_set, List.length_append, List.length_cons, List.length_nil]); omega)); k_whole); intro h' F' N' hI'; (try k_sweep)))
local macro_rules | `(tactic| walk_at "getMethod ref") => `(tactic| (k_here; (with_reducible show wpAny _ _ (getMethod (Value.ref _) (Str.ofString "_RRCache__choice") _) _ _ _); k_dflt (refine' kmu_own ?k1 ?k2 ?k3 ?k4 ?k5 ?_; (case k1 => k_asm); (case k2 => k_asm); (case k3 => (refine' InstAt.of_news ?N9 ?h91 ?h92; (case N9 => k_asm); (case h91 => k_memK); (case h92 => k_memK))); (case k4 => k_is); (case k5 => k_is); k_whole)))
local macro_rules | `(tactic| walk_at "callWith ref") => `(tactic| (k_here; k_dflt (refine' callWith_F ?k1 ?_; (case k1 => exact FnAt.of (by k_asm) (by k_memK)); k_whole)))
local macro_rules | `(tactic| walk_at "And") => `(tactic| ((with_reducible show FnAt _ _ ∧ _); k_dflt (refine ⟨FnAt.of (by k_asm) (by k_memK), ?_⟩); (try dsimp only [List.nil_append, List.cons_append])))
local macro_rules | `(tactic| k_all) => `(tactic| first | with_reducible assumption | exact List.forall_mem_nil _ | (refine List.forall_mem_cons.mpr ⟨by k_ne, ?_⟩; k_all))
local macro_rules | `(tactic| walk_at "compareOp NotIn int ref") => `(tactic| (k_here; k_dflt (refine kdg_notin (knd := PySem.intKind _ _) (by k_asm) (by k_memK) (by k_asm) (by k_asm) (intKind_is _ _ _ _) false (by first | assumption | exact stored_none (by assumption) (by assumption)) ?_); (try dsimp only [Bool.not_true, Bool.not_false])))
local macro_rules | `(tactic| walk_at "eval Name") => `(tactic| (k_here; k_dflt (refine' nameX_L ?F ?v ?_ ?a ?b; (case F => k_asm); (case a => rfl); (case b => rfl); (case v => first | rfl | assumption); k_whole)))
local macro_rules | `(tactic| walk_at "call builtin:list.index") => `(tactic| (k_here; (with_reducible show wpAny _ _ (call (Value.builtin _) [Value.ref _, Value.int _ _]) _ _ _); k_dflt (refine' index_ints ?N ?m ?i ?k ?z ?_; (case N => k_asm); (case m => k_memK); (case i => with_reducible assumption); (case k => with_reducible assumption); (case z => ((try simp only [List.length_map]); omega)); k_whole); intro hidx9; (try simp only [List.length_map] at hidx9)))
local macro_rules | `(tactic| walk_at "subscriptTail") => `(tactic| (k_here; (with_reducible show wpAny _ _ (subscriptTail _ _ (Value.ref _) (Value.int _ _)) _ _ _); k_dflt (refine' item_anyK ?l9 ?i9 ?a9 ?b9 ?c9 ?_; (case l9 => exact News.isList (by k_asm) (by k_memK)); (case i9 => with_reducible assumption); (case a9 => omega); (case b9 => omega); (case c9 => omega)); intro _))
section
local macro_rules | `(tactic| walk_at "call builtin:len") => `(tactic| (k_here; (with_reducible show wpAny _ _ (call (Value.builtin "len") [Value.ref _]) _ _ _); k_dflt (refine' kda_len (knd := PySem.intKind _ _) ?N ?m ?d ?lo ?z ?_; (case N => k_asm); (case m => k_memK); (case d => with_reducible assumption); (case lo => with_reducible assumption); (case z => omega))))
set_option maxHeartbeats 16000000 in
theorem next1 (w : World) (st sc : Nat) (t0 tl : Tok) (c lim : Int) (n m : Nat) (sv : List Value) (ss : List Int) (hss : IntsAre sv ss) (hc : 0 ≤ c) (hc2 : c ≤ 100) (hz : ss.length ≤ 60) (hl : 0 < lim) (ne1 : @Ne Nat st sc) :
   ContractP 8 PySem.Challenge.rw_fc0035_01.row.prog w (tjCSoBpQsPZBkyzz.heap_39 w.params) 964 [.ref st, .int lim tl] [(st, listOf #[.ref sc, .int c t0] n), (sc, listOf sv.toArray m)]
     fun a E' => ∃ v t t' n', a = .int v t ∧ 0 ≤ v ∧ v < lim ∧ E' = [(st, listOf #[.ref sc, .int (c + 1) t'] n'), (sc, listOf sv.toArray m)] := by
  unfold ContractP
  intro dp un gd outer base s p9 loose mean mg mb R hdp hun B NE X T hret
  k_dflt cell_call
  repeat' (first | (k_unfold; (try dsimp only)) | ((first | fail_if_success k_end | with_reducible show LeaveK _ _ _ _ _ _ _); (first | walk1 | (dsimp only; walk1) | (leave1; try dsimp only) | fail "no step")))
  all_goals (dsimp only; repeat (k_unfold; dsimp only))
  · refine' end_P hret ?zg ?zF ?zN ⟨0, _, _, _, rfl, Int.le_refl _, hl, rfl⟩
    case zg => assumption
    case zF => assumption
    case zN => assumption
  · refine' end_P hret ?zg ?zF ?zN ⟨_, _, _, _, rfl, Int.fmod_nonneg_of_pos _ hl, Int.fmod_lt_of_pos _ hl, rfl⟩
    case zg => assumption
    case zF => assumption
    case zN => assumption
set_option maxHeartbeats 16000000 in
theorem when1 (w : World) (rs : Nat) (tl : Tok) (k : Int) (n : Nat) (rv : List Value) (rl : List Int) (hrl : IntsAre rv rl) (hz : rl.length ≤ 60) :
   ContractP 8 PySem.Challenge.rw_fc0035_01.row.prog w (tjCSoBpQsPZBkyzz.heap_39 w.params) 971 [.ref rs, .int k tl] [(rs, listOf rv.toArray n)]
     fun a E' => (∃ t, a = .int (rl.idxOf k : Nat) t) ∧ E' = [(rs, listOf rv.toArray n)] := by
  unfold ContractP
  intro dp un gd outer base s p9 loose mean mg mb R hdp hun B NE X T hret
  k_dflt cell_call
  repeat' ((fail_if_success (with_reducible show wpAny _ _ (compareOp CmpOp.In _ _) _ _ _)); first | (k_unfold; (try dsimp only)) | ((first | fail_if_success k_end | with_reducible show LeaveK _ _ _ _ _ _ _); (first | walk1 | (dsimp only; walk1) | (leave1; try dsimp only) | fail "no step")))
  rename News _ _ _ _ => N1
  by_cases hk : k ∈ rl
  · refine kf_in (b := true) N1 (.head _) (kf_ints_of hrl) (by show rv.any (isInt k) = true; rw [any_ints hrl]; simpa using hk) ?_
    repeat' ((fail_if_success (with_reducible show wpAny _ _ (call (Value.builtin "list.index") _) _ _ _)); first | (k_unfold; (try dsimp only)) | ((first | fail_if_success k_end | with_reducible show LeaveK _ _ _ _ _ _ _); (first | walk1 | (dsimp only; walk1) | (leave1; try dsimp only) | fail "no step")))
    rename News _ _ _ _ => N2
    refine index_ints N2 (.head _) hrl hk (by omega) ?_
    intro _
    repeat' (first | (k_unfold; (try dsimp only)) | ((first | fail_if_success k_end | with_reducible show LeaveK _ _ _ _ _ _ _); (first | walk1 | (dsimp only; walk1) | (leave1; try dsimp only) | fail "no step")))
    try dsimp only
    repeat (k_unfold; dsimp only)
    refine' end_P hret ?zg ?zF ?zN ⟨⟨_, rfl⟩, rfl⟩
    case zg => assumption
    case zF => assumption
    case zN => assumption
  · refine kf_in (b := false) N1 (.head _) (kf_ints_of hrl) (by show rv.any (isInt k) = false; rw [any_ints hrl]; simpa using hk) ?_
    repeat' (first | (k_unfold; (try dsimp only)) | ((first | fail_if_success k_end | with_reducible show LeaveK _ _ _ _ _ _ _); (first | walk1 | (dsimp only; walk1) | (leave1; try dsimp only) | fail "no step")))
    try dsimp only
    repeat (k_unfold; dsimp only)
    refine' end_P hret ?zg ?zF ?zN ⟨⟨_, ?zv⟩, rfl⟩
    case zg => assumption
    case zF => assumption
    case zN => assumption
    case zv => rw [List.idxOf_eq_length hk]
end
section
local macro_rules | `(tactic| walk_at "eval Name") => `(tactic| (k_here; k_dflt (refine' nameX_F ?N ?c ?m ?d ?_ ?a ?b; (case a => rfl); (case b => rfl); (case N => with_reducible assumption); (case c => rfl); (case m => k_memK); (case d => with_reducible assumption); k_whole)))
local macro_rules | `(tactic| walk_at "none0") => `(tactic| fail)
def aheadStmt : Option Stmt := PySem.Challenge.rw_fc0035_01.row.prog.main.body.reverse[5]?
def aheadBody : List Stmt := match aheadStmt with | some (.FunctionDef _ _ b _ _ _ _ _ _ _) => b | _ => []
def chosenStmt : Option Stmt := aheadBody[0]?
def chosenBody : List Stmt := match chosenStmt with | some (.FunctionDef _ _ b _ _ _ _ _ _ _) => b | _ => []
def chosenArgs : Arguments := match chosenStmt with | some (.FunctionDef _ a _ _ _ _ _ _ _ _) => a | _ => ⟨[], [], none, [], [], none, []⟩
def chosenScope : Scope := match chosenStmt with | some (.FunctionDef _ _ _ _ _ _ sc _ _ _) => sc | _ => default
/-- the first of the keys with the greatest rank -/
def pickStep (rank : Int → Nat) (a k : Int) : Int := if rank k > rank a then k else a
theorem pick_mem {rank : Int → Nat} : ∀ (ks : List Int) (a : Int), ks.foldl (pickStep rank) a = a ∨ ks.foldl (pickStep rank) a ∈ ks
  | [], a => .inl rfl
  | k :: ks, a => by
    rw [List.foldl_cons]
    rcases pick_mem (rank := rank) ks (pickStep rank a k) with h | h
    · rw [h]
      unfold pickStep
      split
      · exact .inr (.head _)
      · exact .inl rfl
    · exact .inr (.tail _ h)
theorem pick_max {rank : Int → Nat} : ∀ (ks : List Int) (a : Int), rank a ≤ rank (ks.foldl (pickStep rank) a) ∧ ∀ j ∈ ks, rank j ≤ rank (ks.foldl (pickStep rank) a)
  | [], a => ⟨Nat.le_refl _, fun j h => nomatch h⟩
  | k :: ks, a => by
    rw [List.foldl_cons]
    obtain ⟨h1, h2⟩ := pick_max (rank := rank) ks (pickStep rank a k)
    have h3 : rank a ≤ rank (pickStep rank a k) ∧ rank k ≤ rank (pickStep rank a k) := by
      unfold pickStep
      split <;> omega
    refine ⟨by omega, fun j hj => ?_⟩
    rcases List.mem_cons.mp hj with rfl | hj
    · omega
    · exact h2 j hj
set_option maxHeartbeats 16000000 in
theorem chosen1 (w : World) (qual : Str) {fa kk rs cr c' : Nat} {vs rv : List Value} {ks rl : List Int} {nl rn : Nat} {o2 oc : Obj} {cvs : Array Value} {t9 : Tok} {doc pm ctv : Value}
   (hks : IntsAre vs ks) (hrl : IntsAre rv rl) (hz : rl.length ≤ 60) (hk1 : 1 ≤ ks.length) (hk4 : ks.length ≤ 4)
   (d2 : o2.data = .cell (some (.ref rs))) (hd : oc.data = .fields cvs) (hv : cvs[1]? = some (.str qual t9))
   (ne1 : @Ne Nat kk fa) (ne2 : @Ne Nat kk c') (ne3 : @Ne Nat kk cr) (ne4 : @Ne Nat kk rs) (ne5 : @Ne Nat fa rs) (ne6 : @Ne Nat c' rs) (ne7 : @Ne Nat cr rs) :
   ContractP 10 PySem.Challenge.rw_fc0035_01.row.prog w (tjCSoBpQsPZBkyzz.heap_39 w.params) fa [.ref kk] [(kk, listOf vs.toArray nl), (fa, fnMade (Str.ofString "chosen") qual chosenArgs chosenBody chosenScope [(Str.ofString "rest", cr)] doc pm c' ctv), (c', oc), (cr, o2), (rs, listOf rv.toArray rn)]
     fun a E' => (∃ t, a = .int (ks.foldl (pickStep fun j => rl.idxOf j) (ks.getD 0 0)) t) ∧ E' = [(kk, listOf vs.toArray nl), (fa, fnMade (Str.ofString "chosen") qual chosenArgs chosenBody chosenScope [(Str.ofString "rest", cr)] doc pm c' ctv), (c', oc), (cr, o2), (rs, listOf rv.toArray rn)] := by
  unfold ContractP
  intro dp un gd outer base s p9 loose mean mg mb R hdp hun B NE X T hret
  k_dflt (refine' call_PX ?k1 ?k2 ?k3 ?k4 (List.Mem.tail _ (.head _)) (List.Mem.tail _ (.tail _ (.head _))) hd hv ?k8 ?k9 ?kB ?_ ?c2 ?c3 ?c4 ?c5; (case k1 => with_reducible assumption); (case k2 => with_reducible assumption); (case k3 => with_reducible assumption); (case k4 => with_reducible assumption); (case k8 => omega); (case k9 => exact BindsTo.of_eq rfl); (case c5 => decide); (case kB => exact locs rfl); (case c2 => exact rfl); (case c3 => exact rfl); (case c4 => exact rfl); k_whole; intro g' L' h' F' N' B' X' T' TT'; (try dsimp only); (try k_fold))
  conv in (occs := *) chosenScope => all_goals whnf
  conv in (occs := *) chosenBody => all_goals whnf
  repeat' ((fail_if_success (with_reducible show wpAny _ _ (subscriptTail _ _ _ _) _ _ _)); first | (k_unfold; (try dsimp only)) | ((first | fail_if_success k_end | with_reducible show LeaveK _ _ _ _ _ _ _); (first | walk1 | (dsimp only; walk1) | (leave1; try dsimp only) | fail "no step")))
  k_dflt (refine' item_anyK (News.isList N' (.head _)) hks ?a9 ?b9 ?c9 ?_; (case a9 => omega); (case b9 => omega); (case c9 => omega))
  intro t7
  repeat' ((fail_if_success (with_reducible show wpAny _ _ (exec (PySem.Stmt.For _ _ _ _ _) _) _ _ _)); first | (k_unfold; (try dsimp only)) | ((first | fail_if_success k_end | with_reducible show LeaveK _ _ _ _ _ _ _); (first | walk1 | (dsimp only; walk1) | (leave1; try dsimp only) | fail "no step")))
  rename Fr _ _ _ _ => F9
  rename News _ _ _ _ => N9
  with_unfolding_all refine' For_invVF F9 ?k1 ?k2 ?_
  case k1 => exact rfl
  case k2 => exact rfl
  k_dflt (refine' nameX_L F9 ?v ?_ ?a ?b; (case a => rfl); (case b => rfl); (case v => with_unfolding_all exact rfl))
  refine' kst_listL (σ := Int × Tok) (nn := nl) (fun _ => [(kk, listOf vs.toArray nl), (fa, fnMade (Str.ofString "chosen") qual chosenArgs chosenBody chosenScope [(Str.ofString "rest", cr)] doc pm c' ctv), (c', oc), (cr, o2), (rs, listOf rv.toArray rn)]) (fun c => [(Str.ofString "latest", .int c.1 c.2)]) (fun _ => True) [] (fun pre c => c.1 = pre.foldl (pickStep fun j => rl.idxOf j) (ks.getD 0 0)) (_, t7) rfl ?hl hks F9 N9 trivial ?hk rfl ?turn ?done
  case hl => exact fun _ => .head _
  case hk =>
    intro q hq
    rw [List.mem_singleton.mp hq]
    exact if_pos rfl
  case turn =>
    intro c pre post n t u h tk own hpre hmem hoff hf hp F' N'
    simp only [List.cons_append, List.nil_append] at N'
    have hrs : ∀ q ∈ own, q.1 ≠ rs := fun q hq => hoff q hq rs (by simp)
    have F6 : Fr g' L' h _ := F'
    clear F'
    repeat' ((fail_if_success (with_reducible show wpAny _ _ (call (Value.ref 971) _) _ _ _)); first | (k_unfold; (try dsimp only)) | ((first | fail_if_success k_end | with_reducible show LeaveK _ _ _ _ _ _ _); (first | walk1 | (dsimp only; walk1) | (leave1; try dsimp only) | fail "no step")))
    refine ⟨Frag.In.keeps X' (Fr.keep (by with_reducible assumption)), ?_⟩
    rename News _ _ _ _ => NN
    rename Fr _ _ _ _ => FF
    refine' use_contractP (when1 w rs _ _ rn rv rl hrl hz) rfl B' FF X' NN T' rfl rfl ?d ?u ([(kk, listOf vs.toArray nl), (fa, fnMade (Str.ofString "chosen") qual chosenArgs chosenBody chosenScope [(Str.ofString "rest", cr)] doc pm c' ctv), (c', oc), (cr, o2)] ++ own) ?E ?K ?ne ?_
    case d => show dp + 1 + 8 < recursionLimit; omega
    case u => show un + 3 + 10 * 8 < cLine; omega
    case E => exact fun q hq => by rw [List.mem_singleton.mp hq]; k_mem
    case K =>
      intro q hq
      rcases List.mem_append.mp hq with h | h
      · exact List.mem_append_left [(rs, listOf rv.toArray rn)] h |> fun z => (by
          rcases List.mem_append.mp z with z | z
          · exact List.mem_append_left ((rs, listOf rv.toArray rn) :: own) z
          · rw [List.mem_singleton.mp z]; k_mem)
      · exact List.mem_append_right [(kk, listOf vs.toArray nl), (fa, fnMade (Str.ofString "chosen") qual chosenArgs chosenBody chosenScope [(Str.ofString "rest", cr)] doc pm c' ctv), (c', oc), (cr, o2), (rs, listOf rv.toArray rn)] h
    case ne =>
      intro q hq r hr
      rw [List.mem_singleton.mp hr]
      rcases List.mem_append.mp hq with hq | hq
      · simp only [List.mem_cons, List.not_mem_nil, or_false] at hq
        rcases hq with rfl | rfl | rfl | rfl <;> assumption
      · exact hrs q hq
    intro v' E9 h' tk' F7 N7 ne7 hp7
    obtain ⟨⟨t8, rfl⟩, rfl⟩ := hp7
    have N8 : News g' L' h' ((kk, listOf vs.toArray nl) :: (fa, fnMade (Str.ofString "chosen") qual chosenArgs chosenBody chosenScope [(Str.ofString "rest", cr)] doc pm c' ctv) :: (c', oc) :: (cr, o2) :: (rs, listOf rv.toArray rn) :: own) := fun q hq => N7 q (by
      rcases List.mem_append.mp (show q ∈ [(kk, listOf vs.toArray nl), (fa, fnMade (Str.ofString "chosen") qual chosenArgs chosenBody chosenScope [(Str.ofString "rest", cr)] doc pm c' ctv), (c', oc), (cr, o2)] ++ ([(rs, listOf rv.toArray rn)] ++ own) from hq) with h | h
      · exact List.mem_append_left _ (List.mem_append_left own h)
      · rcases List.mem_append.mp h with h | h
        · exact List.mem_append_right _ h
        · exact List.mem_append_left _ (List.mem_append_right [(kk, listOf vs.toArray nl), (fa, fnMade (Str.ofString "chosen") qual chosenArgs chosenBody chosenScope [(Str.ofString "rest", cr)] doc pm c' ctv), (c', oc), (cr, o2)] h))
    clear N7 NN FF ne7
    repeat' ((fail_if_success (with_reducible show wpAny _ _ (call (Value.ref 971) _) _ _ _)); first | (k_unfold; (try dsimp only)) | ((first | fail_if_success k_end | with_reducible show LeaveK _ _ _ _ _ _ _); (first | walk1 | (dsimp only; walk1) | (leave1; try dsimp only) | fail "no step")))
    refine ⟨Frag.In.keeps X' (Fr.keep (by with_reducible assumption)), ?_⟩
    rename News _ _ _ _ => NN
    rename Fr _ _ _ _ => FF
    refine' use_contractP (when1 w rs _ _ rn rv rl hrl hz) rfl B' FF X' NN T' rfl rfl ?d ?u ([(kk, listOf vs.toArray nl), (fa, fnMade (Str.ofString "chosen") qual chosenArgs chosenBody chosenScope [(Str.ofString "rest", cr)] doc pm c' ctv), (c', oc), (cr, o2)] ++ own) ?E ?K ?ne ?_
    case d => show dp + 1 + 8 < recursionLimit; omega
    case u => show un + 3 + 10 * 8 < cLine; omega
    case E => exact fun q hq => by rw [List.mem_singleton.mp hq]; k_mem
    case K =>
      intro q hq
      rcases List.mem_append.mp hq with h | h
      · exact List.mem_append_left [(rs, listOf rv.toArray rn)] h |> fun z => (by
          rcases List.mem_append.mp z with z | z
          · exact List.mem_append_left ((rs, listOf rv.toArray rn) :: own) z
          · rw [List.mem_singleton.mp z]; k_mem)
      · exact List.mem_append_right [(kk, listOf vs.toArray nl), (fa, fnMade (Str.ofString "chosen") qual chosenArgs chosenBody chosenScope [(Str.ofString "rest", cr)] doc pm c' ctv), (c', oc), (cr, o2), (rs, listOf rv.toArray rn)] h
    case ne =>
      intro q hq r hr
      rw [List.mem_singleton.mp hr]
      rcases List.mem_append.mp hq with hq | hq
      · simp only [List.mem_cons, List.not_mem_nil, or_false] at hq
        rcases hq with rfl | rfl | rfl | rfl <;> assumption
      · exact hrs q hq
    intro v' E9 h' tk' F7 N7 ne7 hp7
    obtain ⟨⟨t8, rfl⟩, rfl⟩ := hp7
    have N8 : News g' L' h' ((kk, listOf vs.toArray nl) :: (fa, fnMade (Str.ofString "chosen") qual chosenArgs chosenBody chosenScope [(Str.ofString "rest", cr)] doc pm c' ctv) :: (c', oc) :: (cr, o2) :: (rs, listOf rv.toArray rn) :: own) := fun q hq => N7 q (by
      rcases List.mem_append.mp (show q ∈ [(kk, listOf vs.toArray nl), (fa, fnMade (Str.ofString "chosen") qual chosenArgs chosenBody chosenScope [(Str.ofString "rest", cr)] doc pm c' ctv), (c', oc), (cr, o2)] ++ ([(rs, listOf rv.toArray rn)] ++ own) from hq) with h | h
      · exact List.mem_append_left _ (List.mem_append_left own h)
      · rcases List.mem_append.mp h with h | h
        · exact List.mem_append_right _ h
        · exact List.mem_append_left _ (List.mem_append_right [(kk, listOf vs.toArray nl), (fa, fnMade (Str.ofString "chosen") qual chosenArgs chosenBody chosenScope [(Str.ofString "rest", cr)] doc pm c' ctv), (c', oc), (cr, o2)] h))
    clear N7 NN FF ne7
    repeat' (first | (k_unfold; (try dsimp only)) | ((first | fail_if_success k_end | with_reducible show LeaveK _ _ _ _ _ _ _); (first | walk1 | (dsimp only; walk1) | (leave1; try dsimp only) | fail "no step")))
    · rename ((List.idxOf _ _ : Nat) : Int) < _ => hlt9
      rename News _ _ _ _ => N9
      rename Fr _ _ _ _ => F9
      refine' kst_end (n, t) F9 N9 ?hn ?ho rfl trivial ?hk ?hr ?hp
      case hn => exact fun q hq => List.mem_append_left own hq
      case ho => exact fun q hq => List.mem_append_right [_, _, _, _, _] hq
      case hk =>
        intro q hq
        rw [List.mem_singleton.mp hq]
        exact if_pos rfl
      case hr =>
        intro z h1 h2 h3
        have h2' := h2 _ (.head _)
        exact (if_neg h2').trans ((if_neg h1).trans (if_neg h2'))
      case hp =>
        show n = _
        rw [List.foldl_append, ← hp]
        exact (if_pos (show rl.idxOf n > rl.idxOf c.1 by omega)).symm
    · rename ¬((List.idxOf _ _ : Nat) : Int) < _ => hlt9
      rename News _ _ _ _ => N9
      rename Fr _ _ _ _ => F9
      refine' kst_end c F9 N9 ?hn ?ho rfl trivial ?hk ?hr ?hp
      case hn => exact fun q hq => List.mem_append_left own hq
      case ho => exact fun q hq => List.mem_append_right [_, _, _, _, _] hq
      case hk =>
        intro q hq
        rw [List.mem_singleton.mp hq]
        rfl
      case hr =>
        intro z h1 h2 h3
        have h2' := h2 _ (.head _)
        exact (if_neg h1).trans (if_neg h2')
      case hp =>
        rw [List.foldl_append, ← hp]
        exact (if_neg (show ¬rl.idxOf n > rl.idxOf c.1 by omega)).symm
  case done =>
    intro c u h tk hf hp F' N'
    repeat' (first | (k_unfold; (try dsimp only)) | ((first | fail_if_success k_end | with_reducible show LeaveK _ _ _ _ _ _ _); (first | walk1 | (dsimp only; walk1) | (leave1; try dsimp only) | fail "no step")))
    try dsimp only
    repeat (k_unfold; dsimp only)
    refine' end_P hret ?zg ?zF ?zN ⟨⟨_, ?zv⟩, rfl⟩
    case zg => assumption
    case zF => exact F'
    case zN => exact N'
    case zv => rw [hp]
end
theorem chosen_pick (w : World) (qual : Str) {fa kk rs cr c' : Nat} {vs rv : List Value} {ks rl : List Int} {nl rn : Nat} {o2 oc : Obj} {cvs : Array Value} {t9 : Tok} {doc pm ctv : Value}
   (hks : IntsAre vs ks) (hrl : IntsAre rv rl) (hz : rl.length ≤ 60) (hk1 : 1 ≤ ks.length) (hk4 : ks.length ≤ 4)
   (d2 : o2.data = .cell (some (.ref rs))) (hd : oc.data = .fields cvs) (hv : cvs[1]? = some (.str qual t9))
   (ne1 : @Ne Nat kk fa) (ne2 : @Ne Nat kk c') (ne3 : @Ne Nat kk cr) (ne4 : @Ne Nat kk rs) (ne5 : @Ne Nat fa rs) (ne6 : @Ne Nat c' rs) (ne7 : @Ne Nat cr rs) :
   ∃ f, f ∈ ks ∧ (∀ j ∈ ks, rl.idxOf j ≤ rl.idxOf f) ∧ ContractP 10 PySem.Challenge.rw_fc0035_01.row.prog w (tjCSoBpQsPZBkyzz.heap_39 w.params) fa [.ref kk] ((kk, listOf vs.toArray nl) :: (fa, fnMade (Str.ofString "chosen") qual chosenArgs chosenBody chosenScope [(Str.ofString "rest", cr)] doc pm c' ctv) :: (c', oc) :: (cr, o2) :: (rs, listOf rv.toArray rn) :: [])
     fun a E' => (∃ t, a = .int f t) ∧ E' = (kk, listOf vs.toArray nl) :: (fa, fnMade (Str.ofString "chosen") qual chosenArgs chosenBody chosenScope [(Str.ofString "rest", cr)] doc pm c' ctv) :: (c', oc) :: (cr, o2) :: (rs, listOf rv.toArray rn) :: [] := by
  have h0 : ks.getD 0 0 ∈ ks := by
    rw [List.getD_eq_getElem?_getD, List.getElem?_eq_getElem (by omega)]
    exact List.getElem_mem _
  obtain ⟨p1, p2⟩ := pick_max (rank := fun j => rl.idxOf j) ks (ks.getD 0 0)
  refine ⟨ks.foldl (pickStep fun j => rl.idxOf j) (ks.getD 0 0), ?_, p2, chosen1 w qual hks hrl hz hk1 hk4 d2 hd hv ne1 ne2 ne3 ne4 ne5 ne6 ne7⟩
  rcases pick_mem (rank := fun j => rl.idxOf j) ks (ks.getD 0 0) with h | h
  · rw [h]; exact h0
  · exact h
theorem RRStep.rank {r1 r2 : Int → Nat} {r : Nat} {k : Int} {M M' : List Int} (R : RRStep r1 r k M M') (h : ∀ i j, r1 i ≤ r1 j → r2 i ≤ r2 j) : RRStep r2 r k M M' :=
  ⟨R.nd, R.hit, R.miss, fun a b => let ⟨f, h1, h2, h3, h4⟩ := R.evict a b; ⟨f, h1, fun j hj => h _ _ (h2 j hj), h3, h4⟩⟩
theorem next_rank {row : List Int} {t : Nat} {k : Int} {r : Nat} {M M' : List Int} (R : RRStep (fun j => (row.drop (t + 1)).idxOf j) r k M M') : RRStep (nextUse row t) r k M M' :=
  R.rank fun i j h => by
    unfold nextUse
    exact Nat.add_le_add_left h _
section
local macro_rules | `(tactic| walk_at "call builtin:len") => `(tactic| (k_here; (with_reducible show wpAny _ _ (call (Value.builtin "len") [Value.ref _]) _ _ _); k_dflt (refine' kda_len (knd := PySem.intKind _ _) ?N ?m ?d ?lo ?z ?_; (case N => k_asm); (case m => k_memK); (case d => with_reducible assumption); (case lo => with_reducible assumption); (case z => omega))))
local macro_rules | `(tactic| walk_at "none0") => `(tactic| fail)
local macro_rules | `(tactic| walk_at "none1") => `(tactic| fail)
def servedStmt : Option Stmt := PySem.Challenge.rw_fc0035_01.row.prog.main.body.reverse[4]?
def servedBody : List Stmt := match servedStmt with | some (.FunctionDef _ _ b _ _ _ _ _ _ _) => b | _ => []
def servedScope : Scope := match servedStmt with | some (.FunctionDef _ _ _ _ _ _ sc _ _ _) => sc | _ => default
def servedFor : Option Stmt := servedBody[1]?
def servedLoop : List Stmt := match servedFor with | some (.For _ _ b _ _) => b | _ => []
def hitsTo (r : Nat) (row : List Int) (i : Nat) : List Nat := (List.range i).filter fun t => decide (row.getD t 0 ∈ lruAt r (row.take t))
def ValK (kvs : List (Int × Value)) (O : List Int) : Prop := ∀ k ∈ O, ∃ t, valueAt kvs k = some (.int k t)
theorem hitsTo_snoc {r : Nat} {row : List Int} {i : Nat} : hitsTo r row (i + 1) = if row.getD i 0 ∈ lruAt r (row.take i) then hitsTo r row i ++ [i] else hitsTo r row i := hits_snoc (C := fun t => lruAt r (row.take t))
/-- the state of the loop of _law_served over an LRUCache, before ask i -/
def InvL (w : World) (dp un : Nat) (gd : Option (List Code)) (outer : List Env) (base g0 : Heap) (p9 : Program) (loose : List Str) (mean : ExcName → Option Value) (mg mb : Str → Option Value) (L x dx dd oo rw rs fd I : Nat) (t1 t2 t3 t4 tr : Tok) (r0 : Nat) (r : Int) (row : List Int) (rv : List Value) (rn nr : Nat) (s : Shared) (i : Nat) (s2 : Shared) : Prop :=
  ∃ (g h : Heap) (tk : Nat) (m : Str → Option Value) (fv : List Value) (fn : Nat) (oa ob oI : Obj) (n : Int) (tn : Tok) (kvs : List (Int × Value)),
    s2 = { s with heap := h, toks := tk } ∧ KtsTurn (outer.filterMap (·.frame)) g0 g ∧ Below (arO dp un gd outer) base outer g ∧ Fr g L h m ∧ (tjCSoBpQsPZBkyzz.heap_39 w.params).In g ∧ Top p9 loose mean mg mb g ∧ KtsDicts (outer.filterMap (·.frame)) g ∧
    News g L h [(I, oI), (fd, listOf fv.toArray fn), (x, instObj 897 dx), (dx, lruNs w t1 t2 t3 t4 dd oo n tn r tr), (dd, oa), (oo, ob), (rw, listOf rv.toArray rn), (rs, listOf #[] nr)] ∧
    (m (Str.ofString "cache") = some (.ref x) ∧ m (Str.ofString "row") = some (.ref rw) ∧ m (Str.ofString "rest") = some (.ref rs) ∧ m (Str.ofString "found") = some (.ref fd)) ∧
    LruIs w oa ob n (lruAt r0 (row.take i)) kvs ∧ ValK kvs (lruAt r0 (row.take i)) ∧ IntsAre fv ((hitsTo r0 row i).map fun (p : Nat) => (p : Int)) ∧ ∀ h' : Heap, h'.get? I = some oI → IsRangeIter h' I (0 + (i : Nat) * 1) ((row.length : Int) - (i : Nat)) 1
set_option maxHeartbeats 16000000 in
theorem served_turn (w : World) {dp un : Nat} {gd : Option (List Code)} {outer : List Env} {base g0 : Heap} {p9 : Program} {loose : List Str} {mean : ExcName → Option Value} {mg mb : Str → Option Value} {L x dx dd oo rw rs fd I : Nat} {t1 t2 t3 t4 tr : Tok} {r0 : Nat} {r : Int} {row : List Int} {rv : List Value} {rn nr : Nat} {s : Shared} {Q : Flow → Shared → Prop} {E : Value → Shared → Prop}
   (XB : (tjCSoBpQsPZBkyzz.heap_39 w.params).In base) (TB : Top p9 loose mean mg mb base) (hdp : dp + 40 < recursionLimit) (hun : un + 10 * 40 < cLine)
   (ord : rw < dx ∧ dx < x ∧ x < dd ∧ dd < oo ∧ oo < rs ∧ rs < fd ∧ fd < I) (lo1 : (dd == sysModules) = false) (lo2 : (oo == sysModules) = false)
   (hrv : IntsAre rv row) (hz : row.length ≤ 30) (hr : r = r0) (hr1 : 1 ≤ r0) (hr4 : r0 ≤ 4)
   {i : Nat} {s2 : Shared} {t : Tok} {h2 : Heap} {tk2 : Nat} (hi : i < row.length) (J : InvL w dp un gd outer base g0 p9 loose mean mg mb L x dx dd oo rw rs fd I t1 t2 t3 t4 tr r0 r row rv rn nr s i s2)
   (hI : IsRangeIter h2 I (0 + ((i + 1 : Nat) : Int) * 1) ((row.length : Int) - ((i + 1 : Nat) : Int)) 1) (hk : ∀ b o, b ≠ I → s2.heap.get? b = some o → h2.get? b = some o) :
   wpAny (model PySem.Challenge.rw_fc0035_01.row.prog w) ((arO dp un gd outer).deeper (envOf (Str.ofString "_law_served") servedScope L 985 (.ref 984))) (storeName (envOf (Str.ofString "_law_served") servedScope L 985 (.ref 984)) (Str.ofString "place") (.int (0 + (i : Int)) t))
     (fun _ s₂ => wpAny (model PySem.Challenge.rw_fc0035_01.row.prog w) ((arO dp un gd outer).deeper (envOf (Str.ofString "_law_served") servedScope L 985 (.ref 984))) (execs servedLoop (envOf (Str.ofString "_law_served") servedScope L 985 (.ref 984)))
       (OwitFlow Q (InvL w dp un gd outer base g0 p9 loose mean mg mb L x dx dd oo rw rs fd I t1 t2 t3 t4 tr r0 r row rv rn nr s (i + 1))) E s₂) E { s2 with heap := h2, toks := tk2 } := by
  obtain ⟨g, h, tk, m, fv, fn, oa, ob, oI, n, tn, kvs, rfl, TT, B, F, X, T, D, N, ⟨m1, m2, m3, m4⟩, IL, VK, hfv, hoI⟩ := J
  have hIL : I ≠ L := (N (I, oI) (.head _)).2.1
  have hI0 : g.get? I = none := (N (I, oI) (.head _)).2.2
  have hk' : ∀ b o, b ∉ [I] → h.get? b = some o → h2.get? b = some o := fun b o hb => hk b o fun e => hb (by simp [e])
  obtain ⟨oI2, hoI2, hI2⟩ : ∃ o, h2.get? I = some o ∧ ∀ h' : Heap, h'.get? I = some o → IsRangeIter h' I (0 + ((i + 1 : Nat) : Int) * 1) ((row.length : Int) - ((i + 1 : Nat) : Int)) 1 := ⟨_, hI, fun _ e => e⟩
  have F2 : Fr g L h2 m := LCg.fr_but F hk' (fun e => hIL e.symm) hI0
  have N2 : News g L h2 [(I, oI2), (fd, listOf fv.toArray fn), (x, instObj 897 dx), (dx, lruNs w t1 t2 t3 t4 dd oo n tn r tr), (dd, oa), (oo, ob), (rw, listOf rv.toArray rn), (rs, listOf #[] nr)] := by
    intro q hq
    rcases List.mem_cons.mp hq with rfl | hq
    · exact ⟨hoI2, hIL, hI0⟩
    · refine LCg.news_but (fun p hp => N p (.tail _ hp)) hk' (fun p hp => ?_) q hq
      simp only [List.mem_cons, List.not_mem_nil, or_false] at hp
      rcases hp with rfl | rfl | rfl | rfl | rfl | rfl | rfl
      all_goals (refine neN ?_; dsimp only; omega)
  have hd1 := IL.1
  have hil : (hitsTo r0 row i).length ≤ i := by
    have := List.length_filter_le (fun t => decide (row.getD t 0 ∈ lruAt r0 (row.take t))) (List.range i)
    rw [List.length_range] at this
    exact this
  clear N F hk hk' hoI
  rw [Int.zero_add]
  conv in (occs := *) servedScope => all_goals whnf
  conv in (occs := *) servedLoop => all_goals whnf
  have hmem : ∀ j, (valueAt kvs j).isSome = true ↔ j ∈ lruAt r0 (row.take i) := fun j => by rw [valueAt_isSome, IL.2.2.1.mem_iff]
  obtain ⟨k, hkk⟩ : ∃ k, row.getD i 0 = k := ⟨_, rfl⟩
  repeat' ((fail_if_success (with_reducible show wpAny _ _ (compareOp CmpOp.In _ _) _ _ _)); first | (k_unfold; (try dsimp only)) | ((first | fail_if_success k_end | with_reducible show LeaveK _ _ _ _ _ _ _); (first | walk1 | (dsimp only; walk1) | (leave1; try dsimp only) | fail "no step")))
  simp only [Int.toNat_natCast, hkk]
  by_cases hk : k ∈ lruAt r0 (row.take i)
  · have hb9 : (valueAt kvs k).isSome = true := (hmem k).mpr hk
    repeat' ((fail_if_success (with_reducible show wpAny _ _ (call (Value.builtin "list.append") _) _ _ _)); first | (k_unfold; (try dsimp only)) | ((first | fail_if_success k_end | with_reducible show LeaveK _ _ _ _ _ _ _); (first | walk1 | (dsimp only; walk1) | (leave1; try dsimp only) | fail "no step")))
    rename News _ _ _ _ => N5
    rename Fr _ _ _ _ => F5
    refine append_ints (n := fn) F5 N5 (news' := [(I, oI2), (fd, listOf (fv ++ [Value.int (i : Int) t]).toArray (fn + 1)), (x, instObj 897 dx), (dx, lruNs w t1 t2 t3 t4 dd oo n tn r tr), (dd, oa), (oo, ob), (rw, listOf rv.toArray rn), (rs, listOf #[] nr)]) ?U hfv (by rw [List.length_map]; omega) ?_
    case U => k_upd
    intro h7 F7 N7 hI7
    clear N5 F5
    repeat' ((fail_if_success (with_reducible show wpAny _ _ (call (Value.ref 794) _) _ _ _)); first | (k_unfold; (try dsimp only)) | ((first | fail_if_success k_end | with_reducible show LeaveK _ _ _ _ _ _ _); (first | walk1 | (dsimp only; walk1) | (leave1; try dsimp only) | fail "no step")))
    rename News _ _ _ _ => N5
    rename Fr _ _ _ _ => F5
    simp only [Int.toNat_natCast, hkk]
    refine ⟨Frag.In.keeps X F5.keep, ?_⟩
    refine' use_contractT (lru_set w x dx dd oo t1 t2 t3 t4 tn tr _ n r k r0 _ oa ob (lruAt r0 (row.take i)) kvs (Nat.ne_of_gt (by omega)) (Nat.ne_of_lt (by omega)) (Nat.ne_of_lt (by omega)) (Nat.ne_of_lt (by omega)) (Nat.ne_of_lt (by omega)) (Nat.ne_of_lt (by omega)) lo1 lo2 IL hr hr1 hr4 (lru_small hr1 _).2) rfl B F5 X N5 T XB TB D rfl rfl ?d ?u [(I, oI2), (fd, listOf (fv ++ [Value.int (i : Int) t]).toArray (fn + 1)), (rw, listOf rv.toArray rn), (rs, listOf #[] nr)] ?E ?K ?ne ?_
    case d => show dp + 1 + 20 < recursionLimit; omega
    case u => show un + 3 + 10 * 20 < cLine; omega
    case E =>
      intro q hq
      simp only [List.mem_cons, List.not_mem_nil, or_false] at hq
      rcases hq with rfl | rfl | rfl | rfl <;> k_mem
    case K =>
      intro q hq
      simp only [List.mem_cons, List.not_mem_nil, or_false] at hq
      rcases hq with rfl | rfl | rfl | rfl <;> k_mem
    case ne =>
      intro q hq r' hr'
      simp only [List.mem_cons, List.not_mem_nil, or_false] at hq hr'
      rcases hq with rfl | rfl | rfl | rfl <;> rcases hr' with rfl | rfl | rfl | rfl <;> (refine neN ?_; dsimp only; omega)
    intro v3 E3 h3 tk3 g3 e3 TT3 F3 N3 ne3 B3 X3 T3 D3 hp3
    obtain ⟨oa', ob', n', tn', kvs', rfl, IL', b1, b2, b3, b4⟩ := hp3
    obtain ⟨t6, rfl⟩ : ∃ t6, v3 = .int k t6 := by
      by_cases hk9 : k ∈ lruAt r0 (row.take i)
      · obtain ⟨t6, h6⟩ := VK k hk9
        have := (b1 hk9).symm.trans h6
        exact ⟨t6, Option.some.inj this⟩
      · exact ⟨_, b2 hk9⟩
    simp only [List.cons_append, List.nil_append] at N3
    clear N5 ne3
    repeat' ((fail_if_success (with_reducible show wpAny _ _ (compareOp CmpOp.NotEq _ _) _ _ _)); first | (k_unfold; (try dsimp only)) | ((first | fail_if_success k_end | with_reducible show LeaveK _ _ _ _ _ _ _); (first | walk1 | (dsimp only; walk1) | (leave1; try dsimp only) | fail "no step")))
    simp only [Int.toNat_natCast, hkk]
    repeat' (first | (k_unfold; (try dsimp only)) | ((first | fail_if_success k_end | with_reducible show LeaveK _ _ _ _ _ _ _); (first | walk1 | (dsimp only; walk1) | (leave1; try dsimp only) | fail "no step")))
    · exfalso; omega
    · dsimp only [OwitFlow]
      rename Fr _ _ _ _ => F9
      have eo : lruStep r0 (lruAt r0 (row.take i)) k = lruAt r0 (row.take (i + 1)) := by rw [take_snoc hi, lruAt_snoc, hkk]
      rw [eo] at IL' b4
      refine ⟨g3, _, _, _, fv ++ [Value.int (i : Int) t], (fn + 1), oa', ob', oI2, n', tn', kvs', rfl, TT.trans TT3, B3, F9, X3, T3, D3, fun q hq => N3 q ?mem, ⟨(if_neg (by decide)).trans m1, (if_neg (by decide)).trans m2, (if_neg (by decide)).trans m3, (if_neg (by decide)).trans m4⟩, IL', ?val, ?hits, hI2⟩
      case mem =>
        simp only [List.mem_cons, List.not_mem_nil, or_false] at hq
        rcases hq with rfl | rfl | rfl | rfl | rfl | rfl | rfl | rfl <;> k_mem
      case val =>
        intro j hj
        by_cases e : j = k
        · subst e; exact ⟨t6, b3⟩
        · obtain ⟨z1, z2⟩ := b4 j hj e
          rw [z2]; exact VK j z1
      case hits =>
        rw [hitsTo_snoc, hkk, if_pos hk]
        rw [List.map_append]; exact hI7
  · have hb9 : (valueAt kvs k).isSome = false := by rw [Bool.eq_false_iff]; exact fun z => hk ((hmem k).mp z)
    repeat' ((fail_if_success (with_reducible show wpAny _ _ (call (Value.ref 794) _) _ _ _)); first | (k_unfold; (try dsimp only)) | ((first | fail_if_success k_end | with_reducible show LeaveK _ _ _ _ _ _ _); (first | walk1 | (dsimp only; walk1) | (leave1; try dsimp only) | fail "no step")))
    rename News _ _ _ _ => N5
    rename Fr _ _ _ _ => F5
    simp only [Int.toNat_natCast, hkk]
    refine ⟨Frag.In.keeps X F5.keep, ?_⟩
    refine' use_contractT (lru_set w x dx dd oo t1 t2 t3 t4 tn tr _ n r k r0 _ oa ob (lruAt r0 (row.take i)) kvs (Nat.ne_of_gt (by omega)) (Nat.ne_of_lt (by omega)) (Nat.ne_of_lt (by omega)) (Nat.ne_of_lt (by omega)) (Nat.ne_of_lt (by omega)) (Nat.ne_of_lt (by omega)) lo1 lo2 IL hr hr1 hr4 (lru_small hr1 _).2) rfl B F5 X N5 T XB TB D rfl rfl ?d ?u [(I, oI2), (fd, listOf (fv).toArray fn), (rw, listOf rv.toArray rn), (rs, listOf #[] nr)] ?E ?K ?ne ?_
    case d => show dp + 1 + 20 < recursionLimit; omega
    case u => show un + 3 + 10 * 20 < cLine; omega
    case E =>
      intro q hq
      simp only [List.mem_cons, List.not_mem_nil, or_false] at hq
      rcases hq with rfl | rfl | rfl | rfl <;> k_mem
    case K =>
      intro q hq
      simp only [List.mem_cons, List.not_mem_nil, or_false] at hq
      rcases hq with rfl | rfl | rfl | rfl <;> k_mem
    case ne =>
      intro q hq r' hr'
      simp only [List.mem_cons, List.not_mem_nil, or_false] at hq hr'
      rcases hq with rfl | rfl | rfl | rfl <;> rcases hr' with rfl | rfl | rfl | rfl <;> (refine neN ?_; dsimp only; omega)
    intro v3 E3 h3 tk3 g3 e3 TT3 F3 N3 ne3 B3 X3 T3 D3 hp3
    obtain ⟨oa', ob', n', tn', kvs', rfl, IL', b1, b2, b3, b4⟩ := hp3
    obtain ⟨t6, rfl⟩ : ∃ t6, v3 = .int k t6 := by
      by_cases hk9 : k ∈ lruAt r0 (row.take i)
      · obtain ⟨t6, h6⟩ := VK k hk9
        have := (b1 hk9).symm.trans h6
        exact ⟨t6, Option.some.inj this⟩
      · exact ⟨_, b2 hk9⟩
    simp only [List.cons_append, List.nil_append] at N3
    clear N5 ne3
    repeat' ((fail_if_success (with_reducible show wpAny _ _ (compareOp CmpOp.NotEq _ _) _ _ _)); first | (k_unfold; (try dsimp only)) | ((first | fail_if_success k_end | with_reducible show LeaveK _ _ _ _ _ _ _); (first | walk1 | (dsimp only; walk1) | (leave1; try dsimp only) | fail "no step")))
    simp only [Int.toNat_natCast, hkk]
    repeat' (first | (k_unfold; (try dsimp only)) | ((first | fail_if_success k_end | with_reducible show LeaveK _ _ _ _ _ _ _); (first | walk1 | (dsimp only; walk1) | (leave1; try dsimp only) | fail "no step")))
    · exfalso; omega
    · dsimp only [OwitFlow]
      rename Fr _ _ _ _ => F9
      have eo : lruStep r0 (lruAt r0 (row.take i)) k = lruAt r0 (row.take (i + 1)) := by rw [take_snoc hi, lruAt_snoc, hkk]
      rw [eo] at IL' b4
      refine ⟨g3, _, _, _, fv, fn, oa', ob', oI2, n', tn', kvs', rfl, TT.trans TT3, B3, F9, X3, T3, D3, fun q hq => N3 q ?mem, ⟨(if_neg (by decide)).trans m1, (if_neg (by decide)).trans m2, (if_neg (by decide)).trans m3, (if_neg (by decide)).trans m4⟩, IL', ?val, ?hits, hI2⟩
      case mem =>
        simp only [List.mem_cons, List.not_mem_nil, or_false] at hq
        rcases hq with rfl | rfl | rfl | rfl | rfl | rfl | rfl | rfl <;> k_mem
      case val =>
        intro j hj
        by_cases e : j = k
        · subst e; exact ⟨t6, b3⟩
        · obtain ⟨z1, z2⟩ := b4 j hj e
          rw [z2]; exact VK j z1
      case hits =>
        rw [hitsTo_snoc, hkk, if_neg hk]
        exact hfv
set_option maxHeartbeats 16000000 in
theorem served_lru (w : World) (x dx dd oo rw rs : Nat) (t1 t2 t3 t4 tn tr : Tok) (r0 : Nat) (r : Int) (od1 od2 : Obj) (row : List Int) (rv : List Value) (rn nr : Nat)
   (ord : rw < dx ∧ dx < x ∧ x < dd ∧ dd < oo ∧ oo < rs) (lo1 : (dd == sysModules) = false) (lo2 : (oo == sysModules) = false)
   (hrv : IntsAre rv row) (hz : row.length ≤ 30) (hr : r = r0) (hr1 : 1 ≤ r0) (hr4 : r0 ≤ 4) (hd1 : od1.IsDictOf (intKind PySem.Challenge.rw_fc0035_01.row.prog w) []) (hd2 : od2.IsDictOf (intKind PySem.Challenge.rw_fc0035_01.row.prog w) []) :
   Contract 40 PySem.Challenge.rw_fc0035_01.row.prog w (tjCSoBpQsPZBkyzz.heap_39 w.params) 985 [.ref x, .ref rw, .ref rs] [(x, instObj 897 dx), (dx, lruNs w t1 t2 t3 t4 dd oo 0 tn r tr), (dd, od1), (oo, od2), (rw, listOf rv.toArray rn), (rs, listOf #[] nr)]
     fun a E' => ∃ D fv fn, a = .ref D ∧ E' = [(D, listOf (List.toArray fv) fn), (rw, listOf rv.toArray rn)] ∧ IntsAre fv ((lruHits r0 row).map fun (p : Nat) => (p : Int)) ∧ @LT.lt Nat _ rw D := by
  unfold Contract
  intro dp un gd outer base s p9 loose mean mg mb R hdp hun B NE X T XB TB D hret
  k_dflt cell_enter
  repeat' ((fail_if_success (with_reducible show wpAny _ _ (exec (PySem.Stmt.For _ _ _ _ _) _) _ _ _)); first | (k_unfold; (try dsimp only)) | ((first | fail_if_success k_end | with_reducible show LeaveK _ _ _ _ _ _ _); (first | walk1 | (dsimp only; walk1) | (leave1; try dsimp only) | fail "no step")))
  rename Fr _ _ _ _ => F9
  rename News _ _ _ _ => N9
  rename Below _ _ _ _ => B9
  rename Frag.In _ _ => X9
  rename Top _ _ _ _ _ _ => T9
  rename KtsDicts _ _ => D9
  rename KtsTurn _ _ _ => TT9
  rename_i g9 L9 h9a n9 fd h9b l9 h9c
  refine' owit_for ?hf ?hs ?hE
  case hs => (intro _; with_unfolding_all rfl)
  case hE => with_unfolding_all passes_own
  repeat' ((fail_if_success (with_reducible show wpAny _ _ (pyIter _) _ _ _)); first | (k_unfold; (try dsimp only)) | ((first | fail_if_success k_end | with_reducible show LeaveK _ _ _ _ _ _ _); (first | walk1 | (dsimp only; walk1) | (leave1; try dsimp only) | fail "no step")))
  rename IsRange _ _ _ _ _ _ _ _ => hR9
  rename Fr _ _ _ _ => F8
  rename News _ _ _ _ => N8
  rename_i h9d tk9d ta9 tb9 tc9 a9d
  clear B X T NE D
  refine wpAny_pyIter_range hR9 (small_one (by omega) (by omega) (by omega) (by omega)) ?_
  refine OwitAt.intro ?_
  refine Eq.mp (congrArg (fun q => OwitRest _ _ _ _ _ _ _ _ _ q _) (show row.length + 1 + (63 - row.length) = 64 by omega)) ?_
  have hfdlt : @LT.lt Nat _ fd h9d.objs.size := Heap.lt_size (N8 _ (.head _)).1
  refine range_owit (n := row.length) (a := 0) rfl (InvL w dp un gd outer base (hideAll s.heap (addrs [(x, instObj 897 dx), (dx, lruNs w t1 t2 t3 t4 dd oo 0 tn r tr), (dd, od1), (oo, od2), (rw, listOf rv.toArray rn), (rs, listOf #[] nr)])) p9 loose mean mg mb L9 x dx dd oo rw rs fd h9d.objs.size t1 t2 t3 t4 tr r0 r row rv rn nr s) (63 - row.length) ?hI ?step ?done row.length 0 _ (by omega) ?init
  case init =>
    refine ⟨g9, _, _, _, [], 0, od1, od2, _, 0, tn, [], rfl, TT9, B9, F8.push _, X9, T9, D9, News.push F8 N8 _ rfl, ⟨?m1, ?m2, ?m3, ?m4⟩, ⟨hd1, ⟨[], hd2, rfl⟩, List.Perm.refl _, List.nodup_nil, rfl⟩, ?vk, (show IntsAre [] [] from .nil), ?it⟩
    case m1 => with_unfolding_all exact rfl
    case m2 => with_unfolding_all exact rfl
    case m3 => with_unfolding_all exact rfl
    case m4 => with_unfolding_all exact rfl
    case vk =>
      intro j h
      have h' : j ∈ ([] : List Int) := h
      cases h'
    case it =>
      intro h' e
      have hn : Builtin.Range.rangeSize 0 (row.length : Int) 1 = (row.length : Int) := by rw [rangeSize_one]; split <;> omega
      rw [hn] at e
      show IsRangeIter _ _ _ _ _
      simpa using e
  case hI =>
    rintro i s2 ⟨g, h, tk, m, fv, fn, oa, ob, oI, n, tn, kvs, rfl, _, _, _, _, _, _, N, _, _, _, _, hoI⟩
    exact hoI h (N _ (.head _)).1
  case step =>
    intro i s2 t h2 tk2 hi J hI hk
    exact served_turn w XB TB hdp hun ⟨ord.1, ord.2.1, ord.2.2.1, ord.2.2.2.1, ord.2.2.2.2, l9.2.2.2.2.2, hfdlt⟩ lo1 lo2 hrv hz hr hr1 hr4 hi J hI hk
  case done =>
    rintro s2 h2 tk2 ⟨g, h, tk, m, fv, fn, oa, ob, oI, n, tn, kvs, rfl, TT, B, F, X, T, D, N, ⟨m1, m2, m3, m4⟩, IL, VK, hfv, hoI⟩ hk
    have hIL := (N (h9d.objs.size, oI) (.head _)).2.1
    have hI0 := (N (h9d.objs.size, oI) (.head _)).2.2
    have hk' : ∀ b o, b ∉ [h9d.objs.size] → h.get? b = some o → h2.get? b = some o := fun b o hb => hk b o fun e => hb (by simp [e])
    have F2 : Fr g L9 h2 m := LCg.fr_but F hk' (fun e => hIL e.symm) hI0
    have N2 : News g L9 h2 [(fd, listOf fv.toArray fn), (rw, listOf rv.toArray rn)] := by
      refine LCg.news_but (fun p hp => N p ?_) hk' (fun p hp => ?_)
      · simp only [List.mem_cons, List.not_mem_nil, or_false] at hp
        rcases hp with rfl | rfl <;> k_mem
      · simp only [List.mem_cons, List.not_mem_nil, or_false] at hp
        rcases hp with rfl | rfl
        all_goals (refine neN ?_; dsimp only; omega)
    clear N F
    dsimp only
    repeat' (first | (k_unfold; (try dsimp only)) | ((first | fail_if_success k_end | with_reducible show LeaveK _ _ _ _ _ _ _); (first | walk1 | (dsimp only; walk1) | (leave1; try dsimp only) | fail "no step")))
    try dsimp only
    repeat (k_unfold; dsimp only)
    refine' end_F hret ?zg ?zF ?zN ⟨fd, fv, fn, rfl, rfl, hfv, ?zl⟩
    case zg => exact TT
    case zF => exact F2
    case zN => exact N2
    case zl =>
      have z9 := l9.2.2.2.2.2
      obtain ⟨o1, o2, o3, o4, o5⟩ := ord
      exact Nat.lt_trans o1 (Nat.lt_trans o2 (Nat.lt_trans o3 (Nat.lt_trans o4 (Nat.lt_trans o5 z9))))
section
variable {prog : Program} {w : World} {A : Around} {E : Value → Shared → Prop} {s : Shared} {h₀ : Heap} {L D : Addr} {m : Str → Option Value} {news news' : List (Addr × Obj)} {v : Value} {q : List Value} {n : Nat} {u : Tok}
theorem pop0_list {Q : Value → Shared → Prop} (F : Fr h₀ L s.heap m) (N : News h₀ L s.heap news) (U : Upd D (listOf (v :: q).toArray n) (listOf q.toArray (n + 1)) news news') (hz : q.length ≤ 1000)
    (h : ∀ h', Fr h₀ L h' m → News h₀ L h' news' → Q v { s with heap := h' }) : wpAny (model prog w) A (call (.builtin "list.pop") [.ref D, .int 0 u]) Q E s := by
  refine kl_popAt (p := []) (q := q) (y := v) (k := 0) (its := (v :: q).toArray) F N (by decide) ?_ rfl U ?_ h
  · unfold seqIndex?
    simp only [List.size_toArray, List.length_cons]
    rw [if_neg (show ¬((0 : Int) < 0) by decide), if_pos (by rw [Bool.and_eq_true, decide_eq_true_eq, decide_eq_true_eq]; omega)]
    rfl
  · show (v :: q).length ≤ sizeLine
    rw [sizeLine_eq, List.length_cons]
    omega
end
/-- the state of the loop of _law_served over an RRCache that looks ahead, before ask i -/
def InvR (w : World) (L x dx dd ii kk f2 c' cr rw rs fd I : Nat) (t1 t2 t3 t4 t5 t6 tr : Tok) (qual : Str) (doc pm ctv : Value) (o2 oc : Obj) (r0 : Nat) (r : Int) (row : List Int) (rv : List Value) (rn : Nat) (g : Heap) (s : Shared) (i : Nat) (s2 : Shared) : Prop :=
  ∃ (h : Heap) (tk : Nat) (m : Str → Option Value) (fv : List Value) (fn : Nat) (oa ob oI : Obj) (n : Int) (tn : Tok) (kvs : List (Int × Value)) (vs : List Value) (nl : Nat) (M : List Int) (f : List Nat) (rv9 : List Value) (rn9 : Nat),
    s2 = { s with heap := h, toks := tk } ∧ Fr g L h m ∧
    News g L h [(I, oI), (fd, listOf fv.toArray fn), (x, instObj 955 dx), (dx, rrNs w t1 t2 t3 t4 t5 t6 dd f2 ii kk n tn r tr), (dd, oa), (ii, ob), (kk, listOf vs.toArray nl), (f2, fnMade (Str.ofString "chosen") qual chosenArgs chosenBody chosenScope [(Str.ofString "rest", cr)] doc pm c' ctv), (c', oc), (cr, o2), (rs, listOf rv9.toArray rn9), (rw, listOf rv.toArray rn)] ∧
    (m (Str.ofString "cache") = some (.ref x) ∧ m (Str.ofString "row") = some (.ref rw) ∧ m (Str.ofString "rest") = some (.ref rs) ∧ m (Str.ofString "found") = some (.ref fd)) ∧
    RrIs w oa ob vs n M kvs ∧ ValK kvs M ∧ MinRun r0 row i M f ∧ IntsAre fv (f.map fun (p : Nat) => (p : Int)) ∧ IntsAre rv9 (row.drop i) ∧ ∀ h' : Heap, h'.get? I = some oI → IsRangeIter h' I (0 + (i : Nat) * 1) ((row.length : Int) - (i : Nat)) 1
theorem minRun_len {r : Nat} {row : List Int} {t : Nat} {M : List Int} {f : List Nat} (h : MinRun r row t M f) : f.length ≤ t := by
  induction h with
  | zero => exact Nat.le_refl _
  | step _ _ _ ih =>
    split
    · rw [List.length_append, List.length_singleton]; omega
    · omega
set_option maxHeartbeats 16000000 in
theorem served_turnR (w : World) {dp un : Nat} {gd : Option (List Code)} {outer : List Env} {base g0 : Heap} {p9 : Program} {loose : List Str} {mean : ExcName → Option Value} {mg mb : Str → Option Value} {qual : Str} {L x dx dd ii kk f2 c' cr rw rs fd I : Nat} {t1 t2 t3 t4 t5 t6 tr t9 : Tok} {r0 : Nat} {r : Int} {row : List Int} {rv : List Value} {rn : Nat} {o2 oc : Obj} {cvs : Array Value} {doc pm ctv : Value} {s : Shared} {Q : Flow → Shared → Prop} {E : Value → Shared → Prop} {g : Heap}
   (hdp : dp + 40 < recursionLimit) (hun : un + 10 * 40 < cLine) (B : Below (arO dp un gd outer) base outer g) (X : (tjCSoBpQsPZBkyzz.heap_39 w.params).In g) (T : Top p9 loose mean mg mb g)
   (ord : rw < rs ∧ rs < cr ∧ cr < f2 ∧ (c' < f2 ∧ c' ≠ rw ∧ c' ≠ rs ∧ c' ≠ cr) ∧ f2 < dx ∧ dx < x ∧ x < dd ∧ dd < ii ∧ ii < kk ∧ kk < fd ∧ fd < I) (lo1 : (dd == sysModules) = false) (lo2 : (ii == sysModules) = false)
   (hrv : IntsAre rv row) (hz : row.length ≤ 30) (hr : r = r0) (hr1 : 1 ≤ r0) (hr4 : r0 ≤ 4) (d2 : o2.data = .cell (some (.ref rs))) (hd : oc.data = .fields cvs) (hv : cvs[1]? = some (.str qual t9))
   {i : Nat} {s2 : Shared} {t : Tok} {h2 : Heap} {tk2 : Nat} (hi : i < row.length) (J : InvR w L x dx dd ii kk f2 c' cr rw rs fd I t1 t2 t3 t4 t5 t6 tr qual doc pm ctv o2 oc r0 r row rv rn g s i s2)
   (hI : IsRangeIter h2 I (0 + ((i + 1 : Nat) : Int) * 1) ((row.length : Int) - ((i + 1 : Nat) : Int)) 1) (hk : ∀ b o, b ≠ I → s2.heap.get? b = some o → h2.get? b = some o) :
   wpAny (model PySem.Challenge.rw_fc0035_01.row.prog w) ((arO dp un gd outer).deeper (envOf (Str.ofString "_law_served") servedScope L 985 (.ref 984))) (storeName (envOf (Str.ofString "_law_served") servedScope L 985 (.ref 984)) (Str.ofString "place") (.int (0 + (i : Int)) t))
     (fun _ s₂ => wpAny (model PySem.Challenge.rw_fc0035_01.row.prog w) ((arO dp un gd outer).deeper (envOf (Str.ofString "_law_served") servedScope L 985 (.ref 984))) (execs servedLoop (envOf (Str.ofString "_law_served") servedScope L 985 (.ref 984)))
       (OwitFlow Q (InvR w L x dx dd ii kk f2 c' cr rw rs fd I t1 t2 t3 t4 t5 t6 tr qual doc pm ctv o2 oc r0 r row rv rn g s (i + 1))) E s₂) E { s2 with heap := h2, toks := tk2 } := by
  obtain ⟨h, tk, m, fv, fn, oa, ob, oI, n, tn, kvs, vs, nl, M, f, rv9, rn9, rfl, F, N, ⟨m1, m2, m3, m4⟩, IR, VK, hMR, hfv, hrv9, hoI⟩ := J
  have hIL : I ≠ L := (N (I, oI) (.head _)).2.1
  have hI0 : g.get? I = none := (N (I, oI) (.head _)).2.2
  have hk' : ∀ b o, b ∉ [I] → h.get? b = some o → h2.get? b = some o := fun b o hb => hk b o fun e => hb (by simp [e])
  obtain ⟨oI2, hoI2, hI2⟩ : ∃ o, h2.get? I = some o ∧ ∀ h' : Heap, h'.get? I = some o → IsRangeIter h' I (0 + ((i + 1 : Nat) : Int) * 1) ((row.length : Int) - ((i + 1 : Nat) : Int)) 1 := ⟨_, hI, fun _ e => e⟩
  have hM4 : M.length ≤ r0 := (hMR.small hr1).2
  have hfl := minRun_len hMR
  have hd1 := IR.1
  obtain ⟨k, hkk⟩ : ∃ k, row.getD i 0 = k := ⟨_, rfl⟩
  have hdr : row.drop i = k :: row.drop (i + 1) := by rw [drop_cons hi, hkk]
  rw [hdr] at hrv9
  obtain ⟨tv, q9, hq9, rfl⟩ : ∃ tv q9, IntsAre q9 (row.drop (i + 1)) ∧ rv9 = Value.int k tv :: q9 := by
    cases hrv9 with
    | cons _ tv h => exact ⟨tv, _, h, rfl⟩
  have hq9l : q9.length = row.length - (i + 1) := by rw [hq9.length, List.length_drop]
  have hnd : [x, dx, dd, ii, kk, f2, c', cr, rs].Nodup := by
    repeat' (refine List.nodup_cons.mpr ⟨by first | exact List.not_mem_nil | (simp only [List.mem_cons, List.not_mem_nil, or_false]; omega), ?_⟩)
    exact List.nodup_nil
  have hEC : ∀ q ∈ ([(c', oc), (cr, o2), (rs, listOf q9.toArray (rn9 + 1))] : List (Addr × Obj)), ∀ b ∈ [x, dx, dd, ii, kk, f2], q.1 ≠ b := fun q hq b hb e =>
    (nd_mid (l1 := [x, dx, dd, ii, kk, f2]) (l2 := [c', cr, rs]) (l3 := []) hnd).1 b hb q.1 (List.mem_map_of_mem (f := Prod.fst) hq) e.symm
  have F2 : Fr g L h2 m := LCg.fr_but F hk' (fun e => hIL e.symm) hI0
  have N2 : News g L h2 [(I, oI2), (fd, listOf fv.toArray fn), (x, instObj 955 dx), (dx, rrNs w t1 t2 t3 t4 t5 t6 dd f2 ii kk n tn r tr), (dd, oa), (ii, ob), (kk, listOf vs.toArray nl), (f2, fnMade (Str.ofString "chosen") qual chosenArgs chosenBody chosenScope [(Str.ofString "rest", cr)] doc pm c' ctv), (c', oc), (cr, o2), (rs, listOf (Value.int k tv :: q9).toArray rn9), (rw, listOf rv.toArray rn)] := by
    intro q hq
    rcases List.mem_cons.mp hq with rfl | hq
    · exact ⟨hoI2, hIL, hI0⟩
    · refine LCg.news_but (fun p hp => N p (.tail _ hp)) hk' (fun p hp => ?_) q hq
      simp only [List.mem_cons, List.not_mem_nil, or_false] at hp
      rcases hp with rfl | rfl | rfl | rfl | rfl | rfl | rfl | rfl | rfl | rfl | rfl
      all_goals (refine neN ?_; dsimp only; omega)
  clear N F hk hk' hoI
  rw [Int.zero_add]
  conv in (occs := *) servedScope => all_goals whnf
  conv in (occs := *) servedLoop => all_goals whnf
  have hmem : ∀ j, (valueAt kvs j).isSome = true ↔ j ∈ M := fun j => by rw [valueAt_isSome, IR.2.2.2.1.mem_iff]
  have hcq : IntsAre (Value.int k tv :: q9) (k :: row.drop (i + 1)) := .cons k tv hq9
  repeat' ((fail_if_success (with_reducible show wpAny _ _ (call (Value.builtin "len") _) _ _ _)); first | (k_unfold; (try dsimp only)) | ((first | fail_if_success k_end | with_reducible show LeaveK _ _ _ _ _ _ _); (first | walk1 | (dsimp only; walk1) | (leave1; try dsimp only) | fail "no step")))
  rename News _ _ _ _ => N5
  refine len_intsN N5 (by k_memK) hcq (by rw [List.length_cons, List.length_drop]; omega) ?_
  simp only [List.length_cons, List.length_drop]
  repeat' ((fail_if_success (with_reducible show wpAny _ _ (call (Value.builtin "list.pop") _) _ _ _)); first | (k_unfold; (try dsimp only)) | ((first | fail_if_success k_end | with_reducible show LeaveK _ _ _ _ _ _ _); (first | walk1 | (dsimp only; walk1) | (leave1; try dsimp only) | fail "no step")))
  rename News _ _ _ _ => N6
  rename Fr _ _ _ _ => F6
  refine pop0_list (v := Value.int k tv) (q := q9) (n := rn9) F6 N6 (news' := [(I, oI2), (fd, listOf fv.toArray fn), (x, instObj 955 dx), (dx, rrNs w t1 t2 t3 t4 t5 t6 dd f2 ii kk n tn r tr), (dd, oa), (ii, ob), (kk, listOf vs.toArray nl), (f2, fnMade (Str.ofString "chosen") qual chosenArgs chosenBody chosenScope [(Str.ofString "rest", cr)] doc pm c' ctv), (c', oc), (cr, o2), (rs, listOf q9.toArray (rn9 + 1)), (rw, listOf rv.toArray rn)]) ?U (by omega) ?_
  case U => k_upd
  intro h6 F7 N7
  clear N6 F6 hcq
  repeat' ((fail_if_success (with_reducible show wpAny _ _ (compareOp CmpOp.In _ _) _ _ _)); first | (k_unfold; (try dsimp only)) | ((first | fail_if_success k_end | with_reducible show LeaveK _ _ _ _ _ _ _); (first | walk1 | (dsimp only; walk1) | (leave1; try dsimp only) | fail "no step")))
  simp only [Int.toNat_natCast, hkk]
  by_cases hk : k ∈ M
  · have hb9 : (valueAt kvs k).isSome = true := (hmem k).mpr hk
    repeat' ((fail_if_success (with_reducible show wpAny _ _ (call (Value.builtin "list.append") _) _ _ _)); first | (k_unfold; (try dsimp only)) | ((first | fail_if_success k_end | with_reducible show LeaveK _ _ _ _ _ _ _); (first | walk1 | (dsimp only; walk1) | (leave1; try dsimp only) | fail "no step")))
    rename News _ _ _ _ => N5
    rename Fr _ _ _ _ => F5
    refine append_ints (n := fn) F5 N5 (news' := [(I, oI2), (fd, listOf (fv ++ [Value.int (i : Int) t]).toArray (fn + 1)), (x, instObj 955 dx), (dx, rrNs w t1 t2 t3 t4 t5 t6 dd f2 ii kk n tn r tr), (dd, oa), (ii, ob), (kk, listOf vs.toArray nl), (f2, fnMade (Str.ofString "chosen") qual chosenArgs chosenBody chosenScope [(Str.ofString "rest", cr)] doc pm c' ctv), (c', oc), (cr, o2), (rs, listOf q9.toArray (rn9 + 1)), (rw, listOf rv.toArray rn)]) ?U hfv (by rw [List.length_map]; omega) ?_
    case U => k_upd
    intro h7 F7 N7 hI7
    clear N5 F5
    repeat' ((fail_if_success (with_reducible show wpAny _ _ (call (Value.ref 794) _) _ _ _)); first | (k_unfold; (try dsimp only)) | ((first | fail_if_success k_end | with_reducible show LeaveK _ _ _ _ _ _ _); (first | walk1 | (dsimp only; walk1) | (leave1; try dsimp only) | fail "no step")))
    rename News _ _ _ _ => N5
    rename Fr _ _ _ _ => F5
    simp only [Int.toNat_natCast, hkk]
    refine ⟨Frag.In.keeps X F5.keep, ?_⟩
    refine' use_contractP (rr_set w x dx dd f2 ii kk t1 t2 t3 t4 t5 t6 tn tr _ n r k r0 _ oa ob M kvs vs nl [(c', oc), (cr, o2), (rs, listOf q9.toArray (rn9 + 1))] _ _ _ _ (fun j => (row.drop (i + 1)).idxOf j) (nd_ne hnd (i := 0) (j := 1) rfl rfl (by decide)) (nd_ne hnd (i := 0) (j := 2) rfl rfl (by decide)) (nd_ne hnd (i := 0) (j := 3) rfl rfl (by decide)) (nd_ne hnd (i := 0) (j := 4) rfl rfl (by decide)) (nd_ne hnd (i := 1) (j := 2) rfl rfl (by decide)) (nd_ne hnd (i := 1) (j := 3) rfl rfl (by decide)) (nd_ne hnd (i := 1) (j := 4) rfl rfl (by decide)) (nd_ne hnd (i := 2) (j := 3) rfl rfl (by decide)) (nd_ne hnd (i := 2) (j := 4) rfl rfl (by decide)) (nd_ne hnd (i := 3) (j := 4) rfl rfl (by decide)) (nd_ne hnd (i := 0) (j := 5) rfl rfl (by decide)) (nd_ne hnd (i := 1) (j := 5) rfl rfl (by decide)) (nd_ne hnd (i := 2) (j := 5) rfl rfl (by decide)) (nd_ne hnd (i := 3) (j := 5) rfl rfl (by decide)) (nd_ne hnd (i := 4) (j := 5) rfl rfl (by decide)) (fun q hq => hEC q hq x (by simp)) (fun q hq => hEC q hq dx (by simp)) (fun q hq => hEC q hq dd (by simp)) (fun q hq => hEC q hq ii (by simp)) (fun q hq => hEC q hq kk (by simp)) lo1 lo2 IR hr hr1 hr4 hM4
      (fun _ hM0 => chosen_pick w qual (doc := doc) (pm := pm) (ctv := ctv) IR.2.2.1 hq9 (by rw [List.length_drop]; omega) (by omega) (by omega) d2 hd hv (nd_ne hnd (i := 4) (j := 5) rfl rfl (by decide)) (nd_ne hnd (i := 4) (j := 6) rfl rfl (by decide)) (nd_ne hnd (i := 4) (j := 7) rfl rfl (by decide)) (nd_ne hnd (i := 4) (j := 8) rfl rfl (by decide)) (nd_ne hnd (i := 5) (j := 8) rfl rfl (by decide)) (nd_ne hnd (i := 6) (j := 8) rfl rfl (by decide)) (nd_ne hnd (i := 7) (j := 8) rfl rfl (by decide)))) rfl B F5 X N5 T rfl rfl ?d ?u [(I, oI2), (fd, listOf (fv ++ [Value.int (i : Int) t]).toArray (fn + 1)), (rw, listOf rv.toArray rn)] ?E ?K ?ne ?_
    case d => show dp + 1 + 20 < recursionLimit; omega
    case u => show un + 3 + 10 * 20 < cLine; omega
    case E =>
      intro q hq
      rcases List.mem_append.mp hq with hq | hq
      · simp only [List.mem_cons, List.not_mem_nil, or_false] at hq
        rcases hq with rfl | rfl | rfl | rfl | rfl | rfl <;> k_mem
      · simp only [List.mem_cons, List.not_mem_nil, or_false] at hq
        rcases hq with rfl | rfl | rfl <;> k_mem
    case K =>
      intro q hq
      simp only [List.mem_cons, List.not_mem_nil, or_false] at hq
      rcases hq with rfl | rfl | rfl <;> k_mem
    case ne =>
      intro q hq r' hr'
      simp only [List.mem_cons, List.not_mem_nil, or_false] at hq
      rcases List.mem_append.mp hr' with hr' | hr'
      · simp only [List.mem_cons, List.not_mem_nil, or_false] at hr'
        rcases hq with rfl | rfl | rfl <;> rcases hr' with rfl | rfl | rfl | rfl | rfl | rfl <;> (refine neN ?_; dsimp only; omega)
      · simp only [List.mem_cons, List.not_mem_nil, or_false] at hr'
        rcases hq with rfl | rfl | rfl <;> rcases hr' with rfl | rfl | rfl <;> (refine neN ?_; dsimp only; omega)
    intro v3 E3 h3 tk3 F3 N3 ne3 hp3
    obtain ⟨oa', ob', n', tn', vs', nl', M', kvs', rfl, IR', hst, b1, b2, b3, b4⟩ := hp3
    obtain ⟨t8, rfl⟩ : ∃ t8, v3 = .int k t8 := by
      by_cases hk9 : k ∈ M
      · obtain ⟨t8, h8⟩ := VK k hk9
        have := (b1 hk9).symm.trans h8
        exact ⟨t8, Option.some.inj this⟩
      · exact ⟨_, b2 hk9⟩
    simp only [List.cons_append, List.nil_append] at N3
    clear N5 ne3
    repeat' ((fail_if_success (with_reducible show wpAny _ _ (compareOp CmpOp.NotEq _ _) _ _ _)); first | (k_unfold; (try dsimp only)) | ((first | fail_if_success k_end | with_reducible show LeaveK _ _ _ _ _ _ _); (first | walk1 | (dsimp only; walk1) | (leave1; try dsimp only) | fail "no step")))
    simp only [Int.toNat_natCast, hkk]
    repeat' (first | (k_unfold; (try dsimp only)) | ((first | fail_if_success k_end | with_reducible show LeaveK _ _ _ _ _ _ _); (first | walk1 | (dsimp only; walk1) | (leave1; try dsimp only) | fail "no step")))
    · exfalso; omega
    · dsimp only [OwitFlow]
      rename Fr _ _ _ _ => F9
      have hstep := MinRun.step hMR hi (next_rank (hkk ▸ hst))
      refine ⟨_, _, _, fv ++ [Value.int (i : Int) t], (fn + 1), oa', ob', oI2, n', tn', kvs', vs', nl', M', _, q9, (rn9 + 1), rfl, F9, fun q hq => N3 q ?mem, ⟨(if_neg (by decide)).trans m1, (if_neg (by decide)).trans m2, (if_neg (by decide)).trans m3, (if_neg (by decide)).trans m4⟩, IR', ?val, hstep, ?hits, hq9, hI2⟩
      case mem =>
        simp only [List.mem_cons, List.not_mem_nil, or_false] at hq
        rcases hq with rfl | rfl | rfl | rfl | rfl | rfl | rfl | rfl | rfl | rfl | rfl | rfl <;> k_mem
      case val =>
        intro j hj
        by_cases e : j = k
        · subst e; exact ⟨t8, b3⟩
        · obtain ⟨z1, z2⟩ := b4 j hj e
          rw [z2]; exact VK j z1
      case hits =>
        rw [hkk, if_pos hk]
        rw [List.map_append]; exact hI7
  · have hb9 : (valueAt kvs k).isSome = false := by rw [Bool.eq_false_iff]; exact fun z => hk ((hmem k).mp z)
    repeat' ((fail_if_success (with_reducible show wpAny _ _ (call (Value.ref 794) _) _ _ _)); first | (k_unfold; (try dsimp only)) | ((first | fail_if_success k_end | with_reducible show LeaveK _ _ _ _ _ _ _); (first | walk1 | (dsimp only; walk1) | (leave1; try dsimp only) | fail "no step")))
    rename News _ _ _ _ => N5
    rename Fr _ _ _ _ => F5
    simp only [Int.toNat_natCast, hkk]
    refine ⟨Frag.In.keeps X F5.keep, ?_⟩
    refine' use_contractP (rr_set w x dx dd f2 ii kk t1 t2 t3 t4 t5 t6 tn tr _ n r k r0 _ oa ob M kvs vs nl [(c', oc), (cr, o2), (rs, listOf q9.toArray (rn9 + 1))] _ _ _ _ (fun j => (row.drop (i + 1)).idxOf j) (nd_ne hnd (i := 0) (j := 1) rfl rfl (by decide)) (nd_ne hnd (i := 0) (j := 2) rfl rfl (by decide)) (nd_ne hnd (i := 0) (j := 3) rfl rfl (by decide)) (nd_ne hnd (i := 0) (j := 4) rfl rfl (by decide)) (nd_ne hnd (i := 1) (j := 2) rfl rfl (by decide)) (nd_ne hnd (i := 1) (j := 3) rfl rfl (by decide)) (nd_ne hnd (i := 1) (j := 4) rfl rfl (by decide)) (nd_ne hnd (i := 2) (j := 3) rfl rfl (by decide)) (nd_ne hnd (i := 2) (j := 4) rfl rfl (by decide)) (nd_ne hnd (i := 3) (j := 4) rfl rfl (by decide)) (nd_ne hnd (i := 0) (j := 5) rfl rfl (by decide)) (nd_ne hnd (i := 1) (j := 5) rfl rfl (by decide)) (nd_ne hnd (i := 2) (j := 5) rfl rfl (by decide)) (nd_ne hnd (i := 3) (j := 5) rfl rfl (by decide)) (nd_ne hnd (i := 4) (j := 5) rfl rfl (by decide)) (fun q hq => hEC q hq x (by simp)) (fun q hq => hEC q hq dx (by simp)) (fun q hq => hEC q hq dd (by simp)) (fun q hq => hEC q hq ii (by simp)) (fun q hq => hEC q hq kk (by simp)) lo1 lo2 IR hr hr1 hr4 hM4
      (fun _ hM0 => chosen_pick w qual (doc := doc) (pm := pm) (ctv := ctv) IR.2.2.1 hq9 (by rw [List.length_drop]; omega) (by omega) (by omega) d2 hd hv (nd_ne hnd (i := 4) (j := 5) rfl rfl (by decide)) (nd_ne hnd (i := 4) (j := 6) rfl rfl (by decide)) (nd_ne hnd (i := 4) (j := 7) rfl rfl (by decide)) (nd_ne hnd (i := 4) (j := 8) rfl rfl (by decide)) (nd_ne hnd (i := 5) (j := 8) rfl rfl (by decide)) (nd_ne hnd (i := 6) (j := 8) rfl rfl (by decide)) (nd_ne hnd (i := 7) (j := 8) rfl rfl (by decide)))) rfl B F5 X N5 T rfl rfl ?d ?u [(I, oI2), (fd, listOf (fv).toArray fn), (rw, listOf rv.toArray rn)] ?E ?K ?ne ?_
    case d => show dp + 1 + 20 < recursionLimit; omega
    case u => show un + 3 + 10 * 20 < cLine; omega
    case E =>
      intro q hq
      rcases List.mem_append.mp hq with hq | hq
      · simp only [List.mem_cons, List.not_mem_nil, or_false] at hq
        rcases hq with rfl | rfl | rfl | rfl | rfl | rfl <;> k_mem
      · simp only [List.mem_cons, List.not_mem_nil, or_false] at hq
        rcases hq with rfl | rfl | rfl <;> k_mem
    case K =>
      intro q hq
      simp only [List.mem_cons, List.not_mem_nil, or_false] at hq
      rcases hq with rfl | rfl | rfl <;> k_mem
    case ne =>
      intro q hq r' hr'
      simp only [List.mem_cons, List.not_mem_nil, or_false] at hq
      rcases List.mem_append.mp hr' with hr' | hr'
      · simp only [List.mem_cons, List.not_mem_nil, or_false] at hr'
        rcases hq with rfl | rfl | rfl <;> rcases hr' with rfl | rfl | rfl | rfl | rfl | rfl <;> (refine neN ?_; dsimp only; omega)
      · simp only [List.mem_cons, List.not_mem_nil, or_false] at hr'
        rcases hq with rfl | rfl | rfl <;> rcases hr' with rfl | rfl | rfl <;> (refine neN ?_; dsimp only; omega)
    intro v3 E3 h3 tk3 F3 N3 ne3 hp3
    obtain ⟨oa', ob', n', tn', vs', nl', M', kvs', rfl, IR', hst, b1, b2, b3, b4⟩ := hp3
    obtain ⟨t8, rfl⟩ : ∃ t8, v3 = .int k t8 := by
      by_cases hk9 : k ∈ M
      · obtain ⟨t8, h8⟩ := VK k hk9
        have := (b1 hk9).symm.trans h8
        exact ⟨t8, Option.some.inj this⟩
      · exact ⟨_, b2 hk9⟩
    simp only [List.cons_append, List.nil_append] at N3
    clear N5 ne3
    repeat' ((fail_if_success (with_reducible show wpAny _ _ (compareOp CmpOp.NotEq _ _) _ _ _)); first | (k_unfold; (try dsimp only)) | ((first | fail_if_success k_end | with_reducible show LeaveK _ _ _ _ _ _ _); (first | walk1 | (dsimp only; walk1) | (leave1; try dsimp only) | fail "no step")))
    simp only [Int.toNat_natCast, hkk]
    repeat' (first | (k_unfold; (try dsimp only)) | ((first | fail_if_success k_end | with_reducible show LeaveK _ _ _ _ _ _ _); (first | walk1 | (dsimp only; walk1) | (leave1; try dsimp only) | fail "no step")))
    · exfalso; omega
    · dsimp only [OwitFlow]
      rename Fr _ _ _ _ => F9
      have hstep := MinRun.step hMR hi (next_rank (hkk ▸ hst))
      refine ⟨_, _, _, fv, fn, oa', ob', oI2, n', tn', kvs', vs', nl', M', _, q9, (rn9 + 1), rfl, F9, fun q hq => N3 q ?mem, ⟨(if_neg (by decide)).trans m1, (if_neg (by decide)).trans m2, (if_neg (by decide)).trans m3, (if_neg (by decide)).trans m4⟩, IR', ?val, hstep, ?hits, hq9, hI2⟩
      case mem =>
        simp only [List.mem_cons, List.not_mem_nil, or_false] at hq
        rcases hq with rfl | rfl | rfl | rfl | rfl | rfl | rfl | rfl | rfl | rfl | rfl | rfl <;> k_mem
      case val =>
        intro j hj
        by_cases e : j = k
        · subst e; exact ⟨t8, b3⟩
        · obtain ⟨z1, z2⟩ := b4 j hj e
          rw [z2]; exact VK j z1
      case hits =>
        rw [hkk, if_neg hk]
        exact hfv
set_option maxHeartbeats 16000000 in
theorem served_rr (w : World) (qual : Str) (x dx dd ii kk f2 c' cr rw rs : Nat) (t1 t2 t3 t4 t5 t6 tn tr t9 : Tok) (r0 : Nat) (r : Int) (od1 od2 o2 oc : Obj) (cvs : Array Value) (doc pm ctv : Value) (row : List Int) (rv rv8 : List Value) (rn rn8 nl0 : Nat)
   (ord : rw < rs ∧ rs < cr ∧ cr < f2 ∧ (c' < f2 ∧ c' ≠ rw ∧ c' ≠ rs ∧ c' ≠ cr) ∧ f2 < dx ∧ dx < x ∧ x < dd ∧ dd < ii ∧ ii < kk) (lo1 : (dd == sysModules) = false) (lo2 : (ii == sysModules) = false)
   (hrv : IntsAre rv row) (hrv8 : IntsAre rv8 row) (hz : row.length ≤ 30) (hr : r = r0) (hr1 : 1 ≤ r0) (hr4 : r0 ≤ 4) (hd1 : od1.IsDictOf (intKind PySem.Challenge.rw_fc0035_01.row.prog w) []) (hd2 : od2.IsDictOf (intKind PySem.Challenge.rw_fc0035_01.row.prog w) [])
   (d2 : o2.data = .cell (some (.ref rs))) (hd : oc.data = .fields cvs) (hv : cvs[1]? = some (.str qual t9)) :
   ContractP 40 PySem.Challenge.rw_fc0035_01.row.prog w (tjCSoBpQsPZBkyzz.heap_39 w.params) 985 [.ref x, .ref rw, .ref rs] [(x, instObj 955 dx), (dx, rrNs w t1 t2 t3 t4 t5 t6 dd f2 ii kk 0 tn r tr), (dd, od1), (ii, od2), (kk, listOf #[] nl0), (f2, fnMade (Str.ofString "chosen") qual chosenArgs chosenBody chosenScope [(Str.ofString "rest", cr)] doc pm c' ctv), (c', oc), (cr, o2), (rs, listOf rv8.toArray rn8), (rw, listOf rv.toArray rn)]
     fun a E' => ∃ D fv fn M f, a = .ref D ∧ E' = [(D, listOf (List.toArray fv) fn), (rw, listOf rv.toArray rn), (c', oc)] ∧ MinRun r0 row row.length M f ∧ IntsAre fv (f.map fun (p : Nat) => (p : Int)) ∧ @LT.lt Nat _ rw D := by
  unfold ContractP
  intro dp un gd outer base s p9 loose mean mg mb R hdp hun B NE X T hret
  k_dflt cell_call
  repeat' ((fail_if_success (with_reducible show wpAny _ _ (exec (PySem.Stmt.For _ _ _ _ _) _) _ _ _)); first | (k_unfold; (try dsimp only)) | ((first | fail_if_success k_end | with_reducible show LeaveK _ _ _ _ _ _ _); (first | walk1 | (dsimp only; walk1) | (leave1; try dsimp only) | fail "no step")))
  rename Fr _ _ _ _ => F9
  rename News _ _ _ _ => N9
  rename Below _ _ _ _ => B9
  rename Frag.In _ _ => X9
  rename Top _ _ _ _ _ _ => T9
  rename _ = hideAll _ _ => G9
  rename_i g9 L9 h9a n9 fd h9b l9 h9c
  refine' owit_for ?hf ?hs ?hE
  case hs => (intro _; with_unfolding_all rfl)
  case hE => with_unfolding_all passes_own
  repeat' ((fail_if_success (with_reducible show wpAny _ _ (pyIter _) _ _ _)); first | (k_unfold; (try dsimp only)) | ((first | fail_if_success k_end | with_reducible show LeaveK _ _ _ _ _ _ _); (first | walk1 | (dsimp only; walk1) | (leave1; try dsimp only) | fail "no step")))
  rename IsRange _ _ _ _ _ _ _ _ => hR9
  rename Fr _ _ _ _ => F8
  rename News _ _ _ _ => N8
  rename_i h9d tk9d ta9 tb9 tc9 a9d
  clear B X T NE
  refine wpAny_pyIter_range hR9 (small_one (by omega) (by omega) (by omega) (by omega)) ?_
  refine OwitAt.intro ?_
  refine Eq.mp (congrArg (fun q => OwitRest _ _ _ _ _ _ _ _ _ q _) (show row.length + 1 + (63 - row.length) = 64 by omega)) ?_
  have hfdlt : @LT.lt Nat _ fd h9d.objs.size := Heap.lt_size (N8 _ (.head _)).1
  have hkf : @LT.lt Nat _ kk fd := by omega
  refine range_owit (n := row.length) (a := 0) rfl (InvR w L9 x dx dd ii kk f2 c' cr rw rs fd h9d.objs.size t1 t2 t3 t4 t5 t6 tr qual doc pm ctv o2 oc r0 r row rv rn g9 s) (63 - row.length) ?hI ?step ?done row.length 0 _ (by omega) ?init
  case init =>
    refine ⟨_, _, _, [], 0, od1, od2, _, 0, tn, [], [], nl0, [], [], rv8, rn8, rfl, F8.push _, News.push F8 N8 _ rfl, ⟨?m1, ?m2, ?m3, ?m4⟩, ⟨hd1, ⟨[], hd2, List.Perm.refl _, fun i j h => by simp at h⟩, .nil, List.Perm.refl _, List.nodup_nil, rfl⟩, (fun j h => nomatch h), .zero, .nil, hrv8, ?it⟩
    case m1 => with_unfolding_all exact rfl
    case m2 => with_unfolding_all exact rfl
    case m3 => with_unfolding_all exact rfl
    case m4 => with_unfolding_all exact rfl
    case it =>
      intro h' e
      have hn : Builtin.Range.rangeSize 0 (row.length : Int) 1 = (row.length : Int) := by rw [rangeSize_one]; split <;> omega
      rw [hn] at e
      show IsRangeIter _ _ _ _ _
      simpa using e
  case hI =>
    rintro i s2 ⟨h, tk, m, fv, fn, oa, ob, oI, n, tn, kvs, vs, nl, M, f, rv9, rn9, rfl, F, N, _, _, _, _, _, _, hoI⟩
    exact hoI h (N _ (.head _)).1
  case step =>
    intro i s2 t h2 tk2 hi J hI hk
    exact served_turnR w (g0 := g9) hdp hun B9 X9 T9 ⟨ord.1, ord.2.1, ord.2.2.1, ord.2.2.2.1, ord.2.2.2.2.1, ord.2.2.2.2.2.1, ord.2.2.2.2.2.2.1, ord.2.2.2.2.2.2.2.1, ord.2.2.2.2.2.2.2.2, hkf, hfdlt⟩ lo1 lo2 hrv hz hr hr1 hr4 d2 hd hv hi J hI hk
  case done =>
    rintro s2 h2 tk2 ⟨h, tk, m, fv, fn, oa, ob, oI, n, tn, kvs, vs, nl, M, f, rv9, rn9, rfl, F, N, ⟨m1, m2, m3, m4⟩, IR, VK, hMR, hfv, hrv9, hoI⟩ hk
    have hIL := (N (h9d.objs.size, oI) (.head _)).2.1
    have hI0 := (N (h9d.objs.size, oI) (.head _)).2.2
    have hk' : ∀ b o, b ∉ [h9d.objs.size] → h.get? b = some o → h2.get? b = some o := fun b o hb => hk b o fun e => hb (by simp [e])
    have F2 : Fr g9 L9 h2 m := LCg.fr_but F hk' (fun e => hIL e.symm) hI0
    have N2 : News g9 L9 h2 [(fd, listOf fv.toArray fn), (rw, listOf rv.toArray rn), (c', oc)] := by
      refine LCg.news_but (fun p hp => N p ?_) hk' (fun p hp => ?_)
      · simp only [List.mem_cons, List.not_mem_nil, or_false] at hp
        rcases hp with rfl | rfl | rfl <;> k_mem
      · simp only [List.mem_cons, List.not_mem_nil, or_false] at hp
        rcases hp with rfl | rfl | rfl
        all_goals (refine neN ?_; dsimp only; omega)
    clear N F
    dsimp only
    repeat' (first | (k_unfold; (try dsimp only)) | ((first | fail_if_success k_end | with_reducible show LeaveK _ _ _ _ _ _ _); (first | walk1 | (dsimp only; walk1) | (leave1; try dsimp only) | fail "no step")))
    try dsimp only
    repeat (k_unfold; dsimp only)
    refine' end_P hret ?zg ?zF ?zN ⟨fd, fv, fn, M, f, rfl, rfl, hMR, hfv, ?zl⟩
    case zg => exact G9
    case zF => exact F2
    case zN => exact N2
    case zl =>
      obtain ⟨o1, o2, o3, o4, o5, o6, o7, o8, o9⟩ := ord
      exact Nat.lt_trans o1 (Nat.lt_trans o2 (Nat.lt_trans o3 (Nat.lt_trans o5 (Nat.lt_trans o6 (Nat.lt_trans o7 (Nat.lt_trans o8 (Nat.lt_trans o9 hkf)))))))
set_option maxHeartbeats 16000000 in
theorem last1 (w : World) (rw : Nat) (tr : Tok) (r0 : Nat) (r : Int) (row : List Int) (rv : List Value) (rn : Nat)
   (hrv : IntsAre rv row) (hz : row.length ≤ 30) (hr : r = r0) (hr1 : 1 ≤ r0) (hr4 : r0 ≤ 4) :
   Contract 60 PySem.Challenge.rw_fc0035_01.row.prog w (tjCSoBpQsPZBkyzz.heap_39 w.params) 992 [.int r tr, .ref rw] [(rw, listOf rv.toArray rn)]
     fun a E' => ∃ D fv fn, a = .ref D ∧ E' = [(D, listOf (List.toArray fv) fn), (rw, listOf rv.toArray rn)] ∧ IntsAre fv ((lruHits r0 row).map fun (p : Nat) => (p : Int)) ∧ @LT.lt Nat _ rw D := by
  unfold Contract
  intro dp un gd outer base s p9 loose mean mg mb R hdp hun B NE X T XB TB D hret
  have hr1' : 1 ≤ r := by omega
  have hr4' : r ≤ 4 := by omega
  k_dflt cell_enter
  repeat' ((fail_if_success (with_reducible show wpAny _ _ (call (Value.ref 985) _) _ _ _)); first | (k_unfold; (try dsimp only)) | ((first | fail_if_success k_end | with_reducible show LeaveK _ _ _ _ _ _ _ | with_reducible show Frag.In _ _ ∧ _); (first | walk1 | (dsimp only; walk1) | (leave1; try dsimp only) | fail "no step")))
  rename Fr _ _ _ _ => F9
  rename News _ _ _ _ => N9
  rename Below _ _ _ _ => B9
  rename Frag.In _ _ => X9
  rename Top _ _ _ _ _ _ => T9
  rename KtsDicts _ _ => D9
  rename KtsTurn _ _ _ => TT9
  refine' use_contractT (served_lru w _ ?dx ?dd ?oo rw _ ?t1 ?t2 ?t3 ?t4 ?tn ?tr r0 r ?od1 ?od2 row rv rn 0 ?ord ?lo1 ?lo2 hrv hz hr hr1 hr4 ?hd1 ?hd2) rfl ?B F9 ?X N9 ?T XB TB ?D rfl rfl ?d ?u [] ?E ?K ?ne ?_
  case E => exact List.forall_mem_cons.mpr ⟨by k_mem, List.forall_mem_cons.mpr ⟨by k_mem, List.forall_mem_cons.mpr ⟨by k_mem, List.forall_mem_cons.mpr ⟨by k_mem, List.forall_mem_cons.mpr ⟨by k_mem, List.forall_mem_cons.mpr ⟨by k_mem, fun _ h => nomatch h⟩⟩⟩⟩⟩⟩
  case K => exact fun q hq => nomatch hq
  case ne => exact fun q hq => nomatch hq
  case d => show dp + 1 + 40 < recursionLimit; omega
  case u => show un + 3 + 10 * 40 < cLine; omega
  case ord => refine ⟨?_, ?_, ?_, ?_, ?_⟩ <;> (refine ltN ?_; omega)
  case lo1 => with_reducible assumption
  case lo2 => with_reducible assumption
  case hd1 => with_reducible assumption
  case hd2 => with_reducible assumption
  case B => with_reducible assumption
  case X => with_reducible assumption
  case T => with_reducible assumption
  case D => with_reducible assumption
  intro v3 E3 h3 tk3 g3 e3 TT3 F3 N3 ne3 B3 X3 T3 D3 hp3
  obtain ⟨Df, fv, fn, rfl, rfl, hfv, hlt⟩ := hp3
  simp only [List.nil_append] at N3
  dsimp only
  repeat (k_unfold; dsimp only)
  refine' end_F hret ?zg F3 N3 ⟨_, fv, fn, rfl, rfl, hfv, hlt⟩
  case zg => exact KtsTurn.trans (by with_reducible assumption) TT3
abbrev qualAhead : Str := Str.ofString "_law_ahead.<locals>.chosen"
set_option maxHeartbeats 16000000 in
theorem best1a (w : World) (rw : Nat) (tr : Tok) (r0 : Nat) (r : Int) (row : List Int) (rv : List Value) (rn : Nat) (lw : @Ne Nat 973 rw)
   (hrv : IntsAre rv row) (hz : row.length ≤ 30) (hr : r = r0) (hr1 : 1 ≤ r0) (hr4 : r0 ≤ 4) :
   ContractPH (fun h => CodeHd h 977 973) 60 PySem.Challenge.rw_fc0035_01.row.prog w (tjCSoBpQsPZBkyzz.heap_39 w.params) 999 [.int r tr, .ref rw] [(rw, listOf rv.toArray rn), (973, tabObj #[])]
     fun a E' => ∃ D fv fn M f c' oc cvs t9, a = .ref D ∧ E' = [(973, tabObj #[rawInt ((564 : Nat) : Int), rawInt ((4 : Nat) : Int), .ref c']), (D, listOf (List.toArray fv) fn), (rw, listOf rv.toArray rn), (c', oc)] ∧ MinRun r0 row row.length M f ∧ IntsAre fv (f.map fun (p : Nat) => (p : Int)) ∧ oc.data = .fields cvs ∧ cvs[1]? = some (.str qualAhead t9) ∧ @LT.lt Nat _ rw D ∧ @LT.lt Nat _ 973 c' := by
  unfold ContractPH
  intro dp un gd outer base s p9 loose mean mg mb R hdp hun B NE X T hH hret
  have hr1' : 1 ≤ r := by omega
  have hr4' : r ≤ 4 := by omega
  k_dflt cell_call
  rename _ = hideAll _ _ => G9
  repeat' ((fail_if_success (with_reducible show wpAny _ _ (call (Value.ref 985) _) _ _ _)); first | (k_unfold; (try dsimp only)) | ((first | fail_if_success k_end | with_reducible show LeaveK _ _ _ _ _ _ _ | with_reducible show Frag.In _ _ ∧ _); (first | walk1 | (dsimp only; walk1) | (leave1; try dsimp only) | fail "no step")))
  rename Fr _ _ _ _ => F9
  rename News _ _ _ _ => N9
  rename Below _ _ _ _ => B9
  rename Frag.In _ _ => X9
  rename Top _ _ _ _ _ _ => T9
  refine' use_contractP (served_rr w _ _ ?dx ?dd ?ii ?kk ?f2 ?c9 ?cr rw _ ?t1 ?t2 ?t3 ?t4 ?t5 ?t6 ?tn ?tr ?t9 r0 r ?od1 ?od2 ?o2 ?oc ?cvs ?doc ?pm ?ctv row rv ?rv8 rn ?rn8 0 ?ord ?lo1 ?lo2 hrv ?hrv8 hz hr hr1 hr4 ?hd1 ?hd2 ?d2 ?hd ?hv) rfl ?B F9 ?X N9 ?T rfl rfl ?d ?u [(973, tabObj _)] ?E ?K ?ne ?_
  case E => exact List.forall_mem_cons.mpr ⟨by k_mem, List.forall_mem_cons.mpr ⟨by k_mem, List.forall_mem_cons.mpr ⟨by k_mem, List.forall_mem_cons.mpr ⟨by k_mem, List.forall_mem_cons.mpr ⟨by k_mem, List.forall_mem_cons.mpr ⟨by k_mem, List.forall_mem_cons.mpr ⟨by k_mem, List.forall_mem_cons.mpr ⟨by k_mem, List.forall_mem_cons.mpr ⟨by k_mem, List.forall_mem_cons.mpr ⟨by k_mem, fun _ h => nomatch h⟩⟩⟩⟩⟩⟩⟩⟩⟩⟩
  case ord => exact ⟨ltN (by omega), ltN (by omega), ltN (by omega), ⟨ltN (by omega), neN (by omega), neN (by omega), neN (by omega)⟩, ltN (by omega), ltN (by omega), ltN (by omega), ltN (by omega), ltN (by omega)⟩
  case lo1 => with_reducible assumption
  case lo2 => with_reducible assumption
  case hrv8 => exact hrv
  case hd1 => with_reducible assumption
  case hd2 => with_reducible assumption
  case d2 => first | with_reducible assumption | assumption
  case hd => with_reducible assumption
  case hv => with_reducible assumption
  case B => with_reducible assumption
  case X => with_reducible assumption
  case T => with_reducible assumption
  case d => show dp + 1 + 40 < recursionLimit; omega
  case u => show un + 3 + 10 * 40 < cLine; omega
  case K => exact List.forall_mem_cons.mpr ⟨by k_mem, fun _ h => nomatch h⟩
  case ne =>
    dsimp only
    refine List.forall_mem_cons.mpr ⟨?_, fun _ h => nomatch h⟩
    simp only [List.forall_mem_cons]
    refine ⟨?_, ?_, ?_, ?_, ?_, ?_, ?_, ?_, ?_, ?_, fun _ h => nomatch h⟩ <;> (refine neN ?_; (try dsimp only); omega)
  intro v3 E3 h3 tk3 F3 N3 ne3 hp3
  obtain ⟨Df, fv, fn, M, f, rfl, rfl, hMR, hfv, hlt⟩ := hp3
  dsimp only
  repeat (k_unfold; dsimp only)
  simp only [List.singleton_append, List.cons_append, List.nil_append] at N3
  refine' end_P hret G9 F3 N3 ⟨_, fv, fn, M, f, _, _, _, _, rfl, rfl, hMR, hfv, ?hd9, ?hv9, hlt, ?hl9⟩
  case hd9 => with_reducible assumption
  case hv9 => assumption
  case hl9 => exact ltN (by omega)
set_option maxHeartbeats 16000000 in
theorem best1b (w : World) (rw c' : Nat) (oc : Obj) (cvs : Array Value) (t9 : Tok) (tr : Tok) (r0 : Nat) (r : Int) (row : List Int) (rv : List Value) (rn : Nat) (lw : @Ne Nat 973 rw) (lc : 973 < c') (nc : c' ≠ rw) (hd9 : oc.data = .fields cvs) (hv9 : cvs[1]? = some (.str qualAhead t9))
   (hrv : IntsAre rv row) (hz : row.length ≤ 30) (hr : r = r0) (hr1 : 1 ≤ r0) (hr4 : r0 ≤ 4) :
   ContractPH (fun h => CodeHd h 977 973) 60 PySem.Challenge.rw_fc0035_01.row.prog w (tjCSoBpQsPZBkyzz.heap_39 w.params) 999 [.int r tr, .ref rw] [(rw, listOf rv.toArray rn), (c', oc), (973, tabObj #[rawInt ((564 : Nat) : Int), rawInt ((4 : Nat) : Int), .ref c'])]
     fun a E' => ∃ D fv fn M f, a = .ref D ∧ E' = [(973, tabObj #[rawInt ((564 : Nat) : Int), rawInt ((4 : Nat) : Int), .ref c']), (D, listOf (List.toArray fv) fn), (rw, listOf rv.toArray rn), (c', oc)] ∧ MinRun r0 row row.length M f ∧ IntsAre fv (f.map fun (p : Nat) => (p : Int)) ∧ @LT.lt Nat _ rw D := by
  unfold ContractPH
  intro dp un gd outer base s p9 loose mean mg mb R hdp hun B NE X T hH hret
  have hr1' : 1 ≤ r := by omega
  have hr4' : r ≤ 4 := by omega
  k_dflt cell_call
  rename _ = hideAll _ _ => G9
  repeat' ((fail_if_success (with_reducible show wpAny _ _ (call (Value.ref 985) _) _ _ _)); first | (k_unfold; (try dsimp only)) | ((first | fail_if_success k_end | with_reducible show LeaveK _ _ _ _ _ _ _ | with_reducible show Frag.In _ _ ∧ _); (first | walk1 | (dsimp only; walk1) | (leave1; try dsimp only) | fail "no step")))
  rename Fr _ _ _ _ => F9
  rename News _ _ _ _ => N9
  rename Below _ _ _ _ => B9
  rename Frag.In _ _ => X9
  rename Top _ _ _ _ _ _ => T9
  refine' use_contractP (served_rr w _ _ ?dx ?dd ?ii ?kk ?f2 ?c9 ?cr rw _ ?t1 ?t2 ?t3 ?t4 ?t5 ?t6 ?tn ?tr ?t9 r0 r ?od1 ?od2 ?o2 ?oc ?cvs ?doc ?pm ?ctv row rv ?rv8 rn ?rn8 0 ?ord ?lo1 ?lo2 hrv ?hrv8 hz hr hr1 hr4 ?hd1 ?hd2 ?d2 ?hd ?hv) rfl ?B F9 ?X N9 ?T rfl rfl ?d ?u [(973, tabObj _)] ?E ?K ?ne ?_
  case E => exact List.forall_mem_cons.mpr ⟨by k_mem, List.forall_mem_cons.mpr ⟨by k_mem, List.forall_mem_cons.mpr ⟨by k_mem, List.forall_mem_cons.mpr ⟨by k_mem, List.forall_mem_cons.mpr ⟨by k_mem, List.forall_mem_cons.mpr ⟨by k_mem, List.forall_mem_cons.mpr ⟨by k_mem, List.forall_mem_cons.mpr ⟨by k_mem, List.forall_mem_cons.mpr ⟨by k_mem, List.forall_mem_cons.mpr ⟨by k_mem, fun _ h => nomatch h⟩⟩⟩⟩⟩⟩⟩⟩⟩⟩
  case ord => exact ⟨ltN (by omega), ltN (by omega), ltN (by omega), ⟨ltN (by omega), neN (by omega), neN (by omega), neN (by omega)⟩, ltN (by omega), ltN (by omega), ltN (by omega), ltN (by omega), ltN (by omega)⟩
  case lo1 => with_reducible assumption
  case lo2 => with_reducible assumption
  case hrv8 => exact hrv
  case hd1 => with_reducible assumption
  case hd2 => with_reducible assumption
  case d2 => first | with_reducible assumption | assumption
  case hd => with_reducible assumption
  case hv => with_unfolding_all exact hv9
  case B => with_reducible assumption
  case X => with_reducible assumption
  case T => with_reducible assumption
  case d => show dp + 1 + 40 < recursionLimit; omega
  case u => show un + 3 + 10 * 40 < cLine; omega
  case K => exact List.forall_mem_cons.mpr ⟨by k_mem, fun _ h => nomatch h⟩
  case ne =>
    dsimp only
    refine List.forall_mem_cons.mpr ⟨?_, fun _ h => nomatch h⟩
    simp only [List.forall_mem_cons]
    refine ⟨?_, ?_, ?_, ?_, ?_, ?_, ?_, ?_, ?_, ?_, fun _ h => nomatch h⟩ <;> (refine neN ?_; (try dsimp only); omega)
  intro v3 E3 h3 tk3 F3 N3 ne3 hp3
  obtain ⟨Df, fv, fn, M, f, rfl, rfl, hMR, hfv, hlt⟩ := hp3
  dsimp only
  repeat (k_unfold; dsimp only)
  simp only [List.singleton_append, List.cons_append, List.nil_append] at N3
  refine' end_P hret G9 F3 N3 ⟨_, fv, fn, M, f, rfl, rfl, hMR, hfv, hlt⟩
/-- the table of _law_ahead's code: untouched, or with the code of its inner def -/
def TabE (l : List (Addr × Obj)) : Prop :=
  l = [(973, tabObj #[])] ∨ ∃ (c' : Addr) (oc : Obj) (cvs : Array Value) (t9 : Tok), l = [(c', oc), (973, tabObj #[rawInt ((564 : Nat) : Int), rawInt ((4 : Nat) : Int), .ref c'])] ∧ oc.data = .fields cvs ∧ cvs[1]? = some (.str qualAhead t9) ∧ @LT.lt Nat _ 973 c'
theorem best3 (w : World) (rw : Nat) (tr : Tok) (r0 : Nat) (r : Int) (row : List Int) (rv : List Value) (rn : Nat) (tabE : List (Addr × Obj)) (hT : TabE tabE) (hne : ∀ q ∈ tabE, q.1 ≠ rw) (lw : @Ne Nat 973 rw)
   (hrv : IntsAre rv row) (hz : row.length ≤ 30) (hr : r = r0) (hr1 : 1 ≤ r0) (hr4 : r0 ≤ 4) :
   ContractPH (fun h => CodeHd h 977 973) 60 PySem.Challenge.rw_fc0035_01.row.prog w (tjCSoBpQsPZBkyzz.heap_39 w.params) 999 [.int r tr, .ref rw] ((rw, listOf rv.toArray rn) :: tabE)
     fun a E' => ∃ (D : Addr) (fv : List Value) (fn : Nat) (tabE' : List (Addr × Obj)) (M : List Int) (f : List Nat), a = .ref D ∧ E' = (D, listOf (List.toArray fv) fn) :: (rw, listOf rv.toArray rn) :: tabE' ∧ TabE tabE' ∧ MinRun r0 row row.length M f ∧ IntsAre fv (f.map fun (p : Nat) => (p : Int)) ∧ @LT.lt Nat _ rw D := by
  rcases hT with rfl | ⟨c', oc, cvs, t9, rfl, hd, hv, lc⟩
  · intro dp un gd outer base s p loose mean mg mb R hdp hun B NE X T hH hret
    refine best1a w rw tr r0 r row rv rn lw hrv hz hr hr1 hr4 dp un gd outer base s p loose mean mg mb R hdp hun B NE X T hH fun v E' h' tk' hE hk hp => ?_
    obtain ⟨D, fv, fn, M, f, c', oc, cvs, t9, rfl, rfl, hMR, hfv, hd, hv, hl, hc⟩ := hp
    refine hret _ _ h' tk' (fun q hq => hE q ?_) hk ⟨D, fv, fn, [(c', oc), (973, tabObj #[rawInt ((564 : Nat) : Int), rawInt ((4 : Nat) : Int), .ref c'])], M, f, rfl, rfl, .inr ⟨c', oc, cvs, t9, rfl, hd, hv, hc⟩, hMR, hfv, hl⟩
    simp only [List.mem_cons, List.not_mem_nil, or_false] at hq ⊢
    rcases hq with h | h | h | h <;> simp [h]
  · intro dp un gd outer base s p loose mean mg mb R hdp hun B NE X T hH hret
    refine best1b w rw c' oc cvs t9 tr r0 r row rv rn lw lc (hne _ (.head _)) hd hv hrv hz hr hr1 hr4 dp un gd outer base s p loose mean mg mb R hdp hun B NE X T hH fun v E' h' tk' hE hk hp => ?_
    obtain ⟨D, fv, fn, M, f, rfl, rfl, hMR, hfv, hl⟩ := hp
    refine hret _ _ h' tk' (fun q hq => hE q ?_) hk ⟨D, fv, fn, [(c', oc), (973, tabObj #[rawInt ((564 : Nat) : Int), rawInt ((4 : Nat) : Int), .ref c'])], M, f, rfl, rfl, .inr ⟨c', oc, cvs, t9, rfl, hd, hv, lc⟩, hMR, hfv, hl⟩
    simp only [List.mem_cons, List.not_mem_nil, or_false] at hq ⊢
    rcases hq with h | h | h | h <;> simp [h]
def pairC (g : Nat × Nat) : Int × Int := ((g.1 : Int), (g.2 : Int))
theorem gap_max {row : List Int} {q p : Nat} (g : Gap row q p) : 0 < (((List.range p).filter fun k => decide (row.getD k 0 = row.getD p 0)).map fun (k : Nat) => (k : Int)).length ∧
    ∀ M, M ∈ (((List.range p).filter fun k => decide (row.getD k 0 = row.getD p 0)).map fun (k : Nat) => (k : Int)) → (∀ a, a ∈ (((List.range p).filter fun k => decide (row.getD k 0 = row.getD p 0)).map fun (k : Nat) => (k : Int)) → a ≤ M) → M = (q : Int) := by
  have hm : (q : Int) ∈ (((List.range p).filter fun k => decide (row.getD k 0 = row.getD p 0)).map fun (k : Nat) => (k : Int)) :=
    List.mem_map.mpr ⟨q, List.mem_filter.mpr ⟨List.mem_range.mpr g.lt, decide_eq_true g.eq⟩, rfl⟩
  refine ⟨List.length_pos_of_mem hm, fun M hM hmax => ?_⟩
  obtain ⟨k, hk, rfl⟩ := List.mem_map.mp hM
  have h1 := hmax _ hm
  have h2 := List.mem_range.mp (List.mem_filter.mp hk).1
  have h3 : row.getD k 0 = row.getD p 0 := by simpa using (List.mem_filter.mp hk).2
  have h4 : ¬q < k := fun z => g.no k z h2 h3
  omega
set_option maxHeartbeats 16000000 in
theorem pairs1 (w : World) (rw ps : Nat) (row : List Int) (rv : List Value) (rn : Nat) (places : List Nat) (pv : List Value) (pn : Nat)
   (hrv : IntsAre rv row) (hpv : IntsAre pv (places.map fun (p : Nat) => (p : Int))) (hz : row.length ≤ 30) (hg : ∀ p ∈ places, ∃ q, Gap row q p) (hnd : places.Nodup) (hpz : places.length ≤ 30) :
   ContractP 30 PySem.Challenge.rw_fc0035_01.row.prog w (tjCSoBpQsPZBkyzz.heap_39 w.params) 1004 [.ref rw, .ref ps] [(rw, listOf rv.toArray rn), (ps, listOf pv.toArray pn)]
     fun a E' => ∃ (D : Addr) (vs : List Value) (tups : List (Addr × Obj)) (c : Nat) (gs : List (Int × Int)), a = .ref D ∧ E' = (D, listOf (List.toArray vs) c) :: (tups ++ [(rw, listOf rv.toArray rn), (ps, listOf pv.toArray pn)]) ∧ DatAll tups vs (gs.map pd) ∧ gs.Perm ((gapsOf row places).map pairC) ∧ gs.Pairwise (fun a b => pkey a < pkey b) := by
  unfold ContractP
  intro dp un gd outer base s p9 loose mean mg mb R hdp hun B NE X T hret
  k_dflt (refine' call_PC ?k1 ?k2 ?k3 ?k4 ?k6 ?k7 ?k8 ?k9 ?kB ?kD ?_ ?c2 ?c3 ?c4; (case k1 => with_reducible assumption); (case k2 => with_reducible assumption); (case k3 => with_reducible assumption); (case k4 => with_reducible assumption); (case k6 => k_is); (case k7 => k_is); (case k8 => omega); (case k9 => exact BindsTo.of_eq rfl); (case kB => exact rfl); (case kD => decide +kernel); (case c2 => exact rfl); (case c3 => exact rfl); (case c4 => exact rfl); k_whole; intro g' L' h' tk' cells' F' N' Y' B' X' T' TT' l1; (obtain ⟨oR, hE9, dR⟩ := PyProof.Rows.CellsAre.one Y'; subst hE9; clear Y'); (try simp only [List.cons_append, List.nil_append] at N'); (try dsimp only); (try k_fold))
  obtain ⟨m9, hm9, F9⟩ : ∃ m9, m9 (Str.ofString "places") = some (.ref ps) ∧ Fr g' L' h' m9 := ⟨_, by with_unfolding_all rfl, F'⟩
  clear F'
  replace dR : oR.data = .cell (some (.ref rw)) := by with_unfolding_all exact dR
  repeat' ((fail_if_success (with_reducible show wpAny _ _ (eval (PySem.Expr.ListComp _ _ _ _) _) _ _ _)); first | (k_unfold; (try dsimp only)) | ((first | fail_if_success k_end | with_reducible show LeaveK _ _ _ _ _ _ _); (first | walk1 | (dsimp only; walk1) | (leave1; try dsimp only) | fail "no step")))
  refine' ListComp_CL (h₀ := g') (L := L') (m := m9) ?hclos ?hc1 ?hc2 ?hk ?hn ?hx ?_
  case hclos => with_unfolding_all rfl
  case hc1 => intro n acc; rfl
  case hc2 => intro h; rfl
  case hk => rfl
  case hn => decide
  case hx => rfl
  k_dflt (refine' nameX_L F9 hm9 ?_ rfl rfl)
  refine ⟨ps, pv.toArray, _, fun i ys nw => ∃ tups, nw = (L' + 1, oR) :: (rw, listOf rv.toArray rn) :: (ps, listOf pv.toArray pn) :: tups ∧ DatAll tups ys (((gapsOf row (places.take i)).map pairC).map pd), rfl, rfl, F9, N', ?hS, ?hsz, ⟨[], rfl, .nil⟩, fun s₂ he => ⟨?step, ?fin⟩⟩
  case hsz => rw [List.size_toArray, hpv.length, List.length_map, sizeLine_eq]; omega
  case hS =>
    rintro i ys nw ⟨tups, rfl, _⟩
    exact .inr ⟨_, .tail _ (.tail _ (.head _)), rfl, _, rfl⟩
  case fin =>
    obtain ⟨_, rfl⟩ := he
    rintro D h2 tk2 ys nw ⟨tups, rfl, hd⟩ F2 N2 off2
    have ht : places.take pv.toArray.size = places := List.take_of_length_le (Nat.le_of_eq (by rw [List.size_toArray, hpv.length, List.length_map]))
    rw [ht] at hd
    repeat' ((fail_if_success (with_reducible show wpAny _ _ (call (Value.builtin "sorted") _) _ _ _)); first | (k_unfold; (try dsimp only)) | ((first | fail_if_success k_end | with_reducible show LeaveK _ _ _ _ _ _ _); (first | walk1 | (dsimp only; walk1) | (leave1; try dsimp only) | fail "no step")))
    refine sorted_pairs (L9 := tups) (gs := (gapsOf row places).map pairC) F2 N2 (News.isList N2 (.head _)) hd (fun p hp => List.mem_append_right [_, _, _, _] hp) (by rw [List.length_map, gaps_len]; omega) ?hb ?hnd fun D3 h3 c3 vs3 gs3 F3 N3 l3 hd3 hp3 ho3 => ?_
    case hb =>
      intro g hg9
      obtain ⟨g2, hg2, rfl⟩ := List.mem_map.mp hg9
      obtain ⟨p, hp, rfl⟩ := List.mem_map.mp hg2
      obtain ⟨q, hq⟩ := hg p hp
      have := hq.len
      show 0 ≤ (p : Int) ∧ (p : Int) < 1000
      omega
    case hnd =>
      unfold gapsOf
      rw [List.map_map]
      refine List.pairwise_map.mpr (hnd.imp fun {a b} hab e => hab ?_)
      have := congrArg Prod.snd e
      exact Int.ofNat.inj this
    repeat' (first | (k_unfold; (try dsimp only)) | ((first | fail_if_success k_end | with_reducible show LeaveK _ _ _ _ _ _ _); (first | walk1 | (dsimp only; walk1) | (leave1; try dsimp only) | fail "no step")))
    try dsimp only
    repeat (k_unfold; dsimp only)
    refine' end_P hret TT' F3 ?zN ⟨D3, vs3, tups, c3, gs3, rfl, rfl, hd3, hp3, ho3⟩
    case zN =>
      intro z hz
      refine N3 z ?_
      rcases List.mem_cons.mp hz with rfl | hz
      · k_mem
      rcases List.mem_append.mp hz with hz | hz
      · exact List.mem_append_right [_, _, _, _, _] hz
      · iterate 2 (rcases List.mem_cons.mp hz with rfl | hz; · k_mem)
        cases hz
  case step =>
    rintro i ys nw v I oI C oC c oc D h tk E' hi ⟨tups, rfl, hd⟩ hv hoc F N off ⟨lI, lD, lC⟩
    obtain ⟨t5, rfl, hi2⟩ := ints_at hpv (show pv[i]? = some v by simpa using hv)
    rw [List.length_map] at hi2
    obtain ⟨p, hp⟩ : ∃ p, places.getD i 0 = p := ⟨_, rfl⟩
    have hpe : (places.map fun (p : Nat) => (p : Int)).getD i 0 = (p : Int) := by
      rw [← hp, List.getD_eq_getElem?_getD, List.getD_eq_getElem?_getD, List.getElem?_map, List.getElem?_eq_getElem hi2]; rfl
    have hpm : p ∈ places := by
      rw [← hp, List.getD_eq_getElem?_getD, List.getElem?_eq_getElem hi2]; exact List.getElem_mem _
    rw [hpe] at hoc hv
    obtain ⟨q, hq⟩ := hg p hpm
    have hql := hq.lt
    have hqn := hq.len
    repeat' ((fail_if_success (with_reducible show wpAny _ _ (eval (PySem.Expr.ListComp _ _ _ _) _) _ _ _)); first | (k_unfold; (try dsimp only)) | ((first | fail_if_success k_end | with_reducible show LeaveK _ _ _ _ _ _ _); (first | walk1 | (dsimp only; walk1) | (leave1; try dsimp only) | fail "no step")))
    rename Fr _ _ _ _ => F5
    refine' LCt.ListComp_T (F₀ := F5) ?hclos ?hcell ?hk ?hn ?hx ?_
    case hclos => with_unfolding_all rfl
    case hcell => decide
    case hk => rfl
    case hn => decide
    case hx => rfl
    repeat' ((fail_if_success (with_reducible show LCt.CompSrcT _ _ _ _ _ _ _ _ _ _ _ _ _ _ _)); first | (k_unfold; (try dsimp only)) | ((first | fail_if_success k_end | with_reducible show LeaveK _ _ _ _ _ _ _); (first | walk1 | (dsimp only; walk1) | (leave1; try dsimp only) | fail "no step")))
    rename IsRange _ _ _ _ _ _ _ _ => hR9
    rename Fr _ _ _ _ => F6
    rename News _ _ _ _ => N6
    refine LCt.CompSrcT.range (n := p) rfl F6 N6 hR9 (small_one (by omega) (by omega) (by omega) (by omega)) (by rw [rangeSize_one]; split <;> omega) (by rw [sizeLine_eq]; omega) fun g => comp_indT (fun j ys => IntsAre ys (((List.range j).filter fun k => decide (row.getD k 0 = row.getD p 0)).map fun (k : Nat) => (k : Int))) .nil ?step2 ?fin2
    case step2 =>
      rintro j ys' hj hys v I2 oI2 C2 oC2 D2 m2 h2 tk2 E2 ⟨t6, rfl⟩ hoC2 hm2 F7 N7 off7 ⟨n1, n2, n3⟩
      repeat' (first | (k_unfold; (try dsimp only)) | ((first | fail_if_success k_end | with_reducible show LeaveK _ _ _ _ _ _ _); (first | walk1 | (dsimp only; walk1) | (leave1; try dsimp only) | fail "no step")))
      · rename row.getD _ 0 = row.getD _ 0 => hyes
        rw [show (0 + (j : Int)).toNat = j by omega, show ((p : Int)).toNat = p by omega] at hyes
        refine LCg.CompEnd.intro F7 N7 _ (fun p hp => hp) off7 trivial ⟨rfl, ?_⟩
        rw [List.range_succ, List.filter_append, List.filter_cons, if_pos (decide_eq_true hyes), List.filter_nil, List.map_append, Int.zero_add]
        exact ints_snoc hys
      · rename row.getD _ 0 ≠ row.getD _ 0 => hno
        rw [show (0 + (j : Int)).toNat = j by omega, show ((p : Int)).toNat = p by omega] at hno
        refine LCg.CompEnd.intro F7 N7 _ (fun p hp => hp) off7 trivial ⟨rfl, ?_⟩
        rw [List.range_succ, List.filter_append, List.filter_cons, if_neg (by simpa using hno), List.filter_nil, List.append_nil]
        exact hys
    case fin2 =>
      intro ys2 hys2 D2 h2 tk2 F7 N7 off2
      repeat' ((fail_if_success (with_reducible show wpAny _ _ (call (Value.builtin "max") _) _ _ _)); first | (k_unfold; (try dsimp only)) | ((first | fail_if_success k_end | with_reducible show LeaveK _ _ _ _ _ _ _); (first | walk1 | (dsimp only; walk1) | (leave1; try dsimp only) | fail "no step")))
      refine kso_max (vs := ys2) F7 N7 (News.isList N7 (.head _)) hys2 (gap_max hq).1 rfl fun h3 M t3 tk3 F8 N8 hM hmax => ?_
      obtain rfl := (gap_max hq).2 M hM hmax
      repeat' (first | (k_unfold; (try dsimp only)) | ((first | fail_if_success k_end | with_reducible show LeaveK _ _ _ _ _ _ _); (first | walk1 | (dsimp only; walk1) | (leave1; try dsimp only) | fail "no step")))
      rename News _ _ _ _ => NA
      rename Fr _ _ _ _ => FA
      rename _ ∧ _ => lA
      rename_i D9 h9
      obtain ⟨lA1, lA2, lA3, lA4, lA5, lA6, lA7, lA8, lA9⟩ := lA
      refine ⟨_, _, (L' + 1, oR) :: (rw, listOf rv.toArray rn) :: (ps, listOf pv.toArray pn) :: (D9, ({ cls := .type "tuple", data := .seq [Value.int (q : Int) t3, Value.int (p : Int) t5].toArray } : Obj)) :: tups, rfl, FA, fun z hz => NA z ?mem, ?off, ⟨(D9, ({ cls := .type "tuple", data := .seq [Value.int (q : Int) t3, Value.int (p : Int) t5].toArray } : Obj)) :: tups, rfl, ?dat⟩⟩
      case mem =>
        iterate 8 (rcases List.mem_cons.mp hz with rfl | hz; · k_mem)
        exact List.mem_append_right [_, _, _, _, _, _, _, _, _] hz
      case off =>
        intro z hz
        iterate 3 (rcases List.mem_cons.mp hz with rfl | hz; · exact off _ (by k_mem))
        rcases List.mem_cons.mp hz with rfl | hz
        · exact ⟨Nat.ne_of_gt lA2, Nat.ne_of_gt lA3, Nat.ne_of_gt lA4, Nat.ne_of_gt lA5⟩
        · exact off _ (List.mem_append_right [_, _, _] hz)
      case dat =>
        have e : (gapsOf row (places.take (i + 1))).map pairC = (gapsOf row (places.take i)).map pairC ++ [((q : Int), (p : Int))] := by
          unfold gapsOf
          rw [List.take_add_one, List.getElem?_eq_getElem hi2, Option.toList_some, List.map_append, List.map_append]
          have e2 : places[i] = p := by rw [← hp, List.getD_eq_getElem?_getD, List.getElem?_eq_getElem hi2]; rfl
          rw [e2]
          show _ ++ [pairC (prv row p, p)] = _
          rw [prv_gap hq]
          rfl
        rw [e, List.map_append]
        exact (hd.mono fun _ h => .tail _ h).append (DatAll.one (DatIn.tuple (.head _) (.cons (.int _ _) (.cons (.int _ _) .nil))))
theorem lruHits_gap {r : Nat} {row : List Int} (hr : 1 ≤ r) : ∀ p ∈ lruHits r row, ∃ q, Gap row q p := by
  intro p hp
  rw [lruHits_mem] at hp
  obtain ⟨q, h1, _⟩ := run_gap (lru_runs hr row) hp.1 hp.2
  exact ⟨q, h1⟩
theorem lruHits_nd (r : Nat) (row : List Int) : (lruHits r row).Nodup := (List.nodup_range).filter _
theorem lruHits_len (r : Nat) (row : List Int) : (lruHits r row).length ≤ row.length := by
  have := List.length_filter_le (fun t => decide (row.getD t 0 ∈ lruAt r (row.take t))) (List.range row.length)
  rwa [List.length_range] at this
def turnI (n : Nat) (g : Int × Int) : Int × Int := ((n : Int) - 1 - g.2, (n : Int) - 1 - g.1)
theorem pairs_gap {r : Nat} {row : List Int} (hr : 1 ≤ r) {g : Nat × Nat} (h : g ∈ gapsOf row (lruHits r row)) : g.1 < g.2 ∧ g.2 < row.length := by
  have := (lru_pairs_mem hr g).mp h
  exact ⟨this.1.lt, this.1.len⟩
theorem pairs_nd {r : Nat} {row : List Int} (hr : 1 ≤ r) : ((gapsOf row (lruHits r row)).map pairC).Nodup := by
  have h1 := (run_feasible hr (lru_runs hr row)).nd
  rw [← lruHits_eq] at h1
  refine List.pairwise_map.mpr (h1.imp fun {a b} hab e => hab ?_)
  have e1 := congrArg Prod.fst e
  have e2 := congrArg Prod.snd e
  exact Prod.ext (Int.ofNat.inj e1) (Int.ofNat.inj e2)
theorem pairs_small {r : Nat} {row : List Int} (hr : 1 ≤ r) : ∀ g ∈ (gapsOf row (lruHits r row)).map pairC, 0 ≤ g.2 ∧ g.2 < row.length := by
  intro g hg
  obtain ⟨g', h1, rfl⟩ := List.mem_map.mp hg
  have := (pairs_gap hr h1).2
  show 0 ≤ (g'.2 : Int) ∧ (g'.2 : Int) < row.length
  omega
theorem turned_perm {r : Nat} {row : List Int} (hr : 1 ≤ r) {gs : List (Int × Int)} (h : gs.Perm ((gapsOf row.reverse (lruHits r row.reverse)).map pairC)) :
    (gs.map (turnI row.length)).Perm ((gapsOf row (lruHits r row)).map pairC) := by
  refine (h.map (turnI row.length)).trans ?_
  refine List.Perm.trans (List.Perm.of_eq ?_) ((lru_turned hr).map pairC)
  rw [List.map_map, List.map_map]
  refine List.map_congr_left fun g hg => ?_
  have h1 := pairs_gap hr hg
  rw [List.length_reverse] at h1
  unfold turnI pairC turnG
  simp only [Function.comp, List.length_reverse]
  exact Prod.ext (by dsimp only; omega) (by dsimp only; omega)
theorem pd_ok (gs : List (Int × Int)) : ∀ d ∈ gs.map pd, kqdOk 8 d = true := by
  intro d hd
  obtain ⟨g, _, rfl⟩ := List.mem_map.mp hd
  rfl
theorem tab_off {l news : List (Addr × Obj)} {h₀ h : Heap} {L a : Addr} {xs : Array Value} {n : Nat} (hT : TabE l) (N : News h₀ L h news) (hs : ∀ q ∈ l, q ∈ news) (hm : (a, listOf xs n) ∈ news) : ∀ q ∈ l, q.1 ≠ a := by
  have key : ∀ q ∈ news, (∃ vs, q.2.data = .fields vs) → q.1 ≠ a := fun q hq ⟨vs, hd⟩ e => by
    have h1 := (N q hq).1
    have h2 := (N _ hm).1
    rw [e] at h1
    have e2 := Option.some.inj (h1.symm.trans h2)
    rw [e2] at hd
    cases hd
  rcases hT with rfl | ⟨c', oc, cvs, t9, rfl, hd, hv, lc⟩
  · exact List.forall_mem_cons.mpr ⟨key _ (hs _ (.head _)) ⟨_, rfl⟩, fun _ h => nomatch h⟩
  · exact List.forall_mem_cons.mpr ⟨key _ (hs _ (.head _)) ⟨_, hd⟩, List.forall_mem_cons.mpr ⟨key _ (hs _ (.tail _ (.head _))) ⟨_, rfl⟩, fun _ h => nomatch h⟩⟩
set_option maxHeartbeats 16000000 in
theorem law_rows (w : World) {p9 : Program} {loose : List Str} {mean : ExcName → Option Value} {mg mb : Str → Option Value} {base : Heap} {L : Nat} {fa : Addr} {cd : Value} {m : Str → Option Value} {s : Shared} {Q : Flow → Shared → Prop} {Ex : Value → Shared → Prop} {sl sc n0 m0 : Nat} {t0 : Tok} {o1 o2 o3 o4 o5 : Obj} {sv : List Value} {ss : List Int}
   (B : Below callerA base [] base) (F : Fr base L s.heap m) (X : (tjCSoBpQsPZBkyzz.heap_39 w.params).In base) (T : Top p9 loose mean mg mb base) (hss : IntsAre sv ss) (hsz : ss.length ≤ 60) (d1 : o1.data = .cell (some (.ref sl))) (d2 : o2.data = .cell none) (l0 : 973 < L) (l1 : L + 1 + 1 + 1 + 1 + 1 < sc) (l2 : sc < sl)
   (N : News base L s.heap [(sl, listOf #[.ref sc, .int 0 t0] n0), (sc, listOf sv.toArray m0), (L + 1 + 1 + 1 + 1 + 1, o5), (L + 1 + 1 + 1 + 1, o4), (L + 1 + 1 + 1, o3), (L + 1 + 1, o2), (L + 1, o1), (973, tabObj #[])])
   (hQ : ∀ rl rv row rn o2' h' tk', ((@Ne Nat (L + 1 + 1 + 1 + 1 + 1) rl) ∧ (@Ne Nat (L + 1 + 1 + 1 + 1) rl) ∧ (@Ne Nat (L + 1 + 1 + 1) rl) ∧ (@Ne Nat (L + 1 + 1) rl) ∧ (@Ne Nat 973 rl)) → IntsAre rv row → row.length ≤ 10 → o2'.data = .cell (some (.ref rl)) → Fr base L h' m → News base L h' [(rl, listOf rv.toArray rn), (L + 1 + 1 + 1 + 1 + 1, o5), (L + 1 + 1 + 1 + 1, o4), (L + 1 + 1 + 1, o3), (L + 1 + 1, o2'), (973, tabObj #[])] →
      wpAny (model PySem.Challenge.rw_fc0035_01.row.prog w) (callerA.deeper (envOfC (Str.ofString "law") lawScope L fa cd)) (execs (lawBody.drop 2) (envOfC (Str.ofString "law") lawScope L fa cd)) Q Ex { s with heap := h', toks := tk' }) :
   wpAny (model PySem.Challenge.rw_fc0035_01.row.prog w) (callerA.deeper (envOfC (Str.ofString "law") lawScope L fa cd)) (execs (lawBody.drop 1) (envOfC (Str.ofString "law") lawScope L fa cd)) Q Ex s := by
  conv in (occs := *) lawScope => all_goals whnf
  conv in List.drop 1 lawBody => whnf
  repeat' ((fail_if_success (with_reducible show wpAny _ _ (call (Value.ref 964) _) _ _ _)); first | (k_unfold; (try dsimp only)) | ((first | fail_if_success k_end | with_reducible show LeaveK _ _ _ _ _ _ _ | with_reducible show Frag.In _ _ ∧ _); (first | walk1 | (dsimp only; walk1) | (leave1; try dsimp only) | fail "no step")))
  rename News _ _ _ _ => N1
  rename Fr _ _ _ _ => F1
  refine' use_contract (dp := 1 + claimMargin + 1) (un := 4 + 3) (gd := some []) (env := (envOfC (Str.ofString "law") lawScope L fa cd)) (next1 w sl sc t0 _ 0 11 n0 m0 sv ss hss (by omega) (by omega) hsz (by omega) (Nat.ne_of_gt l2)).toT rfl B F1 X N1 T X T rfl rfl ?d ?u [(L + 1 + 1 + 1 + 1 + 1, o5), (L + 1 + 1 + 1 + 1, o4), (L + 1 + 1 + 1, o3), (L + 1 + 1, o2), (L + 1, o1), (973, tabObj #[])] ?E ?K ?ne ?_
  case d => decide
  case u => decide
  case E => exact fun q hq => List.mem_append_left [(L + 1 + 1 + 1 + 1 + 1, o5), (L + 1 + 1 + 1 + 1, o4), (L + 1 + 1 + 1, o3), (L + 1 + 1, o2), (L + 1, o1), (973, tabObj #[])] hq
  case K => exact fun q hq => List.mem_append_right [(sl, listOf #[.ref sc, .int 0 t0] n0), (sc, listOf sv.toArray m0)] hq
  case ne =>
    intro q hq r' hr'
    simp only [List.mem_cons, List.not_mem_nil, or_false] at hq hr'
    rcases hq with rfl | rfl | rfl | rfl | rfl | rfl <;> rcases hr' with rfl | rfl <;> (refine neN ?_; dsimp only; omega)
  intro v1 E1 h1 tk1 F2 N2 ne2 hp1
  obtain ⟨v, t, t', n', rfl, hv0, hv1, rfl⟩ := hp1
  clear N1 F1 ne2
  obtain ⟨nv, rfl⟩ : ∃ nv : Nat, v = nv := ⟨v.toNat, by omega⟩
  simp only [List.cons_append, List.nil_append] at N2
  repeat' ((fail_if_success (with_reducible show LCg.CompSrc _ _ _ _ _ _ _ _ _ _ _ _ _ _)); first | (k_unfold; (try dsimp only)) | ((first | fail_if_success k_end | with_reducible show LeaveK _ _ _ _ _ _ _); (first | walk1 | (dsimp only; walk1) | (leave1; try dsimp only) | fail "no step")))
  rename IsRange _ _ _ _ _ _ _ _ => hR9
  rename News _ _ _ _ => N3
  rename Fr _ _ _ _ => F3
  refine LCg.CompSrc.range (n := nv) rfl F3 N3 hR9 (small_one (by omega) (by omega) (by omega) (by omega)) (by rw [rangeSize_one]; split <;> omega) (by rw [sizeLine_eq]; omega) fun g => comp_indN (fun i ys nw => ∃ row t' n', nw = [(L + 1 + 1 + 1 + 1 + 1, o5), (L + 1 + 1 + 1 + 1, o4), (L + 1 + 1 + 1, o3), (L + 1 + 1, o2), (L + 1, o1), (973, tabObj #[]), (sl, listOf #[.ref sc, .int (1 + (i : Int)) t'] n'), (sc, listOf sv.toArray m0)] ∧ IntsAre ys row ∧ row.length = i) ⟨[], t', n', rfl, .nil, rfl⟩ ?step ?fin
  case step =>
    rintro i ys nw hi ⟨row, t', n', rfl, hys, hrl⟩ v I oI C oC D m2 h2 tk2 E2 ⟨t6, rfl⟩ hoC hm2 F5 N5 off5 ⟨n1, n2, n3⟩
    obtain ⟨a1, a2, a3⟩ := LCg.Off3.mem off5 (sl, listOf #[.ref sc, .int (1 + (i : Int)) t'] n') (by k_mem)
    obtain ⟨b1, b2, b3⟩ := LCg.Off3.mem off5 (sc, listOf sv.toArray m0) (by k_mem)
    replace a1 := neN a1; replace a2 := neN a2; replace a3 := neN a3; replace b1 := neN b1; replace b2 := neN b2; replace b3 := neN b3
    clear N3 F3
    repeat' ((fail_if_success (with_reducible show wpAny _ _ (call (Value.ref 964) _) _ _ _)); first | (k_unfold; (try dsimp only)) | ((first | fail_if_success k_end | with_reducible show LeaveK _ _ _ _ _ _ _); (first | walk1 | (dsimp only; walk1) | (leave1; try dsimp only) | fail "no step")))
    rename News _ _ _ _ => N6
    rename Fr _ _ _ _ => F6
    refine ⟨Frag.In.keeps X F6.keep, ?_⟩
    refine' use_contract (dp := 1 + claimMargin + 1) (un := 4 + 3) (gd := some []) (env := (envOfC (Str.ofString "law") lawScope L fa cd)) (next1 w sl sc t' _ (1 + i) 5 n' m0 sv ss hss (by omega) (by omega) hsz (by omega) (Nat.ne_of_gt l2)).toT rfl B F6 X N6 T X T rfl rfl ?d ?u [(I, oI), (C, oC), (D, LCg.lst ys), (L + 1 + 1 + 1 + 1 + 1, o5), (L + 1 + 1 + 1 + 1, o4), (L + 1 + 1 + 1, o3), (L + 1 + 1, o2), (L + 1, o1), (973, tabObj #[])] ?E ?K ?ne ?_
    case d => decide
    case u => decide
    case E =>
      intro q hq
      simp only [List.mem_cons, List.not_mem_nil, or_false] at hq
      rcases hq with rfl | rfl <;> k_mem
    case K =>
      intro q hq
      simp only [List.mem_cons, List.not_mem_nil, or_false] at hq
      rcases hq with rfl | rfl | rfl | rfl | rfl | rfl | rfl | rfl | rfl <;> k_mem
    case ne =>
      intro q hq r' hr'
      simp only [List.mem_cons, List.not_mem_nil, or_false] at hq hr'
      rcases hq with rfl | rfl | rfl | rfl | rfl | rfl | rfl | rfl | rfl <;> rcases hr' with rfl | rfl <;> (refine neN ?_; dsimp only at *; omega)
    intro v1 E1 h3 tk3 F7 N7 ne7 hp7
    obtain ⟨v, t, t', n', rfl, hv0, hv1, rfl⟩ := hp7
    simp only [List.cons_append, List.nil_append] at N7
    clear N6 F6 ne7
    repeat' (first | (k_unfold; (try dsimp only)) | ((first | fail_if_success k_end | with_reducible show LeaveK _ _ _ _ _ _ _); (first | walk1 | (dsimp only; walk1) | (leave1; try dsimp only) | fail "no step")))
    rename News _ _ _ _ => N8
    rename Fr _ _ _ _ => F8
    refine LCg.CompEnd.intro F8 N8 [(L + 1 + 1 + 1 + 1 + 1, o5), (L + 1 + 1 + 1 + 1, o4), (L + 1 + 1 + 1, o3), (L + 1 + 1, o2), (L + 1, o1), (973, tabObj #[]), (sl, listOf #[.ref sc, .int (1 + (i : Int) + 1) t'] n'), (sc, listOf sv.toArray m0)] (fun p hp => ?mem) ?off trivial ⟨row ++ [v], t', n', ?eq, ints_snoc hys, by simp [hrl]⟩
    case mem =>
      simp only [List.mem_cons, List.not_mem_nil, or_false] at hp
      rcases hp with rfl | rfl | rfl | rfl | rfl | rfl | rfl | rfl | rfl | rfl | rfl <;> k_mem
    case off => exact off5
    case eq => rw [show (1 + ((i + 1 : Nat) : Int)) = 1 + (i : Int) + 1 by omega]
  case fin =>
    rintro ys nw ⟨row, t', n', rfl, hys, hrl⟩
    intro D h2 tk2 F5 N5 off5
    simp only [LCg.Off1, and_true] at off5
    repeat' ((fail_if_success (with_reducible show wpAny _ _ (execs (PySem.Stmt.Assign [PySem.Expr.Name (Str.ofString "back") _] _ _ :: _) _) _ _ _)); first | (k_unfold; (try dsimp only)) | ((first | fail_if_success k_end | with_reducible show LeaveK _ _ _ _ _ _ _); (first | walk1 | (dsimp only; walk1) | (leave1; try dsimp only) | fail "no step")))
    rename News _ _ _ _ => N6
    rename Fr _ _ _ _ => F6
    rename _ = Data.cell (some (Value.ref D)) => d7
    obtain ⟨z1, z2, z3, z4, z5, z6, z7, z8⟩ := off5
    refine hQ D ys row ys.length _ _ _ ⟨z1, z2, z3, z4, z6⟩ hys (by omega) d7 F6 fun q hq => N6 q ?_
    simp only [List.mem_cons, List.not_mem_nil, or_false] at hq
    rcases hq with rfl | rfl | rfl | rfl | rfl | rfl <;> k_mem
set_option maxHeartbeats 16000000 in
theorem turn_a (w : World) {p9 : Program} {loose : List Str} {mean : ExcName → Option Value} {mg mb : Str → Option Value} {base : Heap} {L : Nat} {fa : Addr} {cd : Value} {m : Str → Option Value} {s : Shared} {Q : Flow → Shared → Prop} {Ex : Value → Shared → Prop} {rl rn bk bn r0 : Nat} {r : Int} {tr te : Tok} {o2 o3 : Obj} {rv bv : List Value} {row : List Int} {rest : List (Addr × Obj)}
   (B : Below callerA base [] base) (F : Fr base L s.heap m) (X : (tjCSoBpQsPZBkyzz.heap_39 w.params).In base) (T : Top p9 loose mean mg mb base) (hrv : IntsAre rv row) (hbv : IntsAre bv row.reverse) (hz : row.length ≤ 10) (hr : r = r0) (hr1 : 1 ≤ r0) (hr4 : r0 ≤ 4)
   (d2 : o2.data = .cell (some (.ref rl))) (d3 : o3.data = .cell (some (.int ((row.length : Int) - 1) te))) (hm1 : m (Str.ofString "room") = some (.int r tr)) (hm2 : m (Str.ofString "back") = some (.ref bk))
   (n1 : @Ne Nat rl bk) (n2 : @Ne Nat (L + 1 + 1) rl) (n3 : @Ne Nat (L + 1 + 1 + 1) rl) (n4 : @Ne Nat (L + 1 + 1) bk) (n5 : @Ne Nat (L + 1 + 1 + 1) bk) (hoff : ∀ q ∈ rest, q.1 ≠ rl ∧ q.1 ≠ bk)
   (N : News base L s.heap ((bk, listOf bv.toArray bn) :: (rl, listOf rv.toArray rn) :: (L + 1 + 1 + 1, o3) :: (L + 1 + 1, o2) :: rest))
   (hQ : ∀ fd fv fn h' tk' m', @LT.lt Nat _ rl fd → (@Ne Nat bk fd) → (@Ne Nat (L + 1 + 1 + 1) fd) → (@Ne Nat (L + 1 + 1) fd) → (∀ q ∈ rest, q.1 ≠ fd) → IntsAre fv ((lruHits r0 row).map fun (p : Nat) => (p : Int)) → m' (Str.ofString "forth") = some (.ref fd) → (∀ y, y ≠ Str.ofString "forth" → y ≠ Str.ofString "turned" → m' y = m y) →
      Fr base L h' m' → News base L h' ((fd, listOf fv.toArray fn) :: (bk, listOf bv.toArray bn) :: (rl, listOf rv.toArray rn) :: (L + 1 + 1 + 1, o3) :: (L + 1 + 1, o2) :: rest) →
      wpAny (model PySem.Challenge.rw_fc0035_01.row.prog w) (callerA.deeper (envOfC (Str.ofString "law") lawScope L fa cd)) (execs (loopBody.drop 3) (envOfC (Str.ofString "law") lawScope L fa cd)) Q Ex { s with heap := h', toks := tk' }) :
   wpAny (model PySem.Challenge.rw_fc0035_01.row.prog w) (callerA.deeper (envOfC (Str.ofString "law") lawScope L fa cd)) (execs loopBody (envOfC (Str.ofString "law") lawScope L fa cd)) Q Ex s := by
  conv in (occs := *) lawScope => all_goals whnf
  conv in loopBody => whnf
  repeat' ((fail_if_success (with_reducible show wpAny _ _ (call (Value.ref 992) _) _ _ _)); first | (k_unfold; (try dsimp only)) | ((first | fail_if_success k_end | with_reducible show LeaveK _ _ _ _ _ _ _); (first | walk1 | (dsimp only; walk1) | (leave1; try dsimp only) | fail "no step")))
  rename News _ _ _ _ => N1
  rename Fr _ _ _ _ => F1
  refine ⟨Frag.In.keeps X F1.keep, ?_⟩
  refine' use_contract (dp := 1 + claimMargin + 1) (un := 4 + 3) (gd := some []) (env := (envOfC (Str.ofString "law") lawScope L fa cd)) (last1 w rl _ r0 r row rv rn hrv (by omega) hr hr1 hr4) rfl B F1 X N1 T X T rfl rfl ?d ?u ((bk, listOf bv.toArray bn) :: (L + 1 + 1 + 1, o3) :: (L + 1 + 1, o2) :: rest) ?E ?K ?ne ?_
  case d => decide
  case u => decide
  case E => exact (List.forall_mem_cons.mpr ⟨(.tail _ (.head _)), fun _ h => nomatch h⟩)
  case K => exact (List.forall_mem_cons.mpr ⟨(.head _), List.forall_mem_cons.mpr ⟨(.tail _ (.tail _ (.head _))), List.forall_mem_cons.mpr ⟨(.tail _ (.tail _ (.tail _ (.head _)))), fun q hq => List.mem_append_right [_, _, _, _] hq⟩⟩⟩)
  case ne => exact (List.forall_mem_cons.mpr ⟨List.forall_mem_cons.mpr ⟨neN (by (try dsimp only); omega), fun _ h => nomatch h⟩, List.forall_mem_cons.mpr ⟨List.forall_mem_cons.mpr ⟨neN (by (try dsimp only); omega), fun _ h => nomatch h⟩, List.forall_mem_cons.mpr ⟨List.forall_mem_cons.mpr ⟨neN (by (try dsimp only); omega), fun _ h => nomatch h⟩, fun q hq => List.forall_mem_cons.mpr ⟨(hoff q hq).1, fun _ h => nomatch h⟩⟩⟩⟩)
  intro v1 E1 h1 tk1 F2 N2 ne2 hp1
  obtain ⟨fd, fv, fn, rfl, rfl, hfv, hlt⟩ := hp1
  have N3 : News base L h1 ((fd, listOf fv.toArray fn) :: (bk, listOf bv.toArray bn) :: (rl, listOf rv.toArray rn) :: (L + 1 + 1 + 1, o3) :: (L + 1 + 1, o2) :: rest) := fun q hq => N2 q (by
    rw [List.mem_append, or_comm, ← List.mem_append]
    exact (List.forall_mem_cons.mpr ⟨(.head _), List.forall_mem_cons.mpr ⟨(.tail _ (.tail _ (.head _))), List.forall_mem_cons.mpr ⟨(.tail _ (.head _)), List.forall_mem_cons.mpr ⟨(.tail _ (.tail _ (.tail _ (.head _)))), List.forall_mem_cons.mpr ⟨(.tail _ (.tail _ (.tail _ (.tail _ (.head _))))), fun q hq => List.mem_append_right [_, _, _, _, _] hq⟩⟩⟩⟩⟩) q hq)
  have nf := ne2 _ (.head _)
  have nf1 : @Ne Nat bk fd := nf _ (.head _)
  have nf2 : @Ne Nat (L + 1 + 1 + 1) fd := nf _ (.tail _ (.head _))
  have nf3 : @Ne Nat (L + 1 + 1) fd := nf _ (.tail _ (.tail _ (.head _)))
  have nf4 : ∀ q ∈ rest, q.1 ≠ fd := fun q hq => nf _ (.tail _ (.tail _ (.tail _ hq)))
  clear N1 F1 N2 ne2 nf
  repeat' ((fail_if_success (with_reducible show wpAny _ _ (exec (PySem.Stmt.Assign [PySem.Expr.Name (Str.ofString "turned") _] _ _) _) _ _ _)); first | (k_unfold; (try dsimp only)) | ((first | fail_if_success k_end | with_reducible show LeaveK _ _ _ _ _ _ _); (first | walk1 | (dsimp only; walk1) | (leave1; try dsimp only) | fail "no step")))
  rename News _ _ _ _ => N4
  rename Fr _ _ _ _ => F4
  k_dflt (refine' LCp.Assign_ListComp_P (F₀ := F4) rfl ?hsw ?hclos ?hcell ?hk ?hn ?hx ?hx2 ?hxx ?hy ?hp ?_)
  case hsw => with_unfolding_all rfl
  case hclos => with_unfolding_all rfl
  case hcell => decide
  case hk => rfl
  case hn => decide
  case hx => rfl
  case hx2 => rfl
  case hxx => decide
  case hy => rfl
  case hp => rfl
  repeat' ((fail_if_success (with_reducible show wpAny _ _ (call (Value.ref 992) _) _ _ _)); first | (k_unfold; (try dsimp only)) | ((first | fail_if_success k_end | with_reducible show LeaveK _ _ _ _ _ _ _); (first | walk1 | (dsimp only; walk1) | (leave1; try dsimp only) | fail "no step")))
  rename News _ _ _ _ => N5
  rename Fr _ _ _ _ => F5
  refine ⟨Frag.In.keeps X F5.keep, ?_⟩
  refine' use_contract (dp := 1 + claimMargin + 1) (un := 4 + 3) (gd := some []) (env := (envOfC (Str.ofString "law") lawScope L fa cd)) (last1 w bk _ r0 r row.reverse bv bn hbv (by rw [List.length_reverse]; omega) hr hr1 hr4) rfl B F5 X N5 T X T rfl rfl ?d2 ?u2 ((fd, listOf fv.toArray fn) :: (rl, listOf rv.toArray rn) :: (L + 1 + 1 + 1, o3) :: (L + 1 + 1, o2) :: rest) ?E2 ?K2 ?ne3 ?_
  case d2 => decide
  case u2 => decide
  case E2 => exact (List.forall_mem_cons.mpr ⟨(.tail _ (.head _)), fun _ h => nomatch h⟩)
  case K2 => exact (List.forall_mem_cons.mpr ⟨(.head _), List.forall_mem_cons.mpr ⟨(.tail _ (.tail _ (.head _))), List.forall_mem_cons.mpr ⟨(.tail _ (.tail _ (.tail _ (.head _)))), List.forall_mem_cons.mpr ⟨(.tail _ (.tail _ (.tail _ (.tail _ (.head _))))), fun q hq => List.mem_append_right [_, _, _, _, _] hq⟩⟩⟩⟩)
  case ne3 => exact (List.forall_mem_cons.mpr ⟨List.forall_mem_cons.mpr ⟨neN (by (try dsimp only); omega), fun _ h => nomatch h⟩, List.forall_mem_cons.mpr ⟨List.forall_mem_cons.mpr ⟨neN (by (try dsimp only); omega), fun _ h => nomatch h⟩, List.forall_mem_cons.mpr ⟨List.forall_mem_cons.mpr ⟨neN (by (try dsimp only); omega), fun _ h => nomatch h⟩, List.forall_mem_cons.mpr ⟨List.forall_mem_cons.mpr ⟨neN (by (try dsimp only); omega), fun _ h => nomatch h⟩, fun q hq => List.forall_mem_cons.mpr ⟨(hoff q hq).2, fun _ h => nomatch h⟩⟩⟩⟩⟩)
  intro v2 E2 h2 tk2 F6 N6 ne6 hp2
  obtain ⟨gd, gv, gn, rfl, rfl, hgv, hgt⟩ := hp2
  have N7 : News base L h2 ((bk, listOf bv.toArray bn) :: (gd, listOf gv.toArray gn) :: (fd, listOf fv.toArray fn) :: (rl, listOf rv.toArray rn) :: (L + 1 + 1 + 1, o3) :: (L + 1 + 1, o2) :: rest) := fun q hq => N6 q (by
    rw [List.mem_append, or_comm, ← List.mem_append]
    exact (List.forall_mem_cons.mpr ⟨(.tail _ (.head _)), List.forall_mem_cons.mpr ⟨(.head _), List.forall_mem_cons.mpr ⟨(.tail _ (.tail _ (.head _))), List.forall_mem_cons.mpr ⟨(.tail _ (.tail _ (.tail _ (.head _)))), List.forall_mem_cons.mpr ⟨(.tail _ (.tail _ (.tail _ (.tail _ (.head _))))), List.forall_mem_cons.mpr ⟨(.tail _ (.tail _ (.tail _ (.tail _ (.tail _ (.head _)))))), fun q hq => List.mem_append_right [_, _, _, _, _, _] hq⟩⟩⟩⟩⟩⟩) q hq)
  have ng := ne6 _ (.head _)
  have ng1 : @Ne Nat fd gd := ng _ (.head _)
  have ng2 : @Ne Nat rl gd := ng _ (.tail _ (.head _))
  have ng3 : @Ne Nat (L + 1 + 1 + 1) gd := ng _ (.tail _ (.tail _ (.head _)))
  have ng4 : @Ne Nat (L + 1 + 1) gd := ng _ (.tail _ (.tail _ (.tail _ (.head _))))
  have ng5 : ∀ q ∈ rest, q.1 ≠ gd := fun q hq => ng _ (.tail _ (.tail _ (.tail _ (.tail _ hq))))
  clear ng
  clear N5 F5 N6
  repeat' ((fail_if_success (with_reducible show wpAny _ _ (call (Value.ref 1004) _) _ _ _)); first | (k_unfold; (try dsimp only)) | ((first | fail_if_success k_end | with_reducible show LeaveK _ _ _ _ _ _ _); (first | walk1 | (dsimp only; walk1) | (leave1; try dsimp only) | fail "no step")))
  rename News _ _ _ _ => N8
  rename Fr _ _ _ _ => F8
  refine ⟨Frag.In.keeps X F8.keep, ?_⟩
  refine' use_contract (dp := 1 + claimMargin + 1) (un := 4 + 3) (gd := some []) (env := (envOfC (Str.ofString "law") lawScope L fa cd)) (pairs1 w bk gd row.reverse bv bn (lruHits r0 row.reverse) gv gn hbv hgv (by rw [List.length_reverse]; omega) (lruHits_gap hr1) (lruHits_nd _ _) (by have := lruHits_len r0 row.reverse; rw [List.length_reverse] at this; omega)).toT rfl B F8 X N8 T X T rfl rfl ?d3 ?u3 ((fd, listOf fv.toArray fn) :: (rl, listOf rv.toArray rn) :: (L + 1 + 1 + 1, o3) :: (L + 1 + 1, o2) :: rest) ?E3 ?K3 ?ne4 ?_
  case d3 => decide
  case u3 => decide
  case E3 => exact (List.forall_mem_cons.mpr ⟨(.head _), List.forall_mem_cons.mpr ⟨(.tail _ (.head _)), fun _ h => nomatch h⟩⟩)
  case K3 => exact (List.forall_mem_cons.mpr ⟨(.tail _ (.tail _ (.head _))), List.forall_mem_cons.mpr ⟨(.tail _ (.tail _ (.tail _ (.head _)))), List.forall_mem_cons.mpr ⟨(.tail _ (.tail _ (.tail _ (.tail _ (.head _))))), List.forall_mem_cons.mpr ⟨(.tail _ (.tail _ (.tail _ (.tail _ (.tail _ (.head _)))))), fun q hq => List.mem_append_right [_, _, _, _, _, _] hq⟩⟩⟩⟩)
  case ne4 => exact (List.forall_mem_cons.mpr ⟨List.forall_mem_cons.mpr ⟨neN (by (try dsimp only); omega), List.forall_mem_cons.mpr ⟨neN (by (try dsimp only); omega), fun _ h => nomatch h⟩⟩, List.forall_mem_cons.mpr ⟨List.forall_mem_cons.mpr ⟨neN (by (try dsimp only); omega), List.forall_mem_cons.mpr ⟨neN (by (try dsimp only); omega), fun _ h => nomatch h⟩⟩, List.forall_mem_cons.mpr ⟨List.forall_mem_cons.mpr ⟨neN (by (try dsimp only); omega), List.forall_mem_cons.mpr ⟨neN (by (try dsimp only); omega), fun _ h => nomatch h⟩⟩, List.forall_mem_cons.mpr ⟨List.forall_mem_cons.mpr ⟨neN (by (try dsimp only); omega), List.forall_mem_cons.mpr ⟨neN (by (try dsimp only); omega), fun _ h => nomatch h⟩⟩, fun q hq => List.forall_mem_cons.mpr ⟨(hoff q hq).2, List.forall_mem_cons.mpr ⟨ng5 q hq, fun _ h => nomatch h⟩⟩⟩⟩⟩⟩)
  intro v3 E3 h3 tk3 F9 N9 ne9 hp3
  obtain ⟨P1, us1, tups1, c1, gs1, rfl, rfl, hd1, hperm1, hord1⟩ := hp3
  have nP := ne9 _ (.head _)
  have nT : ∀ q ∈ tups1, ∀ q' ∈ ((fd, listOf fv.toArray fn) :: (rl, listOf rv.toArray rn) :: (L + 1 + 1 + 1, o3) :: (L + 1 + 1, o2) :: rest), q'.1 ≠ q.1 := fun q hq q' hq' => ne9 q (.tail _ (List.mem_append_left _ hq)) q' hq'
  have N10 : News base L h3 ((P1, listOf us1.toArray c1) :: (fd, listOf fv.toArray fn) :: (bk, listOf bv.toArray bn) :: (rl, listOf rv.toArray rn) :: (L + 1 + 1 + 1, o3) :: (L + 1 + 1, o2) :: ([] ++ (tups1 ++ rest))) := by
    intro q hq
    refine N9 q ?_
    simp only [List.mem_cons, List.mem_append, List.not_mem_nil, or_false, false_or] at hq ⊢
    rcases hq with h | h | h | h | h | h | h | h <;> simp [h]
  clear N8 N9 ne6 ne9 F8
  refine LCp.SrcLP.ledger rfl F9 N10 (.head _) (by rw [List.size_toArray, hd1.length, List.length_map, hperm1.length_eq, List.length_map, gaps_len, sizeLine_eq]; have := lruHits_len r0 row.reverse; rw [List.length_reverse] at this; omega) fun g => comp_indP (fun i ys nw => ∃ tups2 : List (Addr × Obj), nw = (P1, listOf us1.toArray c1) :: (fd, listOf fv.toArray fn) :: (bk, listOf bv.toArray bn) :: (rl, listOf rv.toArray rn) :: (L + 1 + 1 + 1, o3) :: (L + 1 + 1, o2) :: (tups2 ++ (tups1 ++ rest)) ∧ DatAll tups2 ys (((gs1.take i).map (turnI row.length)).map pd) ∧ ∀ q ∈ tups2, @Ne Nat q.1 rl ∧ @Ne Nat q.1 fd) ⟨[], rfl, .nil, fun _ h => nomatch h⟩ ?step ?fin
  case step =>
    rintro i ys nw hi ⟨tups2, rfl, hd2, ho2⟩ v hv
    have hi1 : i < gs1.length := by
      rw [List.size_toArray, hd1.length, List.length_map] at hi; exact hi
    have hvi : us1.getD i Value.none = v := by
      have hv' : us1[i]? = some v := by simpa using hv
      rw [List.getD_eq_getElem?_getD, hv']; rfl
    obtain ⟨a, t5, u5, n5', rfl, hma⟩ := dat_pair (hvi ▸ datAll_at hd1 hi1)
    obtain ⟨ge, gp, hge⟩ : ∃ ge gp, gs1.getD i (0, 0) = (ge, gp) := ⟨_, _, rfl⟩
    rw [hge] at hma
    dsimp only at hma
    refine ⟨a, _, _, _, _, rfl, List.mem_append_right [_, _, _, _, _, _] (List.mem_append_right tups2 (List.mem_append_left rest hma)), rfl, rfl, fun I oI C oC D m2 h5 tk5 E5 hoC hm5 hm5' F11 N11 off5 ne5 => ?_⟩
    obtain ⟨ne51, ne52, ne53⟩ := ne5
    repeat' (first | (k_unfold; (try dsimp only)) | ((first | fail_if_success k_end | with_reducible show LeaveK _ _ _ _ _ _ _); (first | walk1 | (dsimp only; walk1) | (leave1; try dsimp only) | fail "no step")))
    rename News _ _ _ _ => NA
    rename Fr _ _ _ _ => FA
    rename _ ∧ _ => lA
    rename_i D9 h9
    obtain ⟨lA1, lA2, lA3, lA4, lA5, lA6, lA7, lA8, lA9, lA10⟩ := lA
    refine LCg.CompEnd.intro FA NA ((P1, listOf us1.toArray c1) :: (fd, listOf fv.toArray fn) :: (bk, listOf bv.toArray bn) :: (rl, listOf rv.toArray rn) :: (L + 1 + 1 + 1, o3) :: (L + 1 + 1, o2) :: (((D9, ({ cls := .type "tuple", data := .seq [Value.int ((row.length : Int) - 1 - gp) tk5, Value.int ((row.length : Int) - 1 - ge) (tk5 + 1)].toArray } : Obj)) :: tups2) ++ (tups1 ++ rest))) (fun z hz => ?mem) (LCg.Off3.of fun z hz => ?off) (.inr ⟨_, .head _, rfl, _, rfl⟩) ⟨(D9, ({ cls := .type "tuple", data := .seq [Value.int ((row.length : Int) - 1 - gp) tk5, Value.int ((row.length : Int) - 1 - ge) (tk5 + 1)].toArray } : Obj)) :: tups2, rfl, ?dat, ?ho⟩
    case mem =>
      rw [List.cons_append] at hz
      exact (List.forall_mem_cons.mpr ⟨(.tail _ (.head _)), List.forall_mem_cons.mpr ⟨(.tail _ (.tail _ (.head _))), List.forall_mem_cons.mpr ⟨(.tail _ (.tail _ (.tail _ (.head _)))), List.forall_mem_cons.mpr ⟨(.tail _ (.tail _ (.tail _ (.tail _ (.head _))))), List.forall_mem_cons.mpr ⟨(.tail _ (.tail _ (.tail _ (.tail _ (.tail _ (.head _)))))), List.forall_mem_cons.mpr ⟨(.tail _ (.tail _ (.tail _ (.tail _ (.tail _ (.tail _ (.head _))))))), List.forall_mem_cons.mpr ⟨(.tail _ (.tail _ (.tail _ (.tail _ (.tail _ (.tail _ (.tail _ (.head _)))))))), List.forall_mem_cons.mpr ⟨(.tail _ (.tail _ (.tail _ (.tail _ (.tail _ (.tail _ (.tail _ (.tail _ (.head _))))))))), List.forall_mem_cons.mpr ⟨(.tail _ (.tail _ (.tail _ (.tail _ (.tail _ (.tail _ (.tail _ (.tail _ (.tail _ (.head _)))))))))), List.forall_mem_cons.mpr ⟨(.head _), fun q hq => List.mem_append_right [_, _, _, _, _, _, _, _, _, _] hq⟩⟩⟩⟩⟩⟩⟩⟩⟩⟩) z hz
    case off =>
      rw [List.cons_append] at hz
      rcases List.mem_cons.mp hz with rfl | hz
      · exact LCg.Off3.mem off5 _ (.head _)
      · rcases List.mem_append.mp (show z ∈ [(fd, listOf fv.toArray fn), (bk, listOf bv.toArray bn), (rl, listOf rv.toArray rn), (L + 1 + 1 + 1, o3), (L + 1 + 1, o2)] ++ ((D9, ({ cls := .type "tuple", data := .seq [Value.int ((row.length : Int) - 1 - gp) tk5, Value.int ((row.length : Int) - 1 - ge) (tk5 + 1)].toArray } : Obj)) :: (tups2 ++ (tups1 ++ rest))) from hz) with hz | hz
        · exact LCg.Off3.mem off5 _ (.tail _ (List.mem_append_left (tups2 ++ (tups1 ++ rest)) hz))
        · rcases List.mem_cons.mp hz with rfl | hz
          · exact ⟨Nat.ne_of_gt lA1, Nat.ne_of_gt lA2, Nat.ne_of_gt lA3⟩
          · exact LCg.Off3.mem off5 _ (List.mem_append_right [_, _, _, _, _, _] hz)
    case dat =>
      have e : (gs1.take (i + 1)).map (turnI row.length) = (gs1.take i).map (turnI row.length) ++ [((row.length : Int) - 1 - gp, (row.length : Int) - 1 - ge)] := by
        rw [List.take_add_one, List.getElem?_eq_getElem hi1, Option.toList_some, List.map_append]
        have e2 : gs1[i] = (ge, gp) := by rw [← hge, List.getD_eq_getElem?_getD, List.getElem?_eq_getElem hi1]; rfl
        rw [e2]
        rfl
      rw [e, List.map_append]
      exact (hd2.mono fun _ h => .tail _ h).append (DatAll.one (DatIn.tuple (.head _) (.cons (.int _ _) (.cons (.int _ _) .nil))))
    case ho => exact List.forall_mem_cons.mpr ⟨⟨Nat.ne_of_gt lA7, Nat.ne_of_gt lA5⟩, ho2⟩
  case fin =>
    rintro ys nw ⟨tups2, rfl, hd2, ho2⟩
    rw [List.take_of_length_le (by rw [List.size_toArray, hd1.length, List.length_map]; exact Nat.le_refl _)] at hd2
    intro T1 h5 tk5 F11 N11 off5
    simp only [LCg.Off1] at off5
    obtain ⟨z1, z2, z3, z4, z5, z6, z7⟩ := off5
    repeat' ((fail_if_success (with_reducible show wpAny _ _ (call (Value.ref 1004) _) _ _ _)); first | (k_unfold; (try dsimp only)) | ((first | fail_if_success k_end | with_reducible show LeaveK _ _ _ _ _ _ _); (first | walk1 | (dsimp only; walk1) | (leave1; try dsimp only) | fail "no step")))
    rename News _ _ _ _ => N12
    rename Fr _ _ _ _ => F12
    refine ⟨Frag.In.keeps X F12.keep, ?_⟩
    refine' use_contract (dp := 1 + claimMargin + 1) (un := 4 + 3) (gd := some []) (env := (envOfC (Str.ofString "law") lawScope L fa cd)) (pairs1 w rl fd row rv rn (lruHits r0 row) fv fn hrv hfv (by omega) (lruHits_gap hr1) (lruHits_nd _ _) (by have := lruHits_len r0 row; omega)).toT rfl B F12 X N12 T X T rfl rfl ?d4 ?u4 ((T1, LCg.lst ys) :: (bk, listOf bv.toArray bn) :: (L + 1 + 1 + 1, o3) :: (L + 1 + 1, o2) :: (tups2 ++ rest)) ?E4 ?K4 ?ne5 ?_
    case d4 => decide
    case u4 => decide
    case E4 => exact (List.forall_mem_cons.mpr ⟨(.tail _ (.tail _ (.tail _ (.tail _ (.head _))))), List.forall_mem_cons.mpr ⟨(.tail _ (.tail _ (.head _))), fun _ h => nomatch h⟩⟩)
    case K4 =>
      intro q hq
      simp only [List.mem_cons, List.mem_append] at hq ⊢
      rcases hq with h | h | h | h | h | h <;> simp [h]
    case ne5 => exact (List.forall_mem_cons.mpr ⟨List.forall_mem_cons.mpr ⟨neN (by (try dsimp only); omega), List.forall_mem_cons.mpr ⟨neN (by (try dsimp only); omega), fun _ h => nomatch h⟩⟩, List.forall_mem_cons.mpr ⟨List.forall_mem_cons.mpr ⟨neN (by (try dsimp only); omega), List.forall_mem_cons.mpr ⟨neN (by (try dsimp only); omega), fun _ h => nomatch h⟩⟩, List.forall_mem_cons.mpr ⟨List.forall_mem_cons.mpr ⟨neN (by (try dsimp only); omega), List.forall_mem_cons.mpr ⟨neN (by (try dsimp only); omega), fun _ h => nomatch h⟩⟩, List.forall_mem_cons.mpr ⟨List.forall_mem_cons.mpr ⟨neN (by (try dsimp only); omega), List.forall_mem_cons.mpr ⟨neN (by (try dsimp only); omega), fun _ h => nomatch h⟩⟩, fun q hq => List.forall_mem_cons.mpr ⟨(List.mem_append.mp hq).elim (fun h => (ho2 q h).1) (fun h => (hoff q h).1), List.forall_mem_cons.mpr ⟨(List.mem_append.mp hq).elim (fun h => (ho2 q h).2) (fun h => nf4 q h), fun _ h => nomatch h⟩⟩⟩⟩⟩⟩)
    intro v5 E5 h6 tk6 F13 N13 ne13 hp5
    obtain ⟨P2, us2, tups3, c3, gs2, rfl, rfl, hd3, hperm2, hord2⟩ := hp5
    repeat' ((fail_if_success (with_reducible show wpAny _ _ (call (Value.builtin "sorted") _) _ _ _)); first | (k_unfold; (try dsimp only)) | ((first | fail_if_success k_end | with_reducible show LeaveK _ _ _ _ _ _ _); (first | walk1 | (dsimp only; walk1) | (leave1; try dsimp only) | fail "no step")))
    rename News _ _ _ _ => N14
    rename Fr _ _ _ _ => F14
    have hl1 := turned_perm hr1 hperm1
    refine sorted_pairs (L9 := tups2) (gs := gs1.map (turnI row.length)) F14 N14 (News.isList N14 (.head _)) hd2 (fun p hp => by simp only [List.mem_cons, List.mem_append]; simp [hp]) (by rw [hl1.length_eq, List.length_map, gaps_len]; have := lruHits_len r0 row; omega) (fun g hg => by have := pairs_small hr1 g (hl1.mem_iff.mp hg); omega) (hl1.nodup_iff.mpr (pairs_nd hr1)) fun D8 h8 c8 vs8 gs8 F15 N15 l15 hd8 hp8 ho8 => ?_
    have N16 : News base L h8 ((D8, listOf vs8.toArray c8) :: (P2, listOf us2.toArray c3) :: (T1, LCg.lst ys) :: (bk, listOf bv.toArray bn) :: (rl, listOf rv.toArray rn) :: (fd, listOf fv.toArray fn) :: (L + 1 + 1 + 1, o3) :: (L + 1 + 1, o2) :: (tups2 ++ (tups3 ++ rest))) := by
      intro q hq
      refine N15 q ?_
      simp only [List.mem_cons, List.mem_append, List.not_mem_nil, or_false] at hq ⊢
      rcases hq with h | h | h | h | h | h | h | h | h | h | h <;> simp [h]
    clear N14 N15 F14
    have hsame : gs2.map pd = gs8.map pd := by
      rw [pairs_same (hperm2.trans (hp8.trans hl1).symm) hord2 ho8]
    have hb9 : ∀ (inst : Decidable (gs2.map pd = gs8.map pd)), (!@decide _ inst) = false := fun inst => by rw [decide_eq_true hsame]; rfl
    repeat' ((fail_if_success (with_reducible show wpAny _ _ (compareOp CmpOp.NotEq _ _) _ _ _)); first | (k_unfold; (try dsimp only)) | ((first | fail_if_success k_end | with_reducible show LeaveK _ _ _ _ _ _ _); (first | walk1 | (dsimp only; walk1) | (leave1; try dsimp only) | fail "no step")))
    rename News _ _ _ _ => N17
    refine kqd_ne N17 (.tail _ (.head _)) rfl rfl hd3 (fun p hp => List.mem_append_right [_, _, _, _, _, _, _, _] (List.mem_append_right tups2 (List.mem_append_left rest hp))) (.head _) rfl rfl hd8 (fun p hp => List.mem_append_right [_, _, _, _, _, _, _, _] (List.mem_append_left _ hp)) (pd_ok _) (pd_ok _) (show 4 + 3 + 64 < cLine from by decide) ?_
    rw [hb9]
    repeat' ((fail_if_success (with_reducible show wpAny _ _ (execs (PySem.Stmt.Assign [PySem.Expr.Name (Str.ofString "best") _] _ _ :: _) _) _ _ _)); first | (k_unfold; (try dsimp only)) | ((first | fail_if_success k_end | with_reducible show LeaveK _ _ _ _ _ _ _); (first | walk1 | (dsimp only; walk1) | (leave1; try dsimp only) | fail "no step")))
    rename News _ _ _ _ => N18
    rename Fr _ _ _ _ => F18
    refine hQ fd fv fn _ _ _ hlt nf1 nf2 nf3 nf4 hfv ((if_neg (by decide)).trans (if_pos rfl)) (fun y y1 y2 => (if_neg y2).trans (if_neg y1)) F18 fun q hq => N18 q ?_
    simp only [List.mem_cons, List.mem_append] at hq ⊢
    rcases hq with h | h | h | h | h | h <;> simp [h]
set_option maxHeartbeats 16000000 in
theorem turn_b (w : World) {p9 : Program} {loose : List Str} {mean : ExcName → Option Value} {mg mb : Str → Option Value} {base : Heap} {L : Nat} {fa : Addr} {cd : Value} {m : Str → Option Value} {s : Shared} {Q : Flow → Shared → Prop} {Ex : Value → Shared → Prop} {fd fl rl rn bk bn r0 fn nf na nb : Nat} {r : Int} {tr ta tb : Tok} {fv rv bv : List Value} {row : List Int} {tabE rest : List (Addr × Obj)}
   (B : Below callerA base [] base) (F : Fr base L s.heap m) (X : (tjCSoBpQsPZBkyzz.heap_39 w.params).In base) (T : Top p9 loose mean mg mb base) (codeHd : CodeHd base 977 973) (hrv : IntsAre rv row) (hbv : IntsAre bv row.reverse) (hz : row.length ≤ 10) (hr : r = r0) (hr1 : 1 ≤ r0) (hr4 : r0 ≤ 4) (hfv : IntsAre fv ((lruHits r0 row).map fun (p : Nat) => (p : Int))) (hT : TabE tabE)
   (hm1 : m (Str.ofString "room") = some (.int r tr)) (hm2 : m (Str.ofString "back") = some (.ref bk)) (hm3 : m (Str.ofString "forth") = some (.ref fd)) (hm4 : m (Str.ofString "fewer") = some (.ref fl))
   (n1 : @Ne Nat rl bk) (n2 : @Ne Nat 973 rl) (n3 : @Ne Nat 973 bk) (n4 : @Ne Nat rl fd) (n5 : @Ne Nat bk fd) (n6 : @Ne Nat rl fl) (n7 : @Ne Nat bk fl) (n8 : @Ne Nat fl fd) (nr : @Ne Nat (L + 1 + 1) rl) (nk : @Ne Nat (L + 1 + 1) bk)
   {o2 : Obj} (d2 : o2.data = .cell (some (.ref rl)))
   (hoff : ∀ q ∈ rest, q.1 ≠ rl ∧ q.1 ≠ bk) (hot : ∀ q ∈ tabE, q.1 ≠ rl ∧ q.1 ≠ bk ∧ q.1 ≠ fd ∧ q.1 ≠ fl ∧ q.1 ≠ L + 1 + 1 ∧ ∀ q' ∈ rest, q'.1 ≠ q.1)
   (ha : na ≤ (lruHits r0 row).length) (hb : ∀ M f, MinRun r0 row row.length M f → nb ≤ f.length)
   (N : News base L s.heap ((fd, listOf fv.toArray fn) :: (fl, listOf #[.int na ta, .int nb tb] nf) :: (bk, listOf bv.toArray bn) :: (rl, listOf rv.toArray rn) :: (L + 1 + 1, o2) :: (tabE ++ rest)))
   (hQ : ∀ fl' nf' ta' tb' tabE' M f h' tk' m', MinRun r0 row row.length M f → TabE tabE' → m' (Str.ofString "fewer") = some (.ref fl') → (∀ y, y ≠ Str.ofString "best" → y ≠ Str.ofString "fewer" → m' y = m y) →
      ((@LT.lt Nat _ fd fl') ∧ (@LT.lt Nat _ bk fl') ∧ (@LT.lt Nat _ rl fl') ∧ (@LT.lt Nat _ (L + 1 + 1) fl') ∧ ∀ q ∈ rest, q.1 < fl') → (∀ q ∈ tabE', q.1 ≠ rl ∧ q.1 ≠ bk ∧ q.1 ≠ fd ∧ q.1 ≠ fl' ∧ q.1 ≠ L + 1 + 1 ∧ ∀ q' ∈ rest, q'.1 ≠ q.1) → Fr base L h' m' →
      News base L h' ((fl', listOf #[.int ((lruHits r0 row).length : Nat) ta', .int (f.length : Nat) tb'] nf') :: (fd, listOf fv.toArray fn) :: (bk, listOf bv.toArray bn) :: (rl, listOf rv.toArray rn) :: (L + 1 + 1, o2) :: (tabE' ++ rest)) →
      wpAny (model PySem.Challenge.rw_fc0035_01.row.prog w) (callerA.deeper (envOfC (Str.ofString "law") lawScope L fa cd)) (execs (loopBody.drop 6) (envOfC (Str.ofString "law") lawScope L fa cd)) Q Ex { s with heap := h', toks := tk' }) :
   wpAny (model PySem.Challenge.rw_fc0035_01.row.prog w) (callerA.deeper (envOfC (Str.ofString "law") lawScope L fa cd)) (execs (loopBody.drop 3) (envOfC (Str.ofString "law") lawScope L fa cd)) Q Ex s := by
  conv in (occs := *) lawScope => all_goals whnf
  conv in List.drop 3 loopBody => whnf
  repeat' ((fail_if_success (with_reducible show wpAny _ _ (call (Value.ref 999) _) _ _ _)); first | (k_unfold; (try dsimp only)) | ((first | fail_if_success k_end | with_reducible show LeaveK _ _ _ _ _ _ _); (first | walk1 | (dsimp only; walk1) | (leave1; try dsimp only) | fail "no step")))
  rename News _ _ _ _ => N1
  rename Fr _ _ _ _ => F1
  refine ⟨Frag.In.keeps X F1.keep, ?_⟩
  refine' use_contractPH (dp := 1 + claimMargin + 1) (un := 4 + 3) (gd := some []) (env := (envOfC (Str.ofString "law") lawScope L fa cd)) (best3 w rl _ r0 r row rv rn tabE hT (fun q hq => (hot q hq).1) n2 hrv (by omega) hr hr1 hr4) rfl B F1 X N1 T codeHd rfl rfl ?d ?u ((fd, listOf fv.toArray fn) :: (fl, listOf #[.int na ta, .int nb tb] nf) :: (bk, listOf bv.toArray bn) :: (L + 1 + 1, o2) :: rest) ?E ?K ?ne ?_
  case d => decide
  case u => decide
  case E => exact List.forall_mem_cons.mpr ⟨.tail _ (.tail _ (.tail _ (.head _))), fun q hq => List.mem_append_right [_, _, _, _, _] (List.mem_append_left rest hq)⟩
  case K => exact List.forall_mem_cons.mpr ⟨.head _, List.forall_mem_cons.mpr ⟨.tail _ (.head _), List.forall_mem_cons.mpr ⟨.tail _ (.tail _ (.head _)), List.forall_mem_cons.mpr ⟨.tail _ (.tail _ (.tail _ (.tail _ (.head _)))), fun q hq => List.mem_append_right [_, _, _, _, _] (List.mem_append_right tabE hq)⟩⟩⟩⟩
  case ne =>
    refine List.forall_mem_cons.mpr ⟨List.forall_mem_cons.mpr ⟨neN (by (try dsimp only); omega), fun q hq => Ne.symm (hot q hq).2.2.1⟩, ?_⟩
    refine List.forall_mem_cons.mpr ⟨List.forall_mem_cons.mpr ⟨neN (by (try dsimp only); omega), fun q hq => Ne.symm (hot q hq).2.2.2.1⟩, ?_⟩
    refine List.forall_mem_cons.mpr ⟨List.forall_mem_cons.mpr ⟨neN (by (try dsimp only); omega), fun q hq => Ne.symm (hot q hq).2.1⟩, ?_⟩
    refine List.forall_mem_cons.mpr ⟨List.forall_mem_cons.mpr ⟨neN (by (try dsimp only); omega), fun q hq => Ne.symm (hot q hq).2.2.2.2.1⟩, ?_⟩
    exact fun q hq => List.forall_mem_cons.mpr ⟨(hoff q hq).1, fun q' hq' => (hot q' hq').2.2.2.2.2 q hq⟩
  intro v1 E1 h1 tk1 F2 N2 ne2 hp1
  obtain ⟨bd, gv, gn, tab1, M1, f1, rfl, rfl, hT1, hM1, hgv, hlt1⟩ := hp1
  have N3 : News base L h1 ((bd, listOf gv.toArray gn) :: (fd, listOf fv.toArray fn) :: (fl, listOf #[.int na ta, .int nb tb] nf) :: (bk, listOf bv.toArray bn) :: (rl, listOf rv.toArray rn) :: (L + 1 + 1, o2) :: (tab1 ++ rest)) := by
    intro q hq
    refine N2 q ?_
    simp only [List.mem_cons, List.mem_append] at hq ⊢
    rcases hq with h | h | h | h | h | h | h | h <;> simp [h]
  have nb1 : @Ne Nat fd bd := ne2 _ (.head _) _ (.head _)
  have nb2 : @Ne Nat fl bd := ne2 _ (.head _) _ (.tail _ (.head _))
  have nb3 : @Ne Nat bk bd := ne2 _ (.head _) _ (.tail _ (.tail _ (.head _)))
  have nb4 : @Ne Nat (L + 1 + 1) bd := ne2 _ (.head _) _ (.tail _ (.tail _ (.tail _ (.head _))))
  have nb5 : ∀ q ∈ rest, q.1 ≠ bd := fun q hq => ne2 _ (.head _) q (.tail _ (.tail _ (.tail _ (.tail _ hq))))
  have hot1 : ∀ q ∈ tab1, q.1 ≠ rl ∧ q.1 ≠ bk ∧ q.1 ≠ fd ∧ q.1 ≠ fl ∧ q.1 ≠ L + 1 + 1 ∧ q.1 ≠ bd ∧ ∀ q' ∈ rest, q'.1 ≠ q.1 := fun q hq => by
    have h := ne2 q (.tail _ (.tail _ hq))
    have hs : ∀ q ∈ tab1, q ∈ ((bd, listOf gv.toArray gn) :: (fd, listOf fv.toArray fn) :: (fl, listOf #[.int na ta, .int nb tb] nf) :: (bk, listOf bv.toArray bn) :: (rl, listOf rv.toArray rn) :: (L + 1 + 1, o2) :: (tab1 ++ rest)) := fun q hq => List.mem_append_right [_, _, _, _, _, _] (List.mem_append_left rest hq)
    exact ⟨tab_off hT1 N3 hs (by k_mem) q hq, Ne.symm (h _ (.tail _ (.tail _ (.head _)))), Ne.symm (h _ (.head _)), Ne.symm (h _ (.tail _ (.head _))), Ne.symm (h _ (.tail _ (.tail _ (.tail _ (.head _))))), tab_off hT1 N3 hs (.head _) q hq, fun q' hq' => h q' (.tail _ (.tail _ (.tail _ (.tail _ hq'))))⟩
  clear N1 F1 N2 ne2
  repeat' ((fail_if_success (with_reducible show wpAny _ _ (call (Value.ref 999) _) _ _ _)); first | (k_unfold; (try dsimp only)) | ((first | fail_if_success k_end | with_reducible show LeaveK _ _ _ _ _ _ _); (first | walk1 | (dsimp only; walk1) | (leave1; try dsimp only) | fail "no step")))
  rename News _ _ _ _ => N4
  rename Fr _ _ _ _ => F4
  refine ⟨Frag.In.keeps X F4.keep, ?_⟩
  refine' use_contractPH (dp := 1 + claimMargin + 1) (un := 4 + 3) (gd := some []) (env := (envOfC (Str.ofString "law") lawScope L fa cd)) (best3 w bk _ r0 r row.reverse bv bn tab1 hT1 (fun q hq => (hot1 q hq).2.1) n3 hbv (by rw [List.length_reverse]; omega) hr hr1 hr4) rfl B F4 X N4 T codeHd rfl rfl ?d2 ?u2 ((bd, listOf gv.toArray gn) :: (fd, listOf fv.toArray fn) :: (fl, listOf #[.int na ta, .int nb tb] nf) :: (rl, listOf rv.toArray rn) :: (L + 1 + 1, o2) :: rest) ?E2 ?K2 ?ne2 ?_
  case d2 => decide
  case u2 => decide
  case E2 => exact List.forall_mem_cons.mpr ⟨.tail _ (.tail _ (.tail _ (.head _))), fun q hq => List.mem_append_right [_, _, _, _, _, _] (List.mem_append_left rest hq)⟩
  case K2 => exact List.forall_mem_cons.mpr ⟨.head _, List.forall_mem_cons.mpr ⟨.tail _ (.head _), List.forall_mem_cons.mpr ⟨.tail _ (.tail _ (.head _)), List.forall_mem_cons.mpr ⟨.tail _ (.tail _ (.tail _ (.tail _ (.head _)))), List.forall_mem_cons.mpr ⟨.tail _ (.tail _ (.tail _ (.tail _ (.tail _ (.head _))))), fun q hq => List.mem_append_right [_, _, _, _, _, _] (List.mem_append_right tab1 hq)⟩⟩⟩⟩⟩
  case ne2 =>
    refine List.forall_mem_cons.mpr ⟨List.forall_mem_cons.mpr ⟨neN (by (try dsimp only); omega), fun q hq => Ne.symm (hot1 q hq).2.2.2.2.2.1⟩, ?_⟩
    refine List.forall_mem_cons.mpr ⟨List.forall_mem_cons.mpr ⟨neN (by (try dsimp only); omega), fun q hq => Ne.symm (hot1 q hq).2.2.1⟩, ?_⟩
    refine List.forall_mem_cons.mpr ⟨List.forall_mem_cons.mpr ⟨neN (by (try dsimp only); omega), fun q hq => Ne.symm (hot1 q hq).2.2.2.1⟩, ?_⟩
    refine List.forall_mem_cons.mpr ⟨List.forall_mem_cons.mpr ⟨neN (by (try dsimp only); omega), fun q hq => Ne.symm (hot1 q hq).1⟩, ?_⟩
    refine List.forall_mem_cons.mpr ⟨List.forall_mem_cons.mpr ⟨neN (by (try dsimp only); omega), fun q hq => Ne.symm (hot1 q hq).2.2.2.2.1⟩, ?_⟩
    exact fun q hq => List.forall_mem_cons.mpr ⟨(hoff q hq).2, fun q' hq' => (hot1 q' hq').2.2.2.2.2.2 q hq⟩
  intro v2 E2 h2 tk2 F5 N5 ne5 hp2
  obtain ⟨ed, kv, kn, tab2, M2, f2, rfl, rfl, hT2, hM2, hkv, hlt2⟩ := hp2
  have N6 : News base L h2 ((ed, listOf kv.toArray kn) :: (bd, listOf gv.toArray gn) :: (fd, listOf fv.toArray fn) :: (fl, listOf #[.int na ta, .int nb tb] nf) :: (bk, listOf bv.toArray bn) :: (rl, listOf rv.toArray rn) :: (L + 1 + 1, o2) :: (tab2 ++ rest)) := by
    intro q hq
    refine N5 q ?_
    simp only [List.mem_cons, List.mem_append] at hq ⊢
    rcases hq with h | h | h | h | h | h | h | h | h <;> simp [h]
  have hot2 : ∀ q ∈ tab2, q.1 ≠ rl ∧ q.1 ≠ bk ∧ q.1 ≠ fd ∧ q.1 ≠ L + 1 + 1 ∧ ∀ q' ∈ rest, q'.1 ≠ q.1 := fun q hq => by
    have h := ne5 q (.tail _ (.tail _ hq))
    have hs : ∀ q ∈ tab2, q ∈ ((ed, listOf kv.toArray kn) :: (bd, listOf gv.toArray gn) :: (fd, listOf fv.toArray fn) :: (fl, listOf #[.int na ta, .int nb tb] nf) :: (bk, listOf bv.toArray bn) :: (rl, listOf rv.toArray rn) :: (L + 1 + 1, o2) :: (tab2 ++ rest)) := fun q hq => List.mem_append_right [_, _, _, _, _, _, _] (List.mem_append_left rest hq)
    exact ⟨tab_off hT2 N6 hs (by k_mem) q hq, tab_off hT2 N6 hs (by k_mem) q hq, Ne.symm (h _ (.tail _ (.head _))), Ne.symm (h _ (.tail _ (.tail _ (.tail _ (.tail _ (.head _)))))), fun q' hq' => h q' (.tail _ (.tail _ (.tail _ (.tail _ (.tail _ hq')))))⟩
  have e1 : f2.length = f1.length := min_rev hr1 hM1 hM2
  have e2 : (lruHits r0 row).length ≤ f1.length := lru_le_min hr1 hM1
  have e3 := hb M1 f1 hM1
  have e4 := minRun_len hM1
  have e5 : (f1.map fun (p : Nat) => (p : Int)).length = f1.length := List.length_map ..
  have e6 : (f2.map fun (p : Nat) => (p : Int)).length = f2.length := List.length_map ..
  have e7 : ((lruHits r0 row).map fun (p : Nat) => (p : Int)).length = (lruHits r0 row).length := List.length_map ..
  clear N5 ne5
  repeat' ((fail_if_success (with_reducible show wpAny _ _ (execs (PySem.Stmt.Assign [PySem.Expr.Name (Str.ofString "fewer") _] _ _ :: _) _) _ _ _)); first | (k_unfold; (try dsimp only)) | ((first | fail_if_success k_end | with_reducible show LeaveK _ _ _ _ _ _ _); (first | walk1 | (dsimp only; walk1) | (leave1; try dsimp only) | fail "no step")))
  · exfalso; omega
  · exfalso
    rename ((List.length _ : Nat) : Int) < _ => hx
    have hx' : (((lruHits r0 row).map fun (p : Nat) => (p : Int)).length : Int) < (na : Int) := hx
    omega
  · exfalso
    rename ((List.length _ : Nat) : Int) < _ => hx
    have hx' : ((f1.map fun (p : Nat) => (p : Int)).length : Int) < (nb : Int) := hx
    omega
  dsimp only
  repeat' ((fail_if_success (with_reducible show wpAny _ _ (execs (PySem.Stmt.Assign [PySem.Expr.Name (Str.ofString "rounds") _] _ _ :: _) _) _ _ _)); first | (k_unfold; (try dsimp only)) | ((first | fail_if_success k_end | with_reducible show LeaveK _ _ _ _ _ _ _); (first | walk1 | (dsimp only; walk1) | (leave1; try dsimp only) | fail "no step")))
  rename News _ _ _ _ => N9
  rename Fr _ _ _ _ => F9
  rename _ ∧ _ => l9
  rename_i fl9 h9a h9b
  rw [e7, e5] at N9
  obtain ⟨l1, l2, l3, l4, l5, l6, l7, l8⟩ := l9
  obtain ⟨ta9, tb9, N10⟩ : ∃ ta9 tb9 : Tok, News base L h9b ((fl9, listOf #[.int ((lruHits r0 row).length : Nat) ta9, .int (f1.length : Nat) tb9] 0) :: (ed, listOf kv.toArray kn) :: (bd, listOf gv.toArray gn) :: (fd, listOf fv.toArray fn) :: (fl, listOf #[.int na ta, .int nb tb] nf) :: (bk, listOf bv.toArray bn) :: (rl, listOf rv.toArray rn) :: (L + 1 + 1, o2) :: (tab2 ++ rest)) := ⟨_, _, N9⟩
  refine hQ fl9 0 ta9 tb9 tab2 M1 f1 _ _ _ hM1 hT2 (if_pos rfl) (fun y y1 y2 => (if_neg y2).trans (if_neg y1)) ⟨l3, l5, l6, l7, fun q hq => allLt_mem l8 q (List.mem_append_right _ hq)⟩ (fun q hq => ?_) F9 fun q hq => N10 q ?_
  · have h := hot2 q hq
    exact ⟨h.1, h.2.1, h.2.2.1, Nat.ne_of_lt (allLt_mem l8 q (List.mem_append_left _ hq)), h.2.2.2.1, h.2.2.2.2⟩
  · simp only [List.mem_cons, List.mem_append] at hq ⊢
    rcases hq with h | h | h | h | h | h | h <;> simp [h]
theorem bools_snoc {vs : List Value} {bs : List Bool} {b : Bool} (h : LSm.BoolsAre vs bs) : LSm.BoolsAre (vs ++ [.bool b]) (bs ++ [b]) := by
  induction h with
  | nil => exact .cons b .nil
  | cons c _ ih => exact .cons c ih
theorem round_snoc {n k : Nat} {f : List Nat} {p : Nat} : roundOf n k (f ++ [p]) = if k * n ≤ p ∧ p < (k + 1) * n then roundOf n k f ++ [p - k * n] else roundOf n k f := by
  unfold roundOf
  rw [List.filter_append, List.filter_cons]
  by_cases h : k * n ≤ p ∧ p < (k + 1) * n
  · rw [if_pos h, if_pos (by rw [Bool.and_eq_true, decide_eq_true_eq, decide_eq_true_eq]; exact h), List.filter_nil, List.map_append]; rfl
  · rw [if_neg h, if_neg (by rw [Bool.and_eq_true, decide_eq_true_eq, decide_eq_true_eq]; exact h), List.filter_nil, List.append_nil]
theorem dat_ints_all {L9 : List (Addr × Obj)} : ∀ {vs : List Value} {ns : List Int}, DatAll L9 vs (ns.map Dat.int) → IntsAre vs ns
  | [], [], _ => .nil
  | _ :: _, _ :: _, .cons (.int i t) r => .cons i t (dat_ints_all r)
theorem ints_dat_all {L9 : List (Addr × Obj)} : ∀ {vs : List Value} {ns : List Int}, IntsAre vs ns → DatAll L9 vs (ns.map Dat.int)
  | _, _, .nil => .nil
  | _, _, .cons n t r => .cons (.int n t) (ints_dat_all r)
theorem dat_list {L9 : List (Addr × Obj)} {v : Value} {ns : List Int} (h : DatIn L9 v (Dat.list (ns.map Dat.int))) : ∃ a vs n, v = .ref a ∧ (a, listOf (List.toArray vs) n) ∈ L9 ∧ IntsAre vs ns := by
  cases h with
  | list hm r => exact ⟨_, _, _, rfl, hm, dat_ints_all r⟩
set_option maxHeartbeats 16000000 in
theorem turn_c (w : World) {p9 : Program} {loose : List Str} {mean : ExcName → Option Value} {mg mb : Str → Option Value} {base : Heap} {L : Nat} {fa : Addr} {cd : Value} {m : Str → Option Value} {s : Shared} {Q : Flow → Shared → Prop} {Ex : Value → Shared → Prop} {fd rl rn r0 fn : Nat} {r : Int} {tr : Tok} {o2 o4 o5 : Obj} {c4 c5 : Option Value} {fv rv : List Value} {row : List Int} {rest : List (Addr × Obj)}
   (B : Below callerA base [] base) (F : Fr base L s.heap m) (X : (tjCSoBpQsPZBkyzz.heap_39 w.params).In base) (T : Top p9 loose mean mg mb base) (hrv : IntsAre rv row) (hz : row.length ≤ 10) (hr : r = r0) (hr1 : 1 ≤ r0) (hr4 : r0 ≤ 4) (hfv : IntsAre fv ((lruHits r0 row).map fun (p : Nat) => (p : Int)))
   (d2 : o2.data = .cell (some (.ref rl))) (d4 : o4.data = .cell c4) (d5 : o5.data = .cell c5) (hm1 : m (Str.ofString "room") = some (.int r tr)) (hm3 : m (Str.ofString "forth") = some (.ref fd))
   (n2 : @Ne Nat (L + 1 + 1) rl) (n4 : @Ne Nat (L + 1 + 1 + 1 + 1) rl) (n5 : @Ne Nat (L + 1 + 1 + 1 + 1 + 1) rl) (m2 : @Ne Nat (L + 1 + 1) fd) (m4 : @Ne Nat (L + 1 + 1 + 1 + 1) fd) (m5 : @Ne Nat (L + 1 + 1 + 1 + 1 + 1) fd) (nf : @Ne Nat rl fd)
   (h4 : ∀ q ∈ rest, q.1 ≠ L + 1 + 1 + 1 + 1) (h5 : ∀ q ∈ rest, q.1 ≠ L + 1 + 1 + 1 + 1 + 1)
   (N : News base L s.heap ((fd, listOf fv.toArray fn) :: (rl, listOf rv.toArray rn) :: (L + 1 + 1 + 1 + 1 + 1, o5) :: (L + 1 + 1 + 1 + 1, o4) :: (L + 1 + 1, o2) :: rest))
   (hQ : ∀ o4' o5' c4' c5' h' tk', o4'.data = .cell c4' → o5'.data = .cell c5' → Fr base L h' m → News base L h' ((rl, listOf rv.toArray rn) :: (L + 1 + 1 + 1 + 1 + 1, o5') :: (L + 1 + 1 + 1 + 1, o4') :: (L + 1 + 1, o2) :: rest) → Q .next { s with heap := h', toks := tk' }) :
   wpAny (model PySem.Challenge.rw_fc0035_01.row.prog w) (callerA.deeper (envOfC (Str.ofString "law") lawScope L fa cd)) (execs (loopBody.drop 6) (envOfC (Str.ofString "law") lawScope L fa cd)) Q Ex s := by
  conv in (occs := *) lawScope => all_goals whnf
  conv in List.drop 6 loopBody => whnf
  repeat' ((fail_if_success (with_reducible show wpAny _ _ (binaryOp Operator.Mult _ _) _ _ _)); first | (k_unfold; (try dsimp only)) | ((first | fail_if_success k_end | with_reducible show LeaveK _ _ _ _ _ _ _); (first | walk1 | (dsimp only; walk1) | (leave1; try dsimp only) | fail "no step")))
  rename News _ _ _ _ => N1
  rename Fr _ _ _ _ => F1
  refine mul3_list F1 N1 (.tail _ (.head _)) (by rw [hrv.length]; omega) fun D3 h1 F2 N2 l2 => ?_
  simp only [List.forall_mem_cons] at l2
  obtain ⟨l21, l22, l23, l24, l25, l26⟩ := l2
  replace l21 : @LT.lt Nat _ fd D3 := l21
  replace l22 : @LT.lt Nat _ rl D3 := l22
  replace l23 : @LT.lt Nat _ (L + 1 + 1 + 1 + 1 + 1) D3 := l23
  replace l24 : @LT.lt Nat _ (L + 1 + 1 + 1 + 1) D3 := l24
  replace l25 : @LT.lt Nat _ (L + 1 + 1) D3 := l25
  have h3v := ints_append hrv (ints_append hrv hrv)
  repeat' ((fail_if_success (with_reducible show wpAny _ _ (call (Value.ref 992) _) _ _ _)); first | (k_unfold; (try dsimp only)) | ((first | fail_if_success k_end | with_reducible show LeaveK _ _ _ _ _ _ _); (first | walk1 | (dsimp only; walk1) | (leave1; try dsimp only) | fail "no step")))
  rename News _ _ _ _ => N3
  rename Fr _ _ _ _ => F3
  refine ⟨Frag.In.keeps X F3.keep, ?_⟩
  refine' use_contract (dp := 1 + claimMargin + 1) (un := 4 + 3) (gd := some []) (env := (envOfC (Str.ofString "law") lawScope L fa cd)) (last1 w D3 _ r0 r (row ++ (row ++ row)) (rv ++ (rv ++ rv)) 0 h3v (by simp only [List.length_append]; omega) hr hr1 hr4) rfl B F3 X N3 T X T rfl rfl ?d ?u ((fd, listOf fv.toArray fn) :: (rl, listOf rv.toArray rn) :: (L + 1 + 1 + 1 + 1 + 1, o5) :: (L + 1 + 1 + 1 + 1, o4) :: (L + 1 + 1, o2) :: rest) ?E ?K ?ne ?_
  case d => decide
  case u => decide
  case E => exact (List.forall_mem_cons.mpr ⟨(.head _), fun _ h => nomatch h⟩)
  case K => exact (List.forall_mem_cons.mpr ⟨(.tail _ (.head _)), List.forall_mem_cons.mpr ⟨(.tail _ (.tail _ (.head _))), List.forall_mem_cons.mpr ⟨(.tail _ (.tail _ (.tail _ (.head _)))), List.forall_mem_cons.mpr ⟨(.tail _ (.tail _ (.tail _ (.tail _ (.head _))))), List.forall_mem_cons.mpr ⟨(.tail _ (.tail _ (.tail _ (.tail _ (.tail _ (.head _)))))), fun q hq => List.mem_append_right [_, _, _, _, _, _] hq⟩⟩⟩⟩⟩)
  case ne => exact (List.forall_mem_cons.mpr ⟨List.forall_mem_cons.mpr ⟨neN (by (try dsimp only); omega), fun _ h => nomatch h⟩, List.forall_mem_cons.mpr ⟨List.forall_mem_cons.mpr ⟨neN (by (try dsimp only); omega), fun _ h => nomatch h⟩, List.forall_mem_cons.mpr ⟨List.forall_mem_cons.mpr ⟨neN (by (try dsimp only); omega), fun _ h => nomatch h⟩, List.forall_mem_cons.mpr ⟨List.forall_mem_cons.mpr ⟨neN (by (try dsimp only); omega), fun _ h => nomatch h⟩, List.forall_mem_cons.mpr ⟨List.forall_mem_cons.mpr ⟨neN (by (try dsimp only); omega), fun _ h => nomatch h⟩, fun q hq => List.forall_mem_cons.mpr ⟨Nat.ne_of_lt (l26 q hq), fun _ h => nomatch h⟩⟩⟩⟩⟩⟩)
  intro v1 E1 h2 tk2 F4 N4 ne4 hp1
  obtain ⟨rd, kv, kn, rfl, rfl, hkv, hlt⟩ := hp1
  have N5 : News base L h2 ((rd, listOf kv.toArray kn) :: (fd, listOf fv.toArray fn) :: (rl, listOf rv.toArray rn) :: (L + 1 + 1 + 1 + 1 + 1, o5) :: (L + 1 + 1 + 1 + 1, o4) :: (L + 1 + 1, o2) :: rest) := by
    intro q hq
    refine N4 q ?_
    simp only [List.mem_cons, List.mem_append] at hq ⊢
    rcases hq with h | h | h | h | h | h | h <;> simp [h]
  have nd := ne4 _ (.head _)
  have nd1 : @Ne Nat fd rd := nd _ (.head _)
  have nd2 : @Ne Nat rl rd := nd _ (.tail _ (.head _))
  have nd3 : @Ne Nat (L + 1 + 1 + 1 + 1 + 1) rd := nd _ (.tail _ (.tail _ (.head _)))
  have nd4 : @Ne Nat (L + 1 + 1 + 1 + 1) rd := nd _ (.tail _ (.tail _ (.tail _ (.head _))))
  have nd5 : @Ne Nat (L + 1 + 1) rd := nd _ (.tail _ (.tail _ (.tail _ (.tail _ (.head _)))))
  clear N3 F3 N4 ne4 nd
  repeat' ((fail_if_success (with_reducible show wpAny _ _ (eval (PySem.Expr.ListComp _ _ _ _) _) _ _ _)); first | (k_unfold; (try dsimp only)) | ((first | fail_if_success k_end | with_reducible show LeaveK _ _ _ _ _ _ _); (first | walk1 | (dsimp only; walk1) | (leave1; try dsimp only) | fail "no step")))
  rename News _ _ _ _ => N6
  rename Fr _ _ _ _ => F6
  rename _ = Data.cell (some (Value.ref rd)) => d4'
  rename_i o4' 
  refine' ListComp_CR (h₀ := base) (L := L) (m := m) ?hclos ?hc1 ?hc2 ?hk ?hn ?hx ?_
  case hclos => with_unfolding_all rfl
  case hc1 => intro n acc; rfl
  case hc2 => intro h; rfl
  case hk => rfl
  case hn => decide
  case hx => rfl
  repeat' ((fail_if_success (with_reducible show SrcCR _ _ _ _ _ _ _ _ _ _ _ _ _ _)); first | (k_unfold; (try dsimp only)) | ((first | fail_if_success k_end | with_reducible show LeaveK _ _ _ _ _ _ _); (first | walk1 | (dsimp only; walk1) | (leave1; try dsimp only) | fail "no step")))
  rename IsRange _ _ _ _ _ _ _ _ => hR9
  rename News _ _ _ _ => N7
  rename Fr _ _ _ _ => F7
  obtain ⟨f, hf⟩ : ∃ f, lruHits r0 (row ++ (row ++ row)) = f := ⟨_, rfl⟩
  rw [hf] at hkv
  have hfl : f.length ≤ 30 := by
    have := lruHits_len r0 (row ++ (row ++ row))
    rw [hf] at this
    simp only [List.length_append] at this
    omega
  have hfp : ∀ p ∈ f, p < 30 := fun p hp => by
    rw [← hf] at hp
    have := ((lruHits_mem p).mp hp).1
    simp only [List.length_append] at this
    omega
  refine ⟨_, 0, 3, _, _, _, 3, _, fun i ys nw => ∃ lsts : List (Addr × Obj), nw = (rd, listOf kv.toArray kn) :: (fd, listOf fv.toArray fn) :: (rl, listOf rv.toArray rn) :: (L + 1 + 1 + 1 + 1 + 1, o5) :: (L + 1 + 1 + 1 + 1, o4') :: (L + 1 + 1, o2) :: (lsts ++ rest) ∧ DatAll lsts ys ((List.range i).map fun k => Dat.list (((roundOf row.length k f).map fun (p : Nat) => (p : Int)).map Dat.int)) ∧ ∀ q ∈ lsts, @Ne Nat q.1 (L + 1 + 1 + 1 + 1 + 1), rfl, rfl, F7, N7, hR9, by decide, by decide, by rw [sizeLine_eq]; omega, ⟨[], rfl, .nil, fun _ h => nomatch h⟩, fun s₂ he => ⟨?step, ?fin⟩⟩
  case step =>
    rintro i ys nw v I oI C oC c oc D h tk E' hi ⟨lsts, rfl, hd, ho⟩ ⟨t, rfl⟩ hoc F8 N8 off ⟨lI, lD, lC⟩
    refine' LCt.ListComp_T (F₀ := F8) ?hclos ?hcell ?hk ?hn ?hx ?_
    case hclos => with_unfolding_all rfl
    case hcell => decide
    case hk => rfl
    case hn => decide
    case hx => rfl
    repeat' ((fail_if_success (with_reducible show LCt.CompSrcT _ _ _ _ _ _ _ _ _ _ _ _ _ _ _)); first | (k_unfold; (try dsimp only)) | ((first | fail_if_success k_end | with_reducible show LeaveK _ _ _ _ _ _ _); (first | walk1 | (dsimp only; walk1) | (leave1; try dsimp only) | fail "no step")))
    rename Fr _ _ _ _ => F9
    rename News _ _ _ _ => N9
    refine LCt.CompSrcT.ledger rfl F9 N9 (its := kv.toArray) (k := kn) (.tail _ (.tail _ (.tail _ (.tail _ (.head _))))) (by rw [List.size_toArray, hkv.length, List.length_map, sizeLine_eq]; omega) fun g => comp_indT (fun j ys => IntsAre ys ((roundOf row.length i (f.take j)).map fun (p : Nat) => (p : Int))) .nil ?step2 ?fin2
    case step2 =>
      rintro j ys' hj hys v I2 oI2 C2 oC2 D2 m3 h3 tk3 E2 hv hoC2 hm3' F10 N10 off7 ⟨x1, x2, x3⟩
      obtain ⟨t6, rfl, hj2⟩ := ints_at hkv (show kv[j]? = some v by simpa using hv)
      rw [List.length_map] at hj2
      obtain ⟨p, hp⟩ : ∃ p, f.getD j 0 = p := ⟨_, rfl⟩
      have hpe : (f.map fun (p : Nat) => (p : Int)).getD j 0 = (p : Int) := by
        rw [← hp, List.getD_eq_getElem?_getD, List.getD_eq_getElem?_getD, List.getElem?_map, List.getElem?_eq_getElem hj2]; rfl
      rw [hpe] at hm3' hv
      have hpt : f.take (j + 1) = f.take j ++ [p] := by
        rw [List.take_add_one, List.getElem?_eq_getElem hj2, Option.toList_some]
        have : f[j] = p := by rw [← hp, List.getD_eq_getElem?_getD, List.getElem?_eq_getElem hj2]; rfl
        rw [this]
      repeat' (first | (k_unfold; (try dsimp only)) | ((first | fail_if_success k_end | with_reducible show LeaveK _ _ _ _ _ _ _); (first | walk1 | (dsimp only; walk1) | (leave1; try dsimp only) | fail "no step")))
      · rename (0 + (i : Int)) * _ ≤ _ => y1
        rename _ < (0 + (i : Int) + 1) * _ => y2
        rw [Int.zero_add, ← Int.natCast_mul] at y1
        rw [Int.zero_add, ← Int.natCast_succ, ← Int.natCast_mul] at y2
        have y3 := Int.ofNat_le.mp y1
        refine LCg.CompEnd.intro F10 N10 _ (fun p hp => hp) off7 (.inr ⟨_, .tail _ (.tail _ (.tail _ (.tail _ (.head _)))), rfl, _, rfl⟩) ⟨rfl, ?_⟩
        rw [hpt, round_snoc, if_pos ⟨y3, Int.ofNat_lt.mp y2⟩, List.map_append, show (p : Int) - (0 + (i : Int)) * (row.length : Int) = ((p - i * row.length : Nat) : Int) by rw [Int.zero_add, ← Int.natCast_mul]; omega]
        exact ints_snoc hys
      · rename ¬ _ < (0 + (i : Int) + 1) * _ => y2
        rw [Int.zero_add, ← Int.natCast_succ, ← Int.natCast_mul] at y2
        refine LCg.CompEnd.intro F10 N10 _ (fun p hp => hp) off7 (.inr ⟨_, .tail _ (.tail _ (.tail _ (.tail _ (.head _)))), rfl, _, rfl⟩) ⟨rfl, ?_⟩
        rw [hpt, round_snoc, if_neg (fun z => y2 (Int.ofNat_lt.mpr z.2))]
        exact hys
      · rename ¬ (0 + (i : Int)) * _ ≤ _ => y1
        rw [Int.zero_add, ← Int.natCast_mul] at y1
        refine LCg.CompEnd.intro F10 N10 _ (fun p hp => hp) off7 (.inr ⟨_, .tail _ (.tail _ (.tail _ (.tail _ (.head _)))), rfl, _, rfl⟩) ⟨rfl, ?_⟩
        rw [hpt, round_snoc, if_neg (fun z => y1 (Int.ofNat_le.mpr z.1))]
        exact hys
    case fin2 =>
      intro ys2 hys2 D2 h3 tk3 F10 N10 off2
      rw [List.take_of_length_le (Nat.le_of_eq (by rw [List.size_toArray, hkv.length, List.length_map]))] at hys2
      obtain ⟨w1, w2, w3, w4, w5, w6, w7, w8, w9⟩ := off2
      refine ⟨h3, _, (rd, listOf kv.toArray kn) :: (fd, listOf fv.toArray fn) :: (rl, listOf rv.toArray rn) :: (L + 1 + 1 + 1 + 1 + 1, o5) :: (L + 1 + 1 + 1 + 1, o4') :: (L + 1 + 1, o2) :: (((D2, LCg.lst ys2) :: lsts) ++ rest), rfl, F10, fun z hz => N10 z ?mem, ?off, ⟨(D2, LCg.lst ys2) :: lsts, rfl, ?dat, List.forall_mem_cons.mpr ⟨Ne.symm w8, ho⟩⟩⟩
      case mem =>
        rw [List.cons_append] at hz
        exact (List.forall_mem_cons.mpr ⟨(.tail _ (.head _)), List.forall_mem_cons.mpr ⟨(.tail _ (.tail _ (.head _))), List.forall_mem_cons.mpr ⟨(.tail _ (.tail _ (.tail _ (.head _)))), List.forall_mem_cons.mpr ⟨(.tail _ (.tail _ (.tail _ (.tail _ (.head _))))), List.forall_mem_cons.mpr ⟨(.tail _ (.tail _ (.tail _ (.tail _ (.tail _ (.head _)))))), List.forall_mem_cons.mpr ⟨(.tail _ (.tail _ (.tail _ (.tail _ (.tail _ (.tail _ (.head _))))))), List.forall_mem_cons.mpr ⟨(.tail _ (.tail _ (.tail _ (.tail _ (.tail _ (.tail _ (.tail _ (.head _)))))))), List.forall_mem_cons.mpr ⟨(.tail _ (.tail _ (.tail _ (.tail _ (.tail _ (.tail _ (.tail _ (.tail _ (.head _))))))))), List.forall_mem_cons.mpr ⟨(.tail _ (.tail _ (.tail _ (.tail _ (.tail _ (.tail _ (.tail _ (.tail _ (.tail _ (.head _)))))))))), List.forall_mem_cons.mpr ⟨(.tail _ (.tail _ (.tail _ (.tail _ (.tail _ (.tail _ (.tail _ (.tail _ (.tail _ (.tail _ (.head _))))))))))), List.forall_mem_cons.mpr ⟨(.head _), fun q hq => List.mem_append_right [_, _, _, _, _, _, _, _, _, _, _] hq⟩⟩⟩⟩⟩⟩⟩⟩⟩⟩⟩) z hz
      case off =>
        intro z hz
        rw [List.cons_append] at hz
        rcases List.mem_append.mp (show z ∈ [(rd, listOf kv.toArray kn), (fd, listOf fv.toArray fn), (rl, listOf rv.toArray rn), (L + 1 + 1 + 1 + 1 + 1, o5), (L + 1 + 1 + 1 + 1, o4'), (L + 1 + 1, o2)] ++ ((D2, LCg.lst ys2) :: (lsts ++ rest)) from hz) with hz | hz
        · exact off z (List.mem_append_left (lsts ++ rest) hz)
        · rcases List.mem_cons.mp hz with rfl | hz
          · exact ⟨Ne.symm w1, Ne.symm w2, Ne.symm w3, Ne.symm w4⟩
          · exact off z (List.mem_append_right [_, _, _, _, _, _] hz)
      case dat =>
        rw [List.range_succ, List.map_append]
        exact (hd.mono fun _ h => .tail _ h).append (DatAll.one (DatIn.list (.head _) (ints_dat_all hys2)))
  case fin =>
    obtain ⟨_, rfl⟩ := he
    rintro D h tk ys nw ⟨lsts, rfl, hd, ho⟩ F8 N8 off
    have hd' : DatAll lsts ys [Dat.list (((roundOf row.length 0 f).map fun (p : Nat) => (p : Int)).map Dat.int), Dat.list (((roundOf row.length 1 f).map fun (p : Nat) => (p : Int)).map Dat.int), Dat.list (((roundOf row.length 2 f).map fun (p : Nat) => (p : Int)).map Dat.int)] := hd
    cases hd' with
    | cons q0 hd1 =>
    cases hd1 with
    | cons q1 hd2 =>
    cases hd2 with
    | cons q2 hd3 =>
    cases hd3
    obtain ⟨a0, u0, k0, rfl, p0, i0⟩ := dat_list q0
    obtain ⟨a1, u1, k1, rfl, p1, i1⟩ := dat_list q1
    obtain ⟨a2, u2, k2, rfl, p2, i2⟩ := dat_list q2
    have x0 := ho _ p0
    have x1 := ho _ p1
    have x2 := ho _ p2
    have x3 : @Ne Nat (L + 1 + 1 + 1 + 1 + 1) D := off (L + 1 + 1 + 1 + 1 + 1, o5) (.tail _ (.tail _ (.tail _ (.head _))))
    have N11 : News base L h ((D, LCg.lst [Value.ref a0, Value.ref a1, Value.ref a2]) :: (a0, listOf u0.toArray k0) :: (a1, listOf u1.toArray k1) :: (a2, listOf u2.toArray k2) :: (fd, listOf fv.toArray fn) :: (rl, listOf rv.toArray rn) :: (L + 1 + 1 + 1 + 1 + 1, o5) :: (L + 1 + 1 + 1 + 1, o4') :: (L + 1 + 1, o2) :: rest) := by
      intro q hq
      refine N8 q ?_
      simp only [List.mem_cons, List.mem_append] at hq ⊢
      rcases hq with h | h | h | h | h | h | h | h | h | h <;> simp [h, p0, p1, p2]
    clear N7 N8 F7
    dsimp only at x0 x1 x2
    have g0 : roundOf row.length 0 f = lruHits r0 row := by rw [← hf]; exact round0
    have g1 : roundOf row.length 1 f = roundOf row.length 2 f := by rw [← hf]; exact round12 hr1
    have g2 : ∀ p ∈ lruHits r0 row, p ∈ roundOf row.length 1 f := by rw [← hf]; exact round01 hr1
    rw [g0] at i0
    rw [← g1] at i2
    have hb9 : ∀ (z : List Int) (inst : Decidable (z = z)), (!@decide _ inst) = false := fun z inst => by rw [decide_eq_true rfl]; rfl
    repeat' ((fail_if_success (with_reducible show wpAny _ _ (compareOp CmpOp.NotEq _ _) _ _ _)); first | (k_unfold; (try dsimp only)) | ((first | fail_if_success k_end | with_reducible show LeaveK _ _ _ _ _ _ _); (first | walk1 | (dsimp only; walk1) | (leave1; try dsimp only) | fail "no step")))
    rename News _ _ _ _ => N12
    refine ke_ne_ints (News.isList N12 (.tail _ (.head _))) (News.isList N12 (.tail _ (.tail _ (.tail _ (.tail _ (.head _)))))) i0 hfv (show 4 + 3 + 64 < cLine from by decide) ?_
    rw [hb9]
    repeat' ((fail_if_success (with_reducible show wpAny _ _ (compareOp CmpOp.NotEq _ _) _ _ _)); first | (k_unfold; (try dsimp only)) | ((first | fail_if_success k_end | with_reducible show LeaveK _ _ _ _ _ _ _); (first | walk1 | (dsimp only; walk1) | (leave1; try dsimp only) | fail "no step")))
    rename News _ _ _ _ => N13
    refine ke_ne_ints (News.isList N13 (.tail _ (.tail _ (.head _)))) (News.isList N13 (.tail _ (.tail _ (.tail _ (.head _))))) i1 i2 (show 4 + 3 + 64 < cLine from by decide) ?_
    rw [hb9]
    repeat' ((fail_if_success (with_reducible show wpAny _ _ (eval (PySem.Expr.ListComp _ _ _ _) _) _ _ _)); first | (k_unfold; (try dsimp only)) | ((first | fail_if_success k_end | with_reducible show LeaveK _ _ _ _ _ _ _); (first | walk1 | (dsimp only; walk1) | (leave1; try dsimp only) | fail "no step")))
    rename News _ _ _ _ => N14
    rename Fr _ _ _ _ => F14
    rename _ = Data.cell (some (Value.ref D)) => d5'
    refine' LCg.ListComp_U (F₀ := F14) ?hclos ?hcell ?hk ?hn ?hx ?_
    case hclos => with_unfolding_all rfl
    case hcell => decide
    case hk => rfl
    case hn => decide
    case hx => rfl
    repeat' ((fail_if_success (with_reducible show LCg.CompSrc _ _ _ _ _ _ _ _ _ _ _ _ _ _)); first | (k_unfold; (try dsimp only)) | ((first | fail_if_success k_end | with_reducible show LeaveK _ _ _ _ _ _ _); (first | walk1 | (dsimp only; walk1) | (leave1; try dsimp only) | fail "no step")))
    rename Fr _ _ _ _ => F15
    rename News _ _ _ _ => N15
    refine LCg.CompSrc.ledger rfl F15 N15 (its := fv.toArray) (k := fn) (.tail _ (.tail _ (.tail _ (.tail _ (.head _))))) (by rw [List.size_toArray, hfv.length, List.length_map, sizeLine_eq]; have := lruHits_len r0 row; omega) fun g => comp_ind (fun j ys => LSm.BoolsAre ys (List.replicate j false)) .nil ?step3 ?fin3
    case step3 =>
      rintro j ys' hj hys v I2 oI2 C2 oC2 D2 m3 h3 tk3 E2 hv hoC2 hm3' F16 N16 off7 ⟨x1, x2, x3⟩
      obtain ⟨t6, rfl, hj2⟩ := ints_at hfv (show fv[j]? = some v by simpa using hv)
      rw [List.length_map] at hj2
      obtain ⟨p, hp⟩ : ∃ p, (lruHits r0 row).getD j 0 = p := ⟨_, rfl⟩
      have hpe : ((lruHits r0 row).map fun (p : Nat) => (p : Int)).getD j 0 = (p : Int) := by
        rw [← hp, List.getD_eq_getElem?_getD, List.getD_eq_getElem?_getD, List.getElem?_map, List.getElem?_eq_getElem hj2]; rfl
      have hpm : (p : Int) ∈ (roundOf row.length 1 f).map fun (p : Nat) => (p : Int) := List.mem_map_of_mem (g2 p (by
        rw [← hp, List.getD_eq_getElem?_getD, List.getElem?_eq_getElem hj2]; exact List.getElem_mem _))
      rw [hpe] at hm3' hv
      repeat' ((fail_if_success (with_reducible show wpAny _ _ (compareOp CmpOp.NotIn _ _) _ _ _)); first | (k_unfold; (try dsimp only)) | ((first | fail_if_success k_end | with_reducible show LeaveK _ _ _ _ _ _ _); (first | walk1 | (dsimp only; walk1) | (leave1; try dsimp only) | fail "no step")))
      rename News _ _ _ _ => N17
      refine kf_notin (b := false) N17 (.tail _ (.tail _ (.tail _ (.tail _ (.tail _ (.head _)))))) (kf_ints_of i1) (by show (!u1.any (isInt (p : Int))) = false; rw [any_ints i1, decide_eq_true hpm]; rfl) ?_
      refine LCg.CompEnd.intro F16 N17 _ (fun p hp => hp) off7 (.inr ⟨_, .tail _ (.tail _ (.tail _ (.tail _ (.head _)))), rfl, _, rfl⟩) ⟨rfl, ?_⟩
      rw [List.replicate_succ']
      exact bools_snoc hys
    case fin3 =>
      intro ys2 hys2 D2 h3 tk3 F16 N16 off2
      repeat' ((fail_if_success (with_reducible show wpAny _ _ (call (Value.builtin "any") _) _ _ _)); first | (k_unfold; (try dsimp only)) | ((first | fail_if_success k_end | with_reducible show LeaveK _ _ _ _ _ _ _); (first | walk1 | (dsimp only; walk1) | (leave1; try dsimp only) | fail "no step")))
      rename News _ _ _ _ => N17
      rename Fr _ _ _ _ => F17
      refine LSm.any_bools F17 N17 rfl (News.isList N17 (.head _)) hys2 fun h4 tk4 F18 N18 => ?_
      rw [show (List.replicate _ false).any id = false by simp]
      repeat' (first | (k_unfold; (try dsimp only)) | ((first | fail_if_success k_end | with_reducible show LeaveK _ _ _ _ _ _ _); (first | walk1 | (dsimp only; walk1) | (leave1; try dsimp only) | fail "no step")))
      refine hQ _ _ _ _ _ _ d4' d5' F18 fun q hq => N18 q ?_
      exact (List.forall_mem_cons.mpr ⟨(.tail _ (.tail _ (.tail _ (.tail _ (.tail _ (.tail _ (.head _))))))), List.forall_mem_cons.mpr ⟨(.tail _ (.tail _ (.tail _ (.tail _ (.tail _ (.tail _ (.tail _ (.head _)))))))), List.forall_mem_cons.mpr ⟨(.tail _ (.tail _ (.tail _ (.tail _ (.tail _ (.tail _ (.tail _ (.tail _ (.head _))))))))), List.forall_mem_cons.mpr ⟨(.tail _ (.tail _ (.tail _ (.tail _ (.tail _ (.tail _ (.tail _ (.tail _ (.tail _ (.head _)))))))))), fun q hq => List.mem_append_right [_, _, _, _, _, _, _, _, _, _] hq⟩⟩⟩⟩) q hq
/-- what holds before turn i of the law's loop over the rooms -/
def JL (L rl bk rn bn : Nat) (o2 o3 : Obj) (rv bv : List Value) (row : List Int) (i : Nat) (m : Str → Option Value) (nx : List (Addr × Obj)) : Prop :=
  ∃ (fl nf na nb : Nat) (ta tb : Tok) (o4 o5 : Obj) (c4 c5 : Option Value) (tabE : List (Addr × Obj)),
    nx = (fl, listOf #[.int na ta, .int nb tb] nf) :: (bk, listOf bv.toArray bn) :: (rl, listOf rv.toArray rn) :: (L + 1 + 1 + 1 + 1 + 1, o5) :: (L + 1 + 1 + 1 + 1, o4) :: (L + 1 + 1 + 1, o3) :: (L + 1 + 1, o2) :: tabE ∧ TabE tabE ∧ o4.data = .cell c4 ∧ o5.data = .cell c5 ∧
      m (Str.ofString "back") = some (.ref bk) ∧ m (Str.ofString "fewer") = some (.ref fl) ∧ ((@LT.lt Nat _ bk fl) ∧ (@LT.lt Nat _ rl fl) ∧ (@LT.lt Nat _ (L + 1 + 1 + 1 + 1 + 1) fl)) ∧
      (∀ q ∈ tabE, q.1 ≠ rl ∧ q.1 ≠ bk ∧ q.1 ≠ fl ∧ q.1 ≠ L + 1 + 1 ∧ q.1 ≠ L + 1 + 1 + 1 ∧ q.1 ≠ L + 1 + 1 + 1 + 1 ∧ q.1 ≠ L + 1 + 1 + 1 + 1 + 1) ∧
      (∀ r, i ≤ r → 1 ≤ r → na ≤ (lruHits r row).length) ∧ ∀ r M f, i ≤ r → 1 ≤ r → MinRun r row row.length M f → nb ≤ f.length
theorem law_turn (w : World) {p9 : Program} {loose : List Str} {mean : ExcName → Option Value} {mg mb : Str → Option Value} {base : Heap} {L : Nat} {fa : Addr} {cd : Value} {m₁ : Str → Option Value} {s : Shared} {Q : Flow → Shared → Prop} {Ex : Value → Shared → Prop}
   {rl rn bk bn : Nat} {te : Tok} {o2 o3 : Obj} {rv bv : List Value} {row : List Int} {i : Nat} {t : Tok} {nx own : List (Addr × Obj)}
   (B : Below callerA base [] base) (X : (tjCSoBpQsPZBkyzz.heap_39 w.params).In base) (T : Top p9 loose mean mg mb base) (codeHd : CodeHd base 977 973) (hrv : IntsAre rv row) (hbv : IntsAre bv row.reverse) (hz : row.length ≤ 10)
   (d2 : o2.data = .cell (some (.ref rl))) (d3 : o3.data = .cell (some (.int ((row.length : Int) - 1) te)))
   (n1 : @Ne Nat rl bk) (n2 : @Ne Nat 973 rl) (n3 : @Ne Nat 973 bk) (r2 : @Ne Nat (L + 1 + 1) rl) (r3 : @Ne Nat (L + 1 + 1 + 1) rl) (r4 : @Ne Nat (L + 1 + 1 + 1 + 1) rl) (r5 : @Ne Nat (L + 1 + 1 + 1 + 1 + 1) rl)
   (b2 : @Ne Nat (L + 1 + 1) bk) (b3 : @Ne Nat (L + 1 + 1 + 1) bk) (b4 : @Ne Nat (L + 1 + 1 + 1 + 1) bk) (b5 : @Ne Nat (L + 1 + 1 + 1 + 1 + 1) bk)
   (hi : i < 4) (hoff : OwnOff own (nx.map (·.1))) (J : JL L rl bk rn bn o2 o3 rv bv row i m₁ nx)
   (F : Fr base L s.heap (fun y => if y = Str.ofString "room" then some (.int (1 + (i : Int)) t) else m₁ y)) (N : News base L s.heap (nx ++ own)) :
   wpAny (model PySem.Challenge.rw_fc0035_01.row.prog w) (callerA.deeper (envOfC (Str.ofString "law") lawScope L fa cd)) (execs loopBody (envOfC (Str.ofString "law") lawScope L fa cd)) (PostG base L (JL L rl bk rn bn o2 o3 rv bv row (i + 1)) own s Q) Ex s := by
  obtain ⟨fl, nf, na, nb, ta, tb, o4, o5, c4, c5, tabE, rfl, hT, d4, d5, m1, m2, ⟨l1, l2, l3⟩, hot, hna, hnb⟩ := J
  have hw : ∀ q ∈ own, ∀ b ∈ [fl, bk, rl, L + 1 + 1 + 1 + 1 + 1, L + 1 + 1 + 1 + 1, L + 1 + 1 + 1, L + 1 + 1], q.1 ≠ b := fun q hq b hb => hoff q hq b (by
    simp only [List.map_cons, List.mem_cons, List.not_mem_nil, or_false] at hb ⊢
    rcases hb with h | h | h | h | h | h | h <;> simp [h])
  have hwt : ∀ q ∈ own, ∀ q' ∈ tabE, q.1 ≠ q'.1 := fun q hq q' hq' => hoff q hq q'.1 (by
    simp only [List.map_cons, List.mem_cons]
    iterate 7 right
    exact List.mem_map_of_mem hq')
  have Na : News base L s.heap ((bk, listOf bv.toArray bn) :: (rl, listOf rv.toArray rn) :: (L + 1 + 1 + 1, o3) :: (L + 1 + 1, o2) :: ((fl, listOf #[.int na ta, .int nb tb] nf) :: (L + 1 + 1 + 1 + 1 + 1, o5) :: (L + 1 + 1 + 1 + 1, o4) :: (tabE ++ own))) := by
    intro q hq
    refine N q ?_
    simp only [List.mem_cons, List.mem_append, List.cons_append] at hq ⊢
    rcases hq with h | h | h | h | h | h | h | h | h <;> simp [h]
  refine turn_a w (r0 := i + 1) B F X T hrv hbv hz (by omega) (by omega) (by omega) d2 d3 (if_pos rfl) ((if_neg (by decide)).trans m1) n1 r2 r3 b2 b3 ?hoffa Na ?_
  case hoffa =>
    refine List.forall_mem_cons.mpr ⟨⟨Nat.ne_of_gt l2, Nat.ne_of_gt l1⟩, List.forall_mem_cons.mpr ⟨⟨r5, b5⟩, List.forall_mem_cons.mpr ⟨⟨r4, b4⟩, fun q hq => ?_⟩⟩⟩
    rcases List.mem_append.mp hq with h | h
    · exact ⟨(hot q h).1, (hot q h).2.1⟩
    · exact ⟨hw q h _ (by simp), hw q h _ (by simp)⟩
  intro fd fv fn h1 tk1 m2' lf1 lf2 lf3 lf4 lf5 hfv hm2 hmo F1 N1
  have nfl : @Ne Nat fl fd := lf5 _ (.head _)
  have nf5 : @Ne Nat (L + 1 + 1 + 1 + 1 + 1) fd := lf5 _ (.tail _ (.head _))
  have nf4 : @Ne Nat (L + 1 + 1 + 1 + 1) fd := lf5 _ (.tail _ (.tail _ (.head _)))
  have Nb : News base L h1 ((fd, listOf fv.toArray fn) :: (fl, listOf #[.int na ta, .int nb tb] nf) :: (bk, listOf bv.toArray bn) :: (rl, listOf rv.toArray rn) :: (L + 1 + 1, o2) :: (tabE ++ ((L + 1 + 1 + 1 + 1 + 1, o5) :: (L + 1 + 1 + 1 + 1, o4) :: (L + 1 + 1 + 1, o3) :: own))) := by
    intro q hq
    refine N1 q ?_
    simp only [List.mem_cons, List.mem_append] at hq ⊢
    rcases hq with h | h | h | h | h | h | h | h | h | h <;> simp [h]
  refine turn_b w (s := { s with heap := h1, toks := tk1 }) (r0 := i + 1) B F1 X T codeHd hrv hbv hz (show (1 + (i : Int)) = ((i + 1 : Nat) : Int) by omega) (by omega) (by omega) hfv hT ((hmo _ (by decide) (by decide)).trans (if_pos rfl)) ((hmo _ (by decide) (by decide)).trans ((if_neg (by decide)).trans m1)) hm2 ((hmo _ (by decide) (by decide)).trans ((if_neg (by decide)).trans m2)) n1 n2 n3 (Nat.ne_of_lt lf1) lf2 (Nat.ne_of_lt l2) (Nat.ne_of_lt l1) nfl r2 b2 d2 ?hoffb ?hotb (hna (i + 1) (by omega) (by omega)) (fun M f h => hnb (i + 1) M f (by omega) (by omega) h) Nb ?_
  case hoffb =>
    exact List.forall_mem_cons.mpr ⟨⟨r5, b5⟩, List.forall_mem_cons.mpr ⟨⟨r4, b4⟩, List.forall_mem_cons.mpr ⟨⟨r3, b3⟩, fun q h => ⟨hw q h _ (by simp), hw q h _ (by simp)⟩⟩⟩⟩
  case hotb =>
    intro q hq
    obtain ⟨a1, a2, a3, a4, a5, a6, a7⟩ := hot q hq
    exact ⟨a1, a2, lf5 q (.tail _ (.tail _ (.tail _ (List.mem_append_left _ hq)))), a3, a4, List.forall_mem_cons.mpr ⟨Ne.symm a7, List.forall_mem_cons.mpr ⟨Ne.symm a6, List.forall_mem_cons.mpr ⟨Ne.symm a5, fun q' h' => hwt q' h' q hq⟩⟩⟩⟩
  intro fl' nf' ta' tb' tabE' M f h2 tk2 m3' hM hT' hm3 hmo3 ⟨y1, y2, y3, y4, y5⟩ hot' F2 N2
  have Nc : News base L h2 ((fd, listOf fv.toArray fn) :: (rl, listOf rv.toArray rn) :: (L + 1 + 1 + 1 + 1 + 1, o5) :: (L + 1 + 1 + 1 + 1, o4) :: (L + 1 + 1, o2) :: ((fl', listOf #[.int ((lruHits (i + 1) row).length : Nat) ta', .int (f.length : Nat) tb'] nf') :: (bk, listOf bv.toArray bn) :: (L + 1 + 1 + 1, o3) :: (tabE' ++ own))) := by
    intro q hq
    refine N2 q ?_
    simp only [List.mem_cons, List.mem_append] at hq ⊢
    rcases hq with h | h | h | h | h | h | h | h | h | h <;> simp [h]
  have y6 : @LT.lt Nat _ (L + 1 + 1 + 1 + 1 + 1) fl' := y5 _ (.head _)
  have y7 : @LT.lt Nat _ (L + 1 + 1 + 1 + 1) fl' := y5 _ (.tail _ (.head _))
  have hmr : ∀ y, y ≠ Str.ofString "best" → y ≠ Str.ofString "fewer" → y ≠ Str.ofString "forth" → y ≠ Str.ofString "turned" → m3' y = if y = Str.ofString "room" then some (.int (1 + (i : Int)) t) else m₁ y := fun y a b c d => (hmo3 y a b).trans (hmo y c d)
  refine turn_c w (s := { s with heap := h2, toks := tk2 }) (r0 := i + 1) B F2 X T hrv hz (show (1 + (i : Int)) = ((i + 1 : Nat) : Int) by omega) (by omega) (by omega) hfv d2 d4 d5 ((hmr _ (by decide) (by decide) (by decide) (by decide)).trans (if_pos rfl)) ((hmo3 _ (by decide) (by decide)).trans hm2) r2 r4 r5 lf4 nf4 nf5 (Nat.ne_of_lt lf1) ?h4 ?h5 Nc ?_
  case h4 =>
    refine List.forall_mem_cons.mpr ⟨Nat.ne_of_gt y7, List.forall_mem_cons.mpr ⟨Ne.symm b4, List.forall_mem_cons.mpr ⟨neN (by (try dsimp only); omega), fun q hq => ?_⟩⟩⟩
    rcases List.mem_append.mp hq with h | h
    · exact Ne.symm ((hot' q h).2.2.2.2.2 _ (.tail _ (.head _)))
    · exact hw q h _ (by simp)
  case h5 =>
    refine List.forall_mem_cons.mpr ⟨Nat.ne_of_gt y6, List.forall_mem_cons.mpr ⟨Ne.symm b5, List.forall_mem_cons.mpr ⟨neN (by (try dsimp only); omega), fun q hq => ?_⟩⟩⟩
    rcases List.mem_append.mp hq with h | h
    · exact Ne.symm ((hot' q h).2.2.2.2.2 _ (.head _))
    · exact hw q h _ (by simp)
  intro o4' o5' c4' c5' h3 tk3 d4' d5' F3 N3
  refine ⟨h3, tk3, _, (fl', listOf #[.int ((lruHits (i + 1) row).length : Nat) ta', .int (f.length : Nat) tb'] nf') :: (bk, listOf bv.toArray bn) :: (rl, listOf rv.toArray rn) :: (L + 1 + 1 + 1 + 1 + 1, o5') :: (L + 1 + 1 + 1 + 1, o4') :: (L + 1 + 1 + 1, o3) :: (L + 1 + 1, o2) :: tabE', rfl, F3, ?news, ?own, fl', nf', _, _, ta', tb', o4', o5', c4', c5', tabE', rfl, hT', d4', d5', (hmr _ (by decide) (by decide) (by decide) (by decide)).trans ((if_neg (by decide)).trans m1), hm3, ⟨y2, y3, y6⟩, ?tab, ?na, ?nb⟩
  case news =>
    intro q hq
    refine N3 q ?_
    simp only [List.mem_cons, List.mem_append, List.cons_append] at hq ⊢
    rcases hq with h | h | h | h | h | h | h | h | h <;> simp [h]
  case own =>
    intro q hq b hb
    simp only [List.map_cons, List.mem_cons] at hb
    rcases hb with rfl | rfl | rfl | rfl | rfl | rfl | rfl | hb
    · exact Nat.ne_of_lt (y5 q (.tail _ (.tail _ (.tail _ hq))))
    · exact hw q hq _ (by simp)
    · exact hw q hq _ (by simp)
    · exact hw q hq _ (by simp)
    · exact hw q hq _ (by simp)
    · exact hw q hq _ (by simp)
    · exact hw q hq _ (by simp)
    · obtain ⟨q', h', rfl⟩ := List.mem_map.mp hb
      exact (hot' q' h').2.2.2.2.2 q (.tail _ (.tail _ (.tail _ hq)))
  case tab =>
    intro q hq
    obtain ⟨a1, a2, a3, a4, a5, a6⟩ := hot' q hq
    exact ⟨a1, a2, a4, a5, Ne.symm (a6 _ (.tail _ (.tail _ (.head _)))), Ne.symm (a6 _ (.tail _ (.head _))), Ne.symm (a6 _ (.head _))⟩
  case na => exact fun r h1 h2 => lruHits_more (by omega) h1
  case nb => exact fun r M' f' h1 h2 h3 => min_more (by omega) h1 hM h3
set_option maxHeartbeats 16000000 in
theorem law_fin (w : World) {p9 : Program} {loose : List Str} {mean : ExcName → Option Value} {mg mb : Str → Option Value} {base : Heap} {L : Nat} {fa : Addr} {cd : Value} {m : Str → Option Value} {s : Shared} {Q : Flow → Shared → Prop} {Ex : Value → Shared → Prop} {rl rn : Nat} {o2 : Obj} {rv : List Value} {row : List Int} {rest : List (Addr × Obj)} {tb : Array Value}
   (B : Below callerA base [] base) (F : Fr base L s.heap m) (X : (tjCSoBpQsPZBkyzz.heap_39 w.params).In base) (T : Top p9 loose mean mg mb base) (hrv : IntsAre rv row) (hz : row.length ≤ 10) (d2 : o2.data = .cell (some (.ref rl))) (n2 : @Ne Nat (L + 1 + 1) rl) (hoff : ∀ q ∈ rest, q.1 ≠ rl) (h9 : (973, tabObj tb) ∈ rest)
   (N : News base L s.heap ((rl, listOf rv.toArray rn) :: (L + 1 + 1, o2) :: rest))
   (hQ : ∀ h' tk' m' tb, Fr base L h' m' → News base L h' [(973, tabObj tb)] → Q (.ret (.bool true)) { s with heap := h', toks := tk' }) :
   wpAny (model PySem.Challenge.rw_fc0035_01.row.prog w) (callerA.deeper (envOfC (Str.ofString "law") lawScope L fa cd)) (execs (lawBody.drop 6) (envOfC (Str.ofString "law") lawScope L fa cd)) Q Ex s := by
  conv in (occs := *) lawScope => all_goals whnf
  conv in List.drop 6 lawBody => whnf
  repeat' ((fail_if_success (with_reducible show wpAny _ _ (eval (PySem.Expr.ListComp _ _ _ _) _) _ _ _)); first | (k_unfold; (try dsimp only)) | ((first | fail_if_success k_end | with_reducible show LeaveK _ _ _ _ _ _ _); (first | walk1 | (dsimp only; walk1) | (leave1; try dsimp only) | fail "no step")))
  rename Fr _ _ _ _ => F1
  refine' LCg.ListComp_U (F₀ := F1) ?hclos ?hcell ?hk ?hn ?hx ?_
  case hclos => with_unfolding_all rfl
  case hcell => decide
  case hk => rfl
  case hn => decide
  case hx => rfl
  repeat' ((fail_if_success (with_reducible show wpAny _ _ (call (Value.ref 992) _) _ _ _)); first | (k_unfold; (try dsimp only)) | ((first | fail_if_success k_end | with_reducible show LeaveK _ _ _ _ _ _ _); (first | walk1 | (dsimp only; walk1) | (leave1; try dsimp only) | fail "no step")))
  rename News _ _ _ _ => N1
  rename Fr _ _ _ _ => F2
  refine ⟨Frag.In.keeps X F2.keep, ?_⟩
  refine' use_contract (dp := 1 + claimMargin + 1) (un := 4 + 3) (gd := some []) (env := (envOfC (Str.ofString "law") lawScope L fa cd)) (last1 w rl _ 4 4 row rv rn hrv (by omega) rfl (by omega) (by omega)) rfl B F2 X N1 T X T rfl rfl ?d ?u ((L + 1 + 1, o2) :: rest) ?E ?K ?ne ?_
  case d => decide
  case u => decide
  case E => exact (List.forall_mem_cons.mpr ⟨(.head _), fun _ h => nomatch h⟩)
  case K => exact (List.forall_mem_cons.mpr ⟨(.tail _ (.head _)), fun q hq => List.mem_append_right [_, _] hq⟩)
  case ne => exact (List.forall_mem_cons.mpr ⟨List.forall_mem_cons.mpr ⟨neN (by (try dsimp only); omega), fun _ h => nomatch h⟩, fun q hq => List.forall_mem_cons.mpr ⟨hoff q hq, fun _ h => nomatch h⟩⟩)
  intro v1 E1 h1 tk1 F3 N3 ne3 hp1
  obtain ⟨fd, fv, fn, rfl, rfl, hfv, hlt⟩ := hp1
  have N4 : News base L h1 ((fd, listOf fv.toArray fn) :: rest) := by
    intro q hq
    refine N3 q ?_
    simp only [List.mem_cons, List.mem_append] at hq ⊢
    rcases hq with h | h <;> simp [h]
  clear N1 F2 N3 ne3
  repeat' ((fail_if_success (with_reducible show LCg.CompSrc _ _ _ _ _ _ _ _ _ _ _ _ _ _)); first | (k_unfold; (try dsimp only)) | ((first | fail_if_success k_end | with_reducible show LeaveK _ _ _ _ _ _ _); (first | walk1 | (dsimp only; walk1) | (leave1; try dsimp only) | fail "no step")))
  rename Fr _ _ _ _ => F5
  rename News _ _ _ _ => N5
  refine LCg.CompSrc.ledger rfl F5 N5 (its := fv.toArray) (k := fn) (.head _) (by rw [List.size_toArray, hfv.length, List.length_map, sizeLine_eq]; have := lruHits_len 4 row; omega) fun g => comp_ind (fun j ys => LSm.BoolsAre ys (List.replicate j true)) .nil ?step3 ?fin3
  case step3 =>
    rintro j ys' hj hys v I2 oI2 C2 oC2 D2 m3 h3 tk3 E2 hv hoC2 hm3' F16 N16 off7 ⟨x1, x2, x3⟩
    obtain ⟨t6, rfl, hj2⟩ := ints_at hfv (show fv[j]? = some v by simpa using hv)
    rw [List.length_map] at hj2
    obtain ⟨p, hp⟩ : ∃ p, (lruHits 4 row).getD j 0 = p := ⟨_, rfl⟩
    have hpe : ((lruHits 4 row).map fun (p : Nat) => (p : Int)).getD j 0 = (p : Int) := by
      rw [← hp, List.getD_eq_getElem?_getD, List.getD_eq_getElem?_getD, List.getElem?_map, List.getElem?_eq_getElem hj2]; rfl
    have hpm : 0 < p := lruHits_pos p (by
      rw [← hp, List.getD_eq_getElem?_getD, List.getElem?_eq_getElem hj2]; exact List.getElem_mem _)
    rw [hpe] at hm3' hv
    repeat' (first | (k_unfold; (try dsimp only)) | ((first | fail_if_success k_end | with_reducible show LeaveK _ _ _ _ _ _ _); (first | walk1 | (dsimp only; walk1) | (leave1; try dsimp only) | fail "no step")))
    refine LCg.CompEnd.intro F16 N16 _ (fun p hp => hp) off7 (.inr ⟨_, .head _, rfl, _, rfl⟩) ⟨rfl, ?_⟩
    rw [List.replicate_succ']
    have hz9 : ∀ (inst : Decidable ((0 : Int) < (p : Int))), @decide _ inst = true := fun inst => decide_eq_true (by omega)
    first | rw [hz9] | (rw [decide_eq_true (by omega)])
    exact bools_snoc hys
  case fin3 =>
    intro ys2 hys2 D2 h3 tk3 F16 N16 off2
    repeat' ((fail_if_success (with_reducible show wpAny _ _ (call (Value.builtin "all") _) _ _ _)); first | (k_unfold; (try dsimp only)) | ((first | fail_if_success k_end | with_reducible show LeaveK _ _ _ _ _ _ _); (first | walk1 | (dsimp only; walk1) | (leave1; try dsimp only) | fail "no step")))
    rename News _ _ _ _ => N17
    rename Fr _ _ _ _ => F17
    refine LSm.all_bools F17 N17 rfl (News.isList N17 (.head _)) hys2 fun h4 tk4 F18 N18 => ?_
    rw [show (List.replicate _ true).all id = true by simp]
    repeat' (first | (k_unfold; (try dsimp only)) | ((first | fail_if_success k_end | with_reducible show LeaveK _ _ _ _ _ _ _); (first | walk1 | (dsimp only; walk1) | (leave1; try dsimp only) | fail "no step")))
    refine hQ _ _ _ tb F18 fun q hq => N18 q ?_
    rw [List.mem_singleton.mp hq]
    exact List.mem_append_right [_, _] h9
theorem tab_there {l : List (Addr × Obj)} (h : TabE l) : ∃ tb, (973, tabObj tb) ∈ l := by
  rcases h with rfl | ⟨c', oc, cvs, t9, rfl, _, _, _⟩
  · exact ⟨_, .head _⟩
  · exact ⟨_, .tail _ (.head _)⟩
theorem law_loop (w : World) {p9 : Program} {loose : List Str} {mean : ExcName → Option Value} {mg mb : Str → Option Value} {base : Heap} {L : Nat} {fa : Addr} {cd : Value} {m : Str → Option Value} {s : Shared} {Q : Flow → Shared → Prop} {Ex : Value → Shared → Prop} {rl rn bk bn fl nf rr : Nat} {te ta tb t9 u9 v9 : Tok} {o2 o3 o4 o5 : Obj} {c4 c5 : Option Value} {rv bv : List Value} {row : List Int}
   (B : Below callerA base [] base) (F : Fr base L s.heap m) (X : (tjCSoBpQsPZBkyzz.heap_39 w.params).In base) (T : Top p9 loose mean mg mb base) (codeHd : CodeHd base 977 973) (l0 : 973 < L) (hrv : IntsAre rv row) (hbv : IntsAre bv row.reverse) (hz : row.length ≤ 10)
   (d2 : o2.data = .cell (some (.ref rl))) (d3 : o3.data = .cell (some (.int ((row.length : Int) - 1) te))) (d4 : o4.data = .cell c4) (d5 : o5.data = .cell c5) (m1 : m (Str.ofString "back") = some (.ref bk)) (m2 : m (Str.ofString "fewer") = some (.ref fl))
   (n2 : @Ne Nat 973 rl) (r2 : @Ne Nat (L + 1 + 1) rl) (r3 : @Ne Nat (L + 1 + 1 + 1) rl) (r4 : @Ne Nat (L + 1 + 1 + 1 + 1) rl) (r5 : @Ne Nat (L + 1 + 1 + 1 + 1 + 1) rl)
   (l1 : @LT.lt Nat _ rl bk) (l2 : @LT.lt Nat _ (L + 1 + 1 + 1 + 1 + 1) bk) (l3 : @LT.lt Nat _ bk fl) (hR : IsRange s.heap rr 1 5 1 t9 u9 v9)
   (N : News base L s.heap [(fl, listOf #[.int 0 ta, .int 0 tb] nf), (bk, listOf bv.toArray bn), (rl, listOf rv.toArray rn), (L + 1 + 1 + 1 + 1 + 1, o5), (L + 1 + 1 + 1 + 1, o4), (L + 1 + 1 + 1, o3), (L + 1 + 1, o2), (973, tabObj #[])])
   {Q0 : Flow → Shared → Prop} (hE : PassesOwn (model PySem.Challenge.rw_fc0035_01.row.prog w) (callerA.deeper (envOfC (Str.ofString "law") lawScope L fa cd)) (envOfC (Str.ofString "law") lawScope L fa cd) Ex)
   (hQn : ∀ s', wpAny (model PySem.Challenge.rw_fc0035_01.row.prog w) (callerA.deeper (envOfC (Str.ofString "law") lawScope L fa cd)) (execs (lawBody.drop 6) (envOfC (Str.ofString "law") lawScope L fa cd)) Q0 Ex s' → Q .next s')
   (hQ0 : ∀ h' tk' m' tb, Fr base L h' m' → News base L h' [(973, tabObj tb)] → Q0 (.ret (.bool true)) { s with heap := h', toks := tk' }) :
   wpAny (model PySem.Challenge.rw_fc0035_01.row.prog w) (callerA.deeper (envOfC (Str.ofString "law") lawScope L fa cd)) (pyIter (.ref rr)) (fun it s₂ => LoopAtV PySem.Challenge.rw_fc0035_01.row.prog w (callerA.deeper (envOfC (Str.ofString "law") lawScope L fa cd)) base (envOfC (Str.ofString "law") lawScope L fa cd) (Str.ofString "room") loopBody Q Ex it s₂) Ex s := by
  refine range_gen (n := 4) (JL L rl bk rn bn o2 o3 rv bv row) rfl hR (by decide) (by decide) F N ?init ?turn ?done
  case init =>
    refine ⟨fl, nf, 0, 0, ta, tb, o4, o5, c4, c5, [(973, tabObj #[])], rfl, .inl rfl, d4, d5, m1, m2, ⟨l3, Nat.lt_trans l1 l3, Nat.lt_trans l2 l3⟩, ?_, fun _ _ _ => Nat.zero_le _, fun _ _ _ _ _ _ => Nat.zero_le _⟩
    intro q hq
    rw [List.mem_singleton.mp hq]
    refine ⟨n2, neN ?_, neN ?_, neN ?_, neN ?_, neN ?_, neN ?_⟩ <;> (dsimp only; omega)
  case turn =>
    intro i t m₁ nx h tk own hi hoff hJ F1 N1
    exact law_turn w (s := { s with heap := h, toks := tk }) B X T codeHd hrv hbv hz d2 d3 (Nat.ne_of_lt l1) n2 (neN (by omega)) r2 r3 r4 r5 (neN (by omega)) (neN (by omega)) (neN (by omega)) (neN (by omega)) hi hoff hJ F1 N1
  case done =>
    intro m₁ nx h tk hJ F1 N1
    obtain ⟨fl, nf, na, nb, ta, tb, o4, o5, c4, c5, tabE, rfl, hT, d4, d5, m1, m2, ⟨y1, y2, y3⟩, hot, hna, hnb⟩ := hJ
    obtain ⟨tb9, h9⟩ := tab_there hT
    refine hQn _ (law_fin w (s := { s with heap := h, toks := tk }) (rn := rn) (rv := rv) (tb := tb9) (rest := (fl, listOf #[.int na ta, .int nb tb] nf) :: (bk, listOf bv.toArray bn) :: (L + 1 + 1 + 1 + 1 + 1, o5) :: (L + 1 + 1 + 1 + 1, o4) :: (L + 1 + 1 + 1, o3) :: tabE) B F1 X T hrv hz d2 r2 ?_ (List.mem_append_right [_, _, _, _, _] h9) (fun q hq => N1 q ?_) fun h' tk' m' tb F2 N2 => hQ0 h' tk' m' tb F2 N2)
    · exact List.forall_mem_cons.mpr ⟨Nat.ne_of_gt y2, List.forall_mem_cons.mpr ⟨Nat.ne_of_gt l1, List.forall_mem_cons.mpr ⟨r5, List.forall_mem_cons.mpr ⟨r4, List.forall_mem_cons.mpr ⟨r3, fun q hq => (hot q hq).1⟩⟩⟩⟩⟩
    · simp only [List.mem_cons] at hq ⊢
      rcases hq with h | h | h | h | h | h | h | h <;> simp [h]
set_option maxHeartbeats 16000000 in
theorem law_setup (w : World) {p9 : Program} {loose : List Str} {mean : ExcName → Option Value} {mg mb : Str → Option Value} {base : Heap} {L : Nat} {fa : Addr} {cd : Value} {m : Str → Option Value} {s : Shared} {Q : Flow → Shared → Prop} {Ex : Value → Shared → Prop} {rl rn : Nat} {o2 o3 o4 o5 : Obj} {rv : List Value} {row : List Int}
   (B : Below callerA base [] base) (F : Fr base L s.heap m) (X : (tjCSoBpQsPZBkyzz.heap_39 w.params).In base) (T : Top p9 loose mean mg mb base) (hrv : IntsAre rv row) (hz : row.length ≤ 10) (d2 : o2.data = .cell (some (.ref rl))) (d3 : o3.data = .cell none) (d4 : o4.data = .cell none) (d5 : o5.data = .cell none) (l0 : 973 < L)
   (n5 : @Ne Nat (L + 1 + 1 + 1 + 1 + 1) rl) (n4 : @Ne Nat (L + 1 + 1 + 1 + 1) rl) (n3 : @Ne Nat (L + 1 + 1 + 1) rl) (n2 : @Ne Nat (L + 1 + 1) rl) (n1 : @Ne Nat 973 rl)
   (codeHd : CodeHd base 977 973) (hE : PassesOwn (model PySem.Challenge.rw_fc0035_01.row.prog w) (callerA.deeper (envOfC (Str.ofString "law") lawScope L fa cd)) (envOfC (Str.ofString "law") lawScope L fa cd) Ex) (hQ : ∀ h' tk' m' tb, Fr base L h' m' → News base L h' [(973, tabObj tb)] → Q (.ret (.bool true)) { s with heap := h', toks := tk' })
   (N : News base L s.heap [(rl, listOf rv.toArray rn), (L + 1 + 1 + 1 + 1 + 1, o5), (L + 1 + 1 + 1 + 1, o4), (L + 1 + 1 + 1, o3), (L + 1 + 1, o2), (973, tabObj #[])]) :
   wpAny (model PySem.Challenge.rw_fc0035_01.row.prog w) (callerA.deeper (envOfC (Str.ofString "law") lawScope L fa cd)) (execs (lawBody.drop 2) (envOfC (Str.ofString "law") lawScope L fa cd)) Q Ex s := by
  have hE9 := hE
  conv at hE in (occs := *) lawScope => all_goals whnf
  conv in (occs := *) lawScope => all_goals whnf
  conv in List.drop 2 lawBody => whnf
  repeat' ((fail_if_success (with_reducible show wpAny _ _ (exec (PySem.Stmt.For _ _ _ _ _) _) _ _ _)); first | (k_unfold; (try dsimp only)) | ((first | fail_if_success k_end | with_reducible show LeaveK _ _ _ _ _ _ _); (first | walk1 | (dsimp only; walk1) | (leave1; try dsimp only) | fail "no step")))
  with_unfolding_all refine' For_invV base ?k1 ?k2 ?_ ?k3 hE
  case k1 => exact rfl
  case k2 => exact rfl
  case k3 => (intro _; with_unfolding_all rfl)
  repeat' ((fail_if_success (with_reducible show wpAny _ _ (pyIter _) _ _ _)); first | (k_unfold; (try dsimp only)) | ((first | fail_if_success k_end | with_reducible show LeaveK _ _ _ _ _ _ _); (first | walk1 | (dsimp only; walk1) | (leave1; try dsimp only) | fail "no step")))
  rename IsRange _ _ _ _ _ _ _ _ => hR9
  rename News _ _ _ _ => N9
  rename Fr _ _ _ _ => F9
  rename IntsAre _ row.reverse => hbv9
  rename _ = Data.cell (some (Value.int _ _)) => d3'

  refine' law_loop w B F9 X T codeHd l0 hrv hbv9 hz d2 ?d3 d4 d5 ?m1 ?m2 n1 n2 n3 n4 n5 ?l1 ?l2 ?l3 hR9 N9 (Q0 := Q) hE9 (fun s' h => h) (fun h' tk' m' tb F2 N2 => hQ h' tk' m' tb F2 N2)
  case d3 => exact d3'
  case m1 => with_unfolding_all exact rfl
  case m2 => with_unfolding_all exact rfl
  case l1 => exact ltN (by omega)
  case l2 => exact ltN (by omega)
  case l3 => exact ltN (by omega)
end
end
theorem law_body (w : World) {p9 : Program} {loose : List Str} {mean : ExcName → Option Value} {mg mb : Str → Option Value} {base : Heap} {L : Nat} {fa : Addr} {cd : Value} {m : Str → Option Value} {s : Shared} {Q : Flow → Shared → Prop} {Ex : Value → Shared → Prop} {sl sc n0 m0 : Nat} {t0 : Tok} {o1 o2 o3 o4 o5 : Obj} {sv : List Value} {ss : List Int}
   (B : Below callerA base [] base) (F : Fr base L s.heap m) (X : (tjCSoBpQsPZBkyzz.heap_39 w.params).In base) (T : Top p9 loose mean mg mb base) (codeHd : CodeHd base 977 973) (hE : PassesOwn (model PySem.Challenge.rw_fc0035_01.row.prog w) (callerA.deeper (envOfC (Str.ofString "law") lawScope L fa cd)) (envOfC (Str.ofString "law") lawScope L fa cd) Ex) (hss : IntsAre sv ss) (hsz : ss.length ≤ 60) (d1 : o1.data = .cell (some (.ref sl))) (d2 : o2.data = .cell none) (d3 : o3.data = .cell none) (d4 : o4.data = .cell none) (d5 : o5.data = .cell none) (l0 : 973 < L) (l1 : L + 1 + 1 + 1 + 1 + 1 < sc) (l2 : sc < sl)
   (N : News base L s.heap [(sl, listOf #[.ref sc, .int 0 t0] n0), (sc, listOf sv.toArray m0), (L + 1 + 1 + 1 + 1 + 1, o5), (L + 1 + 1 + 1 + 1, o4), (L + 1 + 1 + 1, o3), (L + 1 + 1, o2), (L + 1, o1), (973, tabObj #[])])
   (hQ : ∀ h' tk' m' tb, Fr base L h' m' → News base L h' [(973, tabObj tb)] → Q (.ret (.bool true)) { s with heap := h', toks := tk' }) :
   wpAny (model PySem.Challenge.rw_fc0035_01.row.prog w) (callerA.deeper (envOfC (Str.ofString "law") lawScope L fa cd)) (execs (lawBody.drop 1) (envOfC (Str.ofString "law") lawScope L fa cd)) Q Ex s := by
  refine law_rows w B F X T hss hsz d1 d2 l0 l1 l2 N fun rl rv row rn o2' h' tk' ⟨z5, z4, z3, z2, z9⟩ hrv hz d2' F2 N2 => ?_
  exact law_setup w (s := { s with heap := h', toks := tk' }) B F2 X T hrv hz d2' d3 d4 d5 l0 z5 z4 z3 z2 z9 codeHd hE (fun h2 tk2 m2 tb F3 N3 => hQ h2 tk2 m2 tb F3 N3) N2
section
local macro_rules | `(tactic| k_room) => `(tactic| ((try simp only [depth_under_make, depth_under_kw, depth_in1, depth_deeper, depth_caller]); (try dsimp only [arO]); omega))
local macro_rules | `(tactic| k_units) => `(tactic| ktr_units)
local macro_rules | `(tactic| walk_at "getAttr ref") => `(tactic| (k_here; k_dflt (refine' get_sm ?k1 ?k2 ?k3 ?k4 (findObj_nondata ?c1 ?c2 ?c3 ?c4 ?c5 ?c6) ?k5 ?k6 ?_; (case k1 => k_asm); (case k2 => k_asm); (case k3 => (refine' InstAt.of_news ?N9 ?h91 ?h92; (case N9 => k_asm); (case h91 => k_memK); (case h92 => k_memK))); (case k4 => k_is); (case c1 => k_is); (case c2 => k_is); (case c3 => k_is); (case c4 => k_is); (case c5 => k_get); (case c6 => decide +kernel); (case k5 => k_is); (case k6 => k_handed); k_whole)))
local macro_rules | `(tactic| walk_at "compareOp In int ref") => `(tactic| (k_here; k_dflt (first
  | refine kda_in (knd := PySem.intKind _ _) (by k_asm) (by k_mem) (by k_asm) (by k_asm) (intKind_is _ _ _ _) true (by assumption) ?_
  | refine kda_in (knd := PySem.intKind _ _) (by k_asm) (by k_mem) (by k_asm) (by k_asm) (intKind_is _ _ _ _) false (by assumption) ?_)))
local macro_rules | `(tactic| walk_at "compareOp NotIn int ref") => `(tactic| (k_here; k_dflt (first
  | refine kdg_notin (knd := PySem.intKind _ _) (by k_asm) (by k_mem) (by k_asm) (by k_asm) (intKind_is _ _ _ _) true (by assumption) ?_
  | refine kdg_notin (knd := PySem.intKind _ _) (by k_asm) (by k_mem) (by k_asm) (by k_asm) (intKind_is _ _ _ _) false (by assumption) ?_); (try dsimp only [Bool.not_true, Bool.not_false])))
local macro_rules | `(tactic| walk_at "subscriptTail") => `(tactic| (k_here; (with_reducible show wpAny _ _ (subscriptTail _ _ (Value.ref _) (Value.int _ _)) _ _ _); k_dflt (refine kdt_tail (knd := PySem.intKind _ _) (by k_asm) (by k_mem) (by assumption) ?_)))
local macro_rules | `(tactic| walk_at "getItem ref int") => `(tactic| (k_here; k_dflt (refine kdt_getItem (knd := PySem.intKind _ _) (by k_asm) (by k_mem) (by assumption) (intKind_is _ _ _ _) (by assumption) ?_)))
local macro_rules | `(tactic| walk_at "setItem ref int") => `(tactic| (k_here; k_dflt (refine' kda_set (knd := PySem.intKind _ _) ?F ?N ?U ?d (intKind_is _ _ _ _) ?z ?_; (case F => k_asm); (case N => k_asm); (case U => k_updF); (case d => assumption); (case z => (first | exact line100 (by assumption) | exact line100w (by assumption) | exact line100s (by assumption)))); intro h' o' F' N' hd'; (try dsimp only at N')))
local macro_rules | `(tactic| walk_at "delItem ref int") => `(tactic| (k_here; k_dflt (refine' dk_del (knd := PySem.intKind _ _) ?F ?N ?U ?d (intKind_is _ _ _ _) ?v ?z ?_; (case F => k_asm); (case N => k_asm); (case U => k_updF); (case d => assumption); (case v => assumption); (case z => (first | exact line100 (by assumption) | exact line100w (by assumption) | exact line100s (by assumption)))); intro h' o' F' N' hd'; (try dsimp only at N')))
local macro_rules | `(tactic| walk_at "call builtin:dict.pop") => `(tactic| (k_here; (with_reducible show wpAny _ _ (call (Value.builtin "dict.pop") [Value.ref _, Value.int _ _]) _ _ _); k_dflt (refine' dk_pop (knd := PySem.intKind _ _) ?F ?N ?U ?d (intKind_is _ _ _ _) rfl ?v ?z ?_; (case F => k_asm); (case N => k_asm); (case U => k_updF); (case d => assumption); (case v => assumption); (case z => (first | exact line100 (by assumption) | exact line100w (by assumption) | exact line100s (by assumption)))); intro h' o' F' N' hd'; (try dsimp only at N')))
local macro_rules | `(tactic| walk_at "subscriptTail Attribute") => `(tactic| (k_here; (with_reducible show wpAny _ _ (subscriptTail _ _ (Value.ref _) (Value.int _ _)) _ _ _); k_dflt (refine kdt_tail (knd := PySem.intKind _ _) (by k_asm) (by k_mem) (by assumption) ?_)))
local macro_rules | `(tactic| k_enter) => `(tactic| (refine' code_def ?k1 ?k2 ?k3 ?k4 ?k5 ?kA ?kF ?kK ?k6 ?k7 ?k8 ?k9 ?kB ?_ ?c2 ?c3 ?c4 ?c5; (case kA => exact rfl); (case kF => exact rfl); (case kK => first | exact rfl | assumption); (case k1 => k_asm); (case k2 => k_asm); (case k3 => k_asm); (case k4 => k_asm); (case k5 => k_asm); (case k6 => k_is); (case k7 => k_is); (case k8 => k_room); (case k9 => exact BindsTo.of_eq rfl); (case c5 => decide); (case kB => exact locs rfl); (case c2 => exact rfl); (case c3 => exact rfl); (case c4 => exact rfl); k_whole; intro g' L' h' FG' F' N' B' X' T'; (try dsimp only); (try k_lift B'); (try k_fold)))
local macro_rules | `(tactic| walk_at "call ref") => `(tactic| (k_here; k_dflt (refine wpAny_call ?_; k_enter)))
local macro_rules | `(tactic| walk_at "call ref") => `(tactic| (k_here; (with_reducible show wpAny _ _ (call (Value.ref 857) _) _ _ _); k_dflt (refine wpAny_call ?_; (refine' code_def ?k1 ?k2 ?k3 ?k4 ?k5 ?kA ?kF ?kK ?k6 ?k7 ?k8 ?k9 ?kB ?_ ?c2 ?c3 ?c4 ?c5; (case kA => exact rfl); (case kF => exact rfl); (case kK => first | exact rfl | assumption); (case k1 => k_asm); (case k2 => k_asm); (case k3 => k_asm); (case k4 => k_asm); (case k5 => k_asm); (case k6 => k_is); (case k7 => k_is); (case k8 => k_room); (case k9 => exact bind857 _ (by k_in) _ _ (by k_is)); (case c5 => decide); (case kB => exact locs rfl); (case c2 => exact rfl); (case c3 => exact rfl); (case c4 => exact rfl); k_whole; intro g' L' h' FG' F' N' B' X' T'; (try dsimp only); (try k_lift B'); (try k_fold)))))
local macro_rules | `(tactic| walk_at "call ref") => `(tactic| (k_here; (with_reducible show wpAny _ _ (call (Value.ref 865) _) _ _ _); k_dflt (refine wpAny_call ?_; (refine' code_def ?k1 ?k2 ?k3 ?k4 ?k5 ?kA ?kF ?kK ?k6 ?k7 ?k8 ?k9 ?kB ?_ ?c2 ?c3 ?c4 ?c5; (case kA => exact rfl); (case kF => exact rfl); (case kK => first | exact rfl | assumption); (case k1 => k_asm); (case k2 => k_asm); (case k3 => k_asm); (case k4 => k_asm); (case k5 => k_asm); (case k6 => k_is); (case k7 => k_is); (case k8 => k_room); (case k9 => exact bind865 _ (by k_in) _ _ _ (by k_is)); (case c5 => decide); (case kB => exact locs rfl); (case c2 => exact rfl); (case c3 => exact rfl); (case c4 => exact rfl); k_whole; intro g' L' h' FG' F' N' B' X' T'; (try dsimp only); (try k_lift B'); (try k_fold)))))
local macro_rules | `(tactic| walk_at "call ref") => `(tactic| (k_here; (with_reducible show wpAny _ _ (call (Value.ref 873) _) _ _ _); k_dflt (refine wpAny_call ?_; (refine' code_def ?k1 ?k2 ?k3 ?k4 ?k5 ?kA ?kF ?kK ?k6 ?k7 ?k8 ?k9 ?kB ?_ ?c2 ?c3 ?c4 ?c5; (case kA => exact rfl); (case kF => exact rfl); (case kK => first | exact rfl | assumption); (case k1 => k_asm); (case k2 => k_asm); (case k3 => k_asm); (case k4 => k_asm); (case k5 => k_asm); (case k6 => k_is); (case k7 => k_is); (case k8 => k_room); (case k9 => exact bind873 _ (by k_in) _ _ (by k_is)); (case c5 => decide); (case kB => exact locs rfl); (case c2 => exact rfl); (case c3 => exact rfl); (case c4 => exact rfl); k_whole; intro g' L' h' FG' F' N' B' X' T'; (try dsimp only); (try k_lift B'); (try k_fold)))))
local macro_rules | `(tactic| walk_at "call ref") => `(tactic| (k_here; (with_reducible show wpAny _ _ (call (Value.ref 930) _) _ _ _); k_dflt (refine wpAny_call ?_; (refine' code_def ?k1 ?k2 ?k3 ?k4 ?k5 ?kA ?kF ?kK ?k6 ?k7 ?k8 ?k9 ?kB ?_ ?c2 ?c3 ?c4 ?c5; (case kA => exact rfl); (case kF => exact rfl); (case kK => first | exact rfl | assumption); (case k1 => k_asm); (case k2 => k_asm); (case k3 => k_asm); (case k4 => k_asm); (case k5 => k_asm); (case k6 => k_is); (case k7 => k_is); (case k8 => k_room); (case k9 => exact bind930 _ (by k_in) _ _ _ (by k_is)); (case c5 => decide); (case kB => exact locs rfl); (case c2 => exact rfl); (case c3 => exact rfl); (case c4 => exact rfl); k_whole; intro g' L' h' FG' F' N' B' X' T'; (try dsimp only); (try k_lift B'); (try k_fold)))))
local macro_rules | `(tactic| walk_at "call ref") => `(tactic| (k_here; (with_reducible show wpAny _ _ (call (Value.ref 938) _) _ _ _); k_dflt (refine wpAny_call ?_; (refine' code_def ?k1 ?k2 ?k3 ?k4 ?k5 ?kA ?kF ?kK ?k6 ?k7 ?k8 ?k9 ?kB ?_ ?c2 ?c3 ?c4 ?c5; (case kA => exact rfl); (case kF => exact rfl); (case kK => first | exact rfl | assumption); (case k1 => k_asm); (case k2 => k_asm); (case k3 => k_asm); (case k4 => k_asm); (case k5 => k_asm); (case k6 => k_is); (case k7 => k_is); (case k8 => k_room); (case k9 => exact bind938 _ (by k_in) _ _ (by k_is)); (case c5 => decide); (case kB => exact locs rfl); (case c2 => exact rfl); (case c3 => exact rfl); (case c4 => exact rfl); k_whole; intro g' L' h' FG' F' N' B' X' T'; (try dsimp only); (try k_lift B'); (try k_fold)))))
local macro_rules | `(tactic| walk_at "call ref") => `(tactic| (k_here; (with_reducible show wpAny _ _ (call (Value.ref 714) _) _ _ _); k_dflt (refine wpAny_call ?_; (refine' code_def ?k1 ?k2 ?k3 ?k4 ?k5 ?kA ?kF ?kK ?k6 ?k7 ?k8 ?k9 ?kB ?_ ?c2 ?c3 ?c4 ?c5; (case kA => exact rfl); (case kF => exact rfl); (case kK => first | exact rfl | assumption); (case k1 => k_asm); (case k2 => k_asm); (case k3 => k_asm); (case k4 => k_asm); (case k5 => k_asm); (case k6 => k_is); (case k7 => k_is); (case k8 => k_room); (case k9 => exact bind714 _ (by k_in) _ _ _ (by k_is)); (case c5 => decide); (case kB => exact locs rfl); (case c2 => exact rfl); (case c3 => exact rfl); (case c4 => exact rfl); k_whole; intro g' L' h' FG' F' N' B' X' T'; (try dsimp only); (try k_lift B'); (try k_fold)))))
local macro_rules | `(tactic| walk_at "call ref") => `(tactic| (k_here; (with_reducible show wpAny _ _ (call (Value.ref 897) _) _ _ _); k_dflt (refine' call_cls ?k1 ?k2 ?k3 ?k4 ?k5 ?k6 ?_; (case k1 => k_asm); (case k2 => k_asm); (case k3 => k_asm); (case k4 => k_is); (case k5 => k_is); (case k6 => k_is); k_whole; intro x' d' h' F' N' l1 l2; (try k_lt l1); (try k_lt2 l2); (try k_sweep); (refine' code_def ?k1 ?k2 ?k3 ?k4 ?k5 ?kA ?kF ?kK ?k6 ?k7 ?k8 ?k9 ?kB ?_ ?c2 ?c3 ?c4 ?c5; (case kA => exact rfl); (case kF => exact rfl); (case kK => first | exact rfl | assumption); (case k1 => k_asm); (case k2 => k_asm); (case k3 => k_asm); (case k4 => k_asm); (case k5 => k_asm); (case k6 => k_is); (case k7 => k_is); (case k8 => k_room); (case k9 => exact bind849 _ (by k_in) _ _ (by k_is)); (case c5 => decide); (case kB => exact locs rfl); (case c2 => exact rfl); (case c3 => exact rfl); (case c4 => exact rfl); k_whole; intro g' L' h' FG' F' N' B' X' T'; (try dsimp only); (try k_lift B'); (try k_fold)))))
local macro_rules | `(tactic| walk_at "call ref") => `(tactic| (k_here; (with_reducible show wpAny _ _ (call (Value.ref 955) _) _ _ _); k_dflt (refine' call_cls ?k1 ?k2 ?k3 ?k4 ?k5 ?k6 ?_; (case k1 => k_asm); (case k2 => k_asm); (case k3 => k_asm); (case k4 => k_is); (case k5 => k_is); (case k6 => k_is); k_whole; intro x' d' h' F' N' l1 l2; (try k_lt l1); (try k_lt2 l2); (try k_sweep); (refine' code_def ?k1 ?k2 ?k3 ?k4 ?k5 ?kA ?kF ?kK ?k6 ?k7 ?k8 ?k9 ?kB ?_ ?c2 ?c3 ?c4 ?c5; (case kA => exact rfl); (case kF => exact rfl); (case kK => first | exact rfl | assumption); (case k1 => k_asm); (case k2 => k_asm); (case k3 => k_asm); (case k4 => k_asm); (case k5 => k_asm); (case k6 => k_is); (case k7 => k_is); (case k8 => k_room); (case k9 => exact bind914 _ (by k_in) _ _ _ (by k_is)); (case c5 => decide); (case kB => exact locs rfl); (case c2 => exact rfl); (case c3 => exact rfl); (case c4 => exact rfl); k_whole; intro g' L' h' FG' F' N' B' X' T'; (try dsimp only); (try k_lift B'); (try k_fold)))))
local macro_rules | `(tactic| cell_enter) => `(tactic| (refine' call_F ?k1 ?k2 ?k3 ?k4 ?kD ?k6 ?k7 ?k8 ?k9 ?kB ?_ ?c2 ?c3 ?c4 ?c5; (case k1 => with_reducible assumption); (case k2 => with_reducible assumption); (case k3 => with_reducible assumption); (case k4 => with_reducible assumption); (case kD => with_reducible assumption); (case k6 => k_is); (case k7 => k_is); (case k8 => omega); (case k9 => first | exact bind794 _ (Frag.In.keeps (by with_reducible assumption) (fun _ _ e => of_hideAll _ e)) _ _ _ (by k_is) | exact BindsTo.of_eq rfl); (case c5 => decide); (case kB => exact locs rfl); (case c2 => exact rfl); (case c3 => exact rfl); (case c4 => exact rfl); k_whole; intro g' L' h' F' N' B' X' T' D' TT'; (try dsimp only); (try k_fold)))
local macro_rules | `(tactic| walk_at "WhlIf") => `(tactic| first | (refine WhlIf.no (decide_eq_false (by omega)) ?_) | (refine WhlIf.yes (decide_eq_true (by omega)) ?_))
local macro_rules | `(tactic| walk_at "call builtin:dict.pop") => `(tactic| (k_here; (with_reducible show wpAny _ _ (call (Value.builtin "dict.pop") [Value.ref _, Value.int _ _]) _ _ _); k_dflt (refine' dk_pop_missing (knd := PySem.intKind _ _) rfl ?N ?M ?d ?lo (intKind_is _ _ _ _) rfl ?v ?_; (case N => k_asm); (case M => k_mem); (case d => assumption); (case lo => assumption); (case v => assumption)); intro h' e' x'))
local macro_rules | `(tactic| walk_at "getAttr ref") => `(tactic| (k_here; k_dflt (refine' get_cls ?k1 ?k2 ?k3 ?k4 ?k5 ?k6 ?k7 ?k8 ?k9 ?k10 ?_; (case k1 => k_asm); (case k2 => k_asm); (case k3 => (refine' InstAt.of_news ?N9 ?h91 ?h92; (case N9 => k_asm); (case h91 => k_memK); (case h92 => k_memK))); (case k4 => k_is); (case k5 => k_is); (case k6 => k_is); (case k7 => k_is); (case k8 => k_handed); (case k9 => decide +kernel); (case k10 => k_get); k_whole)))
local macro_rules | `(tactic| walk_at "getAttr ref") => `(tactic| (k_here; k_dflt (refine' get_own ?k1 ?k2 ?k3 ?k4 ?k5 ?k6 ?k7 ?k8 ?k9 ?_; (case k1 => k_asm); (case k2 => k_asm); (case k3 => (refine' InstAt.of_news ?N9 ?h91 ?h92; (case N9 => k_asm); (case h91 => k_memK); (case h92 => k_memK))); (case k4 => k_is); (case k5 => k_is); (case k6 => k_is); (case k7 => k_is); (case k8 => k_get); (case k9 => k_handed); k_whole)))
local macro_rules | `(tactic| walk_at "getAttr ref") => `(tactic| (k_here; (with_reducible show wpAny _ _ (getAttr (Value.ref 830) _ _) _ _ _); k_dflt (refine' cls_val ?k1 ?k2 ?k3 ?k4 ?k5 ?k6 ?_; (case k1 => k_asm); (case k2 => k_asm); (case k3 => k_is); (case k4 => k_is); (case k5 => k_is); (case k6 => k_handed); k_whole)))
local macro_rules | `(tactic| walk_at "delItem ref int") => `(tactic| (k_here; (with_reducible show wpAny _ _ (delItem (Value.ref _) _) _ _ _); k_dflt (refine' inst_delItem ?F ?X ?I ?hQ ?hS ?hF ?_; (case I => (refine' InstAt.of_news ?N9 ?h91 ?h92; (case N9 => k_asm); (case h91 => k_memK); (case h92 => k_memK))); (case F => k_asm); (case X => k_asm); (case hS => k_is); (case hF => k_is); (case hQ => k_is); k_whole)))
local macro_rules | `(tactic| walk_at "setItem ref") => `(tactic| (k_here; (with_reducible show wpAny _ _ (setItem (Value.ref _) _ _) _ _ _); k_dflt (refine' ksp_setItem ?F ?X ?I ?hQ ?hS ?hF ?_; (case F => k_asm); (case X => k_asm); (case I => (refine' InstAt.of_news ?N9 ?h91 ?h92; (case N9 => k_asm); (case h91 => k_memK); (case h92 => k_memK))); (case hS => k_is); (case hF => k_is); (case hQ => k_is); k_whole)))
local macro_rules | `(tactic| walk_at "getMethod ref") => `(tactic| (k_here; k_dflt (refine' method_inst ?k1 ?k2 ?k3 ?k4 ?k5 ?k6 ?k7 ?_; (case k3 => (refine' InstAt.of_news ?N9 ?h91 ?h92; (case N9 => k_asm); (case h91 => k_memK); (case h92 => k_memK))); (case k1 => k_asm); (case k2 => k_asm); (case k4 => k_is); (case k5 => k_is); (case k6 => k_is); (case k7 => k_get); k_whole)))
local macro_rules | `(tactic| walk_at "compareOp In") => `(tactic| (k_here; (with_reducible show wpAny _ _ (compareOp CmpOp.In _ (Value.ref _)) _ _ _); k_dflt (refine' in_K ?k1 ?k2 ?k3 ?k4 ?k5 ?_; (case k3 => (refine' InstAt.of_news ?N9 ?h91 ?h92; (case N9 => k_asm); (case h91 => k_memK); (case h92 => k_memK))); (case k1 => k_asm); (case k2 => k_asm); (case k4 => k_is); (case k5 => k_is); k_whole)))
local macro_rules | `(tactic| walk_at "last exec While") => `(tactic| (k_here; k_dflt (refine whl_start 2 ?_)))
local macro_rules | `(tactic| walk_at "exec While") => `(tactic| (k_here; k_dflt (refine whl_start 2 ?_)))
local macro_rules | `(tactic| k_in) => `(tactic| first | with_reducible assumption | exact Frag.In.keeps (by with_reducible assumption) (Fr.keep (by with_reducible assumption)))
local macro_rules | `(tactic| walk_at "callWith ref") => `(tactic| (k_here; (with_reducible show wpAny _ _ (callWith _ (Value.ref _) _ (backTo _ (starEach (_ :: _) _)) []) _ _ _); k_dflt (refine' callWith_K ?k1 ?k2 ?_; (case k1 => with_reducible assumption); (case k2 => k_is); k_whole)))
local macro_rules | `(tactic| walk_at "callWith ref") => `(tactic| (k_here; (with_reducible show wpAny _ _ (callWith _ (Value.ref _) _ (backTo _ (starEach [] _)) []) _ _ _); k_dflt (refine' callWith_K0 ?k1 ?k2 ?_; (case k1 => k_in); (case k2 => k_is); k_whole)))
local macro_rules | `(tactic| walk_at "getMethod ref") => `(tactic| (k_here; (with_reducible show wpAny _ _ (getMethod (Value.ref 830) _ _) _ _ _); k_dflt (refine' method_of_cls ?k1 ?k2 ?k3 ?_; (case k1 => k_asm); (case k2 => k_asm); (case k3 => k_is); k_whole)))
local macro_rules | `(tactic| walk_at "setItem ref int") => `(tactic| (k_here; (with_reducible show wpAny _ _ (setItem (Value.ref _) _ _) _ _ _); k_dflt (refine' ksp_setItem ?F ?X ?I ?hQ ?hS ?hF ?_; (case F => k_asm); (case X => k_asm); (case I => (refine' InstAt.of_news ?N9 ?h91 ?h92; (case N9 => k_asm); (case h91 => k_memK); (case h92 => k_memK))); (case hS => k_is); (case hF => k_is); (case hQ => k_is); k_whole)))
local macro_rules | `(tactic| cell_call) => `(tactic| (refine' call_P ?k1 ?k2 ?k3 ?k4 ?k6 ?k7 ?k8 ?k9 ?kB ?_ ?c2 ?c3 ?c4 ?c5; (case k1 => with_reducible assumption); (case k2 => with_reducible assumption); (case k3 => with_reducible assumption); (case k4 => with_reducible assumption); (case k6 => k_is); (case k7 => k_is); (case k8 => omega); (case k9 => first | exact bind794 _ (Frag.In.keeps (by with_reducible assumption) (fun _ _ e => of_hideAll _ e)) _ _ _ (by k_is) | exact BindsTo.of_eq rfl); (case c5 => decide); (case kB => exact locs rfl); (case c2 => exact rfl); (case c3 => exact rfl); (case c4 => exact rfl); k_whole; intro g' L' h' F' N' B' X' T' TT'; (try dsimp only); (try k_fold)))
local macro_rules | `(tactic| walk_at "subscriptTail") => `(tactic| (k_here; (with_reducible show wpAny _ _ (subscriptTail _ _ (Value.ref _) (Value.int _ _)) _ _ _); k_dflt (refine' item_list_ints_negR ?l9 ?i9 ?a9 ?b9 ?c9 ?_; (case l9 => exact News.isList (by k_asm) (by k_memK)); (case i9 => with_reducible assumption); (case a9 => omega); (case b9 => omega); (case c9 => omega)); intro _))
local macro_rules | `(tactic| walk_at "call builtin:list.pop") => `(tactic| (k_here; (with_reducible show wpAny _ _ (call (Value.builtin _) [Value.ref _]) _ _ _); k_dflt (refine' kpa_pop ?F ?N ?U ?i ?l ?z ?_; (case F => k_asm); (case N => k_asm); (case U => k_upd); (case i => with_reducible assumption); (case l => ((try simp only [List.length_set]); omega)); (case z => (rw [PySem.sizeLine_eq]; (try simp only [List.length_set]); omega))); (intro h' t' F' N' hI'; (try dsimp only [List.nil_append, List.cons_append] at N'))))
local macro_rules | `(tactic| walk_at "call builtin:len") => `(tactic| (k_here; (with_reducible show wpAny _ _ (call (Value.builtin _) [Value.ref _]) _ _ _); k_dflt (refine' len_intsN ?N ?m ?i ?z ?_; (case N => k_asm); (case m => k_memK); (case i => with_reducible assumption); (case z => ((try simp only [List.length_dropLast, List.length_set, List.length_append, List.length_cons, List.length_nil]); omega)))))
local macro_rules | `(tactic| walk_at "call builtin:list.append") => `(tactic| (k_here; (with_reducible show wpAny _ _ (call (Value.builtin _) [Value.ref _, Value.int _ _]) _ _ _); k_dflt (refine' append_ints ?k1 ?k2 ?k3 ?i ?z ?_; (case k1 => k_asm); (case k2 => k_asm); (case k3 => k_upd); (case i => with_reducible assumption); (case z => ((try simp only [List.length_dropLast, List.length_set, List.length_append, List.length_cons, List.length_nil]); omega)); k_whole); intro h' F' N' hI'; (try k_sweep)))
local macro_rules | `(tactic| walk_at "getMethod ref") => `(tactic| (k_here; (with_reducible show wpAny _ _ (getMethod (Value.ref _) (Str.ofString "_RRCache__choice") _) _ _ _); k_dflt (refine' kmu_own ?k1 ?k2 ?k3 ?k4 ?k5 ?_; (case k1 => k_asm); (case k2 => k_asm); (case k3 => (refine' InstAt.of_news ?N9 ?h91 ?h92; (case N9 => k_asm); (case h91 => k_memK); (case h92 => k_memK))); (case k4 => k_is); (case k5 => k_is); k_whole)))
local macro_rules | `(tactic| walk_at "callWith ref") => `(tactic| (k_here; k_dflt (refine' callWith_F ?k1 ?_; (case k1 => exact FnAt.of (by k_asm) (by k_memK)); k_whole)))
local macro_rules | `(tactic| walk_at "And") => `(tactic| ((with_reducible show FnAt _ _ ∧ _); k_dflt (refine ⟨FnAt.of (by k_asm) (by k_memK), ?_⟩); (try dsimp only [List.nil_append, List.cons_append])))
local macro_rules | `(tactic| k_all) => `(tactic| first | with_reducible assumption | exact List.forall_mem_nil _ | (refine List.forall_mem_cons.mpr ⟨by k_ne, ?_⟩; k_all))
local macro_rules | `(tactic| walk_at "compareOp NotIn int ref") => `(tactic| (k_here; k_dflt (refine kdg_notin (knd := PySem.intKind _ _) (by k_asm) (by k_memK) (by k_asm) (by k_asm) (intKind_is _ _ _ _) false (by first | assumption | exact stored_none (by assumption) (by assumption)) ?_); (try dsimp only [Bool.not_true, Bool.not_false])))
local macro_rules | `(tactic| walk_at "eval Name") => `(tactic| (k_here; (with_reducible show wpAny _ _ (eval (Expr.Name (Str.ofString "room") _) _) _ _ _); k_dflt (refine' nameX_L ?F ?v ?_ ?a ?b; (case F => k_asm); (case a => rfl); (case b => rfl); (case v => first | rfl | assumption); k_whole)))
set_option maxHeartbeats 16000000 in
theorem law_all : PySem.Challenge.rw_fc0035_01.Holds := tjCSoBpQsPZBkyzz (by
  k_go0
  repeat' ((fail_if_success (with_reducible show wpAny _ _ (execs (PySem.Stmt.Assign [PySem.Expr.Name (Str.ofString "row") _] _ _ :: _) _) _ _ _)); first | (k_unfold; (try dsimp only)) | ((first | fail_if_success k_end | with_reducible show LeaveK _ _ _ _ _ _ _); (first | walk1 | (dsimp only; walk1) | (leave1; try dsimp only) | fail "no step")))
  rename News _ _ _ _ => N9
  rename Fr _ _ _ _ => F9
  rename IntsAre _ (List.take 60 _) => hss9
  refine' law_body _ (by with_reducible assumption) F9 (by with_reducible assumption) (by with_reducible assumption) (by with_reducible assumption) ?hE hss9 ?hsz ?d1 ?d2 ?d3 ?d4 ?d5 ?l0 ?l1 ?l2 N9 ?hQ
  case hE => with_unfolding_all passes_own
  case hsz => (rw [List.length_take]; omega)
  case d1 => with_reducible assumption
  case d2 => assumption
  case d3 => assumption
  case d4 => assumption
  case d5 => assumption
  case l0 => with_reducible assumption
  case l1 => (refine ltN ?_; omega)
  case l2 => (refine ltN ?_; omega)
  case hQ =>
    intro h5 tk5 m5 tb5 F5 N5
    repeat' (first | (k_unfold; (try dsimp only)) | (k_end; wrow_close) | walk1 | (dsimp only; walk1) | (leave1; try dsimp only) | fail "no step"))
end
end Mine
set_option maxHeartbeats 8000000 in
theorem PySem.Challenge.cw_fc0035_01_holds : PySem.Challenge.rw_fc0035_01.Holds :=
  Mine.law_all
