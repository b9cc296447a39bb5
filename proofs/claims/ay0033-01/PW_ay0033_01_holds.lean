import PyProof.Rows.All
import Wide.All
import OpenK.AllK
import Wide.FinOn
import Lean
import PySem.Challenge.RW_ay0033_01
open PySem PySem.W PySem.Calls PyProof.Rows
set_option Elab.async false
set_option compiler.extract_closed false
set_option genSizeOf false
set_option genInjectivity false
set_option maxRecDepth 100000
set_option maxHeartbeats 4000000
namespace Mine
noncomputable def q : Program := { PySem.Challenge.pw_ay0033_01 with main := { PySem.Challenge.pw_ay0033_01.main with body := [0, 2, 3, 5, 7, 8, 9, 11, 13, 14, 15, 16, 17].filterMap fun i => PySem.Challenge.pw_ay0033_01.main.body[i]? } }
noncomputable def loose : List Str := [Str.ofString "Rectangle", Str.ofString "PackingAlgorithm", Str.ofString "Guillotine", Str.ofString "WasteManager"]

theorem left_of {p q : Program} {loose : List Str} {Xt : Shared → Bool} {α : Type} {Yf : Shared → α} {Ya : World → α} {N : Nat} {g0 : Bool} {H₀ : Params → Heap} {gs₀ : Array GenState} {d₀ : Drawn} {k₀ : Nat}
    (open_ : ∀ w : World, (fencedOpening treeTable p w N).map (fun s => (s.heap, s.gens, s.drawn, s.toks)) = some (H₀ w.params, gs₀, d₀, k₀))
    (h : ∀ w : World, (fun os => (topFrom treeTable p w N ⟨H₀ w.params, gs₀, d₀, k₀, os⟩).map (fun s => (openSeen q loose (importedModules p.main.body) Xt g0 s, Yf s))) = fun _ => some (openGood q loose, Ya w)) : LeftO p q loose Xt Yf Ya N g0 := fun w => by
  obtain ⟨⟨h₀, gs, d, k, os⟩, e, e'⟩ := Option.map_eq_some_iff.mp (open_ w)
  obtain ⟨rfl, rfl, rfl, rfl⟩ : h₀ = H₀ w.params ∧ gs = gs₀ ∧ d = d₀ ∧ k = k₀ := by simpa using e'
  unfold openEnds
  rw [e]
  exact congrFun (h w) os
noncomputable def runQ (stp : SharedT → Thread → Option (SharedT × Thread)) (ok : Thread → Bool) : Nat → SharedT → Thread → Option SharedT
  | 0, _, _ => none
  | n + 1, s, t => match through t with
    | true => some s
    | false => match ok t with
      | false => none
      | true => match stp s t with
        | some (s', t') => runQ stp ok n s' t'
        | none => none
theorem runQ_of {tb : String → Option Builtin} {p : Program} {w : World} {n₀ : Nat} {ann : Option Value} : ∀ {n : Nat} {s s' : SharedT} {t : Thread}, runQ (stepT (denote tb) p w) (stepOk n₀ ann) n s t = some s' → topRun tb p w n₀ ann n s.abs t = some s'.abs
  | 0, _, _, _, h => by cases h
  | n + 1, s, s', t, h => by
    unfold runQ at h
    unfold topRun
    cases ht : through t with
    | true => rw [ht] at h; cases h; rfl
    | false =>
      rw [ht] at h
      cases hk : stepOk n₀ ann t with
      | false => rw [hk] at h; cases h
      | true =>
        rw [hk] at h
        cases hs : stepT (denote tb) p w s t with
        | none => rw [hs] at h; cases h
        | some r => obtain ⟨s₂, t₂⟩ := r; rw [hs] at h; rw [stepT_spec hs]; exact runQ_of h

noncomputable def bootT (P : Params) : BT := ((boot_heap P).objs.toList.foldl (fun (x : BT × Nat) o => (x.1.ins x.2 o, x.2 + 1)) (.nil, 0)).1
noncomputable def bootS (P : Params) (os : OsState) : SharedT := ⟨bootT P, (boot_heap P).objs.size, (boot_heap P).life, Array.mk [], boot_drawn, boot_toks, os⟩
theorem bootS_abs (P : Params) (os : OsState) : (bootS P os).abs = ⟨boot_heap P, Array.mk [], boot_drawn, boot_toks, os⟩ := by kernel_rfl!
theorem boot_size (P : Params) : ((boot_heap P).isNs mainGlobals && (Array.mk [] : Array GenState).size == 0) = true := by kernel_rfl!
theorem left_run {p q : Program} {loose : List Str} {Xt : Shared → Bool} {α : Type} {Yf : Shared → α} {Ya : World → α} {N : Nat}
    (open_ : ∀ w : World, (fencedOpening treeTable p w N).map (fun s => (s.heap, s.gens, s.drawn, s.toks)) = some (boot_heap w.params, Array.mk [], boot_drawn, boot_toks))
    (h : ∀ w : World, (fun os => (runQ (PySem.W.Fast.tw10156331382660048174 (PySem.W.Fast.tw11892475500146522536 PySem.W.Fast.tw14364793385576792824) p w) (PySem.W.Fast.tw6613529449190102663 (boot_heap w.params).objs.size ((boot_heap w.params).nsMap mainGlobals "__annotations__")) N (bootS w.params os) (topStub p)).map (fun s =>
      (staticsOk (PySem.W.Fast.tw5923862056798008813 p.main.body) (boot_heap w.params) s.abs.heap && namesBound p s.abs.heap && gensDone s.abs && laidKept (boot_heap w.params) s.abs.heap, PySem.W.Fast.tw4187177175401517315 q loose (PySem.W.Fast.tw5923862056798008813 p.main.body) Xt true s.abs, Yf s.abs)))
       = fun _ => some (true, openGood q loose, Ya w)) : LeftO p q loose Xt Yf Ya N := by
  rw [← PySem.W.Fast.te10156331382660048174, ← PySem.W.Fast.te6613529449190102663, ← PySem.W.Fast.te11892475500146522536, ← PySem.W.Fast.te14364793385576792824, ← PySem.W.Fast.te4187177175401517315, ← PySem.W.Fast.te5923862056798008813] at h
  refine left_of open_ fun w => funext fun os => ?_
  have h' := congrFun (h w) os
  obtain ⟨s', e1, e2⟩ := Option.map_eq_some_iff.mp h'
  have e3 := runQ_of e1
  rw [bootS_abs] at e3
  obtain ⟨l1, l2⟩ := Prod.mk.inj e2
  obtain ⟨l2, l3⟩ := Prod.mk.inj l2
  unfold topFrom
  dsimp only
  rw [boot_size]
  show Option.map _ (Option.bind _ _) = _
  rw [e3]
  show Option.map _ (match staticsOk (importedModules p.main.body) (boot_heap w.params) s'.abs.heap && namesBound p s'.abs.heap && gensDone s'.abs && laidKept (boot_heap w.params) s'.abs.heap with | true => some s'.abs | false => none) = _
  rw [l1]
  exact congrArg some (Prod.ext l2 l3)
theorem boot : ∀ w : World, (fencedOpening treeTable PySem.Challenge.pw_ay0033_01 w 7964).map (fun s => (s.heap, s.gens, s.drawn, s.toks)) = some (boot_heap w.params, Array.mk [], boot_drawn, boot_toks) :=
  boot_open rfl rfl (fun _ => rfl)

theorem said : PySem.Challenge.rw_ay0033_01.wellSaid = true := by
  rw [PySem.W.Fast.te9446332074065402090]
  kernel_rfl
local macro_rules | `(tactic| o_law) => `(tactic| refine holds_law Mine.said fun said => ?_)
theorem head_at (H : Hook) {d : DefRec} {kwd : List (Str × Expr)} (k1 : PySem.Challenge.rw_ay0033_01.row.wellSaid = true) (hdef : defOf Mine.q PySem.Challenge.rw_ay0033_01.row.name = some (d, kwd)) (hp : PySem.Challenge.rw_ay0033_01.row.prog.theDef PySem.Challenge.rw_ay0033_01.row.name = some (d.params, d.body, d.scope)) (hk : kwWritten? d.params.kwonlyargs d.params.kw_defaults = some kwd)
    (hl : LeftO PySem.Challenge.pw_ay0033_01 Mine.q Mine.loose (fun s => xlAt Mine.q [] s && recOk [] s) H.obs H.val 7964) (hw : PySem.Challenge.rw_ay0033_01.row.toRowW.promised)
    (hc : WalkO Mine.q Mine.loose (XL Mine.q []) H.says PySem.Challenge.rw_ay0033_01.row.toRowW d kwd fun f vs => PySem.call f vs) : PySem.Challenge.rw_ay0033_01.row.Holds :=
  holds_open hl H.of H.keeps (fun s e => xl_of s (Bool.and_eq_true_iff.mp e).1) XL.keeps hdef hp hk (fun s e => recFacts_of (Bool.and_eq_true_iff.mp e).2) (by rfl) k1 (by decide +kernel) ⟨rfl, rfl, rfl, rfl, rfl, by decide +kernel⟩ hw hc
local macro_rules | `(tactic| o_head $H) => `(tactic| (refine Mine.head_at $H (by assumption) (by rfl) (by rfl) (by rfl) (Mine.left_run Mine.boot fun w => ?hl) ?hw ?hc; case hl => (unfold Mine.q; kernel_rfl)))
set_option maxHeartbeats 0
open_top hd for PySem.Challenge.rw_ay0033_01
end Mine
namespace Mine
noncomputable abbrev PR : Program := PySem.Challenge.rw_ay0033_01.row.prog

/-- what is kept: every object whose address is not listed -/
noncomputable def Keep (as : List Addr) (h h' : Heap) : Prop := ∀ b o, b ∉ as → h.get? b = some o → h'.get? b = some o

theorem stays_hideAll {G h : Heap} {as : List Addr} (hG : G.StaysIn h) (ho : ∀ a ∈ as, G.get? a = none) : G.StaysIn (hideAll h as) := fun b o e =>
  hideAll_get _ (hG b o e) fun m => by rw [ho b m] at e; cases e

section
variable {prog : Program} {w : World} {A : Around} {s : Shared} {h₀ G₀ : Heap} {L : Addr} {m : Str → Option Value} {news conc : List (Addr × Obj)} {K : Frag} {p : Program} {loose : List Str} {mean : ExcName → Option Value} {mg mb : Str → Option Value}
  {R : Result → Shared → Prop} {name qual : Str} {params : Arguments} {body : List Stmt} {scope : Scope} {dV kV doc pm cdv ct oc : Value} {an od : Option Addr} {osl : Array (Option Value)} {f : Addr} {args : Args} {binds : List (Str × Value)}

section
variable {cl : List (Str × Addr)}
/-- the frame of a def is made, nothing asked of the frames below -/
theorem free_env (F : Fr h₀ L s.heap m) (X₀ : K.In h₀) (N : News h₀ L s.heap news) (T : Top p loose mean mg mb h₀) (hloc : ∀ y ∈ binds, scope.names.lookup y.1 = some .local)
    (h : ∀ g L' h₁, Fr h₀ L g m → Fr g L' h₁ (fun y => binds.reverse.lookup y) → News g L' h₁ news → K.In g → Top p loose mean mg mb g →
      wpAny (model prog w) (A.deeper (envX qual scope L' f cdv cl)) (execs body (envX qual scope L' f cdv cl))
        (fun fl s' => LeaveK h₀ L m g R (match fl with | .ret v => v | _ => .none) s')
        (fun e s' => wpAny (model prog w) (A.deeper (envX qual scope L' f cdv cl)) (leaving (envX qual scope L' f cdv cl) e) (fun _ s'' => R (.error e) s'') (fun e' s'' => R (.error e') s'') s')
        { s with heap := h₁, toks := s.toks + binds.length })
    (hk : scope.kind = .function) (hcell : ∀ x ∈ scope.names, x.2 ≠ .cell) :
    wpAny (model prog w) A.in1 (newFunctionEnv (fnX name qual params body scope cl dV kV doc pm an cdv ct).scope (fnX name qual params body scope cl dV kV doc pm an cdv ct).globals (fnX name qual params body scope cl dV kV doc pm an cdv ct).closure binds
      ((fnX name qual params body scope cl dV kV doc pm an cdv ct).qualname ++ ".<locals>.") (some f) (fnX name qual params body scope cl dV kV doc pm an cdv ct).code none (fnX name qual params body scope cl dV kV doc pm an cdv ct).builtins)
      (fun env s₂ => s₂.heap.NoLimit ∧ codeAny (model prog w) A (.func body env) R s₂) (fun e s' => R (.error e) s') s := by
  have nm : ∀ b o, h₀.get? b = some o → b ∉ news.map (·.1) := fun b o e q => by
    obtain ⟨p, hp, rfl⟩ := List.mem_map.mp q
    rw [(N p hp).2.2] at e; cases e
  have st : h₀.StaysIn (hideAll s.heap (news.map (·.1))) := fun b o e => hideAll_get _ (F.keep b o e) (nm b o e)
  obtain ⟨oL, es, ep, hL, hLd, hLk, hLf⟩ := F.ns
  have nL : L ∉ news.map (·.1) := fun q => by
    obtain ⟨p, hp, e⟩ := List.mem_map.mp q
    exact (N p hp).2.1 e
  have hLg := hideAll_get (news.map (·.1)) hL nL
  refine wpAny_newFunctionEnv hcell hloc (fun h₁ hns hsb => ⟨(T.nolimit.keeps F.keep).fresh _ hsb, codeAny_func ?_⟩) hk
  have hk₁ : ∀ b o, s.heap.get? b = some o → h₁.get? b = some o := fun b o e => hsb.extBut b o (Nat.ne_of_lt (Heap.lt_size e)) (Heap.get?_push_of_some _ e)
  refine wpAny_mono (h _ s.heap.objs.size h₁ ⟨⟨oL, es, ep, hLg, hLd, hLk, hLf⟩, st, F.above⟩ ⟨hns, fun b o e => hk₁ b o (of_hideAll _ e), Nat.le_of_eq (hideAll_size _ _)⟩
    (fun p hp => ⟨hk₁ _ _ (N p hp).1, Nat.ne_of_lt (Heap.lt_size (N p hp).1), hideAll_none _ (List.mem_map_of_mem hp)⟩) (X₀.keeps st) (T.keeps st)) (fun fl s' hl => ?_) fun _ _ y => y
  obtain ⟨L', m', news', F', N', k⟩ := hl
  refine k ⟨⟨oL, es, ep, F'.keep L oL hLg, hLd, hLk, hLf⟩, fun b o e => F'.keep b o (st b o e), F.above⟩ fun p hp => ⟨(N' p hp).1, fun q => ?_, ?_⟩
  · have := (N' p hp).2.2; rw [q, hLg] at this; cases this
  · cases q : h₀.get? p.1 with
    | none => rfl
    | some o => have := (N' p hp).2.2; rw [st _ _ q] at this; cases this
/-- a def with a closure -/
theorem clos_free (F : Fr h₀ L s.heap m) (X₀ : K.In h₀) (N : News h₀ L s.heap news) (T : Top p loose mean mg mb h₀)
    (ho : K.lookup f = some ⟨oc, od, .func (fnX name qual params body scope cl dV kV doc pm an cdv ct), osl⟩) (hcd : codeIn K cdv qual = true) (hroom : A.depth < recursionLimit)
    (hbind : BindsTo s (fnX name qual params body scope cl dV kV doc pm an cdv ct) args binds) (hloc : ∀ y ∈ binds, scope.names.lookup y.1 = some .local) (hks : (scope.isCoroutine, scope.isGenerator, scope.kind) = (false, false, .function)) (hcell : ∀ x ∈ scope.names, x.2 ≠ .cell)
    (h : ∀ g L' h₁, Fr h₀ L g m → Fr g L' h₁ (fun y => binds.reverse.lookup y) → News g L' h₁ news → K.In g → Top p loose mean mg mb g →
      wpAny (model prog w) (A.deeper (envX qual scope L' f cdv cl)) (execs body (envX qual scope L' f cdv cl))
        (fun fl s' => LeaveK h₀ L m g R (match fl with | .ret v => v | _ => .none) s')
        (fun e s' => wpAny (model prog w) (A.deeper (envX qual scope L' f cdv cl)) (leaving (envX qual scope L' f cdv cl) e) (fun _ s'' => R (.error e) s'') (fun e' s'' => R (.error e') s'') s')
        { s with heap := h₁, toks := s.toks + binds.length }) : codeAny (model prog w) A (.call (.ref f) args) R s := by
  refine codeAny_call_function (fd := fnX name qual params body scope cl dV kV doc pm an cdv ct) (body := body) hroom ((X₀.keeps F.keep) _ _ ho) rfl (congrArg (·.1) hks) (congrArg (·.2.1) hks) rfl (codeRec_of (X₀.keeps F.keep) hcd) (hbind _ _ _ _ ?_)
  exact free_env F X₀ N T hloc h (congrArg (·.2.2) hks) hcell
end
/-- entering a def from within a frame, nothing asked of the frames below -/
theorem code_free (F : Fr h₀ L s.heap m) (X₀ : K.In h₀) (N : News h₀ L s.heap news) (T : Top p loose mean mg mb h₀)
    (ho : K.lookup f = some ⟨oc, od, .func (fnOf name qual params body scope dV kV doc pm an cdv ct), osl⟩) (hcd : codeIn K cdv qual = true) (hroom : A.depth < recursionLimit)
    (hbind : BindsTo s (fnOf name qual params body scope dV kV doc pm an cdv ct) args binds) (hloc : ∀ y ∈ binds, scope.names.lookup y.1 = some .local) (hks : (scope.isCoroutine, scope.isGenerator, scope.kind) = (false, false, .function)) (hcell : ∀ x ∈ scope.names, x.2 ≠ .cell)
    (h : ∀ g L' h₁, Fr h₀ L g m → Fr g L' h₁ (fun y => binds.reverse.lookup y) → News g L' h₁ news → K.In g → Top p loose mean mg mb g →
      wpAny (model prog w) (A.deeper (envOf qual scope L' f cdv)) (execs body (envOf qual scope L' f cdv))
        (fun fl s' => LeaveK h₀ L m g R (match fl with | .ret v => v | _ => .none) s')
        (fun e s' => wpAny (model prog w) (A.deeper (envOf qual scope L' f cdv)) (leaving (envOf qual scope L' f cdv) e) (fun _ s'' => R (.error e) s'') (fun e' s'' => R (.error e') s'') s')
        { s with heap := h₁, toks := s.toks + binds.length }) : codeAny (model prog w) A (.call (.ref f) args) R s :=
  clos_free (cl := []) F X₀ N T ho hcd hroom hbind hloc hks hcell h

/-- entering a def from a bare state: the base is the state's heap without the objects listed -/
theorem code_start (X₀ : K.In G₀) (T : Top p loose mean mg mb G₀) (hG : G₀.StaysIn s.heap) (hC : ∀ q ∈ conc, s.heap.get? q.1 = some q.2 ∧ G₀.get? q.1 = none)
    (ho : K.lookup f = some ⟨oc, od, .func (fnOf name qual params body scope dV kV doc pm an cdv ct), osl⟩) (hcd : codeIn K cdv qual = true) (hroom : A.depth < recursionLimit)
    (hbind : BindsTo s (fnOf name qual params body scope dV kV doc pm an cdv ct) args binds) (hloc : ∀ y ∈ binds, scope.names.lookup y.1 = some .local)
    (h : ∀ g L' h₁, g = hideAll s.heap (conc.map (·.1)) → Fr g L' h₁ (fun y => binds.reverse.lookup y) → News g L' h₁ conc → K.In g → Top p loose mean mg mb g → (∀ q ∈ conc, q.1 < L') →
      wpAny (model prog w) (A.deeper (envOf qual scope L' f cdv)) (execs body (envOf qual scope L' f cdv))
        (fun fl s' => R (.ok (.ret (match fl with | .ret v => v | _ => .none))) s')
        (fun e s' => wpAny (model prog w) (A.deeper (envOf qual scope L' f cdv)) (leaving (envOf qual scope L' f cdv) e) (fun _ s'' => R (.error e) s'') (fun e' s'' => R (.error e') s'') s')
        { s with heap := h₁, toks := s.toks + binds.length })
    (hco : scope.isCoroutine = false) (hgen : scope.isGenerator = false) (hk : scope.kind = .function)
    (hcell : ∀ x ∈ scope.names, x.2 ≠ .cell) : codeAny (model prog w) A (.call (.ref f) args) R s := by
  have X := X₀.keeps hG
  have st : G₀.StaysIn (hideAll s.heap (conc.map (·.1))) := stays_hideAll hG fun a ha => by
    obtain ⟨q, hq, rfl⟩ := List.mem_map.mp ha
    exact (hC q hq).2
  refine codeAny_call_def (fd := fnOf name qual params body scope dV kV doc pm an cdv ct) (body := body) (binds := binds) hroom (X _ _ ho) rfl (T.nolimit.keeps hG) (codeRec_of X hcd) rfl hbind hcell hloc (fun h₁ hns hk₁ => ?_) hco hgen hk
  exact h _ s.heap.objs.size h₁ rfl ⟨hns, fun b o e => hk₁ b o (of_hideAll _ e), Nat.le_of_eq (hideAll_size _ _)⟩
    (fun q hq => ⟨hk₁ _ _ (hC q hq).1, Nat.ne_of_lt (Heap.lt_size (hC q hq).1), hideAll_none _ (List.mem_map_of_mem hq)⟩) (X₀.keeps st) (T.keeps st) (fun q hq => Heap.lt_size (hC q hq).1)
end


section
variable {prog : Program} {w : World} {A : Around} {s : Shared} {h₀ G₀ : Heap} {L : Addr} {m : Str → Option Value} {news conc : List (Addr × Obj)} {K : Frag} {p : Program} {loose : List Str} {mean : ExcName → Option Value} {mg mb : Str → Option Value}
  {R : Result → Shared → Prop} {name qual : Str} {params : Arguments} {body : List Stmt} {scope : Scope} {dV kV doc pm cdv ct oc : Value} {an od : Option Addr} {osl : Array (Option Value)} {f : Addr} {args : Args} {binds : List (Str × Value)}
/-- the same for a def with cells -/
theorem code_startC (X₀ : K.In G₀) (T : Top p loose mean mg mb G₀) (hG : G₀.StaysIn s.heap) (hC : ∀ q ∈ conc, s.heap.get? q.1 = some q.2 ∧ G₀.get? q.1 = none)
    (ho : K.lookup f = some ⟨oc, od, .func (fnOf name qual params body scope dV kV doc pm an cdv ct), osl⟩) (hcd : codeIn K cdv qual = true) (hroom : A.depth < recursionLimit)
    (hbind : BindsTo s (fnOf name qual params body scope dV kV doc pm an cdv ct) args binds) (hkind : (binds.all fun y => scope.names.lookup y.1 == some .local || scope.names.lookup y.1 == some .cell) = true)
    (hnd : ((cellsFrom 0 scope.names []).map (·.1)).Nodup)
    (h : ∀ g L' h₁ tk cells, g = hideAll s.heap (conc.map (·.1)) → Fr g L' h₁ (bindL (envOfC qual scope L' f cdv).kindOf binds fun _ => none) → News g L' h₁ (cells ++ conc) →
      CellsAre (bindC (envOfC qual scope L' f cdv).kindOf binds fun _ => none) (cellsFrom (L' + 1) scope.names []) cells → K.In g → Top p loose mean mg mb g → (∀ q ∈ conc, q.1 < L') → L' = s.heap.objs.size →
      wpAny (model prog w) (A.deeper (envOfC qual scope L' f cdv)) (execs body (envOfC qual scope L' f cdv))
        (fun fl s' => R (.ok (.ret (match fl with | .ret v => v | _ => .none))) s')
        (fun e s' => wpAny (model prog w) (A.deeper (envOfC qual scope L' f cdv)) (leaving (envOfC qual scope L' f cdv) e) (fun _ s'' => R (.error e) s'') (fun e' s'' => R (.error e') s'') s')
        { s with heap := h₁, toks := tk })
    (hco : scope.isCoroutine = false) (hgen : scope.isGenerator = false) (hk : scope.kind = .function) : codeAny (model prog w) A (.call (.ref f) args) R s := by
  have X := X₀.keeps hG
  have st : G₀.StaysIn (hideAll s.heap (conc.map (·.1))) := stays_hideAll hG fun a ha => by
    obtain ⟨q, hq, rfl⟩ := List.mem_map.mp ha
    exact (hC q hq).2
  refine codeAny_call_function hroom (X _ _ ho) rfl hco hgen rfl (codeRec_of X hcd) (hbind _ _ _ _ ?_)
  refine wpAny_newFunctionEnv_cells hk (kindsX hkind _) fun env' he s' x => ?_
  subst he
  refine ⟨(T.nolimit.keeps hG).keeps x.toInCall.keep, codeAny_func ?_⟩
  obtain ⟨h₁, tk, rfl, _⟩ := x.done
  have hk₁ := x.toInCall.keep
  obtain ⟨cells, NC, Y⟩ := Cl.news (h₀ := s.heap) (Nat.le_refl _) fun n c hm => ⟨x.cell n c (lookup_of_mem_nodup (cellsFrom_names scope.names 0 (s.heap.objs.size + 1) [] [] rfl ▸ hnd) hm), x.above n c hm⟩
  refine h _ s.heap.objs.size h₁ tk cells rfl ⟨x.toInCall.ns, fun b o e => hk₁ b o (of_hideAll _ e), Nat.le_of_eq (hideAll_size _ _)⟩ (fun p hp => ?_) Y (X₀.keeps st) (T.keeps st) (fun q hq => Heap.lt_size (hC q hq).1) rfl
  rcases List.mem_append.mp hp with hp | hp
  · refine ⟨(NC p hp).1, (NC p hp).2.1, ?_⟩
    cases q : (hideAll s.heap (conc.map (·.1))).get? p.1 with
    | none => rfl
    | some o => have := of_hideAll _ q; rw [(NC p hp).2.2] at this; cases this
  · exact ⟨hk₁ _ _ (hC p hp).1, Nat.ne_of_lt (Heap.lt_size (hC p hp).1), hideAll_none _ (List.mem_map_of_mem hp)⟩
end

/-- what a call of the first kind (nothing raised, no frame looked at) gives back: D is what it may have changed -/
inductive OutI (s : Shared) (D : List Addr) (Post : Value → Heap → Prop) (v : Value) (s' : Shared) : Prop
  | mk (h' : Heap) (tk' : Nat) (e : s' = { s with heap := h', toks := tk' }) (k : Keep D s.heap h') (p : Post v h') : OutI s D Post v s'
theorem wpAny_out {M : Model} {A : Around} {x : Sem Value} {Q E : Value → Shared → Prop} {s₀ s : Shared} {D : List Addr} {Post : Value → Heap → Prop} (h : wpAny M A x (OutI s D Post) E s₀) (k : ∀ v h' tk, Keep D s.heap h' → Post v h' → Q v { s with heap := h', toks := tk }) : wpAny M A x Q E s₀ :=
  wpAny_mono h (fun v s' ho => by obtain ⟨h', tk, rfl, kk, hp⟩ := ho; exact k v h' tk kk hp) fun _ _ x => x
theorem OutI.intro {s : Shared} {conc news' : List (Addr × Obj)} {D : List Addr} {Post : Value → Heap → Prop} {v : Value} {g h' : Heap} {L' : Addr} {m' : Str → Option Value} {tk : Nat} (hg : g = hideAll s.heap (conc.map (·.1)))
    (hC : ∀ q ∈ conc, s.heap.get? q.1 = some q.2) (F : Fr g L' h' m') (N : News g L' h' news') (hs : ∀ q ∈ conc, q.1 ∈ D ∨ q ∈ news') (hp : Post v h') : OutI s D Post v { s with heap := h', toks := tk } := by
  refine ⟨h', tk, rfl, fun b o hb e => ?_, hp⟩
  by_cases hm : b ∈ conc.map (·.1)
  · obtain ⟨q, hq, rfl⟩ := List.mem_map.mp hm
    rcases hs q hq with hd | hn
    · exact absurd hd hb
    · rw [hC q hq] at e
      cases e
      exact (N q hn).1
  · exact F.keep b o (by rw [hg]; exact hideAll_get _ e hm)

/-- the ground of every contract -/
structure Gnd (w : World) (mean : ExcName → Option Value) (mg mb : Str → Option Value) (loose : List Str) (G₀ : Heap) : Prop where
  X : (Mine.hd.heap_1 w.params).In G₀
  T : Top topProg loose mean mg mb G₀

/-- where a call stands: nothing handled -/
@[reducible] noncomputable def AT (dp : Nat) (fr : Option (List Env)) (gd : Option (List Code)) (un : Nat) : Around := { handled := none, depth := dp, frames := fr, guards := gd, units := un }

/-- the objects listed stand in the heap, off the ground -/
noncomputable def Has (G₀ h : Heap) (conc : List (Addr × Obj)) : Prop := ∀ q ∈ conc, h.get? q.1 = some q.2 ∧ G₀.get? q.1 = none

/-- a contract of the first kind: conc is what is looked at, D what may be changed -/
noncomputable def CI (w : World) (G₀ : Heap) (nd nu : Nat) (f : Addr) (args : List Value) (conc : List (Addr × Obj)) (D : List Addr) (Post : Heap → Value → Heap → Prop) : Prop :=
  ∀ (dp : Nat) (fr : Option (List Env)) (gd : Option (List Code)) (un : Nat) (s : Shared) (E : Value → Shared → Prop), dp + nd < recursionLimit → un + nu < cLine → G₀.StaysIn s.heap → Has G₀ s.heap conc →
    wpAny (model PR w) (AT dp fr gd un) (call (.ref f) args) (OutI s D (Post s.heap)) E s

theorem Keep.fr {D : List Addr} {h h' h₀ : Heap} {L : Addr} {m : Str → Option Value} (k : Keep D h h') (F : Fr h₀ L h m) (hL : L ∉ D) (h0 : ∀ d ∈ D, h₀.get? d = none) : Fr h₀ L h' m := by
  obtain ⟨oL, es, ep, hl, r⟩ := F.ns
  exact ⟨⟨oL, es, ep, k _ _ hL hl, r⟩, fun b o e => k b o (fun m => by rw [h0 b m] at e; cases e) (F.keep b o e), F.above⟩
theorem Keep.one {D : List Addr} {h h' h₀ : Heap} {L : Addr} {news : List (Addr × Obj)} (k : Keep D h h') (N : News h₀ L h news) {q : Addr × Obj} (hq : q ∈ news) (hd : q.1 ∉ D) : h'.get? q.1 = some q.2 ∧ q.1 ≠ L ∧ h₀.get? q.1 = none :=
  ⟨k _ _ hd (N q hq).1, (N q hq).2⟩
theorem News.cons {h₀ h : Heap} {L : Addr} {q : Addr × Obj} {l : List (Addr × Obj)} (h1 : h.get? q.1 = some q.2 ∧ q.1 ≠ L ∧ h₀.get? q.1 = none) (N : News h₀ L h l) : News h₀ L h (q :: l) := fun p hp => by
  rcases List.mem_cons.mp hp with rfl | hp
  · exact h1
  · exact N p hp
theorem Keep.turned {D : List Addr} {h h' h₀ : Heap} {L : Addr} {news : List (Addr × Obj)} (_k : Keep D h h') (N : News h₀ L h news) {q : Addr × Obj} {o' : Obj} (hq : q ∈ news) (e : h'.get? q.1 = some o') : h'.get? (q.1, o').1 = some (q.1, o').2 ∧ (q.1, o').1 ≠ L ∧ h₀.get? (q.1, o').1 = none :=
  ⟨e, (N q hq).2⟩
/-- what is new is off everything that was -/
theorem new_off {h h₀ : Heap} {L a : Addr} {m : Str → Option Value} (F : Fr h₀ L h m) (hn : h.get? a = none) : a ≠ L ∧ h₀.get? a = none := by
  constructor
  · rintro rfl
    obtain ⟨oL, es, ep, hl, _⟩ := F.ns
    rw [hn] at hl; cases hl
  · cases q : h₀.get? a with
    | none => rfl
    | some o => have := F.keep _ _ q; rw [hn] at this; cases this
theorem Keep.trans {D : List Addr} {h h' h'' : Heap} (x : Keep D h h') (y : Keep D h' h'') : Keep D h h'' := fun b o hb e => y b o hb (x b o hb e)
theorem Keep.mono {D D' : List Addr} {h h' : Heap} (x : Keep D h h') (hs : ∀ d ∈ D, d ∈ D') : Keep D' h h' := fun b o hb e => x b o (fun m => hb (hs b m)) e
theorem Has.keep {G₀ h h' : Heap} {conc : List (Addr × Obj)} {D : List Addr} (H : Has G₀ h conc) (k : Keep D h h') (hd : ∀ q ∈ conc, q.1 ∉ D) : Has G₀ h' conc := fun q hq => ⟨k _ _ (hd q hq) (H q hq).1, (H q hq).2⟩
end Mine

namespace Mine
structure Halt (P : Prop) : Prop where
  go : P
section
variable {M : Model} {A : Around} {s : Shared} {α β : Type} {Q : α → Shared → Prop} {E : Value → Shared → Prop}
theorem ifT {c : Prop} [Decidable c] {a b : Sem α} (hc : c) (h : wpAny M A a Q E s) : wpAny M A (if c then a else b) Q E s := by rw [if_pos hc]; exact h
theorem ifF {c : Prop} [Decidable c] {a b : Sem α} (hc : ¬ c) (h : wpAny M A b Q E s) : wpAny M A (if c then a else b) Q E s := by rw [if_neg hc]; exact h
/-- a false boolean -/
theorem ifB {c : Bool} {a b : Sem α} (hc : c = false) (h : wpAny M A b Q E s) : wpAny M A (if c = true then a else b) Q E s := ifF (by rw [hc]; exact Bool.false_ne_true) h
theorem forL_nil {f : β → α → Sem (ForInStep α)} {b : α} (h : Q b s) : wpAny M A (forIn ([] : List β) b f) Q E s := by
  rw [List.forIn_nil]; exact wpAny_pure h
theorem forL_cons {f : β → α → Sem (ForInStep α)} {x : β} {l : List β} {b : α} (h : wpAny M A (f x b) (fun r s' => match r with | .done b' => Q b' s' | .yield b' => wpAny M A (forIn l b' f) Q E s') E s) : wpAny M A (forIn (x :: l) b f) Q E s := by
  rw [List.forIn_cons]
  refine wpAny_bind (wpAny_mono h (fun r s' h' => ?_) fun _ _ z => z)
  cases r with
  | done b' => exact wpAny_pure h'
  | yield b' => exact h'
theorem forA {f : β → α → Sem (ForInStep α)} {l : List β} {b : α} (h : wpAny M A (forIn l b f) Q E s) : wpAny M A (forIn l.toArray b f) Q E s := by
  rw [← Array.forIn_toList]; exact h
end
section
variable {α : Type} {x a b c d e : α} {l l' : List α}
theorem subm (h : x ∈ l) (hs : ∀ y ∈ l, y ∈ l') : x ∈ l' := hs x h
theorem mem1 (h : x ∈ [a]) : x = a := List.mem_singleton.mp h
theorem mem2 (h : x ∈ [a, b]) : x = a ∨ x = b := (List.mem_cons.mp h).imp_right mem1
theorem mem3 (h : x ∈ [a, b, c]) : x = a ∨ x = b ∨ x = c := (List.mem_cons.mp h).imp_right mem2
theorem mem4 (h : x ∈ [a, b, c, d]) : x = a ∨ x = b ∨ x = c ∨ x = d := (List.mem_cons.mp h).imp_right mem3
theorem mem5 (h : x ∈ [a, b, c, d, e]) : x = a ∨ x = b ∨ x = c ∨ x = d ∨ x = e := (List.mem_cons.mp h).imp_right mem4
theorem nmem2 (h : x ∉ [a, b]) : x ≠ a ∧ x ≠ b := ⟨fun q => h (q ▸ .head _), fun q => h (q ▸ .tail _ (.head _))⟩
theorem nmem3 (h : x ∉ [a, b, c]) : x ≠ a ∧ x ≠ b ∧ x ≠ c := ⟨fun q => h (q ▸ .head _), nmem2 fun m => h (.tail _ m)⟩
theorem nmem4 (h : x ∉ [a, b, c, d]) : x ≠ a ∧ x ≠ b ∧ x ≠ c ∧ x ≠ d := ⟨fun q => h (q ▸ .head _), nmem3 fun m => h (.tail _ m)⟩
end
theorem off_base {G₀ g : Heap} (hGg : G₀.StaysIn g) {a : Addr} (h : g.get? a = none) : G₀.get? a = none := by
  cases e : G₀.get? a with
  | none => rfl
  | some o => rw [hGg a o e] at h; cases h

theorem Fr.congr {g h : Heap} {L : Addr} {m m' : Str → Option Value} (F : Fr g L h m) (e : ∀ y, m y = m' y) : Fr g L h m' := (funext e : m = m') ▸ F
section
variable {a k l m n o K L : Nat}
theorem rm0 (h : a + K < L) : a < L := Nat.lt_of_le_of_lt (Nat.le_add_right _ _) h
theorem rm1 (h : a + K < L) (e : Nat.ble k K = true := by with_unfolding_all rfl) : a + k < L := Nat.lt_of_le_of_lt (Nat.add_le_add_left (Nat.le_of_ble_eq_true e) _) h
theorem rm2 (h : a + K < L) (e : Nat.ble (k + l) K = true := by with_unfolding_all rfl) : a + k + l < L := by rw [Nat.add_assoc]; exact rm1 h e
theorem rm3 (h : a + K < L) (e : Nat.ble (k + l + m) K = true := by with_unfolding_all rfl) : a + k + l + m < L := by rw [Nat.add_assoc a k l]; exact rm2 h e
theorem rm4 (h : a + K < L) (e : Nat.ble (k + l + m + n) K = true := by with_unfolding_all rfl) : a + k + l + m + n < L := by rw [Nat.add_assoc a k l]; exact rm3 h e
theorem rm5 (h : a + K < L) (e : Nat.ble (k + l + m + n + o) K = true := by with_unfolding_all rfl) : a + k + l + m + n + o < L := by rw [Nat.add_assoc a k l]; exact rm4 h e
theorem lt_ne {b : Nat} (h : a < b) : a ≠ b := Nat.ne_of_lt h
theorem gt_ne {b : Nat} (h : b < a) : a ≠ b := Nat.ne_of_gt h
theorem gt_ne2 {b c : Nat} (h : c < a) (h' : b < c) : a ≠ b := Nat.ne_of_gt (Nat.lt_trans h' h)
theorem lt_ne2 {b c : Nat} (h : c < b) (h' : a < c) : a ≠ b := Nat.ne_of_lt (Nat.lt_trans h' h)
end
/-- a marker: the walk is to stop at this key -/
structure Stop (k : String) : Prop where
  ok : True
/-- a marker: the walk is to stop at a call of the object at this address -/
structure StopAt (n : Nat) : Prop where
  ok : True
theorem stop_by {k : String} {P : Prop} (_ : Stop k) (H : Halt P) : P := H.go
theorem stop_at {n : Nat} {M : Model} {A : Around} {as : List Value} {kws : List (Str × Value)} {Q E : Value → Shared → Prop} {s : Shared} (_ : StopAt n) (H : Halt (wpAny M A (call (.ref n) as kws) Q E s)) : wpAny M A (call (.ref n) as kws) Q E s := H.go
section
variable {a1 a2 a3 a4 a5 a6 a7 a8 a9 a10 a11 a12 : Prop}
end
theorem get_ne {h : Heap} {a b : Addr} {x : Obj} (p : h.get? a = some x) (q : h.get? b = none) : a ≠ b := fun e => by rw [e, q] at p; cases p
theorem or3 {a b c d : Prop} (h : a ∨ b ∨ c) (x : a → d) (y : b → d) (z : c → d) : d := h.elim x fun h => h.elim y z
theorem or4 {a b c d e : Prop} (h : a ∨ b ∨ c ∨ d) (x : a → e) (y : b → e) (z : c → e) (u : d → e) : e := h.elim x fun h => or3 h y z u
theorem or5 {a b c d e f : Prop} (h : a ∨ b ∨ c ∨ d ∨ e) (x : a → f) (y : b → f) (z : c → f) (u : d → f) (v : e → f) : f := h.elim x fun h => or4 h y z u v
theorem sub_tl {α : Type} {a : α} {l l' : List α} (h : ∀ y ∈ l, y ∈ l') : ∀ y ∈ l, y ∈ a :: l' := fun y m => .tail _ (h y m)
section
variable {a1 a2 a3 a4 a5 a6 a7 a8 a9 a10 a11 a12 b : Prop}
theorem pj2 (h : a1 ∧ a2 ∧ b) : a2 := h.2.1
theorem pj3 (h : a1 ∧ a2 ∧ a3 ∧ b) : a3 := h.2.2.1
theorem pj4 (h : a1 ∧ a2 ∧ a3 ∧ a4 ∧ b) : a4 := h.2.2.2.1
theorem pj5 (h : a1 ∧ a2 ∧ a3 ∧ a4 ∧ a5 ∧ b) : a5 := h.2.2.2.2.1
theorem pj6 (h : a1 ∧ a2 ∧ a3 ∧ a4 ∧ a5 ∧ a6 ∧ b) : a6 := h.2.2.2.2.2.1
theorem pj7 (h : a1 ∧ a2 ∧ a3 ∧ a4 ∧ a5 ∧ a6 ∧ a7 ∧ b) : a7 := h.2.2.2.2.2.2.1
theorem pr2 (h : a1 ∧ a2 ∧ b) : b := h.2.2
theorem pr3 (h : a1 ∧ a2 ∧ a3 ∧ b) : b := h.2.2.2
end
theorem map_ne {α β : Type} {f : α → β} {l : List α} (h : l ≠ []) : (l.map f).isEmpty = false := by
  cases l with
  | nil => exact absurd rfl h
  | cons _ _ => rfl
theorem map_pos {α β : Type} {f : α → β} {l : List α} (h : l ≠ []) : 0 < (l.map f).length := by
  rw [List.length_map]; exact List.length_pos_iff.mpr h
section
variable {a K L : Nat}
theorem nA : a + 1 ≠ a := Nat.succ_ne_self a
theorem nB : a ≠ a + 1 := (Nat.succ_ne_self a).symm
theorem nC : a + 1 + 1 ≠ a := Nat.ne_of_gt (Nat.lt_succ_of_lt (Nat.lt_succ_self a))
theorem nD : a ≠ a + 1 + 1 := Nat.ne_of_lt (Nat.lt_succ_of_lt (Nat.lt_succ_self a))
theorem lt_lit (h : a < K) (e : Nat.ble K L = true := by with_unfolding_all rfl) : a < L := Nat.lt_of_lt_of_le h (Nat.le_of_ble_eq_true e)
theorem lelt {b : Nat} (h : a ≤ b) (h2 : b < K := by assumption) (e : Nat.ble K L = true := by with_unfolding_all rfl) : a < L := Nat.lt_of_le_of_lt h (lt_lit h2 e)
theorem le_lit (h : a < K) (e : Nat.ble K L = true := by with_unfolding_all rfl) : a ≤ L := Nat.le_of_lt (lt_lit h e)
end
section
variable {n i k : Nat}
theorem sub1 (h : n - i = k + 1) : n - (i + 1) = k := by rw [Nat.sub_add_eq, h, Nat.add_sub_cancel]
theorem sub2 (h : i < n) : n - i = n - i - 1 + 1 := (Nat.sub_add_cancel (Nat.sub_pos_of_lt h)).symm
theorem sub3 {j : Nat} (hj : j < n) (h : n - j = k + 1) : n - 1 - (k + 1 - 1) = j := by
  have e : n = j + (k + 1) := by rw [← h, Nat.add_sub_cancel' (Nat.le_of_lt hj)]
  rw [e]
  exact Nat.add_sub_cancel ..
theorem sub4 {j : Nat} (hj : j < n) (h : n - j = k + 1) (e : i + (k + 1 - 1) + 1 = n) : i = j :=
  Nat.add_right_cancel (m := k + 1) (Eq.trans (show i + (k + 1) = n from e) (by rw [← h, Nat.add_sub_cancel' (Nat.le_of_lt hj)]))
theorem sub5 (h : n - i = k + 1) (hi : i ≤ n) : i + k + 1 = n := by rw [Nat.add_assoc, ← h, Nat.add_sub_cancel' hi]
theorem eq_end (h : n - i = 0) (hi : i ≤ n) : i = n := Nat.le_antisymm hi (Nat.le_of_sub_eq_zero h)
theorem dec1 (h : i < n) : n + 1 - (i + 1) < n + 1 - i := Nat.sub_lt_sub_left (Nat.lt_succ_of_lt h) (Nat.lt_succ_self i)
theorem lenA {a b r : Nat} (h : a + b ≤ 1 + i) (ha : 0 < a) (hr : r ≤ 1) : a - 1 + r + (b + (0 + 1)) ≤ 1 + (i + 1) :=
  Nat.le_trans (Nat.add_le_add_right (Nat.le_trans (Nat.add_le_add_left hr _) (Nat.le_of_eq (Nat.sub_add_cancel ha))) _) (Nat.succ_le_succ h)
theorem lenB {a b : Nat} (h : a + b ≤ n) (hb : 0 < b) (hk : k ≤ a) : k + (0 + 1) + (b - 1) ≤ n := by
  show k + 1 + (b - 1) ≤ n
  rw [Nat.add_assoc, Nat.add_sub_cancel' (show 1 ≤ b from hb)]
  exact Nat.le_trans (Nat.add_le_add_right hk _) h
end
section
variable {a b c d : Int}
theorem fitA : ¬ (a < a ∨ c < d) ↔ d ≤ c := ⟨fun h => Int.not_lt.mp fun k => h (.inr k), fun h k => k.elim (Int.lt_irrefl _) (Int.not_lt.mpr h)⟩
theorem fitB : ¬ (c < d ∨ a < a) ↔ d ≤ c := ⟨fun h => Int.not_lt.mp fun k => h (.inl k), fun h k => k.elim (Int.not_lt.mpr h) (Int.lt_irrefl _)⟩
end
end Mine
local macro_rules | `(tactic| k_lt $h:ident) => `(tactic| (replace $h := allLt_of $h; dsimp only [AllLt] at $h:ident; (try simp only [and_true] at $h:ident)))
local macro_rules | `(tactic| k_ne) => `(tactic| (refine neN ?_; (try dsimp only); lcg_off))
local macro_rules | `(tactic| k_room) => `(tactic| first | kfm_turns | ((try simp only [depth_under_make, depth_under_kw, depth_in1, depth_deeper, depth_caller]); first | decide | kfm_turns | omega))
local macro_rules | `(tactic| k_enter) => `(tactic| (apply Mine.code_free; walk_at "kin"))
example : (PySem.Challenge.rw_ay0033_01, Mine.hd.heap_1) = (PySem.Challenge.rw_ay0033_01, Mine.hd.heap_1) := by
  k_fill
  w_top off
  rfl
local macro_rules | `(tactic| walk_at "lbk") => `(tactic| (try dsimp only [InitBack, CmpBack, LenBack, StrBack, BoolBack]))
local macro_rules | `(tactic| walk_at "LeaveK") => `(tactic| (k_dflt (apply leaveK_; k_asm; k_asm; k_whole); intros; walk_at "lbk"; (try refine ⟨rfl, ?_⟩); walk_at "lbk"; (try (refine ⟨⟨by ktu_offL, by ktu_offL⟩, ?_⟩)); (try (refine handed_on rfl ?_; try dsimp only)); (try k_sweep)))
local macro_rules | `(tactic| kpc_turns) => `(tactic| first | with_reducible assumption | ((try simp only [beq_iff_eq, bne_iff_ne, beq_eq_false_iff_ne, decide_eq_true_eq, decide_eq_false_iff_not, Bool.and_eq_true, Bool.not_eq_true', Bool.not_eq_false', Bool.not_eq_true]); omega))
local macro_rules | `(tactic| walk_at "ite") => `(tactic| (k_here; k_openite; first | (refine ite_pos (by kpc_turns) ?_; walk_say "PRUNED") | (refine ite_neg (by kpc_turns) ?_; walk_say "PRUNED")))
local macro_rules | `(tactic| k_steps) => `(tactic| repeat' ((fail_if_success with_reducible refine Mine.Halt.mk ?_); first | (k_unfold; (try dsimp only)) | walk1 | (dsimp only; walk1) | (leave1; try dsimp only)))
local macro_rules | `(tactic| walk_at "execs cons") => `(tactic| (k_here; (dsimp only); k_gentoks))
local macro_rules | `(tactic| walk_at "execs nil") => `(tactic| (k_here; (dsimp only); k_gentoks))
local macro_rules | `(tactic| mul_fits) => `(tactic| assumption)
local macro_rules | `(tactic| k_all) => `(tactic| assumption)
local macro_rules | `(tactic| walk_at "InitBack") => `(tactic| (unfold InitBack; dsimp only; refine ⟨rfl, ?_⟩))
local macro_rules | `(tactic| walk_at $k:str) => `(tactic| with_reducible refine Mine.stop_by (k := $k) (by assumption) ?_)
local macro_rules | `(tactic| walk_at "call ref") => `(tactic| with_reducible refine Mine.stop_at (by assumption) ?_)
local macro_rules | `(tactic| walk_at "kin") => `(tactic| (k_asm; k_asm; k_asm; k_asm; k_is; k_is; k_room; (first | exact BindsTo.of_eq rfl | exact binds_K (by k_in) rfl (by k_is) rfl rfl rfl); exact locs rfl; exact rfl; decide; k_whole; intros; (try dsimp only); (try k_fold)))
local macro_rules | `(tactic| ctx_mentions $cs*) => `(tactic| with_reducible first $[| exact $cs (by assumption)]*)
local macro_rules | `(tactic| ctx_has $cs*) => `(tactic| with_reducible first $[| exact $cs (by kat_tups)]*)
local macro_rules | `(tactic| kat_tups) => `(tactic| first | with_reducible assumption | ctx_mentions And.left Mine.pj2 Mine.pj3 Mine.pj4 Mine.pj5 Mine.pj6 Mine.pj7 And.right Mine.pr2 Mine.pr3)
local macro_rules | `(tactic| kfm_turns) => `(tactic| ctx_mentions Mine.rm2 Mine.rm1 Mine.rm0 Mine.rm3 Mine.rm4 Mine.rm5)
local macro_rules | `(tactic| lcg_off) => `(tactic| first | ctx_has Mine.gt_ne Mine.lt_ne | ctx_mentions Ne.symm | with_reducible exact Mine.gt_ne2 (by assumption) (by kat_tups) | with_reducible exact Mine.lt_ne2 (by assumption) (by kat_tups) | (with_reducible first | exact Mine.nA | exact Mine.nB | exact Mine.nC | exact Mine.nD) | k_dflt omega)
local macro_rules | `(tactic| ktu_offL) => `(tactic| first | kat_tups | kfm_turns | ctx_has Int.le_of_lt Nat.le_of_lt | with_reducible exact Int.le_refl _ | with_reducible exact Nat.zero_le _ | ctx_mentions Mine.lt_lit Mine.le_lit Nat.le_succ_of_le Mine.lelt | lcg_off)
local macro_rules | `(tactic| walk_at "mem") => `(tactic| (repeat (first | exact List.Mem.head _ | refine List.Mem.tail _ ?_)))
local macro_rules | `(tactic| walk_at "sm") => `(tactic| first | (walk_at "mem"; done) | simp)
local macro_rules | `(tactic| walk_at "ifn") => `(tactic| ((repeat (refine (if_neg (by assumption)).trans ?_)); exact rfl))
local macro_rules | `(tactic| walk_at "oi") => `(tactic| ((repeat (refine List.forall_mem_cons.mpr (And.intro (by first | (refine Or.inl ?_; walk_at "mem"; done) | (refine Or.inr ?_; walk_at "mem"; done)) ?_))); exact List.forall_mem_nil _))
local macro_rules | `(tactic| walk_at "sub") => `(tactic| ((repeat (refine List.forall_mem_cons.mpr (And.intro (by walk_at "mem") ?_))); (repeat (first | exact List.forall_mem_nil _ | exact (fun _ h => h) | refine Mine.sub_tl ?_)); done))

namespace Mine
structure Rc where
  x : Int
  y : Int
  w : Int
  h : Int
  tx : Tok
  ty : Tok
  tw : Tok
  th : Tok
  rid : Value
  k : Nat → Tok
noncomputable def rcEs (P : Params) (r : Rc) : List DictEntry :=
  [⟨PyData.keyHash P "width", .str "width" (r.k 0), .int r.w r.tw⟩, ⟨PyData.keyHash P "height", .str "height" (r.k 1), .int r.h r.th⟩,
   ⟨PyData.keyHash P "x", .str "x" (r.k 2), .int r.x r.tx⟩, ⟨PyData.keyHash P "y", .str "y" (r.k 3), .int r.y r.ty⟩, ⟨PyData.keyHash P "rid", .str "rid" (r.k 4), r.rid⟩]

/-- a rectangle on the line: from st on, ln long -/
noncomputable def On (up : Bool) (X Y b st ln : Int) (r : Rc) : Prop :=
  match up with | true => r.x = X ∧ r.y = Y + st ∧ r.w = b ∧ r.h = ln | false => r.x = X + st ∧ r.y = Y ∧ r.w = ln ∧ r.h = b

/-- do the two touch? -/
noncomputable def touch (s1 l1 s2 l2 : Int) : Bool := decide (s2 + l2 = s1) || decide (s1 + l1 = s2)
noncomputable def mst (s1 l1 s2 l2 : Int) : Int := if s2 + l2 = s1 then s2 else s1
noncomputable def mln (s1 l1 s2 l2 : Int) : Int := if touch s1 l1 s2 l2 then l1 + l2 else l1

inductive JoinPost (P : Params) (up : Bool) (X Y B : Int) (d : Addr) (r : Rc) (st ln : Int) (t : Bool) (h : Heap) (v : Value) (h' : Heap) : Prop
  | mk (e : v = .bool t) (r' : Rc) (e1 : On up X Y B st ln r') (e2 : r'.rid = r.rid) (e3 : h'.get? d = some (dictOf (rcEs P r') 5)) : JoinPost P up X Y B d r st ln t h v h'

section
variable {X s1 l1 s2 l2 a b c d : Int}
theorem jx (h : 0 < l1) (e : s1 + l1 = s2) : s1 < s2 := e ▸ Int.lt_add_of_pos_right s1 h
theorem jn (e1 : a = X + s1) (e2 : b = l1) (e3 : c = X + s2) (e4 : d = l2) (h1 : 0 < l1) (h2 : 0 < l2) (hs : s2 + l2 ≤ s1 ∨ s1 + l1 ≤ s2) (p : a ≤ c) (q : c + d ≤ a + b) : False := by
  rw [e1, e3] at p
  rcases hs with h | h
  · exact Int.not_lt.mpr (Int.le_of_add_le_add_left p) (Int.lt_of_lt_of_le (Int.lt_add_of_pos_right s2 h2) h)
  · rw [e1, e2, e3, e4, Int.add_assoc X s1] at q
    exact Int.lt_irrefl _ (Int.lt_of_lt_of_le (Int.lt_add_of_pos_right (X + s2) h2) (Int.le_trans q (Int.add_le_add_left h X)))
theorem jo (e1 : a = X + s1) (e2 : b = l1) (e3 : c = X + s2) (e4 : d = l2) (hs : s2 + l2 ≤ s1 ∨ s1 + l1 ≤ s2) (ha : ¬ s2 + l2 = s1) (hb : ¬ s1 + l1 = s2) : c + d < a ∨ a + b < c := by
  rw [e1, e2, e3, e4, Int.add_assoc X s2, Int.add_assoc X s1]
  exact hs.imp (fun h => Int.add_lt_add_left (Int.lt_iff_le_and_ne.mpr ⟨h, ha⟩) X) fun h => Int.add_lt_add_left (Int.lt_iff_le_and_ne.mpr ⟨h, hb⟩) X
theorem ji (e1 : a = X + s1) (e3 : c = X + s2) (e4 : d = l2) (h1 : 0 < l1) (h2 : 0 < l2) (hs : s2 + l2 = s1 ∨ s1 + l1 = s2) : a ≤ c + d := by
  rw [e1, e3, e4, Int.add_assoc X s2]
  exact Int.add_le_add_left (hs.elim (fun h => Int.le_of_eq h.symm) fun h => Int.le_of_lt (Int.lt_trans (jx h1 h) (Int.lt_add_of_pos_right s2 h2))) X
theorem jk (e1 : a = X) (e3 : c = X) (e4 : d = b) (h : 0 < b) : a ≤ c + d := by subst e1 e3 e4; exact Int.le_add_of_nonneg_right (Int.le_of_lt h)
theorem ja (e1 : a = X + s1) (e3 : c = X + s2) (hc : c < a) (h1 : 0 < l1) (hs : s2 + l2 = s1 ∨ s1 + l1 = s2) (n : ¬ s2 + l2 = s1) : c = X + s1 := by
  rw [e1, e3] at hc
  exact absurd (Int.lt_of_add_lt_add_left hc) (Int.lt_asymm (jx h1 (hs.resolve_left n)))
theorem jb (e1 : a = X + s1) (e3 : c = X + s2) (hc : ¬ c < a) (h2 : 0 < l2) (n : s2 + l2 = s1) : a = X + s2 := by
  rw [e1, e3] at hc
  exact absurd (Int.add_lt_add_left (jx h2 n) X) hc
theorem jc (e1 : a = X + s1) (e2 : b = l1) (e3 : c = X + s2) (e4 : d = l2) (h1 : 0 < l1) (h2 : 0 < l2) (hs : s2 + l2 = s1 ∨ s1 + l1 = s2) (p : c < a) (q : c + d > a + b) : c + d - c = l1 + l2 := by
  rw [e1, e3] at p
  rcases hs with h | h
  · rw [e1, e2, e3, e4, Int.add_assoc X s2, h] at q
    exact absurd q (Int.lt_asymm (Int.lt_add_of_pos_right _ h1))
  · exact absurd (Int.lt_of_add_lt_add_left p) (Int.lt_asymm (jx h1 h))
theorem jd (e1 : a = X + s1) (e2 : b = l1) (e3 : c = X + s2) (h1 : 0 < l1) (hs : s2 + l2 = s1 ∨ s1 + l1 = s2) (p : c < a) : a + b - c = l1 + l2 := by
  rw [e1, e3] at p
  rcases hs with h | h
  · rw [e1, e2, e3, ← h]; omega
  · exact absurd (Int.lt_of_add_lt_add_left p) (Int.lt_asymm (jx h1 h))
theorem je (e1 : a = X + s1) (e3 : c = X + s2) (e4 : d = l2) (h2 : 0 < l2) (hs : s2 + l2 = s1 ∨ s1 + l1 = s2) (p : ¬ c < a) : c + d - a = l1 + l2 := by
  rw [e1, e3] at p
  rcases hs with h | h
  · exact absurd (Int.add_lt_add_left (jx h2 h) X) p
  · rw [e1, e3, e4, ← h]; omega
theorem jf (e1 : a = X + s1) (e2 : b = l1) (e3 : c = X + s2) (e4 : d = l2) (h2 : 0 < l2) (hs : s2 + l2 = s1 ∨ s1 + l1 = s2) (p : ¬ c < a) (q : ¬ c + d > a + b) : a + b - a = l1 + l2 := by
  rw [e1, e3] at p
  rcases hs with h | h
  · exact absurd (Int.add_lt_add_left (jx h2 h) X) p
  · rw [e1, e2, e3, e4, ← h, ← Int.add_assoc X s1] at q
    exact absurd (Int.lt_add_of_pos_right _ h2) q
end
noncomputable abbrev rcL (P : Params) (x y w h : Int) (tx ty tw th : Tok) (rid : Value) (k0 k1 k2 k3 k4 : Tok) : List DictEntry :=
  [⟨PyData.keyHash P "width", .str "width" k0, .int w tw⟩, ⟨PyData.keyHash P "height", .str "height" k1, .int h th⟩,
   ⟨PyData.keyHash P "x", .str "x" k2, .int x tx⟩, ⟨PyData.keyHash P "y", .str "y" k3, .int y ty⟩, ⟨PyData.keyHash P "rid", .str "rid" k4, rid⟩]
theorem join_fin {P : Params} {s : Shared} {g h' : Heap} {L' : Addr} {m' : Str → Option Value} {tk : Nat} {a d b e : Addr} {oa ob oe od : Obj} {up : Bool} {X Y B st ln : Int} {r : Rc} {x y w h : Int} {tx ty tw th : Tok} {t : Bool} {G₀ : Heap}
    (hg : g = hideAll s.heap ([(a, oa), (d, od), (b, ob), (e, oe)].map (·.1))) (hC : Has G₀ s.heap [(a, oa), (d, od), (b, ob), (e, oe)]) (F : Fr g L' h' m')
    (N : News g L' h' [(a, oa), (d, dictOf (rcL P x y w h tx ty tw th r.rid (r.k 0) (r.k 1) (r.k 2) (r.k 3) (r.k 4)) 5), (b, ob), (e, oe)])
    (hr : On up X Y B st ln ⟨x, y, w, h, tx, ty, tw, th, r.rid, r.k⟩) : OutI s [d] (JoinPost P up X Y B d r st ln t s.heap) (.bool t) { s with heap := h', toks := tk } := by
  refine OutI.intro hg (fun q hq => (hC q hq).1) F N (fun q hq => ?_) ⟨rfl, ⟨x, y, w, h, tx, ty, tw, th, r.rid, r.k⟩, hr, rfl, (N _ (.tail _ (.head _))).1⟩
  rcases List.mem_cons.mp hq with rfl | hq
  · exact .inr (.head _)
  rcases List.mem_cons.mp hq with rfl | hq
  · exact .inl (.head _)
  · exact .inr (.tail _ (.tail _ hq))

section
variable {w : World} {mean : ExcName → Option Value} {mg mb : Str → Option Value} {loose : List Str} {G₀ : Heap}
/-- what stands for a look at two rectangles -/
noncomputable abbrev rc4 (P : Params) (a d b e : Addr) (r q : Rc) : List (Addr × Obj) := [(a, instObj 203 d), (d, dictOf (rcEs P r) 5), (b, instObj 203 e), (e, dictOf (rcEs P q) 5)]
theorem look_fin {P : Params} {s : Shared} {g h' : Heap} {L' : Addr} {m' : Str → Option Value} {tk : Nat} {a d b e : Addr} {r q : Rc} {G₀ : Heap} {v v' : Value} (hg : g = hideAll s.heap ((rc4 P a d b e r q).map (·.1))) (hC : Has G₀ s.heap (rc4 P a d b e r q)) (F : Fr g L' h' m') (N : News g L' h' (rc4 P a d b e r q)) (hv : v = v') :
    OutI s [] (fun v _ => v = v') v { s with heap := h', toks := tk } := OutI.intro hg (fun q hq => (hC q hq).1) F N (fun _ hq => .inr hq) hv
theorem cont_no (G : Gnd w mean mg mb loose G₀) (a d b e : Addr) (r q : Rc) (hno : ¬ (r.y ≤ q.y ∧ r.x ≤ q.x ∧ q.y + q.h ≤ r.y + r.h ∧ q.x + q.w ≤ r.x + r.w)) :
    CI w G₀ 4 40 177 [.ref a, .ref b] (rc4 w.params a d b e r q) [] (fun _ v _ => v = .bool false) := by
  obtain ⟨KX, T⟩ := G
  intro dp fr gd un s E hd hu hG hC
  refine wpAny_call (code_start KX T hG hC (by k_is) (by k_is) (by k_room) (BindsTo.of_eq rfl) (locs rfl) ?_ rfl rfl rfl (by decide))
  intro g L' h₁ hg F N X' T' hlt
  clear KX T hlt
  dsimp only
  k_fold
  k_steps
  all_goals (first | exact look_fin hg hC (by assumption) (by assumption) rfl | (exfalso; ktu_offL) | (refine look_fin hg hC (by assumption) (by assumption) ?_; simp only [Value.bool.injEq, decide_eq_false_iff_not]; ktu_offL))
/-- a property of a rectangle -/
noncomputable def CP (w : World) (G₀ : Heap) (f x d : Addr) (r : Rc) (v0 : Int) : Prop :=
  ∀ (dp : Nat) (fr : Option (List Env)) (gd : Option (List Code)) (un : Nat) (s : Shared) (R : Result → Shared → Prop), dp + 2 < recursionLimit → un + 20 < cLine → G₀.StaysIn s.heap → Has G₀ s.heap [(x, instObj 203 d), (d, dictOf (rcEs w.params r) 5)] →
    (∀ v s', OutI s [] (fun v _ => ∃ t, v = .int v0 t) v s' → R (.ok (.ret v)) s') → codeAny (model PR w) (AT dp fr gd un) (.call (.ref f) ⟨[.ref x], []⟩) R s
theorem p_bottom (G : Gnd w mean mg mb loose G₀) {x d : Addr} {r : Rc} : CP w G₀ 78 x d r r.y := by
  obtain ⟨KX, T⟩ := G
  intro dp fr gd un s R hd hu hG hC hR
  refine code_start KX T hG hC (by k_is) (by k_is) (by k_room) (BindsTo.of_eq rfl) (locs rfl) ?_ rfl rfl rfl (by decide)
  intro g L' h₁ hg F N X' T' hlt
  clear KX T hlt
  (try dsimp only)
  (with_reducible show wpAny _ _ _ _ _ _)
  k_fold
  k_steps
  exact hR _ _ (OutI.intro hg (fun q hq => (hC q hq).1) (by assumption) (by assumption) (fun _ hq => .inr hq) ⟨_, rfl⟩)
theorem p_top (G : Gnd w mean mg mb loose G₀) {x d : Addr} {r : Rc} : CP w G₀ 86 x d r (r.y + r.h) := by
  obtain ⟨KX, T⟩ := G
  intro dp fr gd un s R hd hu hG hC hR
  refine code_start KX T hG hC (by k_is) (by k_is) (by k_room) (BindsTo.of_eq rfl) (locs rfl) ?_ rfl rfl rfl (by decide)
  intro g L' h₁ hg F N X' T' hlt
  clear KX T hlt
  (try dsimp only)
  (with_reducible show wpAny _ _ _ _ _ _)
  k_fold
  k_steps
  exact hR _ _ (OutI.intro hg (fun q hq => (hC q hq).1) (by assumption) (by assumption) (fun _ hq => .inr hq) ⟨_, rfl⟩)
theorem p_left (G : Gnd w mean mg mb loose G₀) {x d : Addr} {r : Rc} : CP w G₀ 94 x d r r.x := by
  obtain ⟨KX, T⟩ := G
  intro dp fr gd un s R hd hu hG hC hR
  refine code_start KX T hG hC (by k_is) (by k_is) (by k_room) (BindsTo.of_eq rfl) (locs rfl) ?_ rfl rfl rfl (by decide)
  intro g L' h₁ hg F N X' T' hlt
  clear KX T hlt
  (try dsimp only)
  (with_reducible show wpAny _ _ _ _ _ _)
  k_fold
  k_steps
  exact hR _ _ (OutI.intro hg (fun q hq => (hC q hq).1) (by assumption) (by assumption) (fun _ hq => .inr hq) ⟨_, rfl⟩)
theorem p_right (G : Gnd w mean mg mb loose G₀) {x d : Addr} {r : Rc} : CP w G₀ 102 x d r (r.x + r.w) := by
  obtain ⟨KX, T⟩ := G
  intro dp fr gd un s R hd hu hG hC hR
  refine code_start KX T hG hC (by k_is) (by k_is) (by k_room) (BindsTo.of_eq rfl) (locs rfl) ?_ rfl rfl rfl (by decide)
  intro g L' h₁ hg F N X' T' hlt
  clear KX T hlt
  (try dsimp only)
  (with_reducible show wpAny _ _ _ _ _ _)
  k_fold
  k_steps
  exact hR _ _ (OutI.intro hg (fun q hq => (hC q hq).1) (by assumption) (by assumption) (fun _ hq => .inr hq) ⟨_, rfl⟩)
theorem prop_ask {A : Around} {dp un : Nat} {fr : Option (List Env)} {gd : Option (List Code)} {f x d : Addr} {r : Rc} {v0 : Int} (C : CP w G₀ f x d r v0) {s : Shared} {g : Heap} {L : Addr} {m : Str → Option Value} {news : List (Addr × Obj)} {R : Result → Shared → Prop} (F : Fr g L s.heap m) (N : News g L s.heap news) (hG : G₀.StaysIn g)
    (hx : (x, instObj 203 d) ∈ news) (hd : (d, dictOf (rcEs w.params r) 5) ∈ news) (hA : A = AT dp fr gd un) (h1 : dp + 2 < recursionLimit) (h2 : un + 20 < cLine) (h : ∀ h' tk t, Fr g L h' m → News g L h' news → R (.ok (.ret (.int v0 t))) { s with heap := h', toks := tk }) :
    codeAny (model PR w) A (.call (.ref f) ⟨[.ref x], []⟩) R s := by
  subst hA
  refine C dp fr gd un s R h1 h2 (fun b o e => F.keep b o (hG b o e)) (List.forall_mem_cons.mpr ⟨⟨(N _ hx).1, off_base hG (N _ hx).2.2⟩, List.forall_mem_cons.mpr ⟨⟨(N _ hd).1, off_base hG (N _ hd).2.2⟩, List.forall_mem_nil _⟩⟩) (fun v s' ho => ?_)
  obtain ⟨h', tk, rfl, kp, t, rfl⟩ := ho
  exact h h' tk t ⟨F.ns.at' fun o e => kp _ _ (fun q => nomatch q) e, fun b o e => kp b o (fun q => nomatch q) (F.keep b o e), F.above⟩ fun q hq => ⟨kp _ _ (fun q => nomatch q) (N q hq).1, (N q hq).2⟩
local macro_rules | `(tactic| kst_all1) => `(tactic| (first | ktu_offL | (dsimp only [Around.deeper, Around.in1]; ktu_offL)))
local macro_rules | `(tactic| walk_at "getAttr ref") => `(tactic| (k_here; k_dflt (apply get_prop; k_asm; k_asm; k_inst; k_is; k_is; k_is; k_is; k_is; k_is; k_whole; apply Mine.prop_ask; ctx_mentions Mine.p_bottom Mine.p_top Mine.p_left Mine.p_right; k_asm; k_asm; assumption; walk_at "mem"; walk_at "mem"; exact rfl; kst_all1; kst_all1); intros; (try dsimp only); (try (refine handed_on rfl ?_; try dsimp only))))
theorem inter_yes (G : Gnd w mean mg mb loose G₀) (a d b e : Addr) (r q : Rc) (h1 : r.y ≤ q.y + q.h) (h2 : q.y ≤ r.y + r.h) (h3 : r.x ≤ q.x + q.w) (h4 : q.x ≤ r.x + r.w) :
    ∀ (dp : Nat) (fr : Option (List Env)) (gd : Option (List Code)) (un : Nat) (s : Shared) (E : Value → Shared → Prop), dp + 8 < recursionLimit → un + 80 < cLine → G₀.StaysIn s.heap → Has G₀ s.heap (rc4 w.params a d b e r q) →
      wpAny (model PR w) (AT dp fr gd un) (call (.ref 185) [.ref a, .ref b] [(Str.ofString "edges", .bool true)]) (OutI s [] (fun v _ => v = .bool true)) E s := by
  have GT := G
  obtain ⟨KX, T⟩ := G
  intro dp fr gd un s E hd hu hG hC
  have KXs := KX.keeps hG
  refine wpAny_call (code_start KX T hG hC (by k_is) (by k_is) (by k_room) (binds_K KXs rfl (by k_is) rfl rfl rfl) (locs rfl) ?_ rfl rfl rfl (by decide))
  intro g L' h₁ hg F N X' T' hlt
  have hGg : G₀.StaysIn g := by
    rw [hg]
    exact stays_hideAll hG fun b hb => by obtain ⟨q, hq, rfl⟩ := List.mem_map.mp hb; exact (hC q hq).2
  have F : Fr g L' h₁ (fun y => List.lookup y [(Str.ofString "edges", Value.bool true), (Str.ofString "rect", Value.ref b), (Str.ofString "self", Value.ref a)]) := F
  clear KX KXs T hlt
  (try dsimp only)
  (with_reducible show wpAny _ _ _ _ _ _)
  k_fold
  k_steps
  all_goals exact look_fin hg hC (by assumption) (by assumption) rfl
theorem inter_no (G : Gnd w mean mg mb loose G₀) (a d b e : Addr) (r q : Rc) (hno : q.y + q.h < r.y ∨ r.y + r.h < q.y ∨ q.x + q.w < r.x ∨ r.x + r.w < q.x) :
    ∀ (dp : Nat) (fr : Option (List Env)) (gd : Option (List Code)) (un : Nat) (s : Shared) (E : Value → Shared → Prop), dp + 8 < recursionLimit → un + 80 < cLine → G₀.StaysIn s.heap → Has G₀ s.heap (rc4 w.params a d b e r q) →
      wpAny (model PR w) (AT dp fr gd un) (call (.ref 185) [.ref a, .ref b] [(Str.ofString "edges", .bool true)]) (OutI s [] (fun v _ => v = .bool false)) E s := by
  have GT := G
  obtain ⟨KX, T⟩ := G
  intro dp fr gd un s E hd hu hG hC
  have KXs := KX.keeps hG
  refine wpAny_call (code_start KX T hG hC (by k_is) (by k_is) (by k_room) (binds_K KXs rfl (by k_is) rfl rfl rfl) (locs rfl) ?_ rfl rfl rfl (by decide))
  intro g L' h₁ hg F N X' T' hlt
  have hGg : G₀.StaysIn g := by
    rw [hg]
    exact stays_hideAll hG fun b hb => by obtain ⟨q, hq, rfl⟩ := List.mem_map.mp hb; exact (hC q hq).2
  have F : Fr g L' h₁ (fun y => List.lookup y [(Str.ofString "edges", Value.bool true), (Str.ofString "rect", Value.ref b), (Str.ofString "self", Value.ref a)]) := F
  clear KX KXs T hlt
  (try dsimp only)
  (with_reducible show wpAny _ _ _ _ _ _)
  k_fold
  k_steps
  all_goals exact look_fin hg hC (by assumption) (by assumption) rfl

theorem ask_of {M : Model} {A : Around} {s : Shared} {g : Heap} {L : Addr} {m : Str → Option Value} {conc : List (Addr × Obj)} {v0 : Value} {t : Sem Value} {Q E : Value → Shared → Prop} (F : Fr g L s.heap m) (N : News g L s.heap conc) (h : wpAny M A t (OutI s [] (fun v _ => v = v0)) E s)
    (k : ∀ h' tk, Fr g L h' m → News g L h' conc → Q v0 { s with heap := h', toks := tk }) : wpAny M A t Q E s :=
  wpAny_mono h (fun v s' ho => by
    obtain ⟨h', tk, rfl, kp, rfl⟩ := ho
    exact k h' tk ⟨F.ns.at' fun o e => kp _ _ (fun q => nomatch q) e, fun b o e => kp b o (fun q => nomatch q) (F.keep b o e), F.above⟩ fun q hq => ⟨kp _ _ (fun q => nomatch q) (N q hq).1, (N q hq).2⟩) fun _ _ x => x
theorem join_off (G : Gnd w mean mg mb loose G₀) (a d b e : Addr) (r q : Rc) (c1 : ¬ (r.y ≤ q.y ∧ r.x ≤ q.x ∧ q.y + q.h ≤ r.y + r.h ∧ q.x + q.w ≤ r.x + r.w)) (c2 : ¬ (q.y ≤ r.y ∧ q.x ≤ r.x ∧ r.y + r.h ≤ q.y + q.h ∧ r.x + r.w ≤ q.x + q.w))
    (hno : q.y + q.h < r.y ∨ r.y + r.h < q.y ∨ q.x + q.w < r.x ∨ r.x + r.w < q.x) :
    CI w G₀ 10 100 200 [.ref a, .ref b] (rc4 w.params a d b e r q) [d] (fun _ v h' => v = .bool false ∧ h'.get? d = some (dictOf (rcEs w.params r) 5)) := by
  have zS0 : Mine.StopAt 177 := ⟨trivial⟩
  have zS1 : Mine.StopAt 185 := ⟨trivial⟩
  have GT := G
  obtain ⟨KX, T⟩ := G
  intro dp fr gd un s E hd hu hG hC
  refine wpAny_call (code_start KX T hG hC (by k_is) (by k_is) (by k_room) (BindsTo.of_eq rfl) (locs rfl) ?_ rfl rfl rfl (by decide))
  intro g L' h₁ hg F N X' T' hlt
  have hGg : G₀.StaysIn g := by
    rw [hg]
    exact stays_hideAll hG fun b hb => by obtain ⟨q, hq, rfl⟩ := List.mem_map.mp hb; exact (hC q hq).2
  have o1 : ∀ p ∈ rc4 w.params a d b e r q, G₀.get? p.1 = none := fun p hp => (hC p hp).2
  have F : Fr g L' h₁ (fun y => List.lookup y [(Str.ofString "other", Value.ref b), (Str.ofString "self", Value.ref a)]) := F
  clear KX T hlt
  (try dsimp only)
  (with_reducible show wpAny _ _ _ _ _ _)
  k_fold
  k_steps
  refine Halt.mk ?_
  (with_reducible rename Fr _ _ _ _ => F1)
  (with_reducible rename News _ _ _ _ => N1)
  refine ask_of F1 N1 (cont_no GT a d b e r q c1 (dp + 1) _ _ (un + 3) _ _ (by ktu_offL) (by ktu_offL) (fun b o e => F1.keep b o (hGg b o e)) (fun q hq => ⟨(N1 q hq).1, o1 q hq⟩)) (fun h2 tk2 F2 N2 => ?_)
  clear F1 N1
  k_steps
  refine Halt.mk ?_
  (with_reducible rename Fr _ _ _ _ => F1)
  (with_reducible rename News _ _ _ _ => N1)
  have sw : ∀ y ∈ rc4 w.params b e a d q r, y ∈ rc4 w.params a d b e r q := by walk_at "sub"
  refine ask_of F1 N1 (cont_no GT b e a d q r c2 (dp + 1) _ _ (un + 3) _ _ (by ktu_offL) (by ktu_offL) (fun b o e => F1.keep b o (hGg b o e)) (fun q hq => ⟨(N1 q (sw q hq)).1, o1 q (sw q hq)⟩)) (fun h2 tk2 F2 N2 => ?_)
  clear F1 N1
  k_steps
  refine Halt.mk ?_
  (with_reducible rename Fr _ _ _ _ => F1)
  (with_reducible rename News _ _ _ _ => N1)
  refine ask_of F1 N1 (inter_no GT a d b e r q hno (dp + 1) _ _ (un + 3) _ _ (by ktu_offL) (by ktu_offL) (fun b o e => F1.keep b o (hGg b o e)) (fun q hq => ⟨(N1 q hq).1, o1 q hq⟩)) (fun h2 tk2 F2 N2 => ?_)
  clear F1 N1
  k_steps
  (with_reducible rename Fr _ _ _ _ => F1)
  (with_reducible rename News _ _ _ _ => N1)
  exact OutI.intro hg (fun q hq => (hC q hq).1) F1 N1 (fun _ hq => .inr hq) ⟨rfl, (N1 _ (.tail _ (.head _))).1⟩
theorem join_up (G : Gnd w mean mg mb loose G₀) (a d b e : Addr) (r q : Rc) (X Y B s1 l1 s2 l2 : Int) (hr : On true X Y B s1 l1 r) (hq : On true X Y B s2 l2 q) (h1 : 0 < l1) (h2 : 0 < l2) (h3 : 0 < B) (hs : s2 + l2 = s1 ∨ s1 + l1 = s2) (had : @Ne Nat a d) (hbd : @Ne Nat b d) (hed : @Ne Nat e d) :
    CI w G₀ 10 100 200 [.ref a, .ref b] (rc4 w.params a d b e r q) [d] (JoinPost w.params true X Y B d r (if s2 + l2 = s1 then s2 else s1) (l1 + l2) true) := by
  have zS0 : Mine.StopAt 177 := ⟨trivial⟩
  have zS1 : Mine.StopAt 185 := ⟨trivial⟩
  have GT := G
  obtain ⟨r1, r2, r3, r4⟩ := hr
  obtain ⟨q1, q2, q3, q4⟩ := hq
  have hs' : s2 + l2 ≤ s1 ∨ s1 + l1 ≤ s2 := hs.imp Int.le_of_eq Int.le_of_eq
  obtain ⟨KX, T⟩ := G
  intro dp fr gd un s E hd hu hG hC
  refine wpAny_call (code_start KX T hG hC (by k_is) (by k_is) (by k_room) (BindsTo.of_eq rfl) (locs rfl) ?_ rfl rfl rfl (by decide))
  intro g L' h₁ hg F N X' T' hlt
  have hGg : G₀.StaysIn g := by
    rw [hg]
    exact stays_hideAll hG fun b hb => by obtain ⟨q, hq, rfl⟩ := List.mem_map.mp hb; exact (hC q hq).2
  have o1 : ∀ p ∈ rc4 w.params a d b e r q, G₀.get? p.1 = none := fun p hp => (hC p hp).2
  have F : Fr g L' h₁ (fun y => List.lookup y [(Str.ofString "other", Value.ref b), (Str.ofString "self", Value.ref a)]) := F
  clear KX T hlt
  (try dsimp only)
  (with_reducible show wpAny _ _ _ _ _ _)
  k_fold
  k_steps
  refine Halt.mk ?_
  (with_reducible rename Fr _ _ _ _ => F1)
  (with_reducible rename News _ _ _ _ => N1)
  refine ask_of F1 N1 (cont_no GT a d b e r q (fun h => jn r2 r4 q2 q4 h1 h2 hs' h.1 h.2.2.1) (dp + 1) _ _ (un + 3) _ _ (by ktu_offL) (by ktu_offL) (fun b o e => F1.keep b o (hGg b o e)) (fun q hq => ⟨(N1 q hq).1, o1 q hq⟩)) (fun hx tk2 F2 N2 => ?_)
  clear F1 N1
  k_steps
  refine Halt.mk ?_
  (with_reducible rename Fr _ _ _ _ => F1)
  (with_reducible rename News _ _ _ _ => N1)
  have sw : ∀ y ∈ rc4 w.params b e a d q r, y ∈ rc4 w.params a d b e r q := by walk_at "sub"
  refine ask_of F1 N1 (cont_no GT b e a d q r (fun h => jn q2 q4 r2 r4 h2 h1 hs'.symm h.1 h.2.2.1) (dp + 1) _ _ (un + 3) _ _ (by ktu_offL) (by ktu_offL) (fun b o e => F1.keep b o (hGg b o e)) (fun q hq => ⟨(N1 q (sw q hq)).1, o1 q (sw q hq)⟩)) (fun hx tk2 F2 N2 => ?_)
  clear F1 N1
  k_steps
  refine Halt.mk ?_
  (with_reducible rename Fr _ _ _ _ => F1)
  (with_reducible rename News _ _ _ _ => N1)
  refine ask_of F1 N1 (inter_yes GT a d b e r q (ji r2 q2 q4 h1 h2 hs) (ji q2 r2 r4 h2 h1 hs.symm) (jk r1 q1 q3 h3) (jk q1 r1 r3 h3) (dp + 1) _ _ (un + 3) _ _ (by ktu_offL) (by ktu_offL) (fun b o e => F1.keep b o (hGg b o e)) (fun q hq => ⟨(N1 q hq).1, o1 q hq⟩)) (fun hx tk2 F2 N2 => ?_)
  clear F1 N1
  k_steps
  all_goals (refine join_fin hg hC (by assumption) (by assumption) ⟨?_, ?_, ?_, ?_⟩ <;> (try dsimp only) <;> (repeat' split) <;> first | with_reducible assumption | with_reducible exact ja r2 q2 (by with_reducible assumption) h1 hs (by with_reducible assumption) | with_reducible exact jb r2 q2 (by with_reducible assumption) h2 (by with_reducible assumption) | with_reducible exact jc r2 r4 q2 q4 h1 h2 hs (by with_reducible assumption) (by with_reducible assumption) | with_reducible exact jd r2 r4 q2 h1 hs (by with_reducible assumption) | with_reducible exact je r2 q2 q4 h2 hs (by with_reducible assumption) | with_reducible exact jf r2 r4 q2 q4 h2 hs (by with_reducible assumption) (by with_reducible assumption) | ktu_offL)
theorem join_side (G : Gnd w mean mg mb loose G₀) (a d b e : Addr) (r q : Rc) (X Y B s1 l1 s2 l2 : Int) (hr : On false X Y B s1 l1 r) (hq : On false X Y B s2 l2 q) (h1 : 0 < l1) (h2 : 0 < l2) (h3 : 0 < B) (hs : s2 + l2 = s1 ∨ s1 + l1 = s2) (had : @Ne Nat a d) (hbd : @Ne Nat b d) (hed : @Ne Nat e d) :
    CI w G₀ 10 100 200 [.ref a, .ref b] (rc4 w.params a d b e r q) [d] (JoinPost w.params false X Y B d r (if s2 + l2 = s1 then s2 else s1) (l1 + l2) true) := by
  have zS0 : Mine.StopAt 177 := ⟨trivial⟩
  have zS1 : Mine.StopAt 185 := ⟨trivial⟩
  have GT := G
  obtain ⟨r1, r2, r3, r4⟩ := hr
  obtain ⟨q1, q2, q3, q4⟩ := hq
  have hs' : s2 + l2 ≤ s1 ∨ s1 + l1 ≤ s2 := hs.imp Int.le_of_eq Int.le_of_eq
  obtain ⟨KX, T⟩ := G
  intro dp fr gd un s E hd hu hG hC
  refine wpAny_call (code_start KX T hG hC (by k_is) (by k_is) (by k_room) (BindsTo.of_eq rfl) (locs rfl) ?_ rfl rfl rfl (by decide))
  intro g L' h₁ hg F N X' T' hlt
  have hGg : G₀.StaysIn g := by
    rw [hg]
    exact stays_hideAll hG fun b hb => by obtain ⟨q, hq, rfl⟩ := List.mem_map.mp hb; exact (hC q hq).2
  have o1 : ∀ p ∈ rc4 w.params a d b e r q, G₀.get? p.1 = none := fun p hp => (hC p hp).2
  have F : Fr g L' h₁ (fun y => List.lookup y [(Str.ofString "other", Value.ref b), (Str.ofString "self", Value.ref a)]) := F
  clear KX T hlt
  (try dsimp only)
  (with_reducible show wpAny _ _ _ _ _ _)
  k_fold
  k_steps
  refine Halt.mk ?_
  (with_reducible rename Fr _ _ _ _ => F1)
  (with_reducible rename News _ _ _ _ => N1)
  refine ask_of F1 N1 (cont_no GT a d b e r q (fun h => jn r1 r3 q1 q3 h1 h2 hs' h.2.1 h.2.2.2) (dp + 1) _ _ (un + 3) _ _ (by ktu_offL) (by ktu_offL) (fun b o e => F1.keep b o (hGg b o e)) (fun q hq => ⟨(N1 q hq).1, o1 q hq⟩)) (fun hx tk2 F2 N2 => ?_)
  clear F1 N1
  k_steps
  refine Halt.mk ?_
  (with_reducible rename Fr _ _ _ _ => F1)
  (with_reducible rename News _ _ _ _ => N1)
  have sw : ∀ y ∈ rc4 w.params b e a d q r, y ∈ rc4 w.params a d b e r q := by walk_at "sub"
  refine ask_of F1 N1 (cont_no GT b e a d q r (fun h => jn q1 q3 r1 r3 h2 h1 hs'.symm h.2.1 h.2.2.2) (dp + 1) _ _ (un + 3) _ _ (by ktu_offL) (by ktu_offL) (fun b o e => F1.keep b o (hGg b o e)) (fun q hq => ⟨(N1 q (sw q hq)).1, o1 q (sw q hq)⟩)) (fun hx tk2 F2 N2 => ?_)
  clear F1 N1
  k_steps
  refine Halt.mk ?_
  (with_reducible rename Fr _ _ _ _ => F1)
  (with_reducible rename News _ _ _ _ => N1)
  refine ask_of F1 N1 (inter_yes GT a d b e r q (jk r2 q2 q4 h3) (jk q2 r2 r4 h3) (ji r1 q1 q3 h1 h2 hs) (ji q1 r1 r3 h2 h1 hs.symm) (dp + 1) _ _ (un + 3) _ _ (by ktu_offL) (by ktu_offL) (fun b o e => F1.keep b o (hGg b o e)) (fun q hq => ⟨(N1 q hq).1, o1 q hq⟩)) (fun hx tk2 F2 N2 => ?_)
  clear F1 N1
  k_steps
  all_goals (refine join_fin hg hC (by assumption) (by assumption) ⟨?_, ?_, ?_, ?_⟩ <;> (try dsimp only) <;> (repeat' split) <;> first | with_reducible assumption | with_reducible exact ja r1 q1 (by with_reducible assumption) h1 hs (by with_reducible assumption) | with_reducible exact jb r1 q1 (by with_reducible assumption) h2 (by with_reducible assumption) | with_reducible exact jc r1 r3 q1 q3 h1 h2 hs (by with_reducible assumption) (by with_reducible assumption) | with_reducible exact jd r1 r3 q1 h1 hs (by with_reducible assumption) | with_reducible exact je r1 q1 q3 h2 hs (by with_reducible assumption) | with_reducible exact jf r1 r3 q1 q3 h2 hs (by with_reducible assumption) (by with_reducible assumption) | ktu_offL)
end
end Mine

namespace Mine
section
variable {w : World} {mean : ExcName → Option Value} {mg mb : Str → Option Value} {loose : List Str} {G₀ : Heap}
/-- join of two rectangles that lie apart on one line -/
theorem join_c (G : Gnd w mean mg mb loose G₀) (a d b e : Addr) (r q : Rc) (up : Bool) (X Y B s1 l1 s2 l2 : Int) (hr : On up X Y B s1 l1 r) (hq : On up X Y B s2 l2 q) (h1 : 0 < l1) (h2 : 0 < l2) (h3 : 0 < B)
    (hs : s2 + l2 ≤ s1 ∨ s1 + l1 ≤ s2) (had : @Ne Nat a d) (hbd : @Ne Nat b d) (hed : @Ne Nat e d) :
    CI w G₀ 10 100 200 [.ref a, .ref b] [(a, instObj 203 d), (d, dictOf (rcEs w.params r) 5), (b, instObj 203 e), (e, dictOf (rcEs w.params q) 5)] [d]
      (JoinPost w.params up X Y B d r (mst s1 l1 s2 l2) (mln s1 l1 s2 l2) (touch s1 l1 s2 l2)) := by
  by_cases ht : s2 + l2 = s1 ∨ s1 + l1 = s2
  · have e1 : touch s1 l1 s2 l2 = true := by
      unfold touch
      rcases ht with h | h
      · rw [decide_eq_true h]; rfl
      · rw [decide_eq_true h, Bool.or_true]
    have e3 : mln s1 l1 s2 l2 = l1 + l2 := by unfold mln; rw [if_pos e1]
    rw [e1, e3]
    cases up
    · exact join_side G a d b e r q X Y B s1 l1 s2 l2 hr hq h1 h2 h3 ht had hbd hed
    · exact join_up G a d b e r q X Y B s1 l1 s2 l2 hr hq h1 h2 h3 ht had hbd hed
  have ha : ¬ s2 + l2 = s1 := fun h => ht (.inl h)
  have hb : ¬ s1 + l1 = s2 := fun h => ht (.inr h)
  have e1 : touch s1 l1 s2 l2 = false := by unfold touch; rw [decide_eq_false ha, decide_eq_false hb]; rfl
  have e2 : mst s1 l1 s2 l2 = s1 := if_neg ha
  have e3 : mln s1 l1 s2 l2 = l1 := by unfold mln; rw [e1]; rfl
  rw [e1, e2, e3]
  have J : CI w G₀ 10 100 200 [.ref a, .ref b] (rc4 w.params a d b e r q) [d] (fun _ v h' => v = .bool false ∧ h'.get? d = some (dictOf (rcEs w.params r) 5)) := by
    cases up
    · obtain ⟨r1, r2, r3, r4⟩ := hr
      obtain ⟨q1, q2, q3, q4⟩ := hq
      exact join_off G a d b e r q (fun h => jn r1 r3 q1 q3 h1 h2 hs h.2.1 h.2.2.2) (fun h => jn q1 q3 r1 r3 h2 h1 hs.symm h.2.1 h.2.2.2) (.inr (.inr (jo r1 r3 q1 q3 hs ha hb)))
    · obtain ⟨r1, r2, r3, r4⟩ := hr
      obtain ⟨q1, q2, q3, q4⟩ := hq
      exact join_off G a d b e r q (fun h => jn r2 r4 q2 q4 h1 h2 hs h.1 h.2.2.1) (fun h => jn q2 q4 r2 r4 h2 h1 hs.symm h.1 h.2.2.1) ((jo r2 r4 q2 q4 hs ha hb).elim .inl fun z => .inr (.inl z))
  intro dp fr gd un s E hd hu hG hC
  refine wpAny_mono (J dp fr gd un s E hd hu hG hC) (fun v s' ho => ?_) fun _ _ x => x
  obtain ⟨h', tk, rfl, kp, hv, hd'⟩ := ho
  exact ⟨h', tk, rfl, kp, hv, r, hr, rfl, hd'⟩
end
end Mine

namespace Mine
section
variable {prog : Program} {w : World} {A : Around} {E : Value → Shared → Prop} {R : Result → Shared → Prop} {s : Shared}

theorem comp_turns {elt target iter : Expr} {ifs : List Expr} {scope : Scope} {pos : Pos} {it acc : Value} {env : Env} (I : Nat → Shared → Prop)
    (turn : ∀ n s, I n s → wpAny (model prog w) A (pyNext it) (fun r s₁ => match r with
      | none => R (.ok .next) s₁
      | some v => wpAny (model prog w) A (letOwnedTupleGo target it v) (fun _ s₀ => wpAny (model prog w) A (assign target env v) (fun _ s₂ =>
          wpAny (model prog w) A (forIn ifs true fun c r => if r = true then do let ok ← isTrue c env (eval c env); pure (ForInStep.yield ok) else pure (ForInStep.yield r)) (fun ok s₃ =>
            if ok = true then wpAny (model prog w) A (eval elt env) (fun x s₄ =>
              wpAny (model prog w) A (call (.builtin "list.append") [acc, x]) (fun _ s₅ => ∃ m, m < n ∧ I m s₅) (notedBy (model prog w) A env fun e s' => R (.error e) s') s₄) (notedBy (model prog w) A env fun e s' => R (.error e) s') s₃
            else ∃ m, m < n ∧ I m s₃) (notedBy (model prog w) A env fun e s' => R (.error e) s') s₂) (notedBy (model prog w) A env fun e s' => R (.error e) s') s₀) (notedBy (model prog w) A env fun e s' => R (.error e) s') s₁) (notedBy (model prog w) A env fun e s' => R (.error e) s') s)
    (n : Nat) (h : I n s) :
    codeAny (model prog w) A (.compLoop (.ListComp elt [⟨target, iter, ifs, 0⟩] scope pos) 0 it acc env) R s := by
  refine codeAny_loop rfl I (fun n s hI => ?_) n h
  show wpAny _ A ((compTurn (.ListComp elt [⟨target, iter, ifs, 0⟩] scope pos) 0 it acc env).onRaise (fun x => do noteFrame x env; theTreesLotGoes x)) _ _ s
  refine wpAny_noted ?_
  rw [compTurn_list]
  refine wpAny_bind (wpAny_standAt (wpAny_bind (wpAny_mono (turn n s hI) (fun r s₁ h₁ => ?_) fun _ _ x => x)))
  cases r with
  | none => exact wpAny_pure h₁
  | some v =>
    refine wpAny_bind (wpAny_mono h₁ (fun _ s₀ h₀ => wpAny_bind (wpAny_mono h₀ (fun _ s₂ h₂ => wpAny_bind (wpAny_mono h₂ (fun ok s₃ h₃ => ?_) fun _ _ x => x)) fun _ _ x => x)) fun _ _ x => x)
    cases ok with
    | false => exact wpAny_pure ⟨rfl, h₃⟩
    | true => exact wpAny_bind (wpAny_bind (wpAny_mono h₃ (fun x s₄ h₄ => wpAny_bind (wpAny_mono h₄ (fun _ s₅ h₅ => wpAny_pure (wpAny_pure ⟨rfl, h₅⟩)) fun _ _ x => x)) fun _ _ x => x))

theorem adr_ne {a b : Addr} (h : @LT.lt Nat _ a b ∨ @LT.lt Nat _ b a) : a ≠ b := fun e => by subst e; rcases h with h | h <;> exact Nat.lt_irrefl _ h

/-- only heap and toks turn -/
noncomputable def Like (s s' : Shared) : Prop := ∃ h tk, s' = { s with heap := h, toks := tk }
theorem Like.refl (s : Shared) : Like s s := ⟨_, _, rfl⟩
theorem Like.trans {s s' s'' : Shared} (x : Like s s') (y : Like s' s'') : Like s s'' := by
  obtain ⟨h, tk, rfl⟩ := x
  obtain ⟨h', tk', rfl⟩ := y
  exact ⟨h', tk', rfl⟩
theorem Like.mk {s : Shared} (h : Heap) (tk : Nat) : Like s { s with heap := h, toks := tk } := ⟨h, tk, rfl⟩

/-- what one turn of a comprehension does: its own frame at C and the addresses Du may turn -/
noncomputable def Turn (C : Addr) (Du : List Addr) (s s' : Shared) : Prop := Like s s' ∧ Keep (C :: Du) s.heap s'.heap ∧ ∃ m, s'.heap.Ns C m

inductive CompI (items : Array Value) (Ia ax D : Addr) (cenv : Env) (Inv : Nat → List Value → Shared → Prop) (s : Shared) (n : Nat) (s' : Shared) : Prop
  | mk (i : Nat) (acc : List Value) (e : n = items.size + 1 - i) (hi : i ≤ items.size) (hacc : acc.length ≤ i) (hit : s'.heap.IsListIter Ia ax i) (hl : s'.heap.IsList ax items) (hD : s'.heap.PlainList D acc.toArray) (hn : ∃ m, s'.heap.Ns cenv.locals m) (hinv : Inv i acc s') (hlk : Like s s') : CompI items Ia ax D cenv Inv s n s'
theorem comp_list {elt target iter : Expr} {ifs : List Expr} {scope : Scope} {pos : Pos} {Ia ax D : Addr} {items : Array Value} {cenv : Env} {Du : List Addr} (Inv : Nat → List Value → Shared → Prop)
    (hh : A.handled = none) (hne : ax ≠ Ia) (hDI : D ≠ Ia) (hDax : D ≠ ax) (hCI : cenv.locals ≠ Ia) (hCD : cenv.locals ≠ D) (hCax : cenv.locals ≠ ax) (hDu : ∀ d ∈ Du, d ≠ Ia ∧ d ≠ ax ∧ d ≠ D) (hsz : items.size ≤ sizeLine)
    (stab : ∀ i acc (s : Shared) h' tk', Inv i acc s → Keep [Ia, D, cenv.locals] s.heap h' → Inv i acc { s with heap := h', toks := tk' })
    (turn : ∀ i v acc (s : Shared) (E' : Value → Shared → Prop), items[i]? = some v → (∃ m, s.heap.Ns cenv.locals m) → s.heap.IsListIter Ia ax (i + 1) → Inv i acc s →
      wpAny (model prog w) A (letOwnedTupleGo target (.ref Ia) v) (fun _ s₀ => wpAny (model prog w) A (assign target cenv v) (fun _ s₁ =>
        wpAny (model prog w) A (forIn ifs true fun c r => if r = true then do let ok ← isTrue c cenv (eval c cenv); pure (ForInStep.yield ok) else pure (ForInStep.yield r)) (fun ok s₂ =>
          if ok = true then wpAny (model prog w) A (eval elt cenv) (fun y s₃ => Turn cenv.locals Du s s₃ ∧ Inv (i + 1) (acc ++ [y]) s₃) E' s₂ else Turn cenv.locals Du s s₂ ∧ Inv (i + 1) acc s₂) E' s₁) E' s₀) E' s)
    (hit : s.heap.IsListIter Ia ax 0) (hl : s.heap.IsList ax items) (hD : s.heap.PlainList D #[]) (hn : ∃ m, s.heap.Ns cenv.locals m) (h0 : Inv 0 [] s)
    (done : ∀ acc s', Inv items.size acc s' → s'.heap.PlainList D acc.toArray → (∃ m, s'.heap.Ns cenv.locals m) → Like s s' → R (.ok .next) s') :
    codeAny (model prog w) A (.compLoop (.ListComp elt [⟨target, iter, ifs, 0⟩] scope pos) 0 (.ref Ia) (.ref D) cenv) R s := by
  refine comp_turns (fun n s' => CompI items Ia ax D cenv Inv s n s')
    (fun n s' hI => ?_) (items.size + 1) ⟨0, [], rfl, Nat.zero_le _, Nat.le_refl _, hit, hl, hD, hn, h0, Like.refl s⟩
  obtain ⟨i, acc, rfl, hi, hacc, hit', hl', hD', hn', hinv, hlk⟩ := hI
  by_cases hlt : i < items.size
  · refine wpAny_pyNext_list_item hit' hl' (x := items[i]) (by simp [hlt]) fun h₁ hit₁ hs₁ => ?_
    have k₁ : Keep [Ia, D, cenv.locals] s'.heap h₁ := fun b o hb e => hs₁.extBut b o (fun q => hb (by simp [q])) e
    have inv₁ := stab i acc s' h₁ s'.toks hinv k₁
    have hn₁ : ∃ m, h₁.Ns cenv.locals m := let ⟨m, x⟩ := hn'; ⟨m, x.at' fun o e => hs₁.extBut _ o hCI e⟩
    refine wpAny_mono (turn i items[i] acc { s' with heap := h₁ } _ (by simp [hlt]) hn₁ hit₁ inv₁) (fun _ s₀ h₀ => wpAny_mono h₀ (fun _ s₂ h₂ => wpAny_mono h₂ (fun ok s₃ h₃ => ?_) fun _ _ x => x) fun _ _ x => x) fun _ _ x => x
    have fin : ∀ s₄ : Shared, Turn cenv.locals Du { s' with heap := h₁ } s₄ → s₄.heap.IsListIter Ia ax (i + 1) ∧ s₄.heap.IsList ax items ∧ s₄.heap.PlainList D acc.toArray ∧ (∃ m, s₄.heap.Ns cenv.locals m) ∧ Like s s₄ := by
      rintro s₄ ⟨l₄, k₄, n₄⟩
      have away : ∀ b, b ≠ cenv.locals → (∀ d ∈ Du, d ≠ b) → b ∉ cenv.locals :: Du := fun b h1 h2 hm => by
        rcases List.mem_cons.mp hm with e | hm
        · exact h1 e
        · exact h2 b hm rfl
      refine ⟨hit₁.at fun o e => k₄ _ o (away _ (Ne.symm hCI) fun d hd => (hDu d hd).1) e, (hl'.at fun o e => hs₁.extBut _ o hne e).at fun o e => k₄ _ o (away _ (Ne.symm hCax) fun d hd => (hDu d hd).2.1) e,
        (hD'.at fun o e => hs₁.extBut _ o hDI e).at fun o e => k₄ _ o (away _ (Ne.symm hCD) fun d hd => (hDu d hd).2.2) e, n₄, ?_⟩
      exact hlk.trans (Like.trans ⟨h₁, s'.toks, rfl⟩ l₄)
    cases ok with
    | false =>
      simp only [Bool.false_eq_true, if_false] at h₃ ⊢
      obtain ⟨t, v⟩ := h₃
      obtain ⟨a1, a2, a3, a4, a5⟩ := fin s₃ t
      exact ⟨items.size + 1 - (i + 1), dec1 hlt, i + 1, acc, rfl, hlt, by ktu_offL, a1, a2, a3, a4, v, a5⟩
    | true =>
      simp only [if_true] at h₃ ⊢
      refine wpAny_mono h₃ (fun y s₄ h₄ => ?_) fun _ _ x => x
      obtain ⟨t, v⟩ := h₄
      obtain ⟨a1, a2, a3, a4, a5⟩ := fin s₄ t
      refine wpAny_list_append_plain (hsz := by simp; ktu_offL) a3 fun h₅ hl₅ hs₅ => ?_
      refine ⟨items.size + 1 - (i + 1), dec1 hlt, i + 1, acc ++ [y], rfl, hlt, by simp; ktu_offL, a1.extBut hs₅.extBut (Ne.symm hDI), a2.extBut hs₅.extBut (Ne.symm hDax), by simpa using hl₅, ?_, ?_, ?_⟩
      · obtain ⟨m, x⟩ := a4
        exact ⟨m, x.sameBut hs₅ hCD⟩
      · exact stab _ _ s₄ h₅ s₄.toks v fun b o hb e => hs₅.extBut b o (fun q => hb (by simp [q])) e
      · exact a5.trans ⟨h₅, s₄.toks, rfl⟩
  · have hin : i = items.size := by ktu_offL
    subst hin
    refine wpAny_pyNext_list_end hh hit' hl' (by walk_at "sm") fun h₁ hs₁ => ?_
    have k₁ : Keep [Ia, D, cenv.locals] s'.heap h₁ := fun b o hb e => hs₁ b o (fun q => hb (by simp [q])) e
    exact done acc { s' with heap := h₁ } (stab _ _ s' h₁ s'.toks hinv k₁) (hD'.at fun o e => hs₁ _ o hDI e) (let ⟨m, x⟩ := hn'; ⟨m, x.at' fun o e => hs₁ _ o hCI e⟩) (hlk.trans ⟨h₁, s'.toks, rfl⟩)

inductive CompH (prog : Program) (w : World) (A : Around) (target : Expr) (ifs : List Expr) (elt : Expr) (scope : Scope) (cl : List (Str × Addr)) (env : Env) (s₁ : Shared) (fin : Array Value → (Nat → List Value → Shared → Prop) → Prop) (xv : Value) : Prop
  | mk (ax : Addr) (items : Array Value) (Du : List Addr) (Inv : Nat → List Value → Shared → Prop) (e : xv = .ref ax) (hl : s₁.heap.IsList ax items) (hsz : items.size ≤ sizeLine) (hDu : ∀ d ∈ Du, @LT.lt Nat _ d s₁.heap.objs.size ∧ d ≠ ax) (h0 : Inv 0 [] s₁)
    (stab : ∀ i acc (s : Shared) h' tk' own, (∀ a ∈ own, @LE.le Nat _ s₁.heap.objs.size a) → Inv i acc s → Keep own s.heap h' → Inv i acc { s with heap := h', toks := tk' })
    (turn : ∀ Ia C i v acc (s : Shared) (E' : Value → Shared → Prop), @LE.le Nat _ s₁.heap.objs.size Ia → @LE.le Nat _ s₁.heap.objs.size C → items[i]? = some v → (∃ m, s.heap.Ns C m) → s.heap.IsListIter Ia ax (i + 1) → Inv i acc s →
        wpAny (model prog w) A (letOwnedTupleGo target (.ref Ia) v) (fun _ s₀ => wpAny (model prog w) A (assign target (compEnvC scope cl C env) v) (fun _ s₂ =>
          wpAny (model prog w) A (forIn ifs true fun c r => if r = true then do let ok ← isTrue c (compEnvC scope cl C env) (eval c (compEnvC scope cl C env)); pure (ForInStep.yield ok) else pure (ForInStep.yield r)) (fun ok s₃ =>
            if ok = true then wpAny (model prog w) A (eval elt (compEnvC scope cl C env)) (fun y s₄ => Turn C Du s s₄ ∧ Inv (i + 1) (acc ++ [y]) s₄) E' s₃ else Turn C Du s s₃ ∧ Inv (i + 1) acc s₃) E' s₂) E' s₀) E' s)
    (done : fin items Inv) : CompH prog w A target ifs elt scope cl env s₁ fin xv
/-- a list comprehension over a list, by an invariant over what stands -/
theorem comp_eval {env : Env} {elt target iter : Expr} {ifs : List Expr} {scope : Scope} {cl : List (Str × Addr)} {pos : Pos} {Q : Value → Shared → Prop}
    (hh : A.handled = none) (hclos : closureFor scope env = pure cl) (hcell : ∀ y ∈ scope.names, y.2 ≠ .cell) (hkind : scope.kind = .function)
    (hnames : ∀ y ∈ scope.names, y.2 = .local → scope.names.lookup y.1 = some .local)
    (h : wpAny (model prog w) A (eval iter env) (fun xv s₁ => CompH prog w A target ifs elt scope cl env s₁ (fun items Inv => ∀ D acc s', @LE.le Nat _ s₁.heap.objs.size D → s₁.heap.get? D = none → Inv items.size acc s' → s'.heap.PlainList D acc.toArray → Like s₁ s' → Q (.ref D) s') xv) E s)
    (hs : ∀ x, foldedSetIterable iter env x = pure x := by intro _; rfl) :
    wpAny (model prog w) A (eval (.ListComp elt [⟨target, iter, ifs, 0⟩] scope pos) env) Q E s := by
  rw [eval_ListComp]
  refine wpAny_comprehension_free (use := none) rfl hs hclos hkind hnames (wpAny_mono h (fun xv s₁ h₁ => ?_) fun _ _ e => e)
  obtain ⟨ax, items, Du, Inv, rfl, hl, hsz, hDu, h0, stab, turn, done⟩ := h₁
  refine wpAny_pyIter_list hl ?_
  refine wpAny_newObj_type (wpAny_newFunctionEnv hcell (by intro y hy; simp at hy) (fun h₃ hns₃ hsb₃ => ?_) hkind)
  dsimp only at hns₃ hsb₃ ⊢
  have hax := Heap.lt_size (show s₁.heap.get? ax = some _ from hl.choose_spec.1)
  generalize hH1 : s₁.heap.push { cls := .type "list_iterator", data := .fields #[.ref ax, .int 0 0] } = H1 at hns₃ hsb₃ ⊢
  have z1 : H1.objs.size = s₁.heap.objs.size + 1 := by rw [← hH1, Heap.size_push]
  generalize hH2 : H1.push { cls := .type "list", dict := none, data := .seq ([] : List Value).toArray } = H2 at hns₃ hsb₃ ⊢
  have z2 : H2.objs.size = s₁.heap.objs.size + 2 := by rw [← hH2, Heap.size_push, z1]
  have old : ∀ b o, s₁.heap.get? b = some o → h₃.get? b = some o := fun b o e =>
    hsb₃.extBut b o (adr_ne (.inl (Nat.lt_of_lt_of_le (Heap.lt_size e) (show s₁.heap.objs.size ≤ H2.objs.size by ktu_offL)))) (Heap.get?_push_of_some _ (hH2 ▸ Heap.get?_push_of_some _ (hH1 ▸ Heap.get?_push_of_some _ e)))
  have hI : h₃.IsListIter s₁.heap.objs.size ax 0 := ⟨_, hsb₃.extBut _ _ (adr_ne (.inl (by ktu_offL))) (Heap.get?_push_of_some _ (hH2 ▸ Heap.get?_push_of_some _ (hH1 ▸ Heap.get?_push_size _ rfl))), rfl, rfl⟩
  have hD : h₃.PlainList H1.objs.size #[] := ⟨_, hsb₃.extBut _ _ (adr_ne (.inl (by ktu_offL))) (Heap.get?_push_of_some _ (hH2 ▸ Heap.get?_push_size _ rfl))⟩
  have fresh : ∀ a, @LE.le Nat _ s₁.heap.objs.size a → s₁.heap.get? a = none := fun a ha => by
    cases e : s₁.heap.get? a with
    | none => rfl
    | some o' => exact absurd (Heap.lt_size e) (Nat.not_lt.mpr ha)
  have inv₃ : ∀ tk, Inv 0 [] { s₁ with heap := h₃, toks := tk } := fun tk => stab 0 [] s₁ h₃ tk [] (List.forall_mem_nil _) h0 fun b o _ e => old b o e
  have loop : ∀ s₃ : Shared, s₃ = { s₁ with heap := h₃, toks := s₁.toks + ([] : List (Str × Value)).length } →
      codeAny (model prog w) A (.compLoop (.ListComp elt [⟨target, iter, ifs, 0⟩] scope pos) 0 (.ref s₁.heap.objs.size) (.ref H1.objs.size) (compEnvC scope cl H2.objs.size env))
        (compPost (model prog w) A E none Q (.ref H1.objs.size) H2.objs.size) s₃ := by
    rintro s₃ rfl
    refine comp_list (cenv := compEnvC scope cl H2.objs.size env) (Du := Du) Inv hh (Nat.ne_of_lt hax) (adr_ne (.inr (by ktu_offL))) (adr_ne (.inr (Nat.lt_of_lt_of_le hax (show s₁.heap.objs.size ≤ H1.objs.size by ktu_offL)))) (adr_ne (.inr (show s₁.heap.objs.size < H2.objs.size by ktu_offL))) (adr_ne (.inr (show H1.objs.size < H2.objs.size by ktu_offL))) (adr_ne (.inr (Nat.lt_of_lt_of_le hax (show s₁.heap.objs.size ≤ H2.objs.size by ktu_offL))))
      (fun d hd => ⟨adr_ne (.inl (hDu d hd).1), (hDu d hd).2, adr_ne (.inl (by have := (hDu d hd).1; ktu_offL))⟩) hsz
      (fun i acc s h' tk' hi k => stab i acc s h' tk' _ (fun a ha => ?_) hi k) (fun i v acc s E' hv hn hit hi => turn _ _ i v acc s E' (Nat.le_refl _) (by rw [z2]; ktu_offL) hv hn hit hi) hI (hl.at fun o e => old _ o e) hD ⟨_, hns₃⟩ (inv₃ _) fun acc s' hi hpl hn hlk => ?_
    · simp only [List.mem_cons, List.not_mem_nil, or_false] at ha
      rcases ha with rfl | rfl | rfl
      · exact Nat.le_refl _
      · rw [z1]; ktu_offL
      · show _ ≤ H2.objs.size; rw [z2]; ktu_offL
    · obtain ⟨m, hm⟩ := hn
      refine ⟨m, hm, fun h'' hs'' => ?_⟩
      refine done _ acc { s' with heap := h'' } (show s₁.heap.objs.size ≤ H1.objs.size by ktu_offL) (fresh _ (show s₁.heap.objs.size ≤ H1.objs.size by ktu_offL)) (stab _ _ s' h'' s'.toks [H2.objs.size] (fun a ha => by rw [List.mem_singleton.mp ha, z2]; ktu_offL) hi fun b o hb e => hs''.extBut b o (fun q => hb (by simp [q])) e)
        (hpl.extBut hs''.extBut (adr_ne (.inl (show H1.objs.size < H2.objs.size by ktu_offL)))) ?_
      obtain ⟨h4, tk4, rfl⟩ := hlk
      exact ⟨h'', tk4, rfl⟩
  exact codeAny_compStart_list (loop _ rfl) (wpAny_pyIter_listiter hI (loop _ rfl))
end
end Mine

namespace Mine
/-- a gap as it stands in the store: the section's object, its dict, its rectangle, its place on the line -/
structure Gp where
  a : Addr
  d : Addr
  r : Rc
  st : Int
  ln : Int
noncomputable def Gp.ok (up : Bool) (X Y B : Int) (g : Gp) : Prop := On up X Y B g.st g.ln g.r ∧ 0 < g.ln
noncomputable def Gp.objs (P : Params) (g : Gp) : List (Addr × Obj) := [(g.a, instObj 203 g.d), (g.d, dictOf (rcEs P g.r) 5)]
noncomputable abbrev refs (gs : List Gp) : List Value := gs.map fun g => .ref g.a
noncomputable abbrev wEs (P : Params) (k : Nat → Tok) (tw th : Tok) (lr sf ls : Addr) : List DictEntry :=
  [⟨PyData.keyHash P "_merge", .str "_merge" (k 0), .bool true⟩, ⟨PyData.keyHash P "width", .str "width" (k 1), .int 1 tw⟩, ⟨PyData.keyHash P "height", .str "height" (k 2), .int 1 th⟩,
   ⟨PyData.keyHash P "rot", .str "rot" (k 3), .bool false⟩, ⟨PyData.keyHash P "rectangles", .str "rectangles" (k 4), .ref lr⟩, ⟨PyData.keyHash P "bid", .str "bid" (k 5), .none⟩,
   ⟨PyData.keyHash P "_surface", .str "_surface" (k 6), .ref sf⟩, ⟨PyData.keyHash P "_sections", .str "_sections" (k 7), .ref ls⟩]

/-- one turn of the pass: the section (st, ln) swallows the gap or keeps it -/
noncomputable def pstep (p : Int × Int × List Gp) (g : Gp) : Int × Int × List Gp := (mst p.1 p.2.1 g.st g.ln, mln p.1 p.2.1 g.st g.ln, if touch p.1 p.2.1 g.st g.ln then p.2.2 else p.2.2 ++ [g])
noncomputable def pass (st ln : Int) (gs : List Gp) : Int × Int × List Gp := gs.foldl pstep (st, ln, [])
theorem pass_take {st ln : Int} {gs : List Gp} {i : Nat} {g : Gp} (h : gs[i]? = some g) : pass st ln (gs.take (i + 1)) = pstep (pass st ln (gs.take i)) g := by
  rw [List.take_add_one, h]; simp [pass, List.foldl_append]

/-- the pass over anything that has a place and a length -/
noncomputable def gstep {α : Type} (fs fl : α → Int) (p : Int × Int × List α) (g : α) : Int × Int × List α := (mst p.1 p.2.1 (fs g) (fl g), mln p.1 p.2.1 (fs g) (fl g), if touch p.1 p.2.1 (fs g) (fl g) then p.2.2 else p.2.2 ++ [g])
noncomputable def gpass {α : Type} (fs fl : α → Int) (st ln : Int) (gs : List α) : Int × Int × List α := gs.foldl (gstep fs fl) (st, ln, [])
theorem pass_eq (st ln : Int) (gs : List Gp) : pass st ln gs = gpass Gp.st Gp.ln st ln gs := rfl
noncomputable def Apart (s1 l1 s2 l2 : Int) : Prop := s1 + l1 < s2 ∨ s2 + l2 < s1
noncomputable def Free {α : Type} (fs fl : α → Int) (st ln : Int) (gs : List α) : Prop := ∀ g ∈ gs, fs g + fl g ≤ st ∨ st + ln ≤ fs g
noncomputable def Sep {α : Type} (fs fl : α → Int) (gs : List α) : Prop := gs.Pairwise fun p q => Apart (fs p) (fl p) (fs q) (fl q)
noncomputable def PosL {α : Type} (fl : α → Int) (gs : List α) : Prop := ∀ g ∈ gs, 0 < fl g

theorem apart_ne {a la b lb : Int} (h : Apart a la b lb) (ha : 0 < la) (hb : 0 < lb) : b + lb ≠ a ∧ a + la ≠ b ∧ a ≠ b ∧ b + lb ≠ a + la := by
  rcases h with h | h
  · have k : a < b := Int.lt_trans (Int.lt_add_of_pos_right _ ha) h
    have l : b < b + lb := Int.lt_add_of_pos_right _ hb
    exact ⟨(Int.ne_of_lt (Int.lt_trans k l)).symm, Int.ne_of_lt h, Int.ne_of_lt k, (Int.ne_of_lt (Int.lt_trans h l)).symm⟩
  · have k : b < a := Int.lt_trans (Int.lt_add_of_pos_right _ hb) h
    have l : a < a + la := Int.lt_add_of_pos_right _ ha
    exact ⟨Int.ne_of_lt h, (Int.ne_of_lt (Int.lt_trans k l)).symm, (Int.ne_of_lt k).symm, Int.ne_of_lt (Int.lt_trans h l)⟩
/-- what a pass over the gaps leaves -/
structure GF {α : Type} (fs fl : α → Int) (gs : List α) (st ln : Int) (ks : List α) (p : Int × Int × List α) : Prop where
  pos : 0 < p.2.1
  apart : ∀ k ∈ p.2.2, Apart (fs k) (fl k) p.1 p.2.1
  kept : p.2.2 = ks ++ gs.filter (fun g => !touch st ln (fs g) (fl g))
  lo : (∃ g ∈ gs, fs g + fl g = st ∧ p.1 = fs g) ∨ ((∀ g ∈ gs, fs g + fl g ≠ st) ∧ p.1 = st)
  hi : (∃ g ∈ gs, fs g = st + ln ∧ p.1 + p.2.1 = fs g + fl g) ∨ ((∀ g ∈ gs, fs g ≠ st + ln) ∧ p.1 + p.2.1 = st + ln)
theorem gfold_ok {α : Type} (fs fl : α → Int) : ∀ (gs : List α) (st ln : Int) (ks : List α), Sep fs fl gs → PosL fl gs → Free fs fl st ln gs → 0 < ln → PosL fl ks → (∀ k ∈ ks, Apart (fs k) (fl k) st ln) → (∀ k ∈ ks, ∀ g ∈ gs, Apart (fs k) (fl k) (fs g) (fl g)) →
    GF fs fl gs st ln ks (gs.foldl (gstep fs fl) (st, ln, ks)) := by
  intro gs
  induction gs with
  | nil => intro st ln ks _ _ _ h0 _ hk _; exact ⟨h0, hk, (List.append_nil ks).symm, .inr ⟨fun _ h => (nomatch h), rfl⟩, .inr ⟨fun _ h => (nomatch h), rfl⟩⟩
  | cons g gs ih =>
    intro st ln ks hs hl hf h0 hp hk hkg
    obtain ⟨hsg, hs'⟩ := List.pairwise_cons.mp hs
    have hg := hf g (.head _)
    have lg := hl g (.head _)
    have hl' : PosL fl gs := fun x hx => hl x (.tail _ hx)
    by_cases ht : touch st ln (fs g) (fl g) = true
    · have hstep : gstep fs fl (st, ln, ks) g = (mst st ln (fs g) (fl g), mln st ln (fs g) (fl g), ks) := by simp [gstep, ht]
      have e2 : mln st ln (fs g) (fl g) = ln + fl g := by simp [mln, ht]
      have ht' := ht
      simp only [touch, Bool.or_eq_true, decide_eq_true_eq] at ht'
      have e1 : mst st ln (fs g) (fl g) = st ∧ st + ln = fs g ∨ mst st ln (fs g) (fl g) = fs g ∧ fs g + fl g = st := by
        unfold mst
        split
        · exact .inr ⟨rfl, by assumption⟩
        · exact .inl ⟨rfl, ht'.resolve_left (by assumption)⟩
      rw [List.foldl_cons, hstep]
      clear hstep ht
      have hsame : ∀ x ∈ gs, touch (mst st ln (fs g) (fl g)) (mln st ln (fs g) (fl g)) (fs x) (fl x) = touch st ln (fs x) (fl x) := fun x hx => by
        have a := hf x (.tail _ hx)
        have b := hsg x hx
        have c := hl x (.tail _ hx)
        unfold Apart at b
        unfold touch
        rw [e2]
        rw [Bool.eq_iff_iff]
        simp only [Bool.or_eq_true, decide_eq_true_eq]
        have f := apart_ne b lg c
        rcases e1 with ⟨e1, e3⟩ | ⟨e1, e3⟩ <;> rw [e1]
        · rw [← Int.add_assoc, e3]; exact or_congr Iff.rfl (iff_of_false f.2.1 f.2.2.1)
        · rw [← e3, Int.add_assoc (fs g) (fl g), Int.add_comm (fl g) ln]; exact or_congr (iff_of_false f.1 f.2.2.2) Iff.rfl
      have ht2 : touch st ln (fs g) (fl g) = true := by simp only [touch, Bool.or_eq_true, decide_eq_true_eq]; exact ht'
      generalize mst st ln (fs g) (fl g) = S at *
      generalize mln st ln (fs g) (fl g) = M at *
      subst e2
      have hfree : Free fs fl S (ln + fl g) gs := fun x hx => by
        have a := hf x (.tail _ hx)
        have b := hsg x hx
        have c := hl x (.tail _ hx)
        have lg' : fs g < fs g + fl g := Int.lt_add_of_pos_right _ lg
        have c' : fs x < fs x + fl x := Int.lt_add_of_pos_right _ c
        rcases e1 with ⟨e, e3⟩ | ⟨e, e3⟩ <;> rw [e]
        · rcases a with a | a
          · exact .inl a
          · rw [e3] at a
            rcases b with b | b
            · exact .inr (by rw [← Int.add_assoc, e3]; exact Int.le_of_lt b)
            · exact absurd (Int.lt_of_le_of_lt a c') (Int.lt_asymm b)
        · rcases b with b | b
          · rcases a with a | a
            · rw [← e3] at a
              exact absurd (Int.lt_of_le_of_lt a b) (Int.lt_asymm c')
            · exact .inr (by rw [Int.add_comm ln, ← Int.add_assoc, e3]; exact a)
          · exact .inl (Int.le_of_lt b)
      have hap : ∀ k ∈ ks, Apart (fs k) (fl k) S (ln + fl g) := fun k hkk => by
        have a := hk k hkk
        have b := hkg k hkk g (.head _)
        have c := hp k hkk
        have c' : fs k < fs k + fl k := Int.lt_add_of_pos_right _ c
        rcases e1 with ⟨e, e3⟩ | ⟨e, e3⟩ <;> rw [e]
        · rcases a with a | a
          · exact .inl a
          · rw [e3] at a
            rcases b with b | b
            · exact absurd (Int.lt_trans a c') (Int.lt_asymm b)
            · exact .inr (by rw [← Int.add_assoc, e3]; exact b)
        · rcases b with b | b
          · exact .inl b
          · rcases a with a | a
            · rw [← e3] at a
              exact absurd (Int.lt_trans a b) (Int.lt_asymm c')
            · exact .inr (by rw [Int.add_comm ln, ← Int.add_assoc, e3]; exact a)
      obtain ⟨a1, a2, a3, a4, a5⟩ := ih S (ln + fl g) ks hs' hl' hfree (by ktu_offL) hp hap (fun k hkk x hx => hkg k hkk x (.tail _ hx))
      refine ⟨a1, a2, ?_, ?_, ?_⟩
      · rw [a3, List.filter_cons, ht2]
        simp only [Bool.not_true, Bool.false_eq_true, if_false]
        congr 1
        exact List.filter_congr fun x hx => by rw [hsame x hx]
      · rcases e1 with ⟨rfl, e3⟩ | ⟨rfl, e3⟩
        · rcases a4 with ⟨x, hx, y⟩ | ⟨x, y⟩
          · exact .inl ⟨x, .tail _ hx, y⟩
          · refine .inr ⟨fun x' hx' => ?_, y⟩
            rcases List.mem_cons.mp hx' with rfl | hx'
            · ktu_offL
            · exact x x' hx'
        · rcases a4 with ⟨x, hx, y, _⟩ | ⟨_, y⟩
          · exact absurd y (apart_ne (hsg x hx) lg (hl x (.tail _ hx))).1
          · exact .inl ⟨g, .head _, e3, y⟩
      · rcases e1 with ⟨rfl, e3⟩ | ⟨rfl, e3⟩
        · rcases a5 with ⟨x, hx, y, _⟩ | ⟨_, y⟩
          · exact absurd (by rw [y, ← Int.add_assoc, e3]) (apart_ne (hsg x hx) lg (hl x (.tail _ hx))).2.1
          · exact .inl ⟨g, .head _, e3.symm, by ktu_offL⟩
        · have e4 : fs g + (ln + fl g) = st + ln := by ktu_offL
          rw [e4] at a5
          rcases a5 with ⟨x, hx, y⟩ | ⟨x, y⟩
          · exact .inl ⟨x, .tail _ hx, y⟩
          · refine .inr ⟨fun x' hx' => ?_, y⟩
            rcases List.mem_cons.mp hx' with rfl | hx'
            · ktu_offL
            · exact x x' hx'
    · have ht0 : touch st ln (fs g) (fl g) = false := by simpa using ht
      have ht' := ht0
      simp only [touch, Bool.or_eq_false_iff, decide_eq_false_iff_not] at ht'
      have hstep : gstep fs fl (st, ln, ks) g = (st, ln, ks ++ [g]) := by
        simp only [gstep, ht0, mst, mln, Bool.false_eq_true, if_false]
        rw [if_neg ht'.1]
      have := ih st ln (ks ++ [g]) hs' hl' (fun x hx => hf x (.tail _ hx)) h0 (fun k hkk => by
        rcases List.mem_append.mp hkk with hkk | hkk
        · exact hp k hkk
        · rw [List.mem_singleton.mp hkk]
          exact lg) (fun k hkk => by
        rcases List.mem_append.mp hkk with hkk | hkk
        · exact hk k hkk
        · rw [List.mem_singleton.mp hkk]
          unfold Apart
          ktu_offL) (fun k hkk x hx => by
        rcases List.mem_append.mp hkk with hkk | hkk
        · exact hkg k hkk x (.tail _ hx)
        · rw [List.mem_singleton.mp hkk]
          exact hsg x hx)
      rw [List.foldl_cons, hstep]
      obtain ⟨a1, a2, a3, a4, a5⟩ := this
      refine ⟨a1, a2, ?_, ?_, ?_⟩
      · rw [a3, List.filter_cons, ht0]
        simp
      · rcases a4 with ⟨x, hx, y⟩ | ⟨x, y⟩
        · exact .inl ⟨x, .tail _ hx, y⟩
        · refine .inr ⟨fun x' hx' => ?_, y⟩
          rcases List.mem_cons.mp hx' with rfl | hx'
          · exact ht'.1
          · exact x x' hx'
      · rcases a5 with ⟨x, hx, y⟩ | ⟨x, y⟩
        · exact .inl ⟨x, .tail _ hx, y⟩
        · refine .inr ⟨fun x' hx' => ?_, y⟩
          rcases List.mem_cons.mp hx' with rfl | hx'
          · exact fun e => ht'.2 e.symm
          · exact x x' hx'
theorem gpass_ok {α : Type} (fs fl : α → Int) (gs : List α) (st ln : Int) (hs : Sep fs fl gs) (hl : PosL fl gs) (hf : Free fs fl st ln gs) (h0 : 0 < ln) :
    let p := gpass fs fl st ln gs
    0 < p.2.1 ∧ (∀ k ∈ p.2.2, Apart (fs k) (fl k) p.1 p.2.1) ∧ p.2.2 = gs.filter (fun g => !touch st ln (fs g) (fl g)) ∧
      ((∃ g ∈ gs, fs g + fl g = st ∧ p.1 = fs g) ∨ ((∀ g ∈ gs, fs g + fl g ≠ st) ∧ p.1 = st)) ∧
      ((∃ g ∈ gs, fs g = st + ln ∧ p.1 + p.2.1 = fs g + fl g) ∨ ((∀ g ∈ gs, fs g ≠ st + ln) ∧ p.1 + p.2.1 = st + ln)) := by
  have g := gfold_ok fs fl gs st ln [] hs hl hf h0 (List.forall_mem_nil _) (List.forall_mem_nil _) (List.forall_mem_nil _)
  exact ⟨g.pos, g.apart, g.kept, g.lo, g.hi⟩
/-- what lies apart is passed by -/
theorem gpass_apart {α : Type} (fs fl : α → Int) (gs : List α) (st ln : Int) (hl : PosL fl gs) (h0 : 0 < ln) (h : ∀ g ∈ gs, Apart (fs g) (fl g) st ln) : gpass fs fl st ln gs = (st, ln, gs) := by
  have key : ∀ (gs ks : List α), PosL fl gs → (∀ g ∈ gs, Apart (fs g) (fl g) st ln) → gs.foldl (gstep fs fl) (st, ln, ks) = (st, ln, ks ++ gs) := by
    intro gs
    induction gs with
    | nil => intro ks _ _; simp
    | cons g gs ih =>
      intro ks hl h
      have a := h g (.head _)
      have lg := hl g (.head _)
      have a := apart_ne a lg h0
      have ht : touch st ln (fs g) (fl g) = false := by simp only [touch, Bool.or_eq_false_iff, decide_eq_false_iff_not]; exact ⟨a.2.1, a.1⟩
      have e : gstep fs fl (st, ln, ks) g = (st, ln, ks ++ [g]) := by
        simp only [gstep, ht, mst, mln, Bool.false_eq_true, if_false]
        rw [if_neg a.2.1]
      rw [List.foldl_cons, e, ih _ (fun x hx => hl x (.tail _ hx)) fun x hx => h x (.tail _ hx)]
      simp
  simpa [gpass] using key gs [] hl h
theorem gpass_take_free {α : Type} (fs fl : α → Int) (gs : List α) (st ln : Int) (hs : Sep fs fl gs) (hl : PosL fl gs) (hf : Free fs fl st ln gs) (h0 : 0 < ln) (i : Nat) (g : α) (hg : gs[i]? = some g) :
    let p := gpass fs fl st ln (gs.take i)
    fs g + fl g ≤ p.1 ∨ p.1 + p.2.1 ≤ fs g := by
  have hm : g ∈ gs := List.mem_of_getElem? hg
  have sub := List.take_sublist i gs
  have ok := gpass_ok fs fl (gs.take i) st ln (hs.sublist sub) (fun x hx => hl x (sub.subset hx)) (fun x hx => hf x (sub.subset hx)) h0
  have far : ∀ x ∈ gs.take i, Apart (fs x) (fl x) (fs g) (fl g) := fun x hx => by
    obtain ⟨j, hj⟩ := List.mem_iff_getElem?.mp hx
    have hji : j < i := by
      rw [List.getElem?_take] at hj
      split at hj
      · assumption
      · cases hj
    rw [List.getElem?_take_of_lt hji] at hj
    obtain ⟨hj1, hj2⟩ := List.getElem?_eq_some_iff.mp hj
    obtain ⟨hi1, hi2⟩ := List.getElem?_eq_some_iff.mp hg
    have := List.pairwise_iff_getElem.mp hs j i hj1 hi1 hji
    rwa [hj2, hi2] at this
  generalize gpass fs fl st ln (gs.take i) = p at ok ⊢
  obtain ⟨a1, _, _, a4, a5⟩ := ok
  have f := hf g hm
  have lg : fs g < fs g + fl g := Int.lt_add_of_pos_right _ (hl g hm)
  dsimp only
  rcases f with f | f
  · refine .inl ?_
    rcases a4 with ⟨x, hx, y, z⟩ | ⟨_, z⟩
    · rw [z]
      rcases far x hx with b | b
      · rw [y] at b
        exact absurd (Int.lt_of_lt_of_le lg f) (Int.lt_asymm b)
      · exact Int.le_of_lt b
    · rw [z]; exact f
  · refine .inr ?_
    rcases a5 with ⟨x, hx, y, z⟩ | ⟨_, z⟩
    · rw [z]
      rcases far x hx with b | b
      · exact Int.le_of_lt b
      · rw [y] at b
        exact absurd (Int.lt_of_lt_of_le b f) (Int.lt_asymm lg)
    · rw [z]; exact f
end Mine

namespace Mine
section
variable {w : World} {mean : ExcName → Option Value} {mg mb : Str → Option Value} {loose : List Str} {G₀ : Heap}
noncomputable def k5 (a b c d e : Tok) : Nat → Tok | 0 => a | 1 => b | 2 => c | 3 => d | _ => e
/-- a rectangle is made -/
theorem rect_new (G : Gnd w mean mg mb loose G₀) {dp un : Nat} {fr : Option (List Env)} {gd : Option (List Code)} {s : Shared} {E Q : Value → Shared → Prop} {g : Heap} {L : Addr} {m : Str → Option Value} {rest : List (Addr × Obj)} (F : Fr g L s.heap m) (N : News g L s.heap rest) (hGg : G₀.StaysIn g) (hd : dp + 6 < recursionLimit) (hu : un + 60 < cLine)
    (x y wd hg : Int) (tx ty t1 t2 : Tok) (h0 : 0 ≤ wd) (h1 : 0 ≤ hg)
    (hQ : ∀ x' d' h' tk k, Fr g L h' m → News g L h' ((x', instObj 203 d') :: (d', dictOf (rcEs w.params ⟨x, y, wd, hg, tx, ty, t1, t2, .none, k⟩) 5) :: rest) → (∀ q ∈ rest, q.1 < d') → @LT.lt Nat _ d' x' → Q (.ref x') { s with heap := h', toks := tk }) :
    wpAny (model PR w) (AT dp fr gd un) (call (.ref 203) [.int x tx, .int y ty, .int wd t1, .int hg t2]) Q E s := by
  obtain ⟨KX, T⟩ := G
  have X' := KX.keeps hGg
  have T' := T.keeps hGg
  clear KX T
  k_dflt (refine' call_cls ?k1 ?k2 ?k3 ?k4 ?k5 ?k6 ?_; (case k1 => k_asm); (case k2 => k_asm); (case k3 => k_asm); (case k4 => k_is); (case k5 => k_is); (case k6 => k_is))
  intro x' d' h' F' N' l1 l2
  have lr0 := l1
  have ld0 := l2
  (try k_lt l1); (try k_lt2 l2); (try k_sweep)
  k_enter
  k_steps
  (with_reducible rename News _ _ _ _ => NE)
  (with_reducible rename Fr _ _ _ _ => FE)
  exact hQ _ _ _ _ (k5 _ _ _ _ _) FE NE lr0 ld0
end
end Mine

namespace Mine
theorem truthy_refs {prog : Program} {w : World} {A : Around} {E : Value → Shared → Prop} {s : Shared} {h₀ : Heap} {L ls : Addr} {n : Nat} {news : List (Addr × Obj)} {gs : List Gp} {Q : Bool → Shared → Prop} (N : News h₀ L s.heap news) (hm : (ls, listOf (refs gs).toArray n) ∈ news)
    (hlen : gs.length < sizeLine) (h : Q (!gs.isEmpty) { s with toks := s.toks + 1 + 1 }) : wpAny (model prog w) A (truthy (.ref ls)) Q E s := by
  refine wpAny_truthy_list (items := (refs gs).toArray) ⟨_, (N _ hm).1, rfl, n, rfl⟩ ?_ ?_
  · have : sizeLine < 2 ^ 63 := by decide
    simp only [List.size_toArray, refs, List.length_map]; ktu_offL
  · cases gs <;> exact h
theorem len_refs {prog : Program} {w : World} {A : Around} {E : Value → Shared → Prop} {s : Shared} {h₀ : Heap} {L ls : Addr} {n : Nat} {news : List (Addr × Obj)} {gs : List Gp} {Q : Value → Shared → Prop} (N : News h₀ L s.heap news) (hm : (ls, listOf (refs gs).toArray n) ∈ news)
    (hlen : gs.length < sizeLine) (h : Q (.int gs.length (s.toks + 1)) { s with toks := s.toks + 1 + 1 }) : wpAny (model prog w) A (call (.builtin "len") [.ref ls]) Q E s := by
  refine len_list (items := (refs gs).toArray) ⟨_, (N _ hm).1, rfl, n, rfl⟩ ?_ ?_
  · have : sizeLine < 2 ^ 63 := by decide
    simp only [List.size_toArray, refs, List.length_map]; ktu_offL
  · simpa [refs] using h

theorem nameC_L {M : Model} {A : Around} {E : Value → Shared → Prop} {s : Shared} {h₀ : Heap} {C : Addr} {m : Str → Option Value} {scope : Scope} {cl : List (Str × Addr)} {env : Env} {x : Str} {pos : Pos} {v : Value} {Q : Value → Shared → Prop} (F : Fr h₀ C s.heap m) (hv : m x = some v) (h : Q v s)
    (hk : (compEnvC scope cl C env).scope.kind = .function := by rfl) (hx : (compEnvC scope cl C env).kindOf x = some .local := by rfl) (hd : (x == ("__debug__" : Str)) = false := by decide) :
    wpAny M A (eval (.Name x pos) (compEnvC scope cl C env)) Q E s := wpAny_Name (wpAny_loadName_local hk hx F.ns hv h) hd
theorem nameC_A {M : Model} {A : Around} {E : Value → Shared → Prop} {s : Shared} {h₀ : Heap} {C : Addr} {m : Str → Option Value} {scope : Scope} {cl : List (Str × Addr)} {env : Env} {x : Str} {pos : Pos} {v : Value} {Q : Value → Shared → Prop} (_ : Stop "comp") (F : Fr h₀ C s.heap m)
    (hk : ((compEnvC scope cl C env).scope.kind, (compEnvC scope cl C env).kindOf x) = (.function, some .local)) (hd : (x == ("__debug__" : Str)) = false) (hv : m x = some v) (h : Q v s) :
    wpAny M A (eval (.Name x pos) (compEnvC scope cl C env)) Q E s := nameC_L F hv h (congrArg (·.1) hk) (congrArg (·.2) hk) hd
theorem nameC_B {M : Model} {A : Around} {E : Value → Shared → Prop} {s : Shared} {h₀ : Heap} {C c : Addr} {news : List (Addr × Obj)} {scope : Scope} {cl : List (Str × Addr)} {env : Env} {x : Str} {pos : Pos} {v : Value} {o : Obj} {Q : Value → Shared → Prop} (_ : Stop "comp") (N : News h₀ C s.heap news)
    (hk : ((compEnvC scope cl C env).scope.kind, (compEnvC scope cl C env).kindOf x) = (.function, some .cell)) (hb : (x == ("__debug__" : Str)) = false) (hc : cl.lookup x = some c) (hm : (c, o) ∈ news) (hd : o.data = .cell (some v)) (h : Q v s) :
    wpAny M A (eval (.Name x pos) (compEnvC scope cl C env)) Q E s := wpAny_Name (wpAny_loadName_cell (congrArg (·.1) hk) (congrArg (·.2) hk) hc ⟨o, N.get hm, hd⟩ h) hb
end Mine
local macro_rules | `(tactic| walk_at "eval Name") => `(tactic| (k_here; (with_reducible first
  | (apply Mine.nameC_A; k_dflt (assumption; assumption; rfl; decide; (first | exact if_pos rfl | assumption)))
  | (apply Mine.nameC_B; k_dflt (assumption; assumption; rfl; decide; rfl; k_mem; assumption)))))
local macro_rules | `(tactic| walk_at "idle") => `(tactic| skip)
namespace Mine

section
variable {w : World} {mean : ExcName → Option Value} {mg mb : Str → Option Value} {loose : List Str} {G₀ : Heap}
/-- what stands behind i gaps of the pass -/
inductive SInv (P : Params) (up : Bool) (X Y B st ln : Int) (secs : List Gp) (rid : Value) (d : Addr) (h₀ : Heap) (i : Nat) (acc : List Value) (s' : Shared) : Prop
  | mk (r' : Rc) (e1 : acc = refs (pass st ln (secs.take i)).2.2) (e2 : On up X Y B (pass st ln (secs.take i)).1 (pass st ln (secs.take i)).2.1 r') (e3 : 0 < (pass st ln (secs.take i)).2.1) (e4 : r'.rid = rid) (e5 : s'.heap.get? d = some (dictOf (rcEs P r') 5)) (e6 : Keep [d] h₀ s'.heap) : SInv P up X Y B st ln secs rid d h₀ i acc s'
theorem comp_sect {env : Env} {un dp : Nat} {fr : Option (List Env)} {gd : Option (List Code)} {E : Value → Shared → Prop} {s : Shared} {g : Heap} {L W dW lr sf ls a d : Addr} {m : Str → Option Value} {k : Nat → Tok} {tw th : Tok} {n : Nat} {oc : Obj} {Q : Value → Shared → Prop}
    {secs : List Gp} {r : Rc} {es : List DictEntry} {up : Bool} {X Y B st ln : Int} {more : List (Str × Const)}
    (he : env = envOfC (Str.ofString "Guillotine._add_section") { kind := .function, names := [(Str.ofString "self", .local), (Str.ofString "section", .cell), (Str.ofString "plen", .local), (Str.ofString "len", .globalImplicit)], isGenerator := false, isCoroutine := false, more := more } L 330 (.ref 329))
    (G : Gnd w mean mg mb loose G₀) (hd : dp + 12 < recursionLimit) (hu : un + 110 < cLine) (F : Fr g L s.heap m) (hm : m (Str.ofString "self") = some (.ref W))
    (X' : (Mine.hd.heap_1 w.params).In g) (_T' : Top topProg loose mean mg mb g)
    (N : News g L s.heap [(L + 1, oc), (W, instObj 480 dW), (dW, dictOf (wEs w.params k tw th lr sf ls) 8), (ls, listOf (refs secs).toArray n), (a, instObj 203 d), (d, dictOf es 5)]) (hes : es = rcEs w.params r)
    (d1 : oc.data = .cell (some (.ref a))) (hG : G₀.StaysIn g) (hH : ∀ q ∈ secs, ∀ o ∈ q.objs w.params, g.get? o.1 = some o.2 ∧ G₀.get? o.1 = none)
    (hne : ∀ q ∈ secs, ∀ o ∈ q.objs w.params, @Ne Nat o.1 d) (hok : ∀ q ∈ secs, q.ok up X Y B) (hr : On up X Y B st ln r) (hn1 : @Ne Nat (L + 1) d) (hn2 : @Ne Nat W d) (hn3 : @Ne Nat dW d) (hld : @Ne Nat ls d) (had : @Ne Nat a d) (hsz : secs.length < sizeLine)
    (ha0 : G₀.get? a = none) (hd0 : G₀.get? d = none) (hln : 0 < ln) (hB : 0 < B)
    (hdis : ∀ i q, secs[i]? = some q → let p := pass st ln (secs.take i); q.st + q.ln ≤ p.1 ∨ p.1 + p.2.1 ≤ q.st)
    (hQ : ∀ h' D tk n' r', @LT.lt Nat _ L D → Fr g L h' m → News g L h' [(D, listOf (refs (pass st ln secs).2.2).toArray n'), (L + 1, oc), (W, instObj 480 dW), (dW, dictOf (wEs w.params k tw th lr sf ls) 8), (ls, listOf (refs secs).toArray n), (a, instObj 203 d), (d, dictOf (rcEs w.params r') 5)] →
      On up X Y B (pass st ln secs).1 (pass st ln secs).2.1 r' → r'.rid = r.rid → Q (.ref D) { s with heap := h', toks := tk }) :
    wpAny (model PR w) ((AT dp fr gd un).deeper env) (eval (Expr.ListComp (Expr.Name (Str.ofString "s") ⟨176, 30, 176, 31⟩) [{ target := Expr.Name (Str.ofString "s") ⟨176, 36, 176, 37⟩, iter := (Expr.Name (Str.ofString "self") ⟨176, 41, 176, 45⟩).Attribute (Str.ofString "_sections") ⟨176, 41, 176, 55⟩, ifs := [Expr.UnaryOp UnaryOp.Not (((Expr.Name (Str.ofString "section") ⟨176, 63, 176, 70⟩).Attribute (Str.ofString "join") ⟨176, 63, 176, 75⟩).Call [Expr.Name (Str.ofString "s") ⟨176, 76, 176, 77⟩] [] ⟨176, 63, 176, 78⟩) ⟨176, 59, 176, 78⟩], is_async := 0 }]
        { kind := ScopeKind.function, names := [(Str.ofString ".0", NameKind.local), (Str.ofString "s", NameKind.local), (Str.ofString "section", NameKind.free)], isGenerator := false, isCoroutine := false } ⟨176, 29, 176, 79⟩) env) Q E s := by
  have zC : Mine.Stop "comp" := ⟨trivial⟩
  have zS0 : Mine.Stop "eval ListComp" := ⟨trivial⟩
  have zS1 : Mine.Stop "call ref" := ⟨trivial⟩
  have zS2 : Mine.Stop "call builtin:list.append" := ⟨trivial⟩
  subst he hes
  have hnd : ∀ q ∈ [(L + 1, oc), (W, instObj 480 dW), (dW, dictOf (wEs w.params k tw th lr sf ls) 8), (ls, listOf (refs secs).toArray n), (a, instObj 203 d)], q.1 ≠ d := by
    exact List.forall_mem_cons.mpr ⟨hn1, List.forall_mem_cons.mpr ⟨hn2, List.forall_mem_cons.mpr ⟨hn3, List.forall_mem_cons.mpr ⟨hld, List.forall_mem_cons.mpr ⟨had, List.forall_mem_nil _⟩⟩⟩⟩⟩
  refine comp_eval rfl rfl (by decide) rfl (by decide) ?_
  refine wpAny_mono (Q := fun xv s₁ => Halt (xv = .ref ls ∧ ∃ tk, s₁ = { s with toks := tk })) ?_ (fun xv s₁ h₁ => ?_) fun _ _ x => x
  · k_steps
    refine wpAny_Name (wpAny_loadName_local rfl rfl F.ns hm ?_) (by decide)
    k_steps
    exact ⟨rfl, _, rfl⟩
  obtain ⟨rfl, tk₁, rfl⟩ := h₁.go
  have gl : ∀ {b : Addr} {o : Obj}, s.heap.get? b = some o → @LT.lt Nat _ b s.heap.objs.size := fun e => Heap.lt_size e
  have nN := fun p hp => (N p hp)
  have hdg : g.get? d = none := (N _ (.tail _ (.tail _ (.tail _ (.tail _ (.tail _ (.head _))))))).2.2
  have hds := (N _ (.tail _ (.tail _ (.tail _ (.tail _ (.tail _ (.head _))))))).1
  refine ⟨ls, (refs secs).toArray, [d], SInv w.params up X Y B st ln secs r.rid d s.heap,
    rfl, ⟨_, (N _ (.tail _ (.tail _ (.tail _ (.head _))))).1, rfl, n, rfl⟩, by simp [refs]; ktu_offL, ?_, ⟨r, rfl, hr, hln, rfl, hds, fun b o _ e => e⟩, ?_, ?_, ?_⟩
  · intro x hx
    rw [List.mem_singleton.mp hx]
    exact ⟨gl hds, Ne.symm hld⟩
  · rintro i acc s' h' tk' own hown ⟨r', e1, e2, e3, e4, e5, e6⟩ k'
    have off : ∀ b o, s.heap.get? b = some o → b ∉ own := fun b o e hb => Nat.lt_irrefl _ (Nat.lt_of_lt_of_le (gl e) (hown b hb))
    exact ⟨r', e1, e2, e3, e4, k' _ _ (off _ _ hds) e5, fun b o hb e => k' b o (off b o e) (e6 b o hb e)⟩
  · rintro Ia C i v acc s' E' hIa hC hv hn hit ⟨r', e1, e2, e3, e4, e5, e6⟩
    obtain ⟨gp, hgp, rfl⟩ : ∃ gp, secs[i]? = some gp ∧ v = .ref gp.a := by
      simp only [refs, List.getElem?_toArray, List.getElem?_map, Option.map_eq_some_iff] at hv
      obtain ⟨gp, h1, h2⟩ := hv
      exact ⟨gp, h1, h2.symm⟩
    have hmem := List.mem_of_getElem? hgp
    have hdis' := hdis i gp hgp
    have hpass := pass_take (st := st) (ln := ln) hgp
    generalize hp : pass st ln (secs.take i) = p at e1 e2 e3 hdis' hpass
    obtain ⟨st₁, ln₁, kept⟩ := p
    dsimp only at e1 e2 e3 hdis'
    obtain ⟨m₀, hn⟩ := hn
    refine wpAny_of_eq (rfl : letOwnedTupleGo (.Name _ _) (.ref Ia) (.ref gp.a) = pure ()) ?_
    refine wpAny_assign_Name (wpAny_storeName_local (lookup_relabel_local rfl) hn (fun h₃ hn₃ hs₃ => ?_) rfl)
    refine wpAny_tests_one ?_
    have hlt : ∀ {b : Addr} {o : Obj}, s.heap.get? b = some o → b ≠ C := fun e => adr_ne (.inl (Nat.lt_of_lt_of_le (gl e) hC))
    have gs : ∀ b o, g.get? b = some o → s'.heap.get? b = some o := fun b o e => e6 b o (fun hm => by rw [List.mem_singleton.mp hm, hdg] at e; cases e) (F.keep b o e)
    have F₃ : Fr g C h₃ _ := ⟨hn₃, fun b o e => hs₃.extBut b o (hlt (F.keep b o e)) (gs b o e), Nat.le_trans F.above (Nat.le_trans (Nat.le_of_lt F.ns.lt) hC)⟩
    have one : ∀ q ∈ [(L + 1, oc), (a, instObj 203 d)], h₃.get? q.1 = some q.2 ∧ q.1 ≠ C ∧ g.get? q.1 = none := fun q hq => by
      have hq' : q ∈ [(L + 1, oc), (W, instObj 480 dW), (dW, dictOf (wEs w.params k tw th lr sf ls) 8), (ls, listOf (refs secs).toArray n), (a, instObj 203 d)] := by
        rcases List.mem_cons.mp hq with rfl | hq
        · exact .head _
        · rw [List.mem_singleton.mp hq]
          exact .tail _ (.tail _ (.tail _ (.tail _ (.head _))))
      have z := N q (List.mem_append_left [(d, dictOf (rcEs w.params r) 5)] hq')
      exact ⟨hs₃.extBut _ _ (hlt z.1) (e6 _ _ (fun hm => hnd q hq' (List.mem_singleton.mp hm)) z.1), hlt z.1, z.2.2⟩
    have N₃ : News g C h₃ [(L + 1, oc), (a, instObj 203 d), (d, dictOf (rcEs w.params r') 5)] := News.cons (one _ (.head _)) (News.cons (one _ (.tail _ (.head _))) (News.cons ⟨hs₃.extBut _ _ (hlt hds) e5, hlt hds, hdg⟩ fun _ h => nomatch h))
    refine wpAny_mono (Q := fun ok s₃ => Halt (ok = (!touch st₁ ln₁ gp.st gp.ln) ∧ ∃ h₄ tk₄ r'', s₃ = { s' with heap := h₄, toks := tk₄ } ∧ On up X Y B (mst st₁ ln₁ gp.st gp.ln) (mln st₁ ln₁ gp.st gp.ln) r'' ∧ r''.rid = r.rid ∧ h₄.get? d = some (dictOf (rcEs w.params r'') 5) ∧ Keep [d] h₃ h₄)) ?_ (fun ok s₃ h₄ => ?_) fun _ _ x => x
    · clear N F hQ hdis gs one
      k_steps
      refine Halt.mk ?_
      have hgo := hH gp hmem
      have hgn := hne gp hmem
      have HS : Has G₀ h₃ [(a, instObj 203 d), (d, dictOf (rcEs w.params r') 5), (gp.a, instObj 203 gp.d), (gp.d, dictOf (rcEs w.params gp.r) 5)] := by
        intro q hq
        rcases List.mem_cons.mp hq with rfl | hq
        · exact ⟨(N₃ _ (.tail _ (.head _))).1, ha0⟩
        rcases List.mem_cons.mp hq with rfl | hq
        · exact ⟨(N₃ _ (.tail _ (.tail _ (.head _)))).1, hd0⟩
        · exact ⟨F₃.keep _ _ (hgo q hq).1, (hgo q hq).2⟩
      refine wpAny_mono (join_c G a d gp.a gp.d r' gp.r up X Y B st₁ ln₁ gp.st gp.ln e2 (hok gp hmem).1 e3 (hok gp hmem).2 hB hdis' (fun e => hnd (a, instObj 203 d) (.tail _ (.tail _ (.tail _ (.tail _ (.head _))))) e) (hgn _ (.head _)) (hgn _ (.tail _ (.head _))) (dp + 1) _ _ (un + 3) { s' with heap := h₃, toks := s'.toks + 1 } _ (by ktu_offL) (by ktu_offL) (fun b o e => F₃.keep _ _ (hG b o e)) HS) (fun v s₄ hv => ?_) fun _ _ x => x
      obtain ⟨h₄, tk₄, rfl, k₄, rfl, r'', hon, hrid, hd₄⟩ := hv
      k_steps
      exact ⟨rfl, h₄, tk₄, r'', rfl, hon, hrid.trans e4, hd₄, k₄⟩
    have h₅ := h₄.go
    clear h₄
    obtain ⟨rfl, h₄, tk₄, r'', rfl, hon, hrid, hd₄, k₄⟩ := h₅
    have hCd : C ∉ [d] := fun hm => hlt hds (List.mem_singleton.mp hm).symm
    have T₄ : Turn C [d] s' { s' with heap := h₄, toks := tk₄ } := ⟨⟨_, _, rfl⟩, fun b o hb e => k₄ b o (fun hm => hb (.tail _ hm)) (hs₃.extBut b o (fun q => hb (by simp [show b = C from q])) e), _, hn₃.at' fun o e => k₄ C o hCd e⟩
    have K₄ : Keep [d] s.heap h₄ := fun b o hb e => k₄ b o hb (hs₃.extBut b o (hlt e) (e6 b o hb e))
    have hpos : 0 < mln st₁ ln₁ gp.st gp.ln := by
      have := (hok gp hmem).2
      unfold mln
      split <;> ktu_offL
    cases ht : touch st₁ ln₁ gp.st gp.ln with
    | true =>
      simp only [Bool.not_true, Bool.false_eq_true, if_false]
      refine ⟨T₄, r'', ?_, ?_, ?_, hrid, hd₄, K₄⟩
      · rw [hpass, e1]; simp [pstep, ht]
      · rw [hpass]; exact hon
      · rw [hpass]; exact hpos
    | false =>
      simp only [Bool.not_false, if_true]
      refine nameC_L (k₄.fr F₃ hCd fun x hx => by rw [List.mem_singleton.mp hx]; exact hdg) (if_pos rfl) ?_ rfl rfl
      refine ⟨T₄, r'', ?_, ?_, ?_, hrid, hd₄, K₄⟩
      · rw [hpass, e1]; simp [pstep, ht]
      · rw [hpass]; exact hon
      · rw [hpass]; exact hpos
  · rintro D acc s' hDge hD ⟨r', e1, e2, e3, e4, e5, e6⟩ ⟨n', hpl⟩ ⟨h', tk', rfl⟩
    have off := new_off F hD
    have hsz : (refs secs).toArray.size = secs.length := by simp [refs]
    rw [hsz, List.take_length] at e1 e2
    subst e1
    have dL := (N _ (.tail _ (.tail _ (.tail _ (.tail _ (.tail _ (.head _))))))).2
    refine hQ h' D tk' n' r' (Nat.lt_of_lt_of_le F.ns.lt hDge) (e6.fr F (fun hm => dL.1 (List.mem_singleton.mp hm).symm) (fun x hx => by rw [List.mem_singleton.mp hx]; exact hdg)) (News.cons ⟨hpl, off⟩ fun q hq => ?_) e2 e4
    rcases List.mem_append.mp (show q ∈ [(L + 1, oc), (W, instObj 480 dW), (dW, dictOf (wEs w.params k tw th lr sf ls) 8), (ls, listOf (refs secs).toArray n), (a, instObj 203 d)] ++ [(d, dictOf (rcEs w.params r') 5)] from hq) with h | h
    · exact e6.one N (List.mem_append_left [(d, dictOf (rcEs w.params r) 5)] h) fun hm => hnd q h (List.mem_singleton.mp hm)
    · rw [List.mem_singleton.mp h]
      exact ⟨e5, dL⟩
end
section
variable {w : World} {mean : ExcName → Option Value} {mg mb : Str → Option Value} {loose : List Str} {G₀ : Heap}
theorem append_refs {prog : Program} {A : Around} {E : Value → Shared → Prop} {s : Shared} {h₀ : Heap} {L ls : Addr} {n : Nat} {m : Str → Option Value} {pre post : List (Addr × Obj)} {gs : List Gp} {Q : Value → Shared → Prop} (g : Gp) (F : Fr h₀ L s.heap m) (N : News h₀ L s.heap (pre ++ (ls, listOf (refs gs).toArray n) :: post))
    (h1 : ∀ q ∈ pre, q.1 ≠ ls) (h2 : ∀ q ∈ post, q.1 ≠ ls) (hlen : gs.length < sizeLine) (h : ∀ h' n', Fr h₀ L h' m → News h₀ L h' (pre ++ (ls, listOf (refs (gs ++ [g])).toArray n') :: post) → Q .none { s with heap := h' }) :
    wpAny (model prog w) A (call (.builtin "list.append") [.ref ls, .ref g.a]) Q E s := by
  have hm := N (ls, listOf (refs gs).toArray n) (List.mem_append_right _ (.head _))
  refine wpAny_list_append_plain (items := (refs gs).toArray) ⟨n, hm.1⟩ (fun h' hp hs => ?_) (by simp [refs]; ktu_offL)
  obtain ⟨n', hp⟩ := hp
  refine h h' n' ⟨F.ns.sameBut hs (Ne.symm hm.2.1), fun b o e => (hs.2 b (fun q => ?_)).trans (F.keep b o e), F.above⟩ (N.setAt h1 h2 hs ?_)
  · rw [q, hm.2.2] at e; cases e
  · rw [hp]; simp [refs, PySem.W.listOf]

inductive SectPost (P : Params) (up : Bool) (X Y B : Int) (k : Nat → Tok) (tw th : Tok) (lr sf ls dW a d : Addr) (secs : List Gp) (st ln : Int) (h : Heap) (v : Value) (h' : Heap) : Prop
  | mk (e : v = .none) (ls' : Addr) (n' : Nat) (r' : Rc) (t : Tok) (e1 : h'.get? dW = some (dictOf (wEs P k tw th lr sf ls') 8)) (e2 : ls' = ls ∨ h.get? ls' = none)
    (e3 : h'.get? ls' = some (listOf (refs ((pass st ln secs).2.2 ++ [⟨a, d, r', (pass st ln secs).1, (pass st ln secs).2.1⟩])).toArray n'))
    (e4 : On up X Y B (pass st ln secs).1 (pass st ln secs).2.1 r') (e5 : r'.rid = .int 0 t) (e6 : h'.get? d = some (dictOf (rcEs P r') 5)) : SectPost P up X Y B k tw th lr sf ls dW a d secs st ln h v h'

theorem sect_fin {P : Params} {s : Shared} {g h' : Heap} {L' W dW lr sf ls a d D : Addr} {m' : Str → Option Value} {tk n n' : Nat} {oc : Obj} {k : Nat → Tok} {tw th t : Tok} {secs kept : List Gp} {r r₂ : Rc} {up : Bool} {X Y B st ln st₂ ln₂ : Int} {G₀ : Heap} {news : List (Addr × Obj)}
    (hg : g = hideAll s.heap ([(W, instObj 480 dW), (dW, dictOf (wEs P k tw th lr sf ls) 8), (ls, PySem.W.listOf (refs secs).toArray n), (a, instObj 203 d), (d, dictOf (rcEs P r) 5)].map (·.1)))
    (hC : Has G₀ s.heap [(W, instObj 480 dW), (dW, dictOf (wEs P k tw th lr sf ls) 8), (ls, PySem.W.listOf (refs secs).toArray n), (a, instObj 203 d), (d, dictOf (rcEs P r) 5)]) (F : Fr g L' h' m')
    (N : News g L' h' ((L' + 1, oc) :: (W, instObj 480 dW) :: (dW, dictOf (wEs P k tw th lr sf D) 8) :: (D, PySem.W.listOf (refs (kept ++ [⟨a, d, r₂, st₂, ln₂⟩])).toArray n') :: (a, instObj 203 d) :: (d, dictOf (rcEs P r₂) 5) :: news))
    (hp : pass st ln secs = (st₂, ln₂, kept)) (hr : On up X Y B st₂ ln₂ r₂) (hrid : r₂.rid = .int 0 t) (hD : D = ls ∨ s.heap.get? D = none) :
    OutI s [dW, ls, d] (SectPost P up X Y B k tw th lr sf ls dW a d secs st ln s.heap) .none { s with heap := h', toks := tk } := by
  refine OutI.intro hg (fun q hq => (hC q hq).1) F N (List.forall_mem_cons.mpr ⟨.inr (.tail _ (.head _)), List.forall_mem_cons.mpr ⟨.inl (.head _), List.forall_mem_cons.mpr ⟨.inl (.tail _ (.head _)), List.forall_mem_cons.mpr ⟨.inr (.tail _ (.tail _ (.tail _ (.tail _ (.head _))))), List.forall_mem_cons.mpr ⟨.inl (.tail _ (.tail _ (.head _))), List.forall_mem_nil _⟩⟩⟩⟩⟩) ⟨rfl, D, n', r₂, t, (N _ (.tail _ (.tail _ (.head _)))).1, hD, ?_, ?_, hrid, (N _ (.tail _ (.tail _ (.tail _ (.tail _ (.tail _ (.head _))))))).1⟩
  · rw [hp]
    exact (N _ (.tail _ (.tail _ (.tail _ (.head _))))).1
  · rw [hp]
    exact hr
theorem none_above {h : Heap} {a L : Addr} (hL : L = h.objs.size) (ha : @LT.lt Nat _ L a) : h.get? a = none := by
  cases e : h.get? a with
  | none => rfl
  | some o => exact absurd (Nat.lt_trans (Heap.lt_size e) (hL ▸ ha)) (Nat.lt_irrefl _)

theorem off3 {a b c x : Addr} {oa ob oc : Obj} (h1 : @Ne Nat x a) (h2 : @Ne Nat x b) (h3 : @Ne Nat x c) : ∀ q ∈ [(a, oa), (b, ob), (c, oc)], q.1 ≠ x := by
  exact List.forall_mem_cons.mpr ⟨Ne.symm h1, List.forall_mem_cons.mpr ⟨Ne.symm h2, List.forall_mem_cons.mpr ⟨Ne.symm h3, List.forall_mem_nil _⟩⟩⟩
theorem off2 {a b x : Addr} {oa ob : Obj} (h1 : @Ne Nat x a) (h2 : @Ne Nat x b) : ∀ q ∈ [(a, oa), (b, ob)], q.1 ≠ x := by
  exact List.forall_mem_cons.mpr ⟨Ne.symm h1, List.forall_mem_cons.mpr ⟨Ne.symm h2, List.forall_mem_nil _⟩⟩
theorem sect_c (G : Gnd w mean mg mb loose G₀) (W dW lr sf ls a d : Addr) (k : Nat → Tok) (tw th : Tok) (n : Nat) (secs : List Gp) (r : Rc) (up : Bool) (X Y B st ln : Int) (hr : On up X Y B st ln r) (hok : ∀ q ∈ secs, q.ok up X Y B) (hB : 0 < B) (hln : 0 < ln)
    (hsep : Sep Gp.st Gp.ln secs) (hfree : Free Gp.st Gp.ln st ln secs) (hsz : secs.length < sizeLine)
    (h1 : @Ne Nat W dW) (h2 : @Ne Nat W ls) (h3 : @Ne Nat W d) (h4 : @Ne Nat dW ls) (h5 : @Ne Nat a dW) (h6 : @Ne Nat d dW) (h7 : @Ne Nat a ls) (h8 : @Ne Nat d ls) (h9 : @Ne Nat a d)
    (hne : ∀ q ∈ secs, ∀ o ∈ q.objs w.params, o.1 ∉ [W, dW, ls, a, d]) :
    CI w G₀ 20 200 330 [.ref W, .ref a] ([(W, instObj 480 dW), (dW, dictOf (wEs w.params k tw th lr sf ls) 8), (ls, listOf (refs secs).toArray n), (a, instObj 203 d), (d, dictOf (rcEs w.params r) 5)] ++ secs.flatMap (Gp.objs w.params)) [dW, ls, d]
      (SectPost w.params up X Y B k tw th lr sf ls dW a d secs st ln) := by
  have zC : Mine.Stop "comp" := ⟨trivial⟩
  have zS0 : Mine.Stop "eval ListComp" := ⟨trivial⟩
  have zS1 : Mine.Stop "call ref" := ⟨trivial⟩
  have zS2 : Mine.Stop "call builtin:list.append" := ⟨trivial⟩
  have zS3 : Mine.Stop "truthy ref" := ⟨trivial⟩
  have zS4 : Mine.Stop "call builtin:len" := ⟨trivial⟩
  intro dp fr gd un s E hd hu hG hC
  have hC5 : Has G₀ s.heap [(W, instObj 480 dW), (dW, dictOf (wEs w.params k tw th lr sf ls) 8), (ls, listOf (refs secs).toArray n), (a, instObj 203 d), (d, dictOf (rcEs w.params r) 5)] := fun q hq => hC q (List.mem_append_left _ hq)
  have hCg : ∀ q ∈ secs, ∀ o ∈ q.objs w.params, s.heap.get? o.1 = some o.2 ∧ G₀.get? o.1 = none := fun q hq o ho => hC o (List.mem_append_right _ (List.mem_flatMap.mpr ⟨q, hq, ho⟩))
  have ha0 := (hC5 _ (.tail _ (.tail _ (.tail _ (.head _))))).2
  have hd0 := (hC5 _ (.tail _ (.tail _ (.tail _ (.tail _ (.head _)))))).2
  have hpos : PosL Gp.ln secs := fun q hq => (hok q hq).2
  have GT := G
  obtain ⟨KX, T⟩ := G
  refine wpAny_call (code_startC KX T hG hC5 (by k_is) (by k_is) (by k_room) (BindsTo.of_eq rfl) rfl (by decide +kernel) ?_ rfl rfl rfl)
  intro g L' h₁ tk cells hg F N Y X' T' hlt hL
  have hGg : G₀.StaysIn g := by
    rw [hg]
    exact stays_hideAll hG fun b hb => by obtain ⟨q, hq, rfl⟩ := List.mem_map.mp hb; exact (hC5 q hq).2
  have hgap : ∀ q ∈ secs, ∀ o ∈ q.objs w.params, g.get? o.1 = some o.2 ∧ G₀.get? o.1 = none := fun q hq o ho => by
    refine ⟨?_, (hCg q hq o ho).2⟩
    rw [hg]
    exact hideAll_get _ (hCg q hq o ho).1 (hne q hq o ho)
  have hY := CellsAre.one Y
  obtain ⟨oc, hE, d1'⟩ := hY
  rw [hE] at N
  clear Y
  dsimp only [List.cons_append, List.nil_append] at N
  clear KX T hC
  k_lt hlt
  have d1 : _ = Data.cell (some (.ref a)) := d1'
  clear d1'
  (with_reducible show wpAny _ _ _ _ _ _)
  k_fold
  k_steps
  refine Halt.mk ?_
  refine truthy_refs (by assumption) (.tail _ (.tail _ (.tail _ (.head _)))) hsz ?_
  by_cases hse : secs.isEmpty = true
  · have hsecs : secs = [] := List.isEmpty_iff.mp hse
    rw [hse]
    dsimp only [Bool.not_true]
    have j0 : @Ne Nat ls (L' + 1) := fun e => by
      have : @LT.lt Nat _ ls L' := hlt.2.2.1
      rw [e] at this
      exact absurd (Nat.lt_of_succ_lt this) (Nat.lt_irrefl _)
    k_steps
    refine Halt.mk ?_
    (with_reducible rename News _ _ _ _ => N₄)
    (with_reducible rename Fr _ _ _ _ => F₄)
    refine append_refs (pre := [(L' + 1, oc), (W, instObj 480 dW), (dW, dictOf (wEs w.params k tw th lr sf ls) 8)]) (post := [(a, instObj 203 d), (d, _)]) ⟨a, d, r, st, ln⟩ F₄ N₄ (off3 j0 (Ne.symm h2) (Ne.symm h4)) (off2 (Ne.symm h7) (Ne.symm h8)) hsz (fun h₅ n₅ F₅ N₅ => ?_)
    clear N₄ F₄
    k_steps
    (with_reducible rename News _ _ _ _ => N₆)
    (with_reducible rename Fr _ _ _ _ => F₆)
    rw [hsecs] at N₆
    exact sect_fin (kept := []) (r₂ := ⟨r.x, r.y, r.w, r.h, r.tx, r.ty, r.tw, r.th, .int 0 _, r.k⟩) hg hC5 F₆ N₆ (by rw [hsecs]; rfl) (by cases up <;> exact hr) rfl (.inl rfl)
  · have hls : 0 < secs.length := List.length_pos_iff.mpr fun e => hse (List.isEmpty_iff.mpr e)
    rw [Bool.eq_false_iff.mpr hse]
    clear hse
    dsimp only [Bool.not_false]
    k_steps
    refine Halt.mk ?_
    refine len_refs (by assumption) (.tail _ (.tail _ (.tail _ (.head _)))) hsz ?_
    dsimp only
    k_steps
    all_goals (try (exfalso; ktu_offL))
    refine Halt.mk ?_
    refine len_refs (by assumption) (.tail _ (.tail _ (.tail _ (.head _)))) hsz ?_
    dsimp only
    k_steps
    refine Halt.mk ?_
    have hd1 : ∀ {b : Addr}, @LT.lt Nat _ b L' → @Ne Nat (L' + 1) b := fun h => by intro e; rw [← e] at h; exact absurd (Nat.lt_of_succ_lt h) (Nat.lt_irrefl _)
    have hnd : ∀ q ∈ secs, ∀ o ∈ q.objs w.params, @Ne Nat o.1 d := fun q hq o ho e => hne q hq o ho (by rw [show o.1 = d from e]; walk_at "mem")
    (with_reducible rename News _ _ _ _ => N₁)
    (with_reducible rename Fr _ _ _ _ => F₁)
    refine comp_sect (W := W) (dW := dW) (lr := lr) (sf := sf) (ls := ls) (a := a) (d := d) (k := k) (tw := tw) (th := th) (n := n) (oc := oc) (secs := secs) (r := ⟨r.x, r.y, r.w, r.h, r.tx, r.ty, r.tw, r.th, .int 0 _, r.k⟩) rfl GT (by ktu_offL) (by ktu_offL) F₁ rfl X' T' N₁ rfl d1 hGg hgap hnd hok (by cases up <;> exact hr) (hd1 hlt.2.2.2.2) h3 (Ne.symm h6) (Ne.symm h8) h9 hsz ha0 hd0 hln hB
      (fun i q hq => gpass_take_free Gp.st Gp.ln secs st ln hsep hpos hfree hln i q hq) (fun h₂ D tk₂ n₂ r₂ hLD F₂ N₂ hr₂ hrid₂ => ?_)
    dsimp only at hrid₂
    have N₃ : News g L' h₂ [(L' + 1, oc), (W, instObj 480 dW), (dW, dictOf (wEs w.params k tw th lr sf ls) 8), (D, listOf (refs (pass st ln secs).2.2).toArray n₂), (a, instObj 203 d), (d, dictOf (rcEs w.params r₂) 5)] := fun q hq => N₂ q (subm hq (by walk_at "sub"))
    have g0' : @Ne Nat D (L' + 1) := fun e => by
      have x := (N₃ _ (.tail _ (.tail _ (.tail _ (.head _))))).1
      have y := (N₃ _ (.head _)).1
      rw [show D = L' + 1 from e, y] at x
      rw [show oc = _ from Option.some.inj x] at d1
      cases d1
    clear N₁ F₁ N₂
    have ok := gpass_ok Gp.st Gp.ln secs st ln hsep hpos hfree hln
    rw [pass_eq] at hr₂ N₃
    have hpe := pass_eq st ln secs
    generalize gpass Gp.st Gp.ln st ln secs = p at ok hr₂ N₃ hpe
    obtain ⟨st₂, ln₂, kept⟩ := p
    obtain ⟨ok1, ok2, ok3, ok4, ok5⟩ := ok
    dsimp only at ok1 ok2 ok3 ok4 ok5 hr₂ N₃
    have hkl : kept.length ≤ secs.length := by rw [ok3]; exact List.length_filter_le ..
    have hkm : ∀ q ∈ kept, q ∈ secs := fun q hq => by rw [ok3] at hq; exact (List.mem_filter.mp hq).1
    have gt : ∀ {b : Addr}, @LT.lt Nat _ b L' → @Ne Nat D b := fun h e => by rw [e] at hLD; exact absurd (Nat.lt_trans hLD h) (Nat.lt_irrefl _)
    have g1 := gt hlt.1
    have g2 := gt hlt.2.1
    have g4 := gt hlt.2.2.2.1
    have g5 := gt hlt.2.2.2.2
    have g6 := hd1 hlt.2.1
    k_steps
    refine Halt.mk ?_
    refine truthy_refs (by assumption) (.tail _ (.tail _ (.tail _ (.head _)))) (by ktu_offL) ?_
    by_cases hke : kept.isEmpty = true
    · rw [hke]
      dsimp only [Bool.not_true]
      k_steps
      refine Halt.mk ?_
      (with_reducible rename News _ _ _ _ => N₄)
      (with_reducible rename Fr _ _ _ _ => F₄)
      refine append_refs (pre := [(L' + 1, oc), (W, instObj 480 dW), (dW, dictOf (wEs w.params k tw th lr sf D) 8)]) (post := [(a, instObj 203 d), (d, dictOf (rcEs w.params r₂) 5)]) ⟨a, d, r₂, st₂, ln₂⟩ F₄ N₄ (off3 g0' g1 g2) (off2 g4 g5) (by ktu_offL) (fun h₅ n₅ F₅ N₅ => ?_)
      clear N₄ F₄
      k_steps
      exact sect_fin hg hC5 (by assumption) (by assumption) hpe hr₂ hrid₂ (.inr (none_above hL hLD))
    · have hke := Bool.eq_false_iff.mpr hke
      rw [hke]
      dsimp only [Bool.not_false]
      k_steps
      refine Halt.mk ?_
      refine len_refs (by assumption) (.tail _ (.tail _ (.tail _ (.head _)))) (by ktu_offL) ?_
      dsimp only
      k_steps
      · refine Halt.mk ?_
        refine len_refs (by assumption) (.tail _ (.tail _ (.tail _ (.head _)))) (by ktu_offL) ?_
        dsimp only
        k_steps
        refine Halt.mk ?_
        (with_reducible rename News _ _ _ _ => N₄)
        (with_reducible rename Fr _ _ _ _ => F₄)
        have hposk : PosL Gp.ln kept := fun q hq => hpos q (hkm q hq)
        have hpe2 : pass st₂ ln₂ kept = (st₂, ln₂, kept) := (pass_eq ..).trans (gpass_apart _ _ _ _ _ hposk ok1 ok2)
        refine comp_sect (W := W) (dW := dW) (lr := lr) (sf := sf) (ls := D) (a := a) (d := d) (k := k) (tw := tw) (th := th) (n := n₂) (oc := oc) (secs := kept) (r := r₂) rfl GT (by ktu_offL) (by ktu_offL) F₄ rfl X' T' N₄ rfl d1 hGg (fun q hq => hgap q (hkm q hq)) (fun q hq => hnd q (hkm q hq)) (fun q hq => hok q (hkm q hq)) hr₂ (hd1 hlt.2.2.2.2) h3 (Ne.symm h6) g5 h9 (by ktu_offL) ha0 hd0 ok1 hB
          (fun i q hq => ?_) (fun h₆ D₂ tk₆ n₆ r₆ hLD₂ F₆ N₆ hr₆ hrid₆ => ?_)
        · have sub := List.take_sublist i kept
          have e : pass st₂ ln₂ (kept.take i) = (st₂, ln₂, kept.take i) := (pass_eq ..).trans (gpass_apart _ _ _ _ _ (fun x hx => hposk x (sub.subset hx)) ok1 fun x hx => ok2 x (sub.subset hx))
          have m := List.mem_of_getElem? hq
          have x := ok2 q m
          have y := hposk q m
          unfold Apart at x
          rw [e]
          dsimp only
          ktu_offL
        rw [hpe2] at hr₆ N₆
        dsimp only at hr₆ N₆
        have N₇ : News g L' h₆ [(L' + 1, oc), (W, instObj 480 dW), (dW, dictOf (wEs w.params k tw th lr sf D) 8), (D₂, listOf (refs kept).toArray n₆), (a, instObj 203 d), (d, dictOf (rcEs w.params r₆) 5)] := fun q hq => N₆ q (subm hq (by walk_at "sub"))
        have gt2 : ∀ {b : Addr}, @LT.lt Nat _ b L' → @Ne Nat D₂ b := fun h e => by rw [e] at hLD₂; exact absurd (Nat.lt_trans hLD₂ h) (Nat.lt_irrefl _)
        have g0'' : @Ne Nat D₂ (L' + 1) := fun e => by
          have x := (N₇ _ (.tail _ (.tail _ (.tail _ (.head _))))).1
          have y := (N₇ _ (.head _)).1
          rw [show D₂ = L' + 1 from e, y] at x
          rw [show oc = _ from Option.some.inj x] at d1
          cases d1
        clear N₄ F₄ N₆
        have i1 := gt2 hlt.1
        have i2 := gt2 hlt.2.1
        have i4 := gt2 hlt.2.2.2.1
        have i5 := gt2 hlt.2.2.2.2
        k_steps
        refine Halt.mk ?_
        refine truthy_refs (by assumption) (.tail _ (.tail _ (.tail _ (.head _)))) (by ktu_offL) ?_
        rw [hke]
        dsimp only [Bool.not_false]
        k_steps
        refine Halt.mk ?_
        refine len_refs (by assumption) (.tail _ (.tail _ (.tail _ (.head _)))) (by ktu_offL) ?_
        dsimp only
        k_steps
        all_goals (try (exfalso; ktu_offL))
        refine Halt.mk ?_
        (with_reducible rename News _ _ _ _ => N₄)
        (with_reducible rename Fr _ _ _ _ => F₄)
        refine append_refs (pre := [(L' + 1, oc), (W, instObj 480 dW), (dW, dictOf (wEs w.params k tw th lr sf D₂) 8)]) (post := [(a, instObj 203 d), (d, dictOf (rcEs w.params r₆) 5)]) ⟨a, d, r₆, st₂, ln₂⟩ F₄ N₄ (off3 g0'' i1 i2) (off2 i4 i5) (by ktu_offL) (fun h₅ n₅ F₅ N₅ => ?_)
        clear N₄ F₄
        k_steps
        exact sect_fin hg hC5 (by assumption) (by assumption) hpe hr₆ (hrid₆.trans hrid₂) (.inr (none_above hL hLD₂))
      · refine Halt.mk ?_
        (with_reducible rename News _ _ _ _ => N₄)
        (with_reducible rename Fr _ _ _ _ => F₄)
        refine append_refs (pre := [(L' + 1, oc), (W, instObj 480 dW), (dW, dictOf (wEs w.params k tw th lr sf D) 8)]) (post := [(a, instObj 203 d), (d, dictOf (rcEs w.params r₂) 5)]) ⟨a, d, r₂, st₂, ln₂⟩ F₄ N₄ (off3 g0' g1 g2) (off2 g4 g5) (by ktu_offL) (fun h₅ n₅ F₅ N₅ => ?_)
        clear N₄ F₄
        k_steps
        exact sect_fin hg hC5 (by assumption) (by assumption) hpe hr₂ hrid₂ (.inr (none_above hL hLD))
end
end Mine

namespace Mine
section
variable {w : World} {mean : ExcName → Option Value} {mg mb : Str → Option Value} {loose : List Str} {G₀ : Heap}
inductive WastePost (P : Params) (up : Bool) (X Y B : Int) (k : Nat → Tok) (tw th : Tok) (lr sf ls dW : Addr) (secs : List Gp) (st ln : Int) (h : Heap) (v : Value) (h' : Heap) : Prop
  | mk (e : v = .none) (a d : Addr) (z1 : h.get? a = none) (z2 : h.get? d = none) (z3 : @Ne Nat a d) (ls' : Addr) (n' : Nat) (r' : Rc) (t : Tok) (z4 : h'.get? dW = some (dictOf (wEs P k tw th lr sf ls') 8)) (z5 : ls' = ls ∨ h.get? ls' = none)
    (z6 : h'.get? ls' = some (listOf (refs ((pass st ln secs).2.2 ++ [⟨a, d, r', (pass st ln secs).1, (pass st ln secs).2.1⟩])).toArray n'))
    (z7 : On up X Y B (pass st ln secs).1 (pass st ln secs).2.1 r') (z8 : r'.rid = .int 0 t) (z9 : h'.get? a = some (instObj 203 d)) (z10 : h'.get? d = some (dictOf (rcEs P r') 5)) : WastePost P up X Y B k tw th lr sf ls dW secs st ln h v h'

theorem fresh_of {h g : Heap} {as : List Addr} (hg : g = hideAll h as) {a : Addr} (hn : g.get? a = none) (ha : a ∉ as) : h.get? a = none := by
  cases e : h.get? a with
  | none => rfl
  | some o => rw [hg, hideAll_get _ e ha] at hn; cases hn
theorem none_back {h g h' : Heap} {as : List Addr} {news : List (Addr × Obj)} (hg : g = hideAll h as) (F : ∀ b o, g.get? b = some o → h'.get? b = some o) (N : ∀ q ∈ news, h'.get? q.1 = some q.2) (hs : ∀ a ∈ as, a ∈ news.map (·.1)) {b : Addr} (hn : h'.get? b = none) : h.get? b = none := by
  cases e : h.get? b with
  | none => rfl
  | some o =>
    by_cases hm : b ∈ as
    · obtain ⟨q, hq, hb⟩ := List.mem_map.mp (hs b hm)
      have := N q hq
      rw [show q.1 = b from hb, hn] at this; cases this
    · have := F b o (by rw [hg]; exact hideAll_get _ e hm)
      rw [hn] at this; cases this

/-- _add_section called on a section that stands in the ledger -/
theorem sect_call {dp un : Nat} {fr : Option (List Env)} {gd : Option (List Code)} {s : Shared} {E Q : Value → Shared → Prop} {g : Heap} {L W dW lr sf ls a d : Addr} {m : Str → Option Value} {k : Nat → Tok} {tw th : Tok} {n : Nat} {es : List DictEntry} {rest : List (Addr × Obj)} {secs : List Gp} {r : Rc} {up : Bool} {X Y B st ln : Int}
    (G : Gnd w mean mg mb loose G₀) (F : Fr g L s.heap m)
    (N : News g L s.heap ((a, instObj 203 d) :: (d, dictOf es 5) :: (W, instObj 480 dW) :: (dW, dictOf (wEs w.params k tw th lr sf ls) 8) :: (ls, listOf (refs secs).toArray n) :: rest)) (hes : es = rcEs w.params r)
    (hr : On up X Y B st ln r) (hok : ∀ q ∈ secs, q.ok up X Y B) (hB : 0 < B) (hln : 0 < ln) (hsep : Sep Gp.st Gp.ln secs) (hfree : Free Gp.st Gp.ln st ln secs) (hsz : secs.length < sizeLine)
    (hGg : G₀.StaysIn g) (hgap : ∀ q ∈ secs, ∀ o ∈ q.objs w.params, g.get? o.1 = some o.2 ∧ G₀.get? o.1 = none)
    (h1 : @Ne Nat W dW) (h2 : @Ne Nat W ls) (h3 : @Ne Nat W d) (h4 : @Ne Nat dW ls) (h5 : @Ne Nat a dW) (h6 : @Ne Nat d dW) (h7 : @Ne Nat a ls) (h8 : @Ne Nat d ls) (h9 : @Ne Nat a d) (hrest : ∀ q ∈ rest, q.1 ∉ [dW, ls, d])
    (hd : dp + 20 < recursionLimit) (hu : un + 200 < cLine)
    (hQ : ∀ h' tk ls' n' r' t, Keep [dW, ls, d] s.heap h' → Fr g L h' m → News g L h' ((a, instObj 203 d) :: (d, dictOf (rcEs w.params r') 5) :: (W, instObj 480 dW) :: (dW, dictOf (wEs w.params k tw th lr sf ls') 8) :: (ls', listOf (refs ((pass st ln secs).2.2 ++ [⟨a, d, r', (pass st ln secs).1, (pass st ln secs).2.1⟩])).toArray n') :: rest) →
      (ls' = ls ∨ s.heap.get? ls' = none) → On up X Y B (pass st ln secs).1 (pass st ln secs).2.1 r' → r'.rid = .int 0 t → Q .none { s with heap := h', toks := tk }) :
    wpAny (model PR w) (AT dp fr gd un) (call (.ref 330) [.ref W, .ref a]) Q E s := by
  subst hes
  have nA := N (a, instObj 203 d) (.head _)
  have nD := N (d, dictOf (rcEs w.params r) 5) (.tail _ (.head _))
  have nW := N (W, instObj 480 dW) (.tail _ (.tail _ (.head _)))
  have nDW := N (dW, dictOf (wEs w.params k tw th lr sf ls) 8) (.tail _ (.tail _ (.tail _ (.head _))))
  have nL := N (ls, listOf (refs secs).toArray n) (.tail _ (.tail _ (.tail _ (.tail _ (.head _)))))
  have hne : ∀ q ∈ secs, ∀ o ∈ q.objs w.params, o.1 ∉ [W, dW, ls, a, d] := fun q hq o ho hm =>
    have hs := (hgap q hq o ho).1
    or5 (mem5 hm) (get_ne hs nW.2.2) (get_ne hs nDW.2.2) (get_ne hs nL.2.2) (get_ne hs nA.2.2) (get_ne hs nD.2.2)
  have HS : Has G₀ s.heap ([(W, instObj 480 dW), (dW, dictOf (wEs w.params k tw th lr sf ls) 8), (ls, listOf (refs secs).toArray n), (a, instObj 203 d), (d, dictOf (rcEs w.params r) 5)] ++ secs.flatMap (Gp.objs w.params)) := fun q hq => (List.mem_append.mp hq).elim
    (fun hq => (List.forall_mem_cons.mpr ⟨⟨nW.1, off_base hGg nW.2.2⟩, List.forall_mem_cons.mpr ⟨⟨nDW.1, off_base hGg nDW.2.2⟩, List.forall_mem_cons.mpr ⟨⟨nL.1, off_base hGg nL.2.2⟩, List.forall_mem_cons.mpr ⟨⟨nA.1, off_base hGg nA.2.2⟩, List.forall_mem_cons.mpr ⟨⟨nD.1, off_base hGg nD.2.2⟩, List.forall_mem_nil _⟩⟩⟩⟩⟩ : ∀ q ∈ [(W, instObj 480 dW), (dW, dictOf (wEs w.params k tw th lr sf ls) 8), (ls, listOf (refs secs).toArray n), (a, instObj 203 d), (d, dictOf (rcEs w.params r) 5)], s.heap.get? q.1 = some q.2 ∧ G₀.get? q.1 = none) q hq)
    fun hq => by
      obtain ⟨p, hp, ho⟩ := List.mem_flatMap.mp hq
      exact ⟨F.keep _ _ (hgap p hp q ho).1, (hgap p hp q ho).2⟩
  refine wpAny_out (sect_c G W dW lr sf ls a d k tw th n secs r up X Y B st ln hr hok hB hln hsep hfree hsz h1 h2 h3 h4 h5 h6 h7 h8 h9 hne dp fr gd un s E hd hu (fun b o e => F.keep _ _ (hGg b o e)) HS) (fun v h' tk' kp hv => ?_)
  obtain ⟨rfl, ls', n', r', t, e1, e2, e3, e4, e5, e6⟩ := hv
  refine hQ h' tk' ls' n' r' t kp (kp.fr F (fun hm => or3 (mem3 hm) (fun e => nDW.2.1 e.symm) (fun e => nL.2.1 e.symm) (fun e => nD.2.1 e.symm)) (List.forall_mem_cons.mpr ⟨nDW.2.2, List.forall_mem_cons.mpr ⟨nL.2.2, List.forall_mem_cons.mpr ⟨nD.2.2, List.forall_mem_nil _⟩⟩⟩)) ?_ e2 e4 e5
  · have off : ∀ {b : Addr}, @Ne Nat b dW → @Ne Nat b ls → @Ne Nat b d → b ∉ [dW, ls, d] := fun x y z hm => or3 (mem3 hm) x y z
    refine News.cons ⟨kp _ _ (off h5 h7 h9) nA.1, nA.2⟩ (News.cons ⟨e6, nD.2⟩ (News.cons ⟨kp _ _ (off h1 h2 h3) nW.1, nW.2⟩ (News.cons ⟨e1, nDW.2⟩ (News.cons ⟨e3, ?_⟩ fun q hq => ?_))))
    · rcases e2 with rfl | e2
      · exact nL.2
      · exact new_off F e2
    · have := N q (.tail _ (.tail _ (.tail _ (.tail _ (.tail _ hq)))))
      exact ⟨kp _ _ (hrest q hq) this.1, this.2⟩

theorem waste_c (G : Gnd w mean mg mb loose G₀) (W dW lr sf ls : Addr) (k : Nat → Tok) (tw th : Tok) (n : Nat) (secs : List Gp) (up : Bool) (X Y B st ln : Int) (x y wd hg : Int) (tx ty t1 t2 : Tok)
    (hr : ∀ k, On up X Y B st ln ⟨x, y, wd, hg, tx, ty, t1, t2, .none, k⟩) (hok : ∀ q ∈ secs, q.ok up X Y B) (hB : 0 < B) (hln : 0 < ln) (hw : 0 ≤ wd) (hh : 0 ≤ hg)
    (hsep : Sep Gp.st Gp.ln secs) (hfree : Free Gp.st Gp.ln st ln secs) (hsz : secs.length < sizeLine)
    (h1 : @Ne Nat W dW) (h2 : @Ne Nat W ls) (h4 : @Ne Nat dW ls) (hne : ∀ q ∈ secs, ∀ o ∈ q.objs w.params, o.1 ∉ [W, dW, ls]) :
    CI w G₀ 30 300 455 [.ref W, .int x tx, .int y ty, .int wd t1, .int hg t2] ([(W, instObj 480 dW), (dW, dictOf (wEs w.params k tw th lr sf ls) 8), (ls, listOf (refs secs).toArray n)] ++ secs.flatMap (Gp.objs w.params)) [dW, ls]
      (WastePost w.params up X Y B k tw th lr sf ls dW secs st ln) := by
  have zS0 : Mine.StopAt 330 := ⟨trivial⟩
  have zS1 : Mine.StopAt 203 := ⟨trivial⟩
  intro dp fr gd un s E hd hu hG hC
  have hC3 : Has G₀ s.heap [(W, instObj 480 dW), (dW, dictOf (wEs w.params k tw th lr sf ls) 8), (ls, listOf (refs secs).toArray n)] := fun q hq => hC q (List.mem_append_left _ hq)
  have hCg : ∀ q ∈ secs, ∀ o ∈ q.objs w.params, s.heap.get? o.1 = some o.2 ∧ G₀.get? o.1 = none := fun q hq o ho => hC o (List.mem_append_right _ (List.mem_flatMap.mpr ⟨q, hq, ho⟩))
  have GT := G
  obtain ⟨KX, T⟩ := G
  refine wpAny_call (code_start KX T hG hC3 (by k_is) (by k_is) (by k_room) (BindsTo.of_eq rfl) (locs rfl) ?_ rfl rfl rfl (by decide))
  intro g L' h₁ hgg F N X' T' hlt
  have hGg : G₀.StaysIn g := by
    rw [hgg]
    exact stays_hideAll hG fun b hb => by obtain ⟨q, hq, rfl⟩ := List.mem_map.mp hb; exact (hC3 q hq).2
  have hgap : ∀ q ∈ secs, ∀ o ∈ q.objs w.params, g.get? o.1 = some o.2 ∧ G₀.get? o.1 = none := fun q hq o ho => by
    refine ⟨?_, (hCg q hq o ho).2⟩
    rw [hgg]
    exact hideAll_get _ (hCg q hq o ho).1 (hne q hq o ho)
  clear KX T hC
  dsimp only
  (with_reducible show wpAny _ _ _ _ _ _)
  k_fold
  k_steps
  refine Halt.mk ?_
  (with_reducible rename News _ _ _ _ => N₀)
  (with_reducible rename Fr _ _ _ _ => F₀)
  refine rect_new (dp := dp + 1) (un := un + 3) GT F₀ N₀ hGg (by ktu_offL) (by ktu_offL) x y wd hg tx ty t1 t2 hw hh (fun x' d' hr' tkr kr F₁ N₁ l1 l2 => ?_)
  k_lt l1
  k_lt2 l2
  clear F₀ N₀
  k_steps
  refine Halt.mk ?_
  (with_reducible rename News _ _ _ _ => N₁)
  (with_reducible rename Fr _ _ _ _ => F₁)
  refine sect_call (dp := dp + 1) (un := un + 3) (r := ⟨x, y, wd, hg, tx, ty, t1, t2, .none, kr⟩) GT F₁ N₁ rfl (hr _) hok hB hln hsep hfree hsz hGg hgap h1 h2 (by ktu_offL) h4 (by ktu_offL) (by ktu_offL) (by ktu_offL) (by ktu_offL) (by ktu_offL) (List.forall_mem_nil _) (by ktu_offL) (by ktu_offL) (fun h₂ tk₂ ls' n' r' t kp F₂ N₂ e2 e4 e5 => ?_)
  k_steps
  have nx := (N₂ _ (.head _)).2.2
  have nd := (N₂ _ (.tail _ (.head _))).2.2
  have away : ∀ {b : Addr}, @Ne Nat b W → @Ne Nat b dW → @Ne Nat b ls → b ∉ [W, dW, ls] := fun x y z hm => or3 (mem3 hm) x y z
  have fx := fresh_of hgg nx (away (by ktu_offL) (by ktu_offL) (by ktu_offL))
  have fd := fresh_of hgg nd (away (by ktu_offL) (by ktu_offL) (by ktu_offL))
  refine OutI.intro hgg (fun q hq => (hC3 q hq).1) F₂ N₂ (by walk_at "oi") ⟨rfl, _, _, fx, fd, by ktu_offL, ls', n', r', t, (N₂ _ (.tail _ (.tail _ (.tail _ (.head _))))).1, ?_, (N₂ _ (.tail _ (.tail _ (.tail _ (.tail _ (.head _)))))).1, e4, e5, (N₂ _ (.head _)).1, (N₂ _ (.tail _ (.head _))).1⟩
  · rcases e2 with e2 | e2
    · exact .inl e2
    · refine .inr (none_back hgg F₁.keep (fun q hq => (N₁ q hq).1) (fun b hb => subm (l := [W, dW, ls]) hb (by walk_at "sub")) e2)
end
end Mine

namespace Mine
section
variable {w : World} {mean : ExcName → Option Value} {mg mb : Str → Option Value} {loose : List Str} {G₀ : Heap}
/-- what _section_fitness answers -/
noncomputable def FitV (r : Rc) (wd hg : Int) (v : Value) : Prop := if r.w < wd ∨ r.h < hg then v = .none else ∃ t, v = .int (r.w * r.h - wd * hg) t
theorem fit_c (G : Gnd w mean mg mb loose G₀) (W a d : Addr) (r : Rc) (wd hg : Int) (t1 t2 : Tok) (hm1 : IntMulOk r.w r.h) (hm2 : IntMulOk wd hg) :
    CI w G₀ 10 100 407 [.ref W, .ref a, .int wd t1, .int hg t2] [(a, instObj 203 d), (d, dictOf (rcEs w.params r) 5)] [] (fun _ v _ => FitV r wd hg v) := by
  intro dp fr gd un s E hd hu hG hC
  obtain ⟨KX, T⟩ := G
  refine wpAny_call (code_start KX T hG hC (by k_is) (by k_is) (by k_room) (BindsTo.of_eq rfl) (locs rfl) ?_ rfl rfl rfl (by decide))
  intro g L' h₁ hgg F N X' T' hlt
  clear KX T hlt
  dsimp only
  (with_reducible show wpAny _ _ _ _ _ _)
  k_fold
  k_steps
  · show OutI s [] (fun v _ => FitV r wd hg v) .none _
    refine OutI.intro hgg (fun q hq => (hC q hq).1) (by assumption) (by assumption) (fun q hq => .inr hq) ?_
    show FitV r wd hg .none
    unfold FitV
    rw [if_pos (by ktu_offL)]
  · show OutI s [] (fun v _ => FitV r wd hg v) .none _
    refine OutI.intro hgg (fun q hq => (hC q hq).1) (by assumption) (by assumption) (fun q hq => .inr hq) ?_
    show FitV r wd hg .none
    unfold FitV
    rw [if_pos (by ktu_offL)]
  · refine OutI.intro hgg (fun q hq => (hC q hq).1) (by assumption) (by assumption) (fun q hq => .inr hq) ?_
    unfold FitV
    rw [if_neg (by ktu_offL)]
    exact ⟨_, rfl⟩
end
end Mine

namespace Mine
section
variable {w : World} {mean : ExcName → Option Value} {mg mb : Str → Option Value} {loose : List Str} {G₀ : Heap}
theorem split_h (G : Gnd w mean mg mb loose G₀) (W dW lr sf ls e f : Addr) (k : Nat → Tok) (tw th : Tok) (n : Nat) (secs : List Gp) (up : Bool) (X Y B st ln : Int) (r : Rc) (wd hg : Int) (t1 t2 : Tok)
    (hr : ∀ tx ty t1 t2 k, On up X Y B st ln ⟨r.x, r.y + hg, r.w, r.h - hg, tx, ty, t1, t2, .none, k⟩) (hok : ∀ q ∈ secs, q.ok up X Y B) (hB : 0 < B) (hln : 0 < ln) (hp1 : 0 < r.w) (hp2 : 0 < hg)
    (hm1 : IntMulOk wd (r.h - hg)) (hm2 : IntMulOk hg (r.w - wd)) (hc : hg * (r.w - wd) ≤ wd * (r.h - hg)) (hlt1 : hg < r.h) (hlt2 : ¬ wd < r.w)
    (hsep : Sep Gp.st Gp.ln secs) (hfree : Free Gp.st Gp.ln st ln secs) (hsz : secs.length < sizeLine)
    (h1 : @Ne Nat W dW) (h2 : @Ne Nat W ls) (h4 : @Ne Nat dW ls) (h5 : @Ne Nat e dW) (h6 : @Ne Nat e ls) (h7 : @Ne Nat f dW) (h8 : @Ne Nat f ls) (hne : ∀ q ∈ secs, ∀ o ∈ q.objs w.params, o.1 ∉ [W, dW, ls, e, f]) :
    CI w G₀ 40 400 426 [.ref W, .ref e, .int wd t1, .int hg t2] ([(W, instObj 480 dW), (dW, dictOf (wEs w.params k tw th lr sf ls) 8), (ls, listOf (refs secs).toArray n), (e, instObj 203 f), (f, dictOf (rcEs w.params r) 5)] ++ secs.flatMap (Gp.objs w.params)) [dW, ls]
      (WastePost w.params up X Y B k tw th lr sf ls dW secs st ln) := by
  have zS0 : Mine.StopAt 330 := ⟨trivial⟩
  have zS1 : Mine.StopAt 203 := ⟨trivial⟩
  intro dp fr gd un s E hd hu hG hC
  have hC3 : Has G₀ s.heap [(W, instObj 480 dW), (dW, dictOf (wEs w.params k tw th lr sf ls) 8), (ls, listOf (refs secs).toArray n), (e, instObj 203 f), (f, dictOf (rcEs w.params r) 5)] := fun q hq => hC q (List.mem_append_left _ hq)
  have hCg : ∀ q ∈ secs, ∀ o ∈ q.objs w.params, s.heap.get? o.1 = some o.2 ∧ G₀.get? o.1 = none := fun q hq o ho => hC o (List.mem_append_right _ (List.mem_flatMap.mpr ⟨q, hq, ho⟩))
  have GT := G
  obtain ⟨KX, T⟩ := G
  refine wpAny_call (code_start KX T hG hC3 (by k_is) (by k_is) (by k_room) (BindsTo.of_eq rfl) (locs rfl) ?_ rfl rfl rfl (by decide))
  intro g L' h₁ hgg F N X' T' hlt
  have hGg : G₀.StaysIn g := by
    rw [hgg]
    exact stays_hideAll hG fun b hb => by obtain ⟨q, hq, rfl⟩ := List.mem_map.mp hb; exact (hC3 q hq).2
  have hgap : ∀ q ∈ secs, ∀ o ∈ q.objs w.params, g.get? o.1 = some o.2 ∧ G₀.get? o.1 = none := fun q hq o ho => by
    refine ⟨?_, (hCg q hq o ho).2⟩
    rw [hgg]
    exact hideAll_get _ (hCg q hq o ho).1 (hne q hq o ho)
  clear KX T hC
  dsimp only
  (with_reducible show wpAny _ _ _ _ _ _)
  k_fold
  k_steps
  refine Halt.mk ?_
  clear F N
  (with_reducible rename News _ _ _ _ => N₀)
  (with_reducible rename Fr g _ _ _ => FG)
  (with_reducible rename Fr _ _ _ _ => F₀)
  refine rect_new (dp := dp + 2) (un := un + 6) GT F₀ N₀ (fun b o e => FG.keep b o (hGg b o e)) (by ktu_offL) (by ktu_offL) _ _ _ _ _ _ _ _ (by ktu_offL) (by ktu_offL) (fun x' d' hr' tkr kr F₁ N₁ l1 l2 => ?_)
  k_lt l1
  k_lt2 l2
  clear F₀ N₀
  k_steps
  refine Halt.mk ?_
  (with_reducible rename News _ _ _ _ => N₁)
  (with_reducible rename Fr _ _ _ _ => F₁)
  have hk₁ : ∀ b o, g.get? b = some o → _ := fun b o e => F₁.keep b o (FG.keep b o e)
  refine sect_call (dp := dp + 2) (un := un + 6) (r := ⟨r.x, r.y + hg, r.w, r.h - hg, _, _, _, _, .none, kr⟩) GT F₁ N₁ rfl (hr _ _ _ _ _) hok hB hln hsep hfree hsz (fun b o e => FG.keep b o (hGg b o e)) (fun q hq o ho => ⟨FG.keep _ _ (hgap q hq o ho).1, (hgap q hq o ho).2⟩) h1 h2 (by ktu_offL) h4 (by ktu_offL) (by ktu_offL) (by ktu_offL) (by ktu_offL) (by ktu_offL) ?_ (by ktu_offL) (by ktu_offL) (fun h₂ tk₂ ls' n' r' t kp F₂ N₂ e2 e4 e5 => ?_)
  · exact List.forall_mem_cons.mpr ⟨fun hm => or3 (mem3 hm) (show @Ne Nat _ _ by ktu_offL) (show @Ne Nat _ _ by ktu_offL) (show @Ne Nat _ _ by ktu_offL), List.forall_mem_cons.mpr ⟨fun hm => or3 (mem3 hm) (show @Ne Nat _ _ by ktu_offL) (show @Ne Nat _ _ by ktu_offL) (show @Ne Nat _ _ by ktu_offL), List.forall_mem_nil _⟩⟩
  have none₁ : ∀ {b : Addr}, _ → s.heap.get? b = none := fun {b} hz => none_back hgg hk₁ (fun q hq => (N₁ q hq).1) (fun b hb => subm (l := [W, dW, ls, e, f]) hb (by walk_at "sub")) hz
  clear N₁ F₁
  k_steps
  show OutI s [dW, ls] (WastePost w.params up X Y B k tw th lr sf ls dW secs st ln s.heap) .none _
  (with_reducible rename News _ _ _ _ => N₂)
  (with_reducible rename Fr _ _ _ _ => F₂)
  have nx := (N₂ _ (.head _)).2.2
  have nd := (N₂ _ (.tail _ (.head _))).2.2
  have away : ∀ {b : Addr}, @Ne Nat b W → @Ne Nat b dW → @Ne Nat b ls → @Ne Nat b e → @Ne Nat b f → b ∉ [W, dW, ls, e, f] := fun x y z u v hm => or5 (mem5 hm) x y z u v
  have fx := fresh_of hgg nx (away (by ktu_offL) (by ktu_offL) (by ktu_offL) (by ktu_offL) (by ktu_offL))
  have fd := fresh_of hgg nd (away (by ktu_offL) (by ktu_offL) (by ktu_offL) (by ktu_offL) (by ktu_offL))
  refine OutI.intro hgg (fun q hq => (hC3 q hq).1) F₂ N₂ (by walk_at "oi") ⟨rfl, _, _, fx, fd, by ktu_offL, ls', n', r', t, (N₂ _ (.tail _ (.tail _ (.tail _ (.head _))))).1, ?_, (N₂ _ (.tail _ (.tail _ (.tail _ (.tail _ (.head _)))))).1, e4, e5, (N₂ _ (.head _)).1, (N₂ _ (.tail _ (.head _))).1⟩
  · rcases e2 with e2 | e2
    · exact .inl e2
    · exact .inr (none₁ e2)
theorem split_v (G : Gnd w mean mg mb loose G₀) (W dW lr sf ls e f : Addr) (k : Nat → Tok) (tw th : Tok) (n : Nat) (secs : List Gp) (up : Bool) (X Y B st ln : Int) (r : Rc) (wd hg : Int) (t1 t2 : Tok)
    (hr : ∀ tx ty t1 t2 k, On up X Y B st ln ⟨r.x + wd, r.y, r.w - wd, r.h, tx, ty, t1, t2, .none, k⟩) (hok : ∀ q ∈ secs, q.ok up X Y B) (hB : 0 < B) (hln : 0 < ln) (hp1 : 0 < r.h) (hp2 : 0 < wd)
    (hm1 : IntMulOk wd (r.h - hg)) (hm2 : IntMulOk hg (r.w - wd)) (hc : wd * (r.h - hg) < hg * (r.w - wd)) (hlt1 : ¬ hg < r.h) (hlt2 : wd < r.w)
    (hsep : Sep Gp.st Gp.ln secs) (hfree : Free Gp.st Gp.ln st ln secs) (hsz : secs.length < sizeLine)
    (h1 : @Ne Nat W dW) (h2 : @Ne Nat W ls) (h4 : @Ne Nat dW ls) (h5 : @Ne Nat e dW) (h6 : @Ne Nat e ls) (h7 : @Ne Nat f dW) (h8 : @Ne Nat f ls) (hne : ∀ q ∈ secs, ∀ o ∈ q.objs w.params, o.1 ∉ [W, dW, ls, e, f]) :
    CI w G₀ 40 400 426 [.ref W, .ref e, .int wd t1, .int hg t2] ([(W, instObj 480 dW), (dW, dictOf (wEs w.params k tw th lr sf ls) 8), (ls, listOf (refs secs).toArray n), (e, instObj 203 f), (f, dictOf (rcEs w.params r) 5)] ++ secs.flatMap (Gp.objs w.params)) [dW, ls]
      (WastePost w.params up X Y B k tw th lr sf ls dW secs st ln) := by
  have zS0 : Mine.StopAt 330 := ⟨trivial⟩
  have zS1 : Mine.StopAt 203 := ⟨trivial⟩
  intro dp fr gd un s E hd hu hG hC
  have hC3 : Has G₀ s.heap [(W, instObj 480 dW), (dW, dictOf (wEs w.params k tw th lr sf ls) 8), (ls, listOf (refs secs).toArray n), (e, instObj 203 f), (f, dictOf (rcEs w.params r) 5)] := fun q hq => hC q (List.mem_append_left _ hq)
  have hCg : ∀ q ∈ secs, ∀ o ∈ q.objs w.params, s.heap.get? o.1 = some o.2 ∧ G₀.get? o.1 = none := fun q hq o ho => hC o (List.mem_append_right _ (List.mem_flatMap.mpr ⟨q, hq, ho⟩))
  have GT := G
  obtain ⟨KX, T⟩ := G
  refine wpAny_call (code_start KX T hG hC3 (by k_is) (by k_is) (by k_room) (BindsTo.of_eq rfl) (locs rfl) ?_ rfl rfl rfl (by decide))
  intro g L' h₁ hgg F N X' T' hlt
  have hGg : G₀.StaysIn g := by
    rw [hgg]
    exact stays_hideAll hG fun b hb => by obtain ⟨q, hq, rfl⟩ := List.mem_map.mp hb; exact (hC3 q hq).2
  have hgap : ∀ q ∈ secs, ∀ o ∈ q.objs w.params, g.get? o.1 = some o.2 ∧ G₀.get? o.1 = none := fun q hq o ho => by
    refine ⟨?_, (hCg q hq o ho).2⟩
    rw [hgg]
    exact hideAll_get _ (hCg q hq o ho).1 (hne q hq o ho)
  clear KX T hC
  dsimp only
  (with_reducible show wpAny _ _ _ _ _ _)
  k_fold
  k_steps
  refine Halt.mk ?_
  clear F N
  (with_reducible rename News _ _ _ _ => N₀)
  (with_reducible rename Fr g _ _ _ => FG)
  (with_reducible rename Fr _ _ _ _ => F₀)
  refine rect_new (dp := dp + 2) (un := un + 6) GT F₀ N₀ (fun b o e => FG.keep b o (hGg b o e)) (by ktu_offL) (by ktu_offL) _ _ _ _ _ _ _ _ (by ktu_offL) (by ktu_offL) (fun x' d' hr' tkr kr F₁ N₁ l1 l2 => ?_)
  k_lt l1
  k_lt2 l2
  clear F₀ N₀
  k_steps
  refine Halt.mk ?_
  (with_reducible rename News _ _ _ _ => N₁)
  (with_reducible rename Fr _ _ _ _ => F₁)
  have hk₁ : ∀ b o, g.get? b = some o → _ := fun b o e => F₁.keep b o (FG.keep b o e)
  refine sect_call (dp := dp + 2) (un := un + 6) (r := ⟨r.x + wd, r.y, r.w - wd, r.h, _, _, _, _, .none, kr⟩) GT F₁ N₁ rfl (hr _ _ _ _ _) hok hB hln hsep hfree hsz (fun b o e => FG.keep b o (hGg b o e)) (fun q hq o ho => ⟨FG.keep _ _ (hgap q hq o ho).1, (hgap q hq o ho).2⟩) h1 h2 (by ktu_offL) h4 (by ktu_offL) (by ktu_offL) (by ktu_offL) (by ktu_offL) (by ktu_offL) ?_ (by ktu_offL) (by ktu_offL) (fun h₂ tk₂ ls' n' r' t kp F₂ N₂ e2 e4 e5 => ?_)
  · exact List.forall_mem_cons.mpr ⟨fun hm => or3 (mem3 hm) (show @Ne Nat _ _ by ktu_offL) (show @Ne Nat _ _ by ktu_offL) (show @Ne Nat _ _ by ktu_offL), List.forall_mem_cons.mpr ⟨fun hm => or3 (mem3 hm) (show @Ne Nat _ _ by ktu_offL) (show @Ne Nat _ _ by ktu_offL) (show @Ne Nat _ _ by ktu_offL), List.forall_mem_nil _⟩⟩
  have none₁ : ∀ {b : Addr}, _ → s.heap.get? b = none := fun {b} hz => none_back hgg hk₁ (fun q hq => (N₁ q hq).1) (fun b hb => subm (l := [W, dW, ls, e, f]) hb (by walk_at "sub")) hz
  clear N₁ F₁
  k_steps
  show OutI s [dW, ls] (WastePost w.params up X Y B k tw th lr sf ls dW secs st ln s.heap) .none _
  (with_reducible rename News _ _ _ _ => N₂)
  (with_reducible rename Fr _ _ _ _ => F₂)
  have nx := (N₂ _ (.head _)).2.2
  have nd := (N₂ _ (.tail _ (.head _))).2.2
  have away : ∀ {b : Addr}, @Ne Nat b W → @Ne Nat b dW → @Ne Nat b ls → @Ne Nat b e → @Ne Nat b f → b ∉ [W, dW, ls, e, f] := fun x y z u v hm => or5 (mem5 hm) x y z u v
  have fx := fresh_of hgg nx (away (by ktu_offL) (by ktu_offL) (by ktu_offL) (by ktu_offL) (by ktu_offL))
  have fd := fresh_of hgg nd (away (by ktu_offL) (by ktu_offL) (by ktu_offL) (by ktu_offL) (by ktu_offL))
  refine OutI.intro hgg (fun q hq => (hC3 q hq).1) F₂ N₂ (by walk_at "oi") ⟨rfl, _, _, fx, fd, by ktu_offL, ls', n', r', t, (N₂ _ (.tail _ (.tail _ (.tail _ (.head _))))).1, ?_, (N₂ _ (.tail _ (.tail _ (.tail _ (.tail _ (.head _)))))).1, e4, e5, (N₂ _ (.head _)).1, (N₂ _ (.tail _ (.head _))).1⟩
  · rcases e2 with e2 | e2
    · exact .inl e2
    · exact .inr (none₁ e2)
theorem split_0 (G : Gnd w mean mg mb loose G₀) (W dW lr sf ls e f : Addr) (k : Nat → Tok) (tw th : Tok) (r : Rc) (wd hg : Int) (t1 t2 : Tok)
    (hm1 : IntMulOk wd (r.h - hg)) (hm2 : IntMulOk hg (r.w - wd)) (hc : hg * (r.w - wd) ≤ wd * (r.h - hg)) (hlt1 : ¬ hg < r.h) (hlt2 : ¬ wd < r.w)
    (h5 : @Ne Nat e dW) (h7 : @Ne Nat f dW) :
    CI w G₀ 40 400 426 [.ref W, .ref e, .int wd t1, .int hg t2] [(W, instObj 480 dW), (dW, dictOf (wEs w.params k tw th lr sf ls) 8), (e, instObj 203 f), (f, dictOf (rcEs w.params r) 5)] [] (fun _ v _ => v = .none) := by
  have zS0 : Mine.StopAt 330 := ⟨trivial⟩
  have zS1 : Mine.StopAt 203 := ⟨trivial⟩
  intro dp fr gd un s E hd hu hG hC
  obtain ⟨KX, T⟩ := G
  refine wpAny_call (code_start KX T hG hC (by k_is) (by k_is) (by k_room) (BindsTo.of_eq rfl) (locs rfl) ?_ rfl rfl rfl (by decide))
  intro g L' h₁ hgg F N X' T' hlt
  clear KX T hlt
  dsimp only
  (with_reducible show wpAny _ _ _ _ _ _)
  k_fold
  k_steps
  show OutI s [] (fun v _ => v = .none) .none _
  exact OutI.intro hgg (fun q hq => (hC q hq).1) (by assumption) (by assumption) (fun q hq => .inr hq) rfl
end
end Mine

namespace Mine
section
variable {prog : Program} {w : World} {A : Around} {R : Result → Shared → Prop} {E : Value → Shared → Prop} {s : Shared} {I : Addr} {fp wr : List Addr} {G : Array GenState → Array GenState → Prop} {n : Nat} {P : Nat → Value → Heap → Prop} {St : Nat → Shared → Prop}

/-- an iterator whose items are told together with what stands in the heap -/
structure WalkH (prog : Program) (w : World) (A : Around) (I : Addr) (fp wr : List Addr) (G : Array GenState → Array GenState → Prop) (n : Nat) (P : Nat → Value → Heap → Prop) (St : Nat → Shared → Prop) (S : Addr) : Prop where
  sub : ∀ b ∈ wr, b ∈ fp
  grefl : ∀ a, G a a
  gtrans : ∀ a b c, G a b → G b c → G a c
  low : ∀ i v h h', P i v h → (∃ acc c, h.get? S = some { cls := .type "list", data := .seq acc c }) → (∀ b o, b ∉ S :: wr → h.get? b = some o → h'.get? b = some o) → P i v h'
  frame : ∀ i (s : Shared) h' tk, St i s → s.toks ≤ tk → (∀ b ∈ fp, ∀ o, s.heap.get? b = some o → h'.get? b = some o) → St i { s with heap := h', toks := tk }
  item : ∀ i (s : Shared) (Q : Option Value → Shared → Prop) (E : Value → Shared → Prop), i < n → St i s →
    (∀ v s', P i v s'.heap → St (i + 1) s' → Moved wr G s s' → Q (some v) s') → wpAny (model prog w) A (pyNext (.ref I)) Q E s
  done : ∀ (s : Shared) (Q : Option Value → Shared → Prop) (E : Value → Shared → Prop), St n s → (∀ s', Moved wr G s s' → Q none s') → wpAny (model prog w) A (pyNext (.ref I)) Q E s
  self : ∀ i (s : Shared) (Q : Value → Shared → Prop) (E : Value → Shared → Prop), St i s → Q (.ref I) s → wpAny (model prog w) A (pyIter (.ref I)) Q E s

theorem WalkH.of_in1 {S : Addr} (W : WalkH prog w A.in1 I fp wr G n P St S) : WalkH prog w A I fp wr G n P St S where
  sub := W.sub
  grefl := W.grefl
  gtrans := W.gtrans
  low := W.low
  frame := W.frame
  item := fun i s Q E hi st hQ => wpAny_of_in1 (W.item i s Q E hi st hQ)
  done := fun s Q E st hQ => wpAny_of_in1 (W.done s Q E st hQ)
  self := fun i s Q E st hQ => wpAny_of_in1 (W.self i s Q E st hQ)

noncomputable def ItemsH (P : Nat → Value → Heap → Prop) (acc : Array Value) (i : Nat) (h : Heap) : Prop := acc.size = i ∧ ∀ j v, acc[j]? = some v → P j v h
theorem ItemsH.low {acc : Array Value} {i : Nat} {h h' : Heap} {S : Addr} (W : WalkH prog w A I fp wr G n P St S) (x : ItemsH P acc i h) (hS : ∃ acc c, h.get? S = some { cls := .type "list", data := .seq acc c }) (k : ∀ b o, b ∉ S :: wr → h.get? b = some o → h'.get? b = some o) : ItemsH P acc i h' := ⟨x.1, fun j v e => W.low _ _ _ _ (x.2 j v e) hS k⟩
theorem ItemsH.push {acc : Array Value} {i : Nat} {v : Value} {h : Heap} (x : ItemsH P acc i h) (hv : P i v h) : ItemsH P (acc.push v) (i + 1) h := by
  refine ⟨by rw [Array.size_push, x.1], fun j u hj => ?_⟩
  rw [Array.getElem?_push] at hj
  split at hj
  · rename_i e
    rw [x.1] at e
    cases hj
    rw [e]
    exact hv
  · exact x.2 j u hj

theorem ext_loop {S : Addr} (W : WalkH prog w A.in1 I fp wr G n P St S) (hn : n ≤ sizeLine) (hSf : S ∉ fp) (res : Value) :
    ∀ (k i : Nat) (s : Shared) (acc : Array Value) (c : Nat), n - i = k → i ≤ n → St i s → s.heap.get? S = some { cls := .type "list", data := .seq acc c } → ItemsH P acc i s.heap →
    (∀ s' acc' c', Moved (S :: wr) G s s' → s'.heap.get? S = some { cls := .type "list", data := .seq acc' c' } → ItemsH P acc' n s'.heap → R (.ok (.ret res)) s') →
    codeAny (model prog w) A (.builtin "list.extend.loop" ⟨[.ref S, .ref I, res], []⟩) R s := by
  have hSw : S ∉ wr := fun h => hSf (W.sub _ h)
  have up : ∀ b ∈ wr, b ∈ S :: wr := fun b hb => .tail _ hb
  intro k
  induction k with
  | zero =>
    intro i s acc c hk hi hst hS hacc hR
    obtain rfl : i = n := eq_end hk hi
    refine codeAny_builtin F.entry_extend_loop ?_
    rw [Around.under_plainId F.plain_extend_loop _]
    show wpAny _ A.in1 (pyNext (.ref I) >>= _) _ _ s
    exact wpAny_bind (W.done s _ _ hst fun s' hm => wpAny_pure (hR s' acc c (hm.mono up) (hm.heap S _ hSw hS) (hacc.low W ⟨_, _, hS⟩ fun b o hb e => hm.heap b o (fun q => hb (up b q)) e)))
  | succ k ih =>
    intro i s acc c hk hi hst hS hacc hR
    have hlt : i < n := Nat.lt_of_sub_eq_succ hk
    refine codeAny_builtin F.entry_extend_loop ?_
    rw [Around.under_plainId F.plain_extend_loop _]
    show wpAny _ A.in1 (pyNext (.ref I) >>= _) _ _ s
    refine wpAny_bind (W.item i s _ _ hlt hst fun v s' hP hst' hm => ?_)
    have hS' := hm.heap S _ hSw hS
    have hacc' : ItemsH P acc i s'.heap := hacc.low W ⟨_, _, hS⟩ fun b o hb e => hm.heap b o (fun q => hb (up b q)) e
    have keep : ∀ b o, b ≠ S → s'.heap.get? b = some o → (s'.heap.update S (Obj.mapSeq (·.push v))).get? b = some o := fun b o hb e => (Heap.get?_update_other _ _ (Ne.symm hb)).trans e
    show wpAny _ A.in1 (updateSeq S (·.push v) >>= _) _ _ _
    refine wpAny_bind (wpAny_updateSeq hS' rfl (wpAny_pure ⟨plainId_quiet F.plain_extend_loop _, ih (i + 1) _ (acc.push v) _ (sub1 (by assumption)) hlt
      (W.frame _ s' _ s'.toks hst' (Nat.le_refl _) fun b hb o e => keep b o (fun q => hSf (q ▸ hb)) e) (Heap.get?_update_self _ hS' rfl)
      ((hacc'.push hP).low W ⟨_, _, hS'⟩ fun b o hb e => keep b o (fun q => hb (q ▸ .head _)) e) fun s'' acc'' c'' hm'' hS'' hacc'' => ?_⟩)
      (by rw [hacc.1]; ktu_offL) (by show (acc.push v).size ≤ sizeLine + 1; rw [Array.size_push, hacc.1]; ktu_offL))
    exact hR s'' acc'' c'' (Moved.trans W.gtrans ((hm.mono up).then_heap (by first | exact Nat.le_refl _ | exact Nat.le_succ _ | ktu_offL) fun b o hb e => keep b o (fun q => hb (q ▸ .head _)) e) hm'') hS'' hacc''

theorem extend_walk {S : Addr} {c₀ : Nat} (W : WalkH prog w A.in1 I fp wr G n P St S) (hT : ∀ i s, St i s → s.TypeIs (.ref I) "generator") (res : Value) (st : St 0 s) (hSf : S ∉ fp) (hI : I ∈ fp)
    (hS : s.heap.get? S = some { cls := .type "list", data := .seq #[] c₀ })
    (hR : ∀ s' acc' c', Moved (S :: wr) G s s' → s'.heap.get? S = some { cls := .type "list", data := .seq acc' c' } → ItemsH P acc' n s'.heap → R (.ok (.ret res)) s') (hn : n ≤ sizeLine) :
    wpAny (model prog w) A.in1 (Builtin.List.listExtendWith (.ref S) (.ref I) res)
      (fun fin s' => match fin with | .done f => R (.ok f) s' | .again c' => c'.quiet = true ∧ codeAny (model prog w) A c' R s') (fun e s' => R (.error e) s') s := by
  have hSI : S ≠ I := fun e => hSf (e ▸ hI)
  unfold Builtin.List.listExtendWith
  refine wpAny_bind (wpAny_typeOf (hT 0 _ st) ?_)
  have h1 : Builtin.List.listSameRef (.ref S) (.ref I) = false := by simp [Builtin.List.listSameRef, hSI]
  have h2 : (Value.type "generator" == Value.type "list") = false := by decide
  have h3 : (Value.type "generator" == Value.type "tuple") = false := by decide
  simp only [h1, h2, h3, Bool.or_false, Bool.false_eq_true, if_false]
  refine wpAny_bind (WalkH.self W 0 _ _ _ st ?_)
  refine wpAny_bind (wpAny_holding ?_)
  unfold Builtin.List.listLengthHint
  refine wpAny_bind (wpAny_specialOf (hT 0 _ st) F.gen_no_len ?_)
  show wpAny _ A.in1 (specialOf (Value.ref I) (Str.ofString "__length_hint__") >>= _) _ _ _
  refine wpAny_bind (wpAny_specialOf (hT 0 _ st) F.gen_no_hint ?_)
  refine wpAny_pure ?_
  show wpAny _ A.in1 (rule "list.extend.makes-room" >>= fun _ => Builtin.List.listTouch (.ref S) >>= fun _ => again (.builtin "list.extend.loop" ⟨[.ref S, .ref I, res], []⟩)) _ _ _
  refine wpAny_bind (wpAny_rule ?_)
  refine wpAny_bind ?_
  show wpAny _ A.in1 (updateSeq S (·.push .none) >>= fun _ => updateSeq S (·.pop)) _ _ _
  refine wpAny_bind (wpAny_updateSeq hS rfl ?_)
  have hS₃ := Heap.get?_update_self (Obj.mapSeq (·.push Value.none)) hS rfl
  refine wpAny_updateSeq (hz := by seq_fits) hS₃ rfl ?_
  have hS₄ := Heap.get?_update_self (Obj.mapSeq (·.pop)) hS₃ rfl
  have oth : ∀ b o, b ≠ S → s.heap.get? b = some o → ((s.heap.update S (Obj.mapSeq (·.push Value.none))).update S (Obj.mapSeq (·.pop))).get? b = some o :=
    fun b o hb e => (Heap.get?_update_other _ _ (Ne.symm hb)).trans ((Heap.get?_update_other _ _ (Ne.symm hb)).trans e)
  refine wpAny_pure ⟨plainId_quiet F.plain_extend_loop _, ext_loop W hn hSf _ n 0 _ _ _ rfl (Nat.zero_le _)
    (W.frame 0 s _ s.toks st (Nat.le_refl _) fun b hb o e => oth b o (fun q => hSf (q ▸ hb)) e) hS₄ ⟨rfl, fun j v h => by simp at h⟩ fun s' acc' c' hm hS' hacc => ?_⟩
  exact hR s' acc' c' (Moved.trans W.gtrans ((Moved.refl W.grefl).then_heap (Nat.le_refl _) fun b o hb e => oth b o (fun q => hb (q ▸ .head _)) e) hm) hS' hacc

theorem init_walk {S : Addr} (W : WalkH prog w A.in1 I fp wr G n P St S) (hT : ∀ i s, St i s → s.TypeIs (.ref I) "generator") (st : St 0 s) (hSf : S ∉ fp) (hI : I ∈ fp)
    (hS : s.heap.get? S = some { cls := .type "list", data := .seq #[] })
    (hR : ∀ s' acc' c', Moved (S :: wr) G s s' → s'.heap.get? S = some { cls := .type "list", data := .seq acc' c' } → ItemsH P acc' n s'.heap → R (.ok (.ret .none)) s') (hn : n ≤ sizeLine) :
    wpAny (model prog w) A.in1 (Builtin.«list.__init__» ⟨[.ref S, .ref I], []⟩)
      (fun fin s' => match fin with | .done f => R (.ok f) s' | .again c' => c'.quiet = true ∧ codeAny (model prog w) A c' R s') (fun e s' => R (.error e) s') s := by
  show wpAny _ A.in1 (do let old ← Builtin.List.listItems (.ref S); Builtin.List.listUpdate (.ref S) (fun _ => #[]); letGo old.toList.reverse; Builtin.List.listExtendWith (.ref S) (.ref I) .none) _ _ s
  refine wpAny_bind ?_
  unfold Builtin.List.listItems
  refine wpAny_bind (wpAny_seqItems hS rfl (wpAny_pure ?_))
  show wpAny _ A.in1 (updateSeq S (fun _ => #[]) >>= fun _ => letGo (#[] : Array Value).toList.reverse >>= fun _ => Builtin.List.listExtendWith (.ref S) (.ref I) .none) _ _ s
  refine wpAny_bind (wpAny_updateSeq hS rfl ?_)
  have hS₂ := Heap.get?_update_self (Obj.mapSeq (fun _ => (#[] : Array Value))) hS rfl
  have oth : ∀ b o, b ≠ S → s.heap.get? b = some o → (s.heap.update S (Obj.mapSeq (fun _ => (#[] : Array Value)))).get? b = some o :=
    fun b o hb e => (Heap.get?_update_other _ _ (Ne.symm hb)).trans e
  refine wpAny_bind (wpAny_letGo ?_)
  refine extend_walk W hT .none (W.frame 0 s _ s.toks st (Nat.le_refl _) fun b hb o e => oth b o (fun q => hSf (q ▸ hb)) e) hSf hI hS₂ (fun s' acc' c' hm hS' hacc => ?_) hn
  exact hR s' acc' c' (Moved.trans W.gtrans ((Moved.refl W.grefl).then_heap (Nat.le_refl _) fun b o hb e => oth b o (fun q => hb (q ▸ .head _)) e) hm) hS' hacc

/-- list(g) over such an iterator -/
theorem list_walk {Q : Value → Shared → Prop} (W : WalkH prog w A.in1.in1 I fp wr G n P St s.heap.objs.size) (hT : ∀ i s, St i s → s.TypeIs (.ref I) "generator") (hst : St 0 s) (hfp : ∀ b ∈ fp, b < s.heap.objs.size) (hI : I ∈ fp)
    (hQ : ∀ s' acc' c', Moved (s.heap.objs.size :: wr) G { s with heap := s.heap.push { cls := .type "list", data := .seq #[] } } s' →
      s'.heap.get? s.heap.objs.size = some { cls := .type "list", data := .seq acc' c' } → ItemsH P acc' n s'.heap → Q (.ref s.heap.objs.size) s') (hn : n ≤ sizeLine) :
    wpAny (model prog w) A (call (.type "list") [.ref I]) Q E s := by
  have hSf : s.heap.objs.size ∉ fp := fun hm => Nat.lt_irrefl _ (hfp _ hm)
  refine callType_codes (Q₁ := fun obj s₁ => obj = .ref s.heap.objs.size ∧ s₁ = { s with heap := s.heap.push { cls := .type "list", data := .seq #[] } }) F.called_list (F.typeCall_list_1 _) F.entry_list_init
    (code_list_new _ ⟨rfl, rfl⟩) fun obj s₁ h₁ => ?_
  obtain ⟨rfl, rfl⟩ := h₁
  have hS : (s.heap.push { cls := .type "list", data := .seq #[] }).get? s.heap.objs.size = some { cls := .type "list", data := .seq #[] } := Heap.get?_push_size _ rfl
  refine ⟨⟨_, hS, rfl⟩, F.args_list_init_2 _ _, init_walk W hT (W.frame 0 s _ s.toks hst (Nat.le_refl _) fun b _ o e => Heap.get?_push_of_some _ e) hSf hI hS (fun s' acc' c' hm hS' hacc => ?_) hn⟩
  exact ⟨rfl, hQ s' acc' c' hm hS' hacc⟩
end

section
variable {prog : Program} {w : World} {A : Around}
/-- what a generator expression promises at each yield: the item together with the heap that it comes in -/
noncomputable def genP (C : Addr) (fp wr : List Addr) (pz : Nat → Bool) (n₀ : Nat) (F : Nat → Value → Heap → Prop) : Protocol := fun m s₀ v s kap =>
  (∃ i, (passing pz n₀ 0)[(passing pz n₀ 0).length - 1 - m]? = some i ∧ F i v s.heap) ∧ GenSince C wr s₀ s ∧ ∀ s'' : Shared, (∀ b ∈ C :: fp, ∀ o, s.heap.get? b = some o → s''.heap.get? b = some o) → kap (.send .none) s''

structure QuietH (prog : Program) (w : World) (cenv : Env) (x : Str) (ifs : List Expr) (elt : Expr) (fp wr : List Addr) (P : Nat → Value → Prop) (pz : Nat → Bool) (F : Nat → Value → Heap → Prop) (href : Heap) (D U : Nat) : Prop where
  tests : ∀ (A' : Around) E' i v (s₂ : Shared) m₂, A'.handled = none → A'.depth ≤ D → A'.units ≤ U → P i v → s₂.heap.Ns cenv.locals m₂ → m₂ x = some v → (∀ b ∈ fp, b ∉ wr → ∀ o, href.get? b = some o → s₂.heap.get? b = some o) →
    wpAny (model prog w) A' (forIn ifs true fun c r => if r = true then do let ok ← isTrue c cenv (eval c cenv); pure (ForInStep.yield ok) else pure (ForInStep.yield r)) (fun ok s₃ => ok = pz i ∧ Keeps s₂ s₃) E' s₂
  elt : ∀ (A' : Around) E' i v (s₂ : Shared) m₂, A'.handled = none → A'.depth ≤ D → A'.units ≤ U → P i v → pz i = true → s₂.heap.Ns cenv.locals m₂ → m₂ x = some v → (∀ b ∈ fp, b ∉ wr → ∀ o, href.get? b = some o → s₂.heap.get? b = some o) →
    wpAny (model prog w) A' (eval elt cenv) (fun y s₃ => F i y s₃.heap ∧ Keeps s₂ s₃) E' s₂

theorem seg_loopH {elt iter : Expr} {x : Str} {px : Pos} {ifs : List Expr} {scope : Scope} {pos : Pos} {I : Addr} {fp wr : List Addr} {n₀ : Nat} {P : Nat → Value → Prop} {St₀ : Nat → Heap → Prop} {cenv : Env}
    (hh : A.handled = none) (W₀ : ∀ A' : Around, A'.handled = none → Walks prog w A' I fp wr n₀ P St₀) (pz : Nat → Bool) (F : Nat → Value → Heap → Prop) (href : Heap)
    (hx : cenv.kindOf x = some .local) (hp : (cenv.scope.kind == .class || (cenv.scope.kind == .module && cenv.locals != cenv.globals)) = false)
    (hco : cenv.scope.isCoroutine = false) (hCf : cenv.locals ∉ fp) (hq : QuietH prog w cenv x ifs elt fp wr P pz F href (A.depth + 1) (A.units + 3)) :
    ∀ (k i : Nat) (s₀ s : Shared) (m : Str → Option Value), n₀ - i = k → i ≤ n₀ → St₀ i s.heap → s.heap.Ns cenv.locals m → GenSince cenv.locals wr s₀ s →
      (∀ b ∈ fp, b ∉ wr → ∀ o, href.get? b = some o → s.heap.get? b = some o) →
      Seg (model prog w) A (fun n s₀ r s₁ => r = .ok .next ∧ (n = 0 ∧ GenSince cenv.locals wr s₀ s₁)) (genP cenv.locals fp wr pz n₀ F) (passing pz n₀ i).length s₀
        (.compLoop (.GeneratorExp elt [⟨.Name x px, iter, ifs, 0⟩] scope pos) 0 (.ref I) .none cenv)
        ((model prog w).den (.compLoop (.GeneratorExp elt [⟨.Name x px, iter, ifs, 0⟩] scope pos) 0 (.ref I) .none cenv)) [] s := by
  have hh' : (A.over (.compLoop (.GeneratorExp elt [⟨.Name x px, iter, ifs, 0⟩] scope pos) 0 (.ref I) .none cenv) []).handled = none := hh
  have hdep' : (A.over (.compLoop (.GeneratorExp elt [⟨.Name x px, iter, ifs, 0⟩] scope pos) 0 (.ref I) .none cenv) []).depth ≤ A.depth + 1 := Nat.le_of_eq rfl
  have huni' : (A.over (.compLoop (.GeneratorExp elt [⟨.Name x px, iter, ifs, 0⟩] scope pos) 0 (.ref I) .none cenv) []).units ≤ A.units + 3 := Nat.le_of_eq rfl
  have hCw : cenv.locals ∉ wr := fun h => hCf ((W₀ A hh).sub _ h)
  have hy : ∀ v, yieldOut cenv v = yieldValue v := fun v => by simp only [yieldOut, hco, Bool.false_eq_true, if_false]
  intro k
  induction k with
  | zero =>
    intro i s₀ s m hk hi hst hn hs hkp
    obtain rfl : i = n₀ := eq_end hk hi
    show Seg _ A _ _ _ s₀ _ ((compTurn (.GeneratorExp elt [⟨.Name x px, iter, ifs, 0⟩] scope pos) 0 (.ref I) .none cenv).onRaise (leaving cenv)) [] s
    rw [compTurn_gen, Sem.onRaise_eq_wrap]
    exact seg_bind_wrap (wpAny_standAt (seg_bind_wrap ((W₀ _ hh').done s _ _ hst fun h' tk hk' => seg_end (.ok .next) ⟨rfl, by rw [passing_end]; rfl, hs.step fun b o _ hw e => hk' b o hw e⟩)))
  | succ k ih =>
    intro i s₀ s m hk hi hst hn hs hkp
    have hlt : i < n₀ := Nat.lt_of_sub_eq_succ hk
    show Seg _ A _ _ _ s₀ _ ((compTurn (.GeneratorExp elt [⟨.Name x px, iter, ifs, 0⟩] scope pos) 0 (.ref I) .none cenv).onRaise (leaving cenv)) [] s
    rw [compTurn_gen, Sem.onRaise_eq_wrap]
    refine seg_bind_wrap (wpAny_standAt (seg_bind_wrap ((W₀ _ hh').item i s _ _ hlt hst fun v h₁ tk₁ hPv hst₁ hk₁ => ?_)))
    refine seg_bind_wrap (wpAny_of_eq (rfl : letOwnedTupleGo (.Name x px) (.ref I) v = pure ()) ?_)
    refine seg_bind_wrap (wpAny_assign_Name (wpAny_storeName_local hx (hn.at' fun o e => hk₁ _ o hCw e) (fun h₂ hn₂ hs₂ => ?_) hp))
    have up : ∀ b o, b ≠ cenv.locals → b ∉ wr → s.heap.get? b = some o → h₂.get? b = some o := fun b o hb hw e => hs₂.extBut b o hb (hk₁ b o hw e)
    have st₂ : St₀ (i + 1) h₂ := (W₀ A hh).frame _ _ _ hst₁ fun b hb o e => hs₂.extBut b o (fun q => hCf (q ▸ hb)) e
    have kp₂ : ∀ b ∈ fp, b ∉ wr → ∀ o, href.get? b = some o → h₂.get? b = some o := fun b hb hw o e => up b o (fun q => hCf (q ▸ hb)) hw (hkp b hb hw o e)
    refine seg_bind_wrap (wpAny_mono (hq.tests _ _ i v _ _ hh' hdep' huni' hPv hn₂ (by walk_at "sm") kp₂) (fun ok s₃ z => ?_) fun _ _ e => e)
    obtain ⟨rfl, h₃, tk₃, rfl, hk₃⟩ := z
    have st₃ : St₀ (i + 1) h₃ := (W₀ A hh).frame _ _ _ st₂ fun b _ o e => hk₃ b o e
    have hn₃ := hn₂.keeps hk₃
    have hs₃ : GenSince cenv.locals wr s₀ { s with heap := h₃, toks := tk₃ } := hs.step fun b o hb hw e => hk₃ b o (up b o hb hw e)
    have kp₃ : ∀ b ∈ fp, b ∉ wr → ∀ o, href.get? b = some o → h₃.get? b = some o := fun b hb hw o e => hk₃ b o (kp₂ b hb hw o e)
    cases hpz : pz i with
    | false =>
      rw [passing_false hlt hpz]
      simp only [Bool.false_eq_true, if_false]
      exact seg_again rfl (ih (i + 1) s₀ _ _ (sub1 (by assumption)) hlt st₃ hn₃ hs₃ kp₃)
    | true =>
      rw [passing_true hlt hpz, List.length_cons]
      simp only [if_true, hy]
      rw [Sem.bind_eq_wrap', Sem.bind_eq_wrap', Sem.wrap_wrap, Sem.wrap_wrap]
      refine seg_wrap (wpAny_mono (hq.elt _ _ i v _ _ hh' hdep' huni' hPv hpz hn₃ (by walk_at "sm") kp₃) (fun y s₄ z => ?_) fun _ _ e => e)
      obtain ⟨hF, h₄, tk₄, rfl, hk₄⟩ := z
      refine seg_at (seg_yield rfl rfl rfl ⟨⟨i, passing_here hlt hpz, hF⟩, hs₃.step fun b o _ _ e => hk₄ b o e, fun s'' hal => ?_⟩)
      exact seg_again rfl (ih (i + 1) s'' s'' _ (sub1 (by assumption)) hlt ((W₀ A hh).frame _ _ _ st₃ fun b hb o e => hal b (.tail _ hb) o (hk₄ b o e))
        ((hn₃.keeps hk₄).at' fun o e => hal _ (.head _) o e) (GenSince.refl _ _ _) fun b hb hw o e => hal b (.tail _ hb) o (hk₄ b o (kp₃ b hb hw o e)))

theorem seg_startH {elt iter : Expr} {x : Str} {px : Pos} {ifs : List Expr} {scope : Scope} {pos : Pos} {I : Addr} {fp wr : List Addr} {n₀ : Nat} {P : Nat → Value → Prop} {St₀ : Nat → Heap → Prop} {cenv : Env}
    (hh : A.handled = none) (W₀ : ∀ A' : Around, A'.handled = none → Walks prog w A' I fp wr n₀ P St₀) (pz : Nat → Bool) (F : Nat → Value → Heap → Prop) (href : Heap)
    (hx : cenv.kindOf x = some .local) (hp : (cenv.scope.kind == .class || (cenv.scope.kind == .module && cenv.locals != cenv.globals)) = false)
    (hco : cenv.scope.isCoroutine = false) (hCf : cenv.locals ∉ fp) (hq : QuietH prog w cenv x ifs elt fp wr P pz F href (A.depth + 1) (A.units + 3))
    (s₀ s : Shared) (m : Str → Option Value) (hst : St₀ 0 s.heap) (hn : s.heap.Ns cenv.locals m) (hs : GenSince cenv.locals wr s₀ s)
    (hkp : ∀ b ∈ fp, b ∉ wr → ∀ o, href.get? b = some o → s.heap.get? b = some o) :
    Seg (model prog w) A (fun n s₀ r s₁ => r = .ok .next ∧ (n = 0 ∧ GenSince cenv.locals wr s₀ s₁)) (genP cenv.locals fp wr pz n₀ F) (passing pz n₀ 0).length s₀
      (.compStart (.GeneratorExp elt [⟨.Name x px, iter, ifs, 0⟩] scope pos) 0 (.ref I) .none cenv)
      ((model prog w).den (.compStart (.GeneratorExp elt [⟨.Name x px, iter, ifs, 0⟩] scope pos) 0 (.ref I) .none cenv)) [] s := by
  have hh' : (A.over (.compStart (.GeneratorExp elt [⟨.Name x px, iter, ifs, 0⟩] scope pos) 0 (.ref I) .none cenv) []).handled = none := hh
  have loop := seg_loopH (iter := iter) (px := px) (scope := scope) (pos := pos) hh W₀ pz F href hx hp hco hCf hq n₀ 0 s₀ s m (Nat.sub_zero _) (Nat.zero_le _) hst hn hs hkp
  show Seg _ A _ _ _ s₀ _ ((compStart (.GeneratorExp elt [⟨.Name x px, iter, ifs, 0⟩] scope pos) 0 (.ref I) .none cenv).onRaise (leaving cenv)) [] s
  unfold compStart
  rw [Sem.onRaise_eq_wrap]
  show Seg _ A _ _ _ s₀ _ ((ask >>= _).wrap _ _ _ _) [] s
  refine seg_bind_wrap (wpAny_askSetting ?_)
  split
  · exact seg_again rfl loop
  · first
      | exact seg_bind_wrap (wpAny_rule (seg_bind_wrap (wpAny_standAt (seg_bind_wrap ((W₀ _ hh').self 0 s _ _ hst (seg_again rfl loop))))))
      | (refine seg_bind_wrap (wpAny_rule ?_); show Seg _ A _ _ _ s₀ _ ((standAt iter.pos >>= _).wrap _ _ _ _) [] s; exact seg_bind_wrap (wpAny_standAt (seg_bind_wrap ((W₀ _ hh').self 0 s _ _ hst (seg_again rfl loop)))))

noncomputable def GenAtH (prog : Program) (w : World) (A : Around) (a : Addr) (g : Nat) (C : Addr) (fp wr : List Addr) (pz : Nat → Bool) (n₀ : Nat) (F : Nat → Value → Heap → Prop) (j : Nat) (s : Shared) : Prop :=
  s.heap.IsGen a g ∧ s.heap.NoLimit ∧ ∃ gs, s.gens[g]? = some gs ∧ ∀ s'' : Shared, (∀ b ∈ C :: fp, ∀ o, s.heap.get? b = some o → s''.heap.get? b = some o) →
    gs.Goes (model prog w) A.in1 (fun n s₀ r s₁ => r = .ok .next ∧ (n = 0 ∧ GenSince C wr s₀ s₁)) (genP C fp wr pz n₀ F) ((passing pz n₀ 0).length - j) (.send .none) s''

theorem walk_genexp (hh : A.handled = none) (a S : Addr) (g : Nat) (C : Addr) (fp wr : List Addr) (pz : Nat → Bool) (n₀ : Nat) (F : Nat → Value → Heap → Prop) (haC : a ≠ C) (haf : a ∉ fp) (hsub : ∀ b ∈ wr, b ∈ fp)
    (hlow : ∀ i v h h', F i v h → (∃ acc c, h.get? S = some { cls := .type "list", data := .seq acc c }) → (∀ b o, b ∉ S :: C :: wr → h.get? b = some o → h'.get? b = some o) → F i v h')
    (hroom : A.depth < recursionLimit) (hcs : cStatics ∈ fp) (hcC : cStatics ≠ C) (hcw : cStatics ∉ wr) :
    WalkH prog w A a (a :: C :: fp) (C :: wr) (GenOnlyQ g) (passing pz n₀ 0).length (fun j y h => ∃ i, (passing pz n₀ 0)[j]? = some i ∧ F i y h) (GenAtH prog w A a g C fp wr pz n₀ F) S where
  sub := fun b hb => by
    rcases List.mem_cons.mp hb with h | hb
    · exact h ▸ .tail _ (.head _)
    · exact .tail _ (.tail _ (hsub b hb))
  grefl := fun _ => .inl rfl
  gtrans := fun _ _ _ x y => x.trans y
  low := fun j v h h' ⟨i, hi, hF⟩ hS k => ⟨i, hi, hlow i v h h' hF hS k⟩
  frame := fun j s h' tk st _ hk =>
    ⟨let ⟨o, nm, qn, ho, r⟩ := st.1; ⟨o, nm, qn, hk a (.head _) o ho, r⟩,
     (let ⟨mc, hns, hnn⟩ := st.2.1; ⟨mc, hns.at' fun o e => hk cStatics (.tail _ (.tail _ hcs)) o e, hnn⟩),
     let ⟨gs, hgs, hgo⟩ := st.2.2; ⟨gs, hgs, fun s'' hal => hgo s'' fun b hb o e => hal b hb o (hk b (.tail _ hb) o e)⟩⟩
  item := fun j s Q E hj st hQ => by
    obtain ⟨hg, hl, gs, hgs, hgo⟩ := st
    obtain ⟨m, hm⟩ : ∃ m, (passing pz n₀ 0).length - j = m + 1 := ⟨_, sub2 (by assumption)⟩
    rw [hm] at hgo
    refine wpAny_with_toks (Nat.le_refl s.toks) ?_
    refine wpAny_pyNext_genexpQ (P := fun n s₀ s₁ => n = 0 ∧ GenSince C wr s₀ s₁) hh hl hroom hg hgs (hgo _ fun _ _ _ e => e) (fun v s₁ gs' hb hv => ?_) (fun s₁ hp h' hk => absurd hp.1 (Nat.succ_ne_zero m))
    obtain ⟨⟨i, hi, hF⟩, ⟨h₁, tk₁, rfl, hk₁⟩, hkap⟩ := hv
    rw [sub3 hj hm] at hi
    have haw : a ∉ wr := fun h => haf (hsub a h)
    intro htk
    refine hQ v _ ⟨i, hi, hF⟩ ⟨let ⟨o, nm, qn, ho, r⟩ := hg; ⟨o, nm, qn, hk₁ a o haC haw ho, r⟩, (let ⟨mc, hns, hnn⟩ := hl; ⟨mc, hns.at' fun o e => hk₁ cStatics o hcC hcw e, hnn⟩), gs', setGen_self (gs := .running) (setGen_self hgs), fun s'' hal => ?_⟩
      ⟨fun b o hb e => hk₁ b o (fun h => hb (h ▸ .head _)) (fun h => hb (.tail _ h)) e, GenOnlyQ.of ((GenOnly.setGen s g .running).trans (GenOnly.setGen _ g gs')) (setGen_self (gs := .running) (setGen_self hgs)) hb, rfl, rfl, htk⟩
    rw [sub1 hm]
    exact hkap s'' hal
  done := fun s Q E st hQ => by
    obtain ⟨hg, hl, gs, hgs, hgo⟩ := st
    rw [Nat.sub_self] at hgo
    refine wpAny_with_toks (Nat.le_refl s.toks) ?_
    refine wpAny_pyNext_genexpQ (P := fun n s₀ s₁ => n = 0 ∧ GenSince C wr s₀ s₁) hh hl hroom hg hgs (hgo _ fun _ _ _ e => e) (fun v s₁ gs' hb hv => False.elim (hv.2.2 s₁ fun _ _ _ e => e)) (fun s₁ hp h' hk => ?_)
    obtain ⟨_, h₁, tk₁, rfl, hk₁⟩ := hp
    intro htk
    exact hQ _ ⟨fun b o hb e => hk b o (hk₁ b o (fun h => hb (h ▸ .head _)) (fun h => hb (.tail _ h)) e), GenOnlyQ.of ((GenOnly.setGen s g .running).trans (GenOnly.setGen _ g .finished)) (setGen_self (gs := .running) (setGen_self hgs)) rfl, rfl, rfl, htk⟩
  self := fun _ _ _ _ st hQ => wpAny_pyIter_gen st.1 hQ
theorem GenAtH.carry {a : Addr} {g : Nat} {C : Addr} {fp wr : List Addr} {pz : Nat → Bool} {n₀ : Nat} {F : Nat → Value → Heap → Prop} {j : Nat} {s s' : Shared} (st : GenAtH prog w A a g C fp wr pz n₀ F j s) (hcs : cStatics ∈ fp)
    (hg : s'.gens[g]? = s.gens[g]?) (hk : ∀ b ∈ a :: C :: fp, ∀ o, s.heap.get? b = some o → s'.heap.get? b = some o) : GenAtH prog w A a g C fp wr pz n₀ F j s' :=
  ⟨let ⟨o, nm, qn, ho, r⟩ := st.1; ⟨o, nm, qn, hk a (.head _) o ho, r⟩,
   (let ⟨mc, hns, hnn⟩ := st.2.1; ⟨mc, hns.at' fun o e => hk cStatics (.tail _ (.tail _ hcs)) o e, hnn⟩),
   let ⟨gs, hgs, hgo⟩ := st.2.2; ⟨gs, hg.trans hgs, fun s'' hal => hgo s'' fun b hb o e => hal b hb o (hk b (.tail _ hb) o e)⟩⟩
theorem GenAtH.fresh {elt iter : Expr} {x : Str} {px : Pos} {ifs : List Expr} {scope : Scope} {pos : Pos} {I a : Addr} {g : Nat} {fp wr : List Addr} {n₀ : Nat} {P : Nat → Value → Prop} {St₀ : Nat → Heap → Prop} {cenv : Env}
    (hh : A.handled = none) (W₀ : ∀ A' : Around, A'.handled = none → Walks prog w A' I fp wr n₀ P St₀) (pz : Nat → Bool) (F : Nat → Value → Heap → Prop)
    (hx : cenv.kindOf x = some .local) (hp : (cenv.scope.kind == .class || (cenv.scope.kind == .module && cenv.locals != cenv.globals)) = false)
    (hco : cenv.scope.isCoroutine = false) (hCf : cenv.locals ∉ fp) {s : Shared} {m : Str → Option Value} (hq : QuietH prog w cenv x ifs elt fp wr P pz F s.heap (A.depth + 1) (A.units + 4))
    (hg : s.heap.IsGen a g) (hgs : s.gens[g]? = some (.fresh (.compStart (.GeneratorExp elt [⟨.Name x px, iter, ifs, 0⟩] scope pos) 0 (.ref I) .none cenv)))
    (hst : St₀ 0 s.heap) (hn : s.heap.Ns cenv.locals m) (hl : s.heap.NoLimit) : GenAtH prog w A a g cenv.locals fp wr pz n₀ F 0 s :=
  ⟨hg, hl, _, hgs, fun s'' hal => ⟨rfl, seg_startH (A := A.in1) hh W₀ pz F s.heap hx hp hco hCf hq s'' s'' m ((W₀ A hh).frame _ _ _ hst fun b hb o e => hal b (.tail _ hb) o e)
    (hn.at' fun o e => hal _ (.head _) o e) (GenSince.refl _ _ _) fun b hb _ o e => hal b (.tail _ hb) o e⟩⟩
end

section
variable {prog : Program} {w : World} {A : Around} {E : Value → Shared → Prop} {s : Shared}
inductive GenH (prog : Program) (w : World) (A : Around) (env : Env) (elt : Expr) (x : Str) (ifs : List Expr) (scope : Scope) (cl : List (Str × Addr)) (Q : Value → Shared → Prop) (it code : Value) (bi : Addr) (s₄ : Shared) : Prop
  | mk (I : Addr) (fp fq wr : List Addr) (n₀ : Nat) (P : Nat → Value → Prop) (St₀ : Nat → Heap → Prop) (pz : Nat → Bool) (F : Nat → Value → Heap → Prop) (e : it = .ref I)
    (W₀ : ∀ A' : Around, A'.handled = none → Walks prog w A' I fp wr n₀ P St₀)
    (hst : St₀ 0 s₄.heap)
    (hfp : ∀ b ∈ fp, b ∈ fq)
    (hfq : ∀ b ∈ fq, @LT.lt Nat _ b s₄.heap.objs.size)
    (hl₄ : s₄.heap.NoLimit)
    (hq : ∀ href : Heap, (∀ b o, s₄.heap.get? b = some o → href.get? b = some o) →
            QuietH prog w (genEnv scope cl s₄.heap.objs.size code bi env) x ifs elt fq wr P pz F href (A.depth + 1) (A.units + 8))
    (hQ : ∀ a h₅ tk gs, gs.bare = true → @LT.lt Nat _ s₄.heap.objs.size a → h₅.objs.size = a + 1 → (∀ b o, s₄.heap.get? b = some o → h₅.get? b = some o) → (∃ m, h₅.Ns s₄.heap.objs.size m) →
            GenAtH prog w A.in4 a s₄.gens.size s₄.heap.objs.size fq wr pz n₀ F 0 { s₄ with gens := s₄.gens.push gs, toks := tk, heap := h₅ } →
            Q (.ref a) { s₄ with gens := s₄.gens.push gs, toks := tk, heap := h₅ }) : GenH prog w A env elt x ifs scope cl Q it code bi s₄
/-- a generator expression is made (and not yet run) -/
theorem gen_eval {env : Env} {elt iter : Expr} {x : Str} {px : Pos} {ifs : List Expr} {scope : Scope} {cl : List (Str × Addr)} {pos : Pos} {Q : Value → Shared → Prop}
    (hh : A.handled = none) (hco : scope.isCoroutine = false) (hclos : closureFor scope env = pure cl) (hcell : ∀ y ∈ scope.names, y.2 ≠ .cell) (h0 : scope.names.lookup (".0" : Str) = some NameKind.local)
    (hx : scope.names.lookup x = some .local) (hkind : scope.kind = .function) (hroom : A.depth < recursionLimit)
    (h : wpAny (model prog w) A (eval iter env) (fun xv s₁ => wpAny (model prog w) A (pyIter xv) (fun it s₂ => s₂.heap.NoLimit ∧
      wpAny (model prog w) A (genexprCode env pos (env.qual ++ "<genexpr>") scope) (fun code s₃ => wpAny (model prog w) A (builtinsFor env.globals env.builtins) (fun bi s₄ =>
        GenH prog w A env elt x ifs scope cl Q it code bi s₄) E s₃) E s₂) E s₁) E s)
    (hs : ∀ x, genFold iter env x = pure x) :
    wpAny (model prog w) A (eval (.GeneratorExp elt [⟨.Name x px, iter, ifs, 0⟩] scope pos) env) Q E s := by
  refine wpAny_GeneratorExp_make hco hclos hcell h0 hkind hroom (wpAny_mono h (fun xv s₁ h₁ => wpAny_mono h₁ (fun it s₂ h₂ => ⟨h₂.1, wpAny_mono h₂.2 (fun code s₃ h₃ => wpAny_mono h₃ (fun bi s₄ h₄ => ?_)
    fun _ _ e => e) fun _ _ e => e⟩) fun _ _ e => e) fun _ _ e => e) hs
  obtain ⟨I, fp, fq, wr, n₀, P, St₀, pz, F, rfl, W₀, hst, hfp, hfq, hl₄, hq, hQ⟩ := h₄
  intro h' hn' hs'
  have hsz : h'.objs.size = s₄.heap.objs.size + 1 := by rw [hs'.1, Heap.size_push]
  have k₅ : ∀ b o, s₄.heap.get? b = some o → (h'.push { cls := .type "generator", data := .fields #[.int s₄.gens.size 0, .str "<genexpr>" (s₄.toks + 1), .str (env.qual ++ "<genexpr>") (s₄.toks + 1 + 1)] }).get? b = some o :=
    fun b o e => Heap.get?_push_of_some _ (hs'.extBut b o (Nat.ne_of_lt (Heap.lt_size e)) (Heap.get?_push_of_some _ e))
  refine hQ _ _ _ _ rfl (by ktu_offL) (by rw [Heap.size_push]) k₅ ⟨_, hn'.push _⟩ ?_
  exact GenAtH.fresh (A := A.in4) (cenv := genEnv scope cl s₄.heap.objs.size code bi env) (m := fun y => if y = ".0" then some (.ref I) else none) hh
    (fun A' hA => (W₀ A' hA).mono_fp hfp) pz F hx (by simp [genEnv, hkind]) hco
    (fun hm => Nat.lt_irrefl _ (hfq _ hm)) (hq _ k₅) ⟨_, _, _, Heap.get?_push_size _ rfl, rfl, rfl, rfl⟩ (Array.getElem?_push_size ..) ((W₀ A hh).frame _ _ _ hst fun b _ o e => k₅ b o e) (hn'.push _) (hl₄.keeps k₅)
end
end Mine

namespace Mine
open PyProof.Rows.TI (Frs SameUp gone)
noncomputable def lamPos : Pos := ⟨204, 39, 204, 57⟩
noncomputable def lamQual : Str := Str.ofString "Guillotine._select_fittest_section" ++ ".<locals>." ++ "<lambda>"

/-- the table of the nested code objects of _select_fittest_section, with the lambda's own -/
noncomputable def TabOK (ps : Array Value) (cs : List (Addr × Obj)) : Prop :=
  TriplesOk ps.toList ∧ (∀ q ∈ cs, q.1 ≠ 360 ∧ ∃ vs, q.2.data = .fields vs) ∧
    ∀ cv, codeAmong lamPos ps.toList = some cv → ∃ c oc vs t, cv = .ref c ∧ (c, oc) ∈ cs ∧ oc.data = .fields vs ∧ vs[1]? = some (.str lamQual t)

theorem codeAmong_other {p : Pos} {a b c : Value} (l : List Value) (h : TriplesOk l) (hn : codeAmong p [a, b, c] = none) : codeAmong p (l ++ [a, b, c]) = codeAmong p l := by
  fun_induction TriplesOk l with
  | case1 => simpa [codeAmong] using hn
  | case2 x y z w v rest ih =>
    simp only [List.cons_append, codeAmong]
    split
    · rfl
    · exact ih h
  | case3 => exact h.elim

theorem TabOK.empty : TabOK #[] [] := ⟨trivial, fun _ h => (nomatch h), fun _ h => nomatch h⟩
theorem TabOK.more {ps : Array Value} {cs : List (Addr × Obj)} (x : TabOK ps cs) {a b c : Value} (ht : TriplesOk (ps ++ #[a, b, c]).toList) (hn : codeAmong lamPos [a, b, c] = none) : TabOK (ps ++ #[a, b, c]) cs :=
  ⟨ht, x.2.1, fun cv h => x.2.2 cv (by
    have e : (ps ++ #[a, b, c]).toList = ps.toList ++ [a, b, c] := by simp
    rwa [e, codeAmong_other _ x.1 hn] at h)⟩

/-- the tail of every ledger: the table, its code objects, the frames below -/
noncomputable abbrev tl (ps : Array Value) (cs frs : List (Addr × Obj)) : List (Addr × Obj) := (360, tabObj ps) :: (cs ++ frs)

/-- a generator expression's code object -/
theorem gencode_tab {M : Model} {A : Around} {E : Value → Shared → Prop} {s : Shared} {env : Env} {pos : Pos} {qualname : Str} {scope : Scope} {ps : Array Value} {cs : List (Addr × Obj)} {Q : Value → Shared → Prop} (hc : env.code = .ref 364) (C : CodeHd s.heap 364 360)
    (hP : s.heap.get? 360 = some (tabObj ps)) (x : TabOK ps cs) (hpos : ∀ c, codeAmong lamPos [rawInt pos.line, rawInt pos.col, c] = none)
    (hQ : ∀ code h' tk ps', Heap.ExtBut 360 s.heap h' → h'.get? 360 = some (tabObj ps') → TabOK ps' cs → Q code { s with heap := h', toks := tk }) :
    wpAny M A (genexprCode env pos qualname scope) Q E s := by
  cases hnf : codeAmong pos ps.toList with
  | some cv => exact wpAny_genexprCode_hit hc (C.code hP x.1) hnf (hQ cv s.heap s.toks ps (Heap.ExtBut.refl _ _) hP x)
  | none =>
    refine wpAny_genexprCodeX hc (C.code hP x.1) (C.tab hP) hnf fun c' h' tk hx _ _ hcode _ ht _ => ?_
    refine hQ _ h' tk _ hx ht.2 (x.more ?_ (hpos _))
    obtain ⟨_, _, _, _, _, _, _, _, _, op, _, _, _, _, _, _, _, e1, e2, e3, _⟩ := hcode
    rw [ht.2] at e1
    cases e1
    exact e3

/-- the lambda is made -/
theorem lam_tab {M : Model} {A : Around} {E : Value → Shared → Prop} {s : Shared} {env : Env} {params : Arguments} {body : Expr} {scope : Scope} {mg : Str → Option Value} {ps : Array Value} {cs : List (Addr × Obj)} {Q : Value → Shared → Prop} (hc : env.code = .ref 364) (C : CodeHd s.heap 364 360)
    (hP : s.heap.get? 360 = some (tabObj ps)) (x : TabOK ps cs) (hcs : ∀ q ∈ cs, s.heap.get? q.1 = some q.2) (hcl : closureFor scope env = pure []) (hge0 : env.globals = mainGlobals) (hg : s.heap.Ns mainGlobals mg) (hb : s.heap.BuiltinsAt mg 360) (hgP : mainGlobals ≠ 360)
    (hq : env.qual ++ "<lambda>" = lamQual) (hdef : defaultsOf params env = ([], []))
    (hQ : ∀ f c ctv h' tk ps' cs', Heap.ExtBut 360 s.heap h' → h'.get? 360 = some (tabObj ps') → TabOK ps' cs' → (∀ q ∈ cs', h'.get? q.1 = some q.2 ∧ (q ∈ cs ∨ s.heap.objs.size ≤ q.1)) → s.heap.objs.size ≤ f →
      h'.get? f = some (kla_obj "<lambda>" lamQual params body scope [] ((mg "__name__").getD .none) c ctv) → (∃ oc vs t, (c, oc) ∈ cs' ∧ oc.data = .fields vs ∧ vs[1]? = some (.str lamQual t)) → (∀ q ∈ cs, q ∈ cs') → Q (.ref f) { s with heap := h', toks := tk }) :
    wpAny M A (eval (.Lambda params body scope lamPos) env) Q E s := by
  refine kla_eval hdef ?_
  rw [hq]
  cases hnf : codeAmong lamPos ps.toList with
  | some cv =>
    obtain ⟨c, oc, vs, t, rfl, hm, hd, hv⟩ := x.2.2 cv hnf
    refine kla_makeFunctionHit (mg := mg) hcl hge0 hg hc C hP x.1 hnf hb fun ctv h' tk hk hsz => ?_
    have k' : ∀ b o, s.heap.get? b = some o → (h'.push (kla_obj "<lambda>" lamQual params body scope [] ((mg "__name__").getD .none) c ctv)).get? b = some o := fun b o e => Heap.get?_push_of_some _ (hk b o e)
    exact hQ _ c ctv _ tk ps cs (fun b o _ e => k' b o e) (k' _ _ hP) x (fun q hq => ⟨k' _ _ (hcs q hq), .inl hq⟩) hsz (Heap.get?_push_size _ rfl) ⟨oc, vs, t, hm, hd, hv⟩ (fun _ h => h)
  | none =>
    refine kla_makeFunction (mg := mg) hcl hge0 hg hc C hP x.1 hnf hgP hb fun c' ctv h' tk hx hge hlt hrec htb => ?_
    obtain ⟨c₂, oc, vs, t, e2, hoc, hd, hv⟩ := hrec
    cases e2
    have k' : ∀ b o, h'.get? b = some o → (h'.push (kla_obj "<lambda>" lamQual params body scope [] ((mg "__name__").getD .none) c' ctv)).get? b = some o := fun b o e => Heap.get?_push_of_some _ e
    have e : (ps ++ #[rawInt lamPos.line, rawInt lamPos.col, Value.ref c']).toList = ps.toList ++ [rawInt lamPos.line, rawInt lamPos.col, .ref c'] := by simp
    refine hQ _ c' ctv _ tk _ ((c', oc) :: cs) (fun b o hb e => k' b o (hx b o hb e)) (k' _ _ htb) ⟨?_, ?_, ?_⟩ ?_ (Nat.le_trans hge (Nat.le_of_lt hlt)) (Heap.get?_push_size _ rfl) ⟨oc, vs, t, .head _, hd, hv⟩ (fun _ h => .tail _ h)
    · rw [e]; exact TriplesOk_snoc _ _ _ _ x.1
    · intro q hq
      rcases List.mem_cons.mp hq with rfl | hq
      · exact ⟨Nat.ne_of_gt (Nat.lt_of_lt_of_le (Heap.lt_size hP) hge), vs, hd⟩
      · exact x.2.1 q hq
    · intro cv h
      rw [e, codeAmong_snoc _ x.1 hnf] at h
      cases h
      exact ⟨c', oc, vs, t, rfl, .head _, hd, hv⟩
    · intro q hq
      rcases List.mem_cons.mp hq with rfl | hq
      · exact ⟨k' _ _ hoc, .inr hge⟩
      · exact ⟨k' _ _ (hx _ _ (x.2.1 q hq).1 (hcs q hq)), .inl hq⟩

section
variable {prog : Program} {w : World} {A₀ : Around} {E : Value → Shared → Prop} {s' : Shared} {hb h : Heap} {L a e : Addr} {m : Str → Option Value} {name : Str} {scope : Scope} {cd : Value} {X : String} {l : List Env} {frs new : List (Addr × Obj)}
/-- an exception is noted in a frame with cells -/
theorem noted_X {Q : Unit → Shared → Prop} (hfr : A₀.frames = some l) (Fs : Frs l frs) (hx : Heap.NewExc h s'.heap e X) (F : Fr hb L h m) (N : News hb L h (new ++ frs)) (hap : ∀ p ∈ new, p.1 ∉ L :: frs.map (·.1))
    (k : ∀ h' frs', SameUp frs frs' → Frs l frs' → TT.HeldN hb L h' m e X (new ++ frs') → Q () { s' with heap := h' }) (hk : scope.kind = .function) :
    wpAny (model prog w) (A₀.deeper (envOfC name scope L a cd)) (noteFrame (.ref e) (envOfC name scope L a cd)) Q E s' := by
  obtain ⟨ob, tp, he, hcls, hd⟩ := hx.there
  obtain ⟨hff, hNs, frs₁, SU, ht⟩ := TI.frames_at (name := name) (a := a) (cd := cd) (h' := s'.heap) (base := gone h (L :: frs.map (·.1))) hk Fs F N TI.tail_sub (fun b o hb' => ⟨o.slots, hx.keeps b o hb'⟩) fun b hm => TI.gone_none hm
  have hff' : s'.heap.FunFrames (gone h (L :: frs.map (·.1))) (envOfC name scope L a cd :: l) := hff
  unfold noteFrame
  simp only [show (envOfC name scope L a cd).frame = some L from rfl]
  refine wpAny_bind (wpAny_field he hd (x := .none) rfl ?_)
  rw [if_neg (by decide)]
  refine wpAny_entryW (a0 := tp) (Around.frames_deeper hfr) hff' rfl he (fun b o eb => hx.keeps b o (TI.gone_some eb).2) (TI.none_of (fun b o eb => (TI.gone_some eb).2) hx.new) hd (by show 1 < 6; decide) rfl fun h' hN => ?_
  have hN' : Heap.NotedW (gone h (L :: frs.map (·.1))) (envOf name scope L a cd :: l) e (.type X) tp (rawInt L) s'.heap h' := by rw [← hcls]; exact hN
  obtain ⟨frs₂, SU₂, Fs₂, H⟩ := TLg.held_of_notedA (X := X) Fs F N hap hNs SU ht hx.new hN'
  exact k h' frs₂ SU₂ Fs₂ H
/-- an except clause that names ValueError takes it -/
theorem clause_X {Q : Flow → Shared → Prop} {fl : Value} {env : Env} {np pos : Pos} {b₀ : Stmt} {suite : List Stmt} {rest : List ExceptHandler} {news : List (Addr × Obj)} (H : TT.HeldNA hb L s'.heap m e "ValueError" news fl)
    (hname : ∀ Q' : Value → Shared → Prop, Q' (.type "ValueError") s' → wpAny (model prog w) ((A₀.deeper env).mark (some (.ref e))) (eval (.Name (Str.ofString "ValueError") np) env) Q' E s')
    (k : ∀ h', Fr hb L h' m → News hb L h' news → wpAny (model prog w) ((A₀.deeper env).mark (some (.ref e))) (execs (b₀ :: suite) env) Q E { s' with heap := h' })
    (hE : PassesOwnAt (model prog w) ((A₀.deeper env).mark (some (.ref e))) (A₀.deeper env) env E) :
    wpAny (model prog w) (A₀.deeper env) (handleBy (.ref e) env (.ExceptHandler (some (.Name (Str.ofString "ValueError") np)) none (b₀ :: suite) pos :: rest)) Q E s' := by
  refine wpAny_handleBy_builtin (X := "ValueError") (T := "ValueError") (b := true) (isSubtype_of_subB (by decide +kernel)) (isSubtype_of_subB (by decide +kernel)) (isSubtype_of_subB (by decide +kernel)) (wpAny_passesOwnAt hE (hname _ ⟨rfl, H.isA, ?_⟩))
  rw [if_pos rfl]
  exact H.lands fun h' F' N' => wpAny_passesOwnAt hE (k h' F' N')
end

/-- what a call of the second kind gives back: the table may grow, the frames' slots may turn -/
inductive OutII (s : Shared) (D : List Addr) (cs frs : List (Addr × Obj)) (Post : Value → Heap → Prop) (v : Value) (s' : Shared) : Prop
  | mk (h' : Heap) (tk' : Nat) (gs' : Array GenState) (ps' : Array Value) (cs' frs' : List (Addr × Obj)) (e : s' = { s with heap := h', toks := tk', gens := gs' }) (b : AllBare gs') (x : TabOK ps' cs') (u : SameUp frs frs') (t : ∀ q ∈ tl ps' cs' frs', h'.get? q.1 = some q.2)
    (c : ∀ q ∈ cs', q ∈ cs ∨ s.heap.get? q.1 = none) (f : ∀ q ∈ cs, q ∈ cs') (k : Keep (D ++ 360 :: frs.map (·.1)) s.heap h') (p : Post v h') : OutII s D cs frs Post v s'

/-- a contract of the second kind -/
noncomputable def CII (w : World) (G₀ : Heap) (nd nu : Nat) (f : Addr) (args : List Value) (conc : List (Addr × Obj)) (D : List Addr) (Post : Heap → Value → Heap → Prop) : Prop :=
  ∀ (dp : Nat) (l : List Env) (gd : Option (List Code)) (un : Nat) (s : Shared) (E : Value → Shared → Prop) (ps : Array Value) (cs frs : List (Addr × Obj)), dp + nd < recursionLimit → un + nu < cLine → G₀.StaysIn s.heap → Has G₀ s.heap (conc ++ tl ps cs frs) →
    TabOK ps cs → Frs l frs → (∀ q ∈ conc, ∀ p ∈ tl ps cs frs, q.1 ≠ p.1) → AllBare s.gens →
    wpAny (model PR w) (AT dp (some l) gd un) (call (.ref f) args) (OutII s D cs frs (Post s.heap)) E s

/-- calling a function of the second kind out of a body -/
theorem call_II {w : World} {G₀ g : Heap} {nd nu dp un : Nat} {f : Addr} {args : List Value} {conc lits : List (Addr × Obj)} {D : List Addr} {Post : Heap → Value → Heap → Prop} {l : List Env} {env : Env} {gd : Option (List Code)} {s : Shared} {E Q : Value → Shared → Prop} {ps : Array Value} {cs frs : List (Addr × Obj)} {L : Addr} {m : Str → Option Value}
    (C : CII w G₀ nd nu f args conc D Post) (F : Fr g L s.heap m) (N : News g L s.heap (lits ++ tl ps cs frs)) (hd : dp + nd < recursionLimit) (hu : un + nu < cLine) (hGg : G₀.StaysIn g) (hC : Has G₀ s.heap conc)
    (X : TabOK ps cs) (Fs : Frs l frs) (hA : AllBare s.gens) (henv : env.frame = some L) (hke : env.scope.kind ≠ .module) (hoff : ∀ q ∈ conc, q.1 ≠ L ∧ ∀ p ∈ tl ps cs frs, q.1 ≠ p.1) (hD : ∀ d ∈ D, ∃ q ∈ lits, q.1 = d)
    (hl : ∀ q ∈ lits, ∀ p ∈ tl ps cs frs, q.1 ≠ p.1)
    (h : ∀ v h' tk' gs' ps' cs' frs', Fr g L h' m → News g L h' (tl ps' cs' frs') → (∀ q ∈ lits, q.1 ∉ D → h'.get? q.1 = some q.2 ∧ q.1 ≠ L ∧ g.get? q.1 = none) → TabOK ps' cs' → Frs l frs' → SameUp frs frs' → AllBare gs' → (∀ q ∈ cs', q ∈ cs ∨ s.heap.get? q.1 = none) → (∀ q ∈ cs, q ∈ cs') →
      (∀ q ∈ tl ps' cs' frs', (∃ p ∈ tl ps cs frs, q.1 = p.1) ∨ s.heap.get? q.1 = none) → Post s.heap v h' → Keep (D ++ L :: 360 :: frs.map (·.1)) s.heap h' → Q v { s with heap := h', toks := tk', gens := gs' }) :
    wpAny (model PR w) (AT dp (some (env :: l)) gd un) (call (.ref f) args) Q E s := by
  obtain ⟨oL, es, ep, hL, hLd, hLk, hLf⟩ := F.ns
  have hL0 : G₀.get? L = none := by
    cases e : G₀.get? L with
    | none => rfl
    | some o => exact absurd (Heap.lt_size (hGg _ _ e)) (Nat.not_lt.mpr F.above)
  have nT : ∀ q ∈ tl ps cs frs, s.heap.get? q.1 = some q.2 ∧ q.1 ≠ L ∧ g.get? q.1 = none := fun q hq => N q (List.mem_append_right _ hq)
  have off0 : ∀ {b : Addr}, g.get? b = none → G₀.get? b = none := fun {b} e => by
    cases e' : G₀.get? b with
    | none => rfl
    | some o => rw [hGg _ _ e'] at e; cases e
  have HS : Has G₀ s.heap (conc ++ tl ps cs ((L, oL) :: frs)) := fun q hq => by
    rcases List.mem_append.mp hq with hq | hq
    · exact hC q hq
    · rcases List.mem_cons.mp hq with rfl | hq
      · exact ⟨(nT _ (.head _)).1, off0 (nT _ (.head _)).2.2⟩
      · rcases List.mem_append.mp hq with hq | hq
        · have := nT q (.tail _ (List.mem_append_left _ hq)); exact ⟨this.1, off0 this.2.2⟩
        · rcases List.mem_cons.mp hq with rfl | hq
          · exact ⟨hL, hL0⟩
          · have := nT q (.tail _ (List.mem_append_right _ hq)); exact ⟨this.1, off0 this.2.2⟩
  refine wpAny_mono (C dp (env :: l) gd un s E ps cs ((L, oL) :: frs) hd hu (fun b o e => F.keep _ _ (hGg b o e)) HS X ⟨hke, henv, ⟨es, ep, hLd⟩, Fs⟩ (fun q hq p hp => ?_) hA) (fun v s' hv => ?_) fun _ _ x => x
  · rcases List.mem_cons.mp hp with rfl | hp
    · exact (hoff q hq).2 _ (.head _)
    · rcases List.mem_append.mp hp with hp | hp
      · exact (hoff q hq).2 _ (.tail _ (List.mem_append_left _ hp))
      · rcases List.mem_cons.mp hp with rfl | hp
        · exact (hoff q hq).1
        · exact (hoff q hq).2 _ (.tail _ (List.mem_append_right _ hp))
  obtain ⟨h', tk', gs', ps', cs', frs₁, rfl, hb, X', SU, hT, hcs, hsub, kp, hp⟩ := hv
  cases frs₁ with
  | nil => exact False.elim SU
  | cons q frs' =>
    obtain ⟨b1, oq⟩ := q
    obtain ⟨h1, ⟨sl, h2⟩, SU'⟩ := SU
    dsimp only at h1 h2
    obtain rfl : L = b1 := h1.symm
    subst h2
    have nL : ∀ q ∈ lits, q.1 ≠ L := fun q hq => (N q (List.mem_append_left _ hq)).2.1
    have F' : Fr g L h' m := by
      refine ⟨⟨_, es, ep, hT (L, _) (.tail _ (List.mem_append_right _ (.head _))), hLd, hLk, hLf⟩, fun b o e => kp b o (fun hm => ?_) (F.keep b o e), F.above⟩
      rcases List.mem_append.mp hm with hm | hm
      · obtain ⟨q, hq, rfl⟩ := hD b hm
        have := (N q (List.mem_append_left _ hq)).2.2
        rw [e] at this; cases this
      · rcases List.mem_cons.mp hm with rfl | hm
        · have := (nT _ (.head _)).2.2
          rw [e] at this; cases this
        · rcases List.mem_cons.mp hm with hm | hm
          · rw [show b = L from hm] at e
            exact absurd (Heap.lt_size e) (Nat.not_lt.mpr F.above)
          · obtain ⟨q, hq, rfl⟩ := List.mem_map.mp hm
            have := (nT q (.tail _ (List.mem_append_right _ hq))).2.2
            rw [e] at this; cases this
    have back : ∀ q ∈ tl ps' cs' frs', (∃ p ∈ tl ps cs frs, q.1 = p.1) ∨ s.heap.get? q.1 = none := fun q hq => by
      rcases List.mem_cons.mp hq with rfl | hq
      · exact .inl ⟨_, .head _, rfl⟩
      · rcases List.mem_append.mp hq with hq | hq
        · rcases hcs q hq with h | h
          · exact .inl ⟨q, .tail _ (List.mem_append_left _ h), rfl⟩
          · exact .inr h
        · obtain ⟨p, hp, e⟩ := SU'.fwd q hq
          exact .inl ⟨p, .tail _ (List.mem_append_right _ hp), e⟩
    have N' : News g L h' (tl ps' cs' frs') := fun q hq => by
      refine ⟨hT q ?_, ?_⟩
      · rcases List.mem_cons.mp hq with rfl | hq
        · exact .head _
        · rcases List.mem_append.mp hq with hq | hq
          · exact .tail _ (List.mem_append_left _ hq)
          · exact .tail _ (List.mem_append_right _ (.tail _ hq))
      · rcases back q hq with ⟨p, hp, e⟩ | e
        · rw [e]; exact (nT p hp).2
        · exact new_off F e
    refine h v h' tk' gs' ps' cs' frs' F' N' (fun q hq hd => ?_) X' (Fs.up SU') SU' hb hcs hsub back hp (kp.mono fun d hd => ?_)
    · refine ⟨kp _ _ (fun hm => ?_) (N q (List.mem_append_left _ hq)).1, (N q (List.mem_append_left _ hq)).2⟩
      rcases List.mem_append.mp hm with hm | hm
      · exact hd hm
      · rcases List.mem_cons.mp hm with e | hm
        · exact hl q hq _ (.head _) e
        · rcases List.mem_cons.mp hm with e | hm
          · exact nL q hq e
          · obtain ⟨p, hp, e⟩ := List.mem_map.mp hm
            exact hl q hq p (.tail _ (List.mem_append_right _ hp)) e.symm
    · simp only [List.mem_append, List.map_cons, List.mem_cons] at hd ⊢
      rcases hd with h | h | h | h <;> simp [h]
end Mine

namespace Mine
section
variable {prog : Program} {w : World} {A : Around} {E : Value → Shared → Prop} {s : Shared}
/-- min of an empty list, with a key -/
theorem min_none {l q : Addr} {Q : Value → Shared → Prop} (hh : A.handled = none) (hl : s.heap.IsList l #[])
    (h : ∀ h' tk e, Heap.NewExc s.heap h' e "ValueError" → E (.ref e) { s with heap := h', toks := tk }) :
    wpAny (model prog w) A (call (.builtin "min") [.ref l] [(Str.ofString "key", .ref q)]) Q E s := by
  have hname : (toString "min" ++ toString ".loop" : String) = "min.loop" := by decide
  obtain ⟨ol, hol, _⟩ := id hl
  have hll : l < s.heap.objs.size := Heap.lt_size hol
  refine PyProof.Rows.kmk_tree PySem.F.kind_min PySem.F.plain_min PySem.F.entry_min (PyProof.Rows.kmk_min_key _ _) ?_
  show wpAny _ A.in1 (Builtin.Builtins.bindParams "min" ["key", "default"] 0 ⟨[], [(Str.ofString "key", .ref q)]⟩ >>= _) _ _ s
  refine wpAny_bind (wpAny_of_eq (show Builtin.Builtins.bindParams "min" ["key", "default"] 0 ⟨[], [(Str.ofString "key", .ref q)]⟩ = pure [some (.ref q), none] from rfl) ?_)
  refine wpAny_bind (wpAny_pure ?_)
  refine wpAny_bind (wpAny_pyIter_list hl ?_)
  refine wpAny_bind (wpAny_newList ?_ (Nat.zero_le _))
  rw [hname]
  refine wpAny_pure ⟨plainId_quiet PySem.F.plain_min_loop _, ?_⟩
  refine codeAny_builtin PySem.F.entry_min_loop ?_
  rw [Around.under_plainId PySem.F.plain_min_loop _]
  have hlI : l ≠ s.heap.objs.size := Nat.ne_of_lt hll
  have W := Walks.list (prog := prog) (w := w) (A := A.in1) hh s.heap.objs.size l hlI #[]
  generalize hI : s.heap.objs.size = I at *
  generalize hH : s.heap.push { cls := .type "list_iterator", data := .fields #[.ref l, .int 0 0] } = H
  have gI : H.get? I = some { cls := .type "list_iterator", data := .fields #[.ref l, .int 0 0] } := by rw [← hH, ← hI]; exact Heap.get?_push_size _ rfl
  have kH : ∀ b o, s.heap.get? b = some o → H.get? b = some o := fun b o e => by rw [← hH]; exact Heap.get?_push_of_some _ e
  have gS : (H.push (seqObj "list" #[] 0)).get? H.objs.size = some (seqObj "list" #[] 0) := Heap.get?_push_size _ rfl
  have k2 : ∀ b o, H.get? b = some o → (H.push (seqObj "list" #[] 0)).get? b = some o := fun b o e => Heap.get?_push_of_some _ e
  show wpAny _ A.in1 (seqItems? (.ref _) >>= _) _ _ _
  refine wpAny_bind (wpAny_seqItems gS rfl ?_)
  show wpAny _ A.in1 (tryCatch (pyNext (.ref I)) _ >>= _) _ _ _
  refine wpAny_bind (wpAny_tryCatch (W.done _ _ _ ⟨⟨_, k2 _ _ gI, rfl, rfl⟩, hl.at fun o e => k2 _ _ (kH _ _ e)⟩ fun h' tk' hk' => ?_))
  refine wpAny_bind (wpAny_rule ?_)
  have fin : ∀ h'' tk e, Heap.NewExc h' h'' e "ValueError" → E (.ref e) { s with heap := h'', toks := tk } := fun h'' tk e x => by
    have kp : ∀ b o, s.heap.get? b = some o → h'.get? b = some o := fun b o e => hk' b o (fun hm => by
      rw [List.mem_singleton.mp hm, ← hI] at e
      exact Nat.lt_irrefl _ (Heap.lt_size e)) (k2 _ _ (kH _ _ e))
    refine h h'' tk e ⟨fun b o z => x.keeps b o (kp b o z), ?_, x.there⟩
    cases z : s.heap.get? e with
    | none => rfl
    | some o => have := x.new; rw [kp _ _ z] at this; cases this
  exact_raiseError plainExc_ValueError hh fin
end
end Mine

namespace Mine
open PyProof.Rows.TI (Frs SameUp gone)
theorem nameG_L {M : Model} {A : Around} {E : Value → Shared → Prop} {s : Shared} {h₀ : Heap} {C bi : Addr} {m : Str → Option Value} {scope : Scope} {cl : List (Str × Addr)} {code : Value} {env : Env} {x : Str} {pos : Pos} {v : Value} {Q : Value → Shared → Prop} (F : Fr h₀ C s.heap m)
    (hk : ((genEnv scope cl C code bi env).scope.kind, (genEnv scope cl C code bi env).kindOf x) = (.function, some .local)) (hd : (x == ("__debug__" : Str)) = false) (hv : m x = some v) (h : Q v s) :
    wpAny M A (eval (.Name x pos) (genEnv scope cl C code bi env)) Q E s := wpAny_Name (wpAny_loadName_local (congrArg (·.1) hk) (congrArg (·.2) hk) F.ns hv h) hd
theorem nameG_F {M : Model} {A : Around} {E : Value → Shared → Prop} {s : Shared} {h₀ : Heap} {C c bi : Addr} {news : List (Addr × Obj)} {scope : Scope} {cl : List (Str × Addr)} {code : Value} {env : Env} {x : Str} {pos : Pos} {v : Value} {o : Obj} {Q : Value → Shared → Prop} (N : News h₀ C s.heap news)
    (hk : ((genEnv scope cl C code bi env).scope.kind, (genEnv scope cl C code bi env).kindOf x) = (.function, some .free)) (hb : ((x == ("__debug__" : Str)), (x == ("__classdict__" : Str))) = (false, false)) (hc : cl.lookup x = some c) (hm : (c, o) ∈ news) (hd : o.data = .cell (some v)) (h : Q v s) :
    wpAny M A (eval (.Name x pos) (genEnv scope cl C code bi env)) Q E s := wpAny_Name (wpAny_loadName_free (congrArg (·.1) hk) (congrArg (·.2) hk) hc ⟨o, N.get hm, hd⟩ h (congrArg (·.2) hb)) (congrArg (·.1) hb)
section
local macro_rules | `(tactic| walk_at "eval Name") => `(tactic| (k_here; (with_reducible first
  | (apply nameG_L; k_dflt (assumption; exact rfl; decide; assumption))
  | (apply nameG_F; k_dflt (assumption; exact rfl; exact rfl; exact rfl; k_mem; assumption)))))
variable {w : World} {mean : ExcName → Option Value} {mg mb : Str → Option Value} {loose : List Str} {G₀ : Heap}
noncomputable abbrev Fits (wd hg : Int) (g : Gp) : Prop := ¬ (g.r.w < wd ∨ g.r.h < hg)
/-- the item that the generator yields for a gap -/
noncomputable def FitI (secs : List Gp) (wd hg : Int) (C : Addr) (i : Nat) (v : Value) (h : Heap) : Prop :=
  ∃ gp t n tk, secs[i]? = some gp ∧ v = .ref t ∧ @LT.lt Nat _ C t ∧ h.get? t = some (seqObj "tuple" #[.int (gp.r.w * gp.r.h - wd * hg) tk, .ref gp.a, .bool false] n)
noncomputable def fitPz (secs : List Gp) (wd hg : Int) (i : Nat) : Bool := match secs[i]? with | some gp => decide (Fits wd hg gp) | none => false
noncomputable abbrev genScope : Scope := { kind := .function, names := [(Str.ofString ".0", .local), (Str.ofString "s", .local), (Str.ofString "h", .free), (Str.ofString "self", .free), (Str.ofString "w", .free)], isGenerator := true, isCoroutine := false }
noncomputable abbrev fitCall (p1 p2 p3 p4 p5 p6 : Pos) : Expr := ((Expr.Name (Str.ofString "self") p1).Attribute (Str.ofString "_section_fitness") p2).Call [Expr.Name (Str.ofString "s") p3, Expr.Name (Str.ofString "w") p4, Expr.Name (Str.ofString "h") p5] [] p6
noncomputable abbrev fitIfs : List Expr := [Expr.Compare (fitCall ⟨198, 86, 198, 90⟩ ⟨198, 86, 198, 107⟩ ⟨198, 108, 198, 109⟩ ⟨198, 111, 198, 112⟩ ⟨198, 114, 198, 115⟩ ⟨198, 86, 198, 116⟩) [CmpOp.IsNot] [Expr.Constant Const.none 0 ⟨198, 124, 198, 128⟩] ⟨198, 86, 198, 128⟩]
noncomputable abbrev fitElt : Expr := Expr.Tuple [fitCall ⟨198, 17, 198, 21⟩ ⟨198, 17, 198, 38⟩ ⟨198, 39, 198, 40⟩ ⟨198, 42, 198, 43⟩ ⟨198, 45, 198, 46⟩ ⟨198, 17, 198, 47⟩, Expr.Name (Str.ofString "s") ⟨198, 49, 198, 50⟩, Expr.Constant (Const.bool false) 0 ⟨198, 52, 198, 57⟩] 0 ⟨198, 16, 198, 58⟩
theorem quiet_fit (G : Gnd w mean mg mb loose G₀) {g href : Heap} {env : Env} {W dW lr sf ls C bi c1 c2 c3 I : Addr} {code : Value} {k : Nat → Tok} {tw th : Tok} {secs : List Gp} {wd hg : Int} {t1 t2 : Tok} {o1 o2 o3 : Obj} {D U : Nat} {fq : List Addr}
    (d1 : o1.data = .cell (some (.int hg t2))) (d2 : o2.data = .cell (some (.int wd t1))) (d3 : o3.data = .cell (some (.ref W)))
    (hm1 : ∀ q ∈ secs, IntMulOk q.r.w q.r.h) (hm2 : IntMulOk wd hg) (hD : D + 30 < recursionLimit) (hU : U + 200 < cLine) (hGg : G₀.StaysIn g) (X' : (Mine.hd.heap_1 w.params).In g) (T' : Top topProg loose mean mg mb g) (hgC : g.objs.size ≤ C)
    (hgap : ∀ q ∈ secs, ∀ o ∈ q.objs w.params, g.get? o.1 = some o.2 ∧ G₀.get? o.1 = none)
    (hgq : ∀ b o, g.get? b = some o → b ∈ fq ∧ b ≠ I ∧ href.get? b = some o) (hlq : ∀ q ∈ [(c1, o1), (c2, o2), (c3, o3), (W, instObj 480 dW), (dW, dictOf (wEs w.params k tw th lr sf ls) 8)], q.1 ∈ fq ∧ q.1 ≠ I ∧ q.1 ≠ C ∧ href.get? q.1 = some q.2 ∧ g.get? q.1 = none) :
    QuietH PR w (genEnv genScope [(Str.ofString "w", c2), (Str.ofString "self", c3), (Str.ofString "h", c1)] C code bi env) (Str.ofString "s") fitIfs fitElt fq [I] (fun i v => (refs secs).toArray[i]? = some v) (fitPz secs wd hg) (FitI secs wd hg C) href D U := by
  have zS0 : Mine.StopAt 407 := ⟨trivial⟩
  have base : ∀ (s₂ : Shared) m₂, s₂.heap.Ns C m₂ → (∀ b ∈ fq, b ∉ [I] → ∀ o, href.get? b = some o → s₂.heap.get? b = some o) → Fr g C s₂.heap m₂ ∧ News g C s₂.heap [(c1, o1), (c2, o2), (c3, o3), (W, instObj 480 dW), (dW, dictOf (wEs w.params k tw th lr sf ls) 8)] := fun s₂ m₂ hn hk =>
    ⟨⟨hn, fun b o e => hk b (hgq b o e).1 (fun hm => (hgq b o e).2.1 (List.mem_singleton.mp hm)) o (hgq b o e).2.2, hgC⟩, fun q hq => ⟨hk _ (hlq q hq).1 (fun hm => (hlq q hq).2.1 (List.mem_singleton.mp hm)) _ (hlq q hq).2.2.2.1, (hlq q hq).2.2.1, (hlq q hq).2.2.2.2⟩⟩
  have item : ∀ (i : Nat) (v : Value), (refs secs).toArray[i]? = some v → ∃ gp, secs[i]? = some gp ∧ v = .ref gp.a := fun i v hv => by
    simp only [refs, List.getElem?_toArray, List.getElem?_map, Option.map_eq_some_iff] at hv
    obtain ⟨gp, h1, h2⟩ := hv
    exact ⟨gp, h1, h2.symm⟩
  constructor
  · intro A' E' i v s₂ m₂ hh hdep huni hP hn hx hk
    obtain ⟨F, N⟩ := base s₂ m₂ hn hk
    obtain ⟨gp, hgp, rfl⟩ := item i v hP
    have hmem := List.mem_of_getElem? hgp
    obtain ⟨hd', dp', fr', gd', un'⟩ := A'
    dsimp only at hh hdep huni
    subst hh
    refine wpAny_tests_one ?_
    clear hlq hgq hn hk base item
    k_steps
    refine Halt.mk ?_
    have HS : Has G₀ s₂.heap [(gp.a, instObj 203 gp.d), (gp.d, dictOf (rcEs w.params gp.r) 5)] := fun q hq => ⟨F.keep _ _ (hgap gp hmem q hq).1, (hgap gp hmem q hq).2⟩
    refine wpAny_mono (fit_c G W gp.a gp.d gp.r wd hg t1 t2 (hm1 gp hmem) hm2 dp' fr' gd' un' s₂ _ (by ktu_offL) (by ktu_offL) (fun b o e => F.keep _ _ (hGg b o e)) HS) (fun v s₃ hv => ?_) fun _ _ x => x
    obtain ⟨h₃, tk₃, rfl, k₃, hf⟩ := hv
    have kk : Keeps s₂ { s₂ with heap := h₃, toks := tk₃ } := ⟨_, _, rfl, fun b o e => k₃ b o List.not_mem_nil e⟩
    unfold FitV at hf
    have hpz : fitPz secs wd hg i = decide (Fits wd hg gp) := by simp only [fitPz, hgp]
    split at hf
    · rename_i hc
      subst hf
      have hpz' : fitPz secs wd hg i = false := by rw [hpz]; simp [Fits, hc]
      k_steps
      · exact hpz'.symm
      · exact kk
    · rename_i hc
      obtain ⟨t, rfl⟩ := hf
      have hpz' : fitPz secs wd hg i = true := by rw [hpz]; simp [Fits, hc]
      k_steps
      · exact hpz'.symm
      · exact kk
  · intro A' E' i v s₂ m₂ hh hdep huni hP hpz hn hx hk
    obtain ⟨F, N⟩ := base s₂ m₂ hn hk
    obtain ⟨gp, hgp, rfl⟩ := item i v hP
    have hmem := List.mem_of_getElem? hgp
    obtain ⟨hd', dp', fr', gd', un'⟩ := A'
    dsimp only at hh hdep huni
    subst hh
    clear hlq hgq hn hk base item
    refine wpAny_Tuple ?_
    k_steps
    refine Halt.mk ?_
    have HS : Has G₀ s₂.heap [(gp.a, instObj 203 gp.d), (gp.d, dictOf (rcEs w.params gp.r) 5)] := fun q hq => ⟨F.keep _ _ (hgap gp hmem q hq).1, (hgap gp hmem q hq).2⟩
    refine wpAny_mono (fit_c G W gp.a gp.d gp.r wd hg t1 t2 (hm1 gp hmem) hm2 dp' fr' gd' un' s₂ _ (by ktu_offL) (by ktu_offL) (fun b o e => F.keep _ _ (hGg b o e)) HS) (fun v s₃ hv => ?_) fun _ _ x => x
    obtain ⟨h₃, tk₃, rfl, k₃, hf⟩ := hv
    have kk : ∀ b o, s₂.heap.get? b = some o → h₃.get? b = some o := fun b o e => k₃ b o List.not_mem_nil e
    unfold FitV at hf
    have hc : ¬ (gp.r.w < wd ∨ gp.r.h < hg) := by
      have z := hpz
      simp only [fitPz, hgp] at z
      exact of_decide_eq_true z
    rw [if_neg hc] at hf
    obtain ⟨t, rfl⟩ := hf
    have F₃ : Fr g C h₃ m₂ := k₃.fr F (fun h => nomatch h) (List.forall_mem_nil _)
    have N₃ := N.grown kk
    clear F N
    k_steps
    · exact ⟨gp, h₃.objs.size, _, t, hgp, rfl, F₃.ns.lt, Heap.get?_push_size _ rfl⟩
    · exact ⟨_, _, rfl, fun b o e => Heap.get?_push_of_some _ (kk b o e)⟩
end
end Mine

namespace Mine
open PyProof.Rows.TI (Frs SameUp gone)
noncomputable abbrev selScope : Scope := { kind := .function, names := [(Str.ofString "self", .cell), (Str.ofString "w", .cell), (Str.ofString "h", .cell), (Str.ofString "fitn", .local), (Str.ofString "fitr", .local), (Str.ofString "fit", .local), (Str.ofString "_", .local), (Str.ofString "sec", .local), (Str.ofString "rot", .local), (Str.ofString "list", .globalImplicit), (Str.ofString "min", .globalImplicit), (Str.ofString "ValueError", .globalImplicit)], isGenerator := false, isCoroutine := false }
noncomputable abbrev selEnv (L : Addr) : Env := envOfC (Str.ofString "Guillotine._select_fittest_section") selScope L 365 (.ref 364)
noncomputable def fqOf (g : Heap) (as : List Addr) (n : Nat) : List Addr := (List.range n).filter fun b => (g.get? b).isSome || as.contains b
theorem mem_fqOf {g : Heap} {as : List Addr} {n b : Nat} : b ∈ fqOf g as n ↔ b < n ∧ ((∃ o, g.get? b = some o) ∨ b ∈ as) := by
  simp only [fqOf, List.mem_filter, List.mem_range, Bool.or_eq_true, List.contains_iff_mem, Option.isSome_iff_exists]
section
variable {w : World} {mean : ExcName → Option Value} {mg mb : Str → Option Value} {loose : List Str} {G₀ : Heap}
noncomputable abbrev fitAs (L W dW ls I : Addr) : List Addr := [I, L + 1 + 1 + 1, L + 1 + 1, L + 1, W, dW, ls]
noncomputable abbrev selLits (P : Params) (L W dW lr sf ls : Addr) (k : Nat → Tok) (tw th : Tok) (n : Nat) (secs : List Gp) (o1 o2 o3 : Obj) : List (Addr × Obj) :=
  [(L + 1 + 1 + 1, o1), (L + 1 + 1, o2), (L + 1, o3), (W, instObj 480 dW), (dW, dictOf (wEs P k tw th lr sf ls) 8), (ls, listOf (refs secs).toArray n)]
theorem fitn_eval (G : Gnd w mean mg mb loose G₀) (CH : CodeHd G₀ 364 360) {dp un : Nat} {l : List Env} {gd : Option (List Code)} {s : Shared} {E Q : Value → Shared → Prop} {g : Heap} {L W dW lr sf ls : Addr} {m : Str → Option Value} {k : Nat → Tok} {tw th : Tok} {n : Nat} {secs : List Gp} {wd hg : Int} {t1 t2 : Tok} {o1 o2 o3 : Obj} {ps : Array Value} {cs frs : List (Addr × Obj)} {pos : Pos} {px pi1 pi2 : Pos}
    (F : Fr g L s.heap m) (N : News g L s.heap (selLits w.params L W dW lr sf ls k tw th n secs o1 o2 o3 ++ tl ps cs frs))
    (d1 : o1.data = .cell (some (.int hg t2))) (d2 : o2.data = .cell (some (.int wd t1))) (d3 : o3.data = .cell (some (.ref W)))
    (hm1 : ∀ q ∈ secs, IntMulOk q.r.w q.r.h) (hm2 : IntMulOk wd hg) (hd : dp + 60 < recursionLimit) (hu : un + 600 < cLine) (hGg : G₀.StaysIn g) (X' : (Mine.hd.heap_1 w.params).In g) (T' : Top topProg loose mean mg mb g) (X : TabOK ps cs)
    (hgap : ∀ q ∈ secs, ∀ o ∈ q.objs w.params, g.get? o.1 = some o.2 ∧ G₀.get? o.1 = none) (h360 : ∀ q ∈ selLits w.params L W dW lr sf ls k tw th n secs o1 o2 o3, q.1 ≠ 360) (hf360 : ∀ q ∈ frs, q.1 ≠ 360) (hpos : ∀ c, codeAmong lamPos [rawInt pos.line, rawInt pos.col, c] = none)
    (hQ : ∀ a C I oa oC oI h' tk ps' gs, s.heap.objs.size ≤ I → @LT.lt Nat _ I C → @LT.lt Nat _ C a → Fr g L h' m → News g L h' ((a, oa) :: (C, oC) :: (I, oI) :: (selLits w.params L W dW lr sf ls k tw th n secs o1 o2 o3 ++ tl ps' cs frs)) → TabOK ps' cs → gs.bare = true →
      GenAtH PR w ((AT dp (some l) gd un).deeper (selEnv L)).in4 a s.gens.size C (fqOf g (fitAs L W dW ls I) C) [I] (fitPz secs wd hg) (refs secs).toArray.size (FitI secs wd hg C) 0 { s with heap := h', toks := tk, gens := s.gens.push gs } →
      Q (.ref a) { s with heap := h', toks := tk, gens := s.gens.push gs }) :
    wpAny (model PR w) ((AT dp (some l) gd un).deeper (selEnv L)) (eval (.GeneratorExp fitElt [⟨.Name (Str.ofString "s") px, (Expr.Name (Str.ofString "self") pi1).Attribute (Str.ofString "_sections") pi2, fitIfs, 0⟩] genScope pos) (selEnv L)) Q E s := by
  have zS0 : Mine.Stop "pyIter ref" := ⟨trivial⟩
  refine gen_eval rfl rfl rfl (by decide) (by decide) (by decide) rfl (by k_room) ?_ (by intro _; rfl)
  have d1' := d1
  have d2' := d2
  have d3' := d3
  k_steps
  refine Halt.mk ?_
  have nLs := N (ls, listOf (refs secs).toArray n) (by walk_at "sm")
  have nP := N (360, tabObj ps) (List.mem_append_right _ (.head _))
  have hl : s.heap.IsList ls (refs secs).toArray := ⟨_, nLs.1, rfl, n, rfl⟩
  refine wpAny_pyIter_list (s := { s with toks := s.toks + 1 }) hl ?_
  have kI : ∀ b o, s.heap.get? b = some o → (s.heap.push { cls := .type "list_iterator", data := .fields #[.ref ls, .int 0 0] }).get? b = some o := fun b o e => Heap.get?_push_of_some _ e
  have gI : (s.heap.push { cls := .type "list_iterator", data := .fields #[.ref ls, .int 0 0] }).get? s.heap.objs.size = some { cls := .type "list_iterator", data := .fields #[.ref ls, .int 0 0] } := Heap.get?_push_size _ rfl
  have zI : (s.heap.push { cls := .type "list_iterator", data := .fields #[.ref ls, .int 0 0] }).objs.size = s.heap.objs.size + 1 := Heap.size_push ..
  have nl : s.heap.NoLimit := T'.nolimit.keeps F.keep
  refine ⟨nl.keeps kI, ?_⟩
  generalize hH : s.heap.push { cls := .type "list_iterator", data := .fields #[.ref ls, .int 0 0] } = H at *
  refine gencode_tab (ps := ps) (cs := cs) rfl (CH.keeps fun b o e => kI b o (F.keep b o (hGg b o e))) (kI _ _ nP.1) X hpos fun code h₄ tk₄ ps₄ hx hP₄ X₄ => ?_
  obtain ⟨bm, ob, b1, b2, b3, b4, b5, b6⟩ := T'.bmain
  have gne : ∀ {b : Addr} {o : Obj}, g.get? b = some o → b ≠ 360 := fun {b o} e q => by
    rw [q, nP.2.2] at e; cases e
  have kg : ∀ b o, g.get? b = some o → h₄.get? b = some o := fun b o e => hx b o (gne e) (kI b o (F.keep b o e))
  have lt4 : ∀ {b : Addr} {o : Obj}, h₄.get? b = some o → @LT.lt Nat _ b h₄.objs.size := fun e => Heap.lt_size e
  have I360 : s.heap.objs.size ≠ 360 := Nat.ne_of_gt (Heap.lt_size nP.1)
  have gI₄ := hx _ _ I360 gI
  have oL : L ≠ 360 := nP.2.1.symm
  have k4 : ∀ b o, b ≠ 360 → s.heap.get? b = some o → h₄.get? b = some o := fun b o hb e => hx b o hb (kI b o e)
  have hL4 : @LT.lt Nat _ L h₄.objs.size := by
    obtain ⟨o, es, ep, e, _⟩ := F.ns
    exact lt4 (k4 L o oL e)
  have nl4 : h₄.NoLimit := T'.nolimit.keeps kg
  refine wpAny_builtinsFor (T'.g.keeps kg) b1 b2 (kg _ _ b3) b4 b5 b6 ?_
  have N₄ : ∀ q ∈ selLits w.params L W dW lr sf ls k tw th n secs o1 o2 o3, h₄.get? q.1 = some q.2 ∧ q.1 ≠ L ∧ g.get? q.1 = none := fun q hq => ⟨k4 _ _ (h360 q hq) (N q (List.mem_append_left _ hq)).1, (N q (List.mem_append_left _ hq)).2⟩
  have nls : ls ≠ s.heap.objs.size := Nat.ne_of_lt (Heap.lt_size nLs.1)
  have hlq : ∀ b ∈ fitAs L W dW ls s.heap.objs.size, @LT.lt Nat _ b h₄.objs.size := by
    intro b hb
    rcases List.mem_cons.mp hb with h | hb
    · exact h ▸ lt4 gI₄
    · obtain ⟨q, hq, rfl⟩ := List.mem_map.mp (show b ∈ (selLits w.params L W dW lr sf ls k tw th n secs o1 o2 o3).map (·.1) from hb)
      exact lt4 (N₄ q hq).1
  refine ⟨s.heap.objs.size, [s.heap.objs.size, ls], fqOf g (fitAs L W dW ls s.heap.objs.size) h₄.objs.size, [s.heap.objs.size], (refs secs).toArray.size, _, _, fitPz secs wd hg, FitI secs wd hg h₄.objs.size, rfl, fun A' hA => Walks.list hA _ _ nls _,
    ⟨⟨_, gI₄, rfl, rfl⟩, hl.at fun o e => k4 _ _ (h360 (ls, listOf (refs secs).toArray n) (by walk_at "sm")) e⟩, ?_, ?_, nl4, ?_, ?_⟩
  · intro b hb
    refine mem_fqOf.mpr ⟨hlq b ?_, .inr ?_⟩ <;> simp only [List.mem_cons, List.not_mem_nil, or_false] at hb ⊢ <;> rcases hb with rfl | rfl <;> simp
  · intro b hb
    exact (mem_fqOf.mp hb).1
  · intro href hk
    refine quiet_fit (g := g) (o1 := o1) (o2 := o2) (o3 := o3) (lr := lr) (sf := sf) (k := k) (tw := tw) (th := th) (W := W) (dW := dW) (ls := ls) (t1 := t1) (t2 := t2) G d1' d2' d3' hm1 hm2 ?_ ?_ hGg X' T' ?_ hgap ?_ ?_
    · show dp + 1 + 1 + 30 < recursionLimit; ktu_offL
    · show un + 3 + 8 + 200 < cLine; ktu_offL
    · exact Nat.le_trans F.above (Nat.le_of_lt hL4)
    · intro b o e
      exact ⟨mem_fqOf.mpr ⟨lt4 (kg _ _ e), .inl ⟨o, e⟩⟩, fun q => by rw [q] at e; exact absurd (Heap.lt_size (F.keep _ _ e)) (Nat.lt_irrefl _), hk _ _ (kg _ _ e)⟩
    · intro q hq
      have hq' : q ∈ selLits w.params L W dW lr sf ls k tw th n secs o1 o2 o3 := List.mem_append_left [(ls, listOf (refs secs).toArray n)] hq
      have nq := N₄ q hq'
      refine ⟨mem_fqOf.mpr ⟨lt4 nq.1, .inr (.tail _ (List.mem_map_of_mem (f := (·.1)) hq'))⟩, ?_, ?_, hk _ _ nq.1, nq.2.2⟩
      · exact Nat.ne_of_lt (Heap.lt_size (N q (List.mem_append_left _ hq')).1)
      · exact Nat.ne_of_lt (lt4 nq.1)
  · intro a h₅ tk₅ gs hb hlt hsz₅ hk₅ hns₅ GA
    obtain ⟨_, oC, _, _, hC, _⟩ := hns₅
    obtain ⟨oa, nm, qn, ha, _⟩ := GA.1
    have lI : @LT.lt Nat _ s.heap.objs.size h₄.objs.size := lt4 gI₄
    have hLs := F.ns.lt
    have up : ∀ b, L < b → g.get? b = none := fun b hb => Heap.get?_none_of_le (Nat.le_trans F.above (Nat.le_of_lt hb))
    refine hQ a h₄.objs.size s.heap.objs.size oa oC _ h₅ tk₅ ps₄ gs (Nat.le_refl _) lI hlt ⟨F.ns.at' fun o e => hk₅ _ _ (k4 _ _ oL e), fun b o e => hk₅ _ _ (kg b o e), F.above⟩
      (News.cons ⟨ha, Nat.ne_of_gt (Nat.lt_trans hLs (Nat.lt_trans lI hlt)), up a (Nat.lt_trans hLs (Nat.lt_trans lI hlt))⟩ (News.cons ⟨hC, Nat.ne_of_gt (Nat.lt_trans hLs lI), up _ (Nat.lt_trans hLs lI)⟩
        (News.cons ⟨hk₅ _ _ gI₄, Nat.ne_of_gt hLs, up _ hLs⟩ fun q hq => ?_))) X₄ hb GA
    rcases List.mem_append.mp hq with hq | hq
    · exact ⟨hk₅ _ _ (N₄ q hq).1, (N₄ q hq).2⟩
    · rcases List.mem_cons.mp hq with rfl | hq
      · exact ⟨hk₅ _ _ hP₄, nP.2⟩
      · have nq := N q (List.mem_append_right _ (.tail _ hq))
        refine ⟨hk₅ _ _ (k4 _ _ ?_ nq.1), nq.2⟩
        rcases List.mem_append.mp hq with hq | hq
        · exact (X.2.1 q hq).1
        · exact hf360 q hq
/-- the second generator expression: made, never run -/
theorem fitr_eval (CH : CodeHd G₀ 364 360) {dp un : Nat} {l : List Env} {gd : Option (List Code)} {s : Shared} {E Q : Value → Shared → Prop} {g : Heap} {L W dW lr sf ls a C I : Addr} {m : Str → Option Value} {k : Nat → Tok} {tw th : Tok} {n : Nat} {secs : List Gp} {oa oC oI o1 o2 o3 : Obj} {ps : Array Value} {cs frs : List (Addr × Obj)} {elt : Expr} {ifs : List Expr} {pos : Pos} {px pi1 pi2 : Pos} {wdv : Value}
    (F : Fr g L s.heap m) (N : News g L s.heap ((a, oa) :: (C, oC) :: (I, oI) :: (selLits w.params L W dW lr sf ls k tw th n secs o1 o2 o3 ++ tl ps cs frs))) (d3 : o3.data = .cell (some wdv)) (hW : wdv = .ref W)
    (hd : dp + 60 < recursionLimit) (hGg : G₀.StaysIn g) (X' : (Mine.hd.heap_1 w.params).In g) (T' : Top topProg loose mean mg mb g) (X : TabOK ps cs)
    (h360 : ∀ q ∈ (a, oa) :: (C, oC) :: (I, oI) :: selLits w.params L W dW lr sf ls k tw th n secs o1 o2 o3, q.1 ≠ 360) (hf360 : ∀ q ∈ frs, q.1 ≠ 360) (hpos : ∀ c, codeAmong lamPos [rawInt pos.line, rawInt pos.col, c] = none)
    (hQ : ∀ b h' tk ps' gs, Fr g L h' m → News g L h' ((a, oa) :: (C, oC) :: (I, oI) :: (selLits w.params L W dW lr sf ls k tw th n secs o1 o2 o3 ++ tl ps' cs frs)) → TabOK ps' cs → gs.bare = true → Q (.ref b) { s with heap := h', toks := tk, gens := s.gens.push gs }) :
    wpAny (model PR w) ((AT dp (some l) gd un).deeper (selEnv L)) (eval (.GeneratorExp elt [⟨.Name (Str.ofString "s") px, (Expr.Name (Str.ofString "self") pi1).Attribute (Str.ofString "_sections") pi2, ifs, 0⟩] genScope pos) (selEnv L)) Q E s := by
  have zS0 : Mine.Stop "pyIter ref" := ⟨trivial⟩
  subst hW
  refine wpAny_GeneratorExp_make rfl rfl (by decide) (by decide) rfl (by k_room) ?_ (by intro _; rfl)
  k_steps
  refine Halt.mk ?_
  have N0 : ∀ q ∈ (a, oa) :: (C, oC) :: (I, oI) :: selLits w.params L W dW lr sf ls k tw th n secs o1 o2 o3, s.heap.get? q.1 = some q.2 ∧ q.1 ≠ L ∧ g.get? q.1 = none := fun q hq => N q (List.mem_append_left (tl ps cs frs) hq)
  have NT : ∀ q ∈ tl ps cs frs, s.heap.get? q.1 = some q.2 ∧ q.1 ≠ L ∧ g.get? q.1 = none := fun q hq => N q (List.mem_append_right ((a, oa) :: (C, oC) :: (I, oI) :: selLits w.params L W dW lr sf ls k tw th n secs o1 o2 o3) hq)
  have nLs := N0 (ls, listOf (refs secs).toArray n) (by walk_at "sm")
  have nP := NT (360, tabObj ps) (.head _)
  have hl : s.heap.IsList ls (refs secs).toArray := ⟨_, nLs.1, rfl, n, rfl⟩
  refine wpAny_pyIter_list (s := { s with toks := s.toks + 1 }) hl ?_
  have kI : ∀ b o, s.heap.get? b = some o → (s.heap.push { cls := .type "list_iterator", data := .fields #[.ref ls, .int 0 0] }).get? b = some o := fun b o e => Heap.get?_push_of_some _ e
  have nl : s.heap.NoLimit := T'.nolimit.keeps F.keep
  refine ⟨nl.keeps kI, ?_⟩
  generalize hH : s.heap.push { cls := .type "list_iterator", data := .fields #[.ref ls, .int 0 0] } = H at *
  refine gencode_tab (ps := ps) (cs := cs) rfl (CH.keeps fun b o e => kI b o (F.keep b o (hGg b o e))) (kI _ _ nP.1) X hpos fun code h₄ tk₄ ps₄ hx hP₄ X₄ => ?_
  obtain ⟨bm, ob, b1, b2, b3, b4, b5, b6⟩ := T'.bmain
  have gne : ∀ {b : Addr} {o : Obj}, g.get? b = some o → b ≠ 360 := fun {b o} e q => by
    rw [q, nP.2.2] at e; cases e
  have kg : ∀ b o, g.get? b = some o → h₄.get? b = some o := fun b o e => hx b o (gne e) (kI b o (F.keep b o e))
  have k4 : ∀ b o, b ≠ 360 → s.heap.get? b = some o → h₄.get? b = some o := fun b o hb e => hx b o hb (kI b o e)
  have oL : L ≠ 360 := nP.2.1.symm
  refine wpAny_builtinsFor (T'.g.keeps kg) b1 b2 (kg _ _ b3) b4 b5 b6 ?_
  intro h₅ hn₅ hs₅
  have k5 : ∀ (x : Obj) b o, h₄.get? b = some o → (h₅.push x).get? b = some o := fun x b o e => Heap.get?_push_of_some _ (hs₅.extBut b o (Nat.ne_of_lt (Heap.lt_size e)) (Heap.get?_push_of_some _ e))
  refine hQ _ _ _ ps₄ _ ⟨F.ns.at' fun o e => k5 _ _ _ (k4 _ _ oL e), fun b o e => k5 _ _ _ (kg b o e), F.above⟩ (fun q hq => ?_) X₄ rfl
  rcases List.mem_append.mp (show q ∈ ((a, oa) :: (C, oC) :: (I, oI) :: selLits w.params L W dW lr sf ls k tw th n secs o1 o2 o3) ++ tl ps₄ cs frs from hq) with hq | hq
  · exact ⟨k5 _ _ _ (k4 _ _ (h360 q hq) (N0 q hq).1), (N0 q hq).2⟩
  · rcases List.mem_cons.mp hq with rfl | hq
    · exact ⟨k5 _ _ _ hP₄, nP.2⟩
    · have nq := NT q (.tail _ hq)
      refine ⟨k5 _ _ _ (k4 _ _ ?_ nq.1), nq.2⟩
      rcases List.mem_append.mp hq with hq | hq
      · exact (X.2.1 q hq).1
      · exact hf360 q hq
end
end Mine

namespace Mine
open PyProof.Rows.TI (Frs SameUp gone)
theorem choose_list {α β : Type} : ∀ (l : List α) (R : Nat → α → β → Prop), (∀ (j : Nat) v, l[j]? = some v → ∃ x, R j v x) → ∃ xs : List β, xs.length = l.length ∧ ∀ (j : Nat) v x, l[j]? = some v → xs[j]? = some x → R j v x
  | [], _, _ => ⟨[], rfl, fun _ _ _ h => by simp at h⟩
  | v :: l, R, h => by
    obtain ⟨x, hx⟩ := h 0 v rfl
    obtain ⟨xs, h1, h2⟩ := choose_list l (fun j => R (j + 1)) fun j v hj => h (j + 1) v (by simpa using hj)
    refine ⟨x :: xs, by simp [h1], fun j u y hu hy => ?_⟩
    cases j with
    | zero =>
      simp only [List.getElem?_cons_zero, Option.some.injEq] at hu hy
      subst hu hy
      exact hx
    | succ j => exact h2 j u y (by simpa using hu) (by simpa using hy)

/-- a tuple of the list of fits: its address, its gap -/
structure Tup where
  t : Addr
  g : Gp
  k : Tok
  n : Nat
noncomputable def Tup.obj (wd hg : Int) (x : Tup) : Addr × Obj := (x.t, seqObj "tuple" #[.int (x.g.r.w * x.g.r.h - wd * hg) x.k, .ref x.g.a, .bool false] x.n)
theorem mem_passing {pz : Nat → Bool} {n i : Nat} : i ∈ passing pz n 0 ↔ i < n ∧ pz i = true := by
  simp [passing]
section
variable {w : World} {mean : ExcName → Option Value} {mg mb : Str → Option Value} {loose : List Str} {G₀ : Heap}
theorem list_fitn {A : Around} {s : Shared} {E Q : Value → Shared → Prop} {a gi C I : Nat} {fq : List Addr} {secs : List Gp} {wd hg : Int}
    (hh : A.handled = none) (GA : GenAtH PR w A.in4 a gi C fq [I] (fitPz secs wd hg) (refs secs).toArray.size (FitI secs wd hg C) 0 s) (hroom : A.depth + 4 < recursionLimit) (hsz : secs.length < sizeLine)
    (haC : C < a) (hCI : I < C) (has : a < s.heap.objs.size) (hfq : ∀ b ∈ fq, b < C) (hIf : I ∈ fq) (hcs : cStatics ∈ fq) (hcI : cStatics ≠ I)
    (hQ : ∀ h' tk gs' (ts : List Tup) c, GenOnlyQ gi s.gens gs' → (∀ b o, b ≠ C → b ≠ I → s.heap.get? b = some o → h'.get? b = some o) →
      h'.get? s.heap.objs.size = some (seqObj "list" (ts.map fun x : Tup => Value.ref x.t).toArray c) → (∀ x ∈ ts, h'.get? x.t = some (x.obj wd hg).2 ∧ C < x.t ∧ x.g ∈ secs ∧ Fits wd hg x.g) → (∀ q ∈ secs, Fits wd hg q → ∃ x ∈ ts, x.g = q) → ts.length ≤ secs.length →
      Q (.ref s.heap.objs.size) { s with heap := h', toks := tk, gens := gs' }) :
    wpAny (model PR w) A (call (.type "list") [.ref a]) Q E s := by
  have W4 : WalkH PR w A.in4 a (a :: C :: fq) [C, I] (GenOnlyQ gi) _ _ _ s.heap.objs.size := walk_genexp (A := A.in4) (F := FitI secs wd hg C) (pz := fitPz secs wd hg) (n₀ := (refs secs).toArray.size) hh a s.heap.objs.size gi C fq [I] (Nat.ne_of_gt haC) (fun h => Nat.lt_irrefl _ (Nat.lt_trans haC (hfq a h))) (fun b hb => by rw [List.mem_singleton.mp hb]; exact hIf)
    (fun i v h h' hF hS hk => by
      obtain ⟨gp, t, n, tk, e1, e2, e3, e4⟩ := hF
      refine ⟨gp, t, n, tk, e1, e2, e3, hk _ _ (fun hm => ?_) e4⟩
      simp only [List.mem_cons, List.not_mem_nil, or_false] at hm
      rcases hm with e | e | e
      · obtain ⟨acc, c, hS⟩ := hS
        rw [← e, e4] at hS
        have z : Value.type "tuple" = Value.type "list" := congrArg (fun o : Obj => o.cls) (Option.some.inj hS)
        exact absurd (Value.type.inj z) (by decide)
      · exact Nat.ne_of_gt e3 e
      · exact Nat.ne_of_gt (Nat.lt_trans hCI e3) e) (by simp only [depth_in1]; ktu_offL) hcs (fun e => Nat.ne_of_lt (hfq _ hcs) e) (fun h => hcI (List.mem_singleton.mp h))
  have W := WalkH.of_in1 (A := A.in1.in1) (WalkH.of_in1 (A := A.in1.in1.in1) W4)
  refine list_walk W (fun i s st => let ⟨o, nm, qn, ho, hc, _⟩ := st.1; ⟨o, ho, hc⟩) GA (fun b hb => ?_) (.head _) (fun s' acc' c' hm hS hacc => ?_) ?_
  · exact (List.mem_cons.mp hb).elim (fun h => h ▸ has) fun hb => (List.mem_cons.mp hb).elim (fun h => h ▸ Nat.lt_trans haC has) fun hb => Nat.lt_trans (hfq b hb) (Nat.lt_trans haC has)
  · obtain ⟨hp, gs, dr, tk, os⟩ := s'
    obtain ⟨m1, m2, m3, m4, m5⟩ := hm
    dsimp only at m1 m2 m3 m4 m5 hS hacc ⊢
    subst m3 m4
    obtain ⟨z1, z2⟩ := hacc
    obtain ⟨ts, hl, hts⟩ := choose_list acc'.toList (fun j v (x : Tup) => v = .ref x.t ∧ hp.get? x.t = some (x.obj wd hg).2 ∧ C < x.t ∧ ∃ i, (passing (fitPz secs wd hg) (refs secs).toArray.size 0)[j]? = some i ∧ secs[i]? = some x.g) (fun j v hj => by
      obtain ⟨i, hi, gp, t, n, tk', e1, e2, e3, e4⟩ := z2 j v (by simpa using hj)
      exact ⟨⟨t, gp, tk', n⟩, e2, e4, e3, i, hi, e1⟩)
    have hacc : acc' = (ts.map fun x : Tup => Value.ref x.t).toArray := by
      apply Array.ext'
      apply List.ext_getElem?
      intro j
      rw [List.getElem?_map]
      by_cases hj : j < acc'.toList.length
      · have h1 : acc'.toList[j]? = some acc'.toList[j] := List.getElem?_eq_getElem hj
        have h2 : ts[j]? = some (ts[j]'(by ktu_offL)) := List.getElem?_eq_getElem (by ktu_offL)
        rw [h1, h2, (hts j _ _ h1 h2).1]
        rfl
      · rw [List.getElem?_eq_none (by ktu_offL), List.getElem?_eq_none (by ktu_offL)]
        rfl
    have at_ : ∀ (j : Nat) (x : Tup), ts[j]? = some x → ∃ v, acc'.toList[j]? = some v := fun j x hx => by
      have := (List.getElem?_eq_some_iff.mp hx).1
      exact ⟨_, List.getElem?_eq_getElem (by ktu_offL)⟩
    refine hQ hp _ gs ts c' m2 (fun b o hb1 hb2 e => m1 b o (fun hm => ?_) (Heap.get?_push_of_some _ e)) (by rw [← hacc]; exact hS) (fun x hx => ?_) (fun q hq hf => ?_) ?_
    · simp only [List.mem_cons, List.not_mem_nil, or_false] at hm
      rcases hm with e' | e' | e'
      · rw [e'] at e; exact Nat.lt_irrefl _ (Heap.lt_size e)
      · exact hb1 e'
      · exact hb2 e'
    · obtain ⟨j, hj⟩ := List.mem_iff_getElem?.mp hx
      obtain ⟨v, hv⟩ := at_ j x hj
      obtain ⟨_, e2, e3, i, hi, e4⟩ := hts j v x hv hj
      have hpass := (mem_passing.mp (List.mem_of_getElem? hi)).2
      refine ⟨e2, e3, List.mem_of_getElem? e4, ?_⟩
      simp only [fitPz, e4] at hpass
      exact of_decide_eq_true hpass
    · obtain ⟨i, hi⟩ := List.mem_iff_getElem?.mp hq
      have hin : i ∈ passing (fitPz secs wd hg) (refs secs).toArray.size 0 := mem_passing.mpr ⟨by have := (List.getElem?_eq_some_iff.mp hi).1; simp [refs]; exact this, by simp only [fitPz, hi]; exact decide_eq_true hf⟩
      obtain ⟨j, hj⟩ := List.mem_iff_getElem?.mp hin
      have hjl := (List.getElem?_eq_some_iff.mp hj).1
      have hsz' : acc'.toList.length = (passing (fitPz secs wd hg) (refs secs).toArray.size 0).length := by simpa using z1
      have hx : ts[j]? = some (ts[j]'(by ktu_offL)) := List.getElem?_eq_getElem (by ktu_offL)
      obtain ⟨v, hv⟩ := at_ j _ hx
      obtain ⟨_, _, _, i', hi', e4⟩ := hts j v _ hv hx
      rw [hj] at hi'
      cases hi'
      rw [hi] at e4
      exact ⟨_, List.mem_of_getElem? hx, (Option.some.inj e4).symm⟩
    · have hsz' : acc'.toList.length = (passing (fitPz secs wd hg) (refs secs).toArray.size 0).length := by simpa using z1
      rw [hl, hsz']
      refine Nat.le_trans (List.length_filter_le _ _) ?_
      simp [refs]
  · have hsz' : (passing (fitPz secs wd hg) (refs secs).toArray.size 0).length ≤ secs.length := by
      refine Nat.le_trans (List.length_filter_le _ _) ?_
      simp [refs]
    ktu_offL
end
end Mine

namespace Mine
section
noncomputable abbrev lamParams : Arguments := { posonlyargs := [], args := [{ arg := Str.ofString "one", annotation := none, pos := ⟨204, 46, 204, 49⟩ }], vararg := none, kwonlyargs := [], kw_defaults := [], kwarg := none, defaults := [] }
noncomputable abbrev lamBody : Expr := Expr.Subscript (Expr.Name (Str.ofString "one") ⟨204, 51, 204, 54⟩) (Expr.Constant (Const.int 0) 0 ⟨204, 55, 204, 56⟩) ⟨204, 51, 204, 57⟩
noncomputable abbrev lamScope : Scope := { kind := .function, names := [(Str.ofString "one", .local)], isGenerator := false, isCoroutine := false }
theorem lam_turn {w : World} {A : Around} {s : Shared} {E : Value → Shared → Prop} {g : Heap} {L q c t : Addr} {m : Str → Option Value} {need : List (Addr × Obj)} {pm ctv x1 x2 : Value} {v : Int} {tk0 : Tok} {n : Nat} (hroom : A.depth < recursionLimit) (F : Fr g L s.heap m) (N : News g L s.heap need)
    (hq : (q, kla_obj "<lambda>" lamQual lamParams lamBody lamScope [] pm c ctv) ∈ need) (hcd : s.heap.CodeRec (.ref c) lamQual) (hl : s.heap.NoLimit) (ht : (t, seqObj "tuple" #[.int v tk0, x1, x2] n) ∈ need) :
    wpAny (model PR w) A (call (.ref q) [.ref t]) (KskEnd g L m need v s) E s := by
  refine wpAny_call (kla_callFunE hroom (N _ hq).1 rfl rfl rfl rfl hcd ?_)
  refine wpAny_of_eq (rfl : bindArgs _ _ = pure [(Str.ofString "one", .ref t)]) ?_
  refine wpAny_newFunctionEnv (show ∀ x ∈ lamScope.names, x.2 ≠ .cell by decide) (locs rfl) (fun h₁ hns hsb => ⟨hl.fresh _ hsb, ?_⟩) rfl
  have hk : ∀ b o, s.heap.get? b = some o → h₁.get? b = some o := fun b o e => hsb.extBut b o (Nat.ne_of_lt (Heap.lt_size e)) (Heap.get?_push_of_some _ e)
  refine kla_codeExpr ?_
  refine Subscript_Constant ?_ (by intro _ _; rfl)
  refine wpAny_Name (wpAny_loadName_local rfl rfl hns rfl ?_) (by decide)
  walk1
  refine ⟨"tuple", _, slot_tuple_getitem.lookup, ⟨_, hk _ _ (N _ ht).1, rfl⟩, getItem_tuple ⟨_, hk _ _ (N _ ht).1, rfl, n, rfl⟩ (by decide) (by decide) (j := 0) rfl rfl ?_⟩
  exact ⟨h₁, _, tk0, rfl, rfl, ⟨F.ns.keeps hk, fun b o e => hk _ _ (F.keep b o e), F.above⟩, N.grown hk⟩
end
end Mine

namespace Mine
open PyProof.Rows.TI (Frs SameUp gone)
theorem fq_keep {g h h' : Heap} {its : List (Addr × Obj)} (N : ∀ q ∈ its, h.get? q.1 = some q.2) (N' : ∀ q ∈ its, h'.get? q.1 = some q.2) (K : ∀ b o, g.get? b = some o → h.get? b = some o) (K' : ∀ b o, g.get? b = some o → h'.get? b = some o) {b : Addr} {o : Obj}
    (hb : (∃ o, g.get? b = some o) ∨ b ∈ its.map (·.1)) (e : h.get? b = some o) : h'.get? b = some o := by
  rcases hb with ⟨o', e'⟩ | hb
  · rw [K _ _ e'] at e
    rw [K' _ _ e']; exact e
  · obtain ⟨q, hq, rfl⟩ := List.mem_map.mp hb
    rw [N q hq] at e
    rw [N' q hq]; exact e
theorem ne_cls {h : Heap} {a b : Addr} {o o' : Obj} (ha : h.get? a = some o) (hb : h.get? b = some o') (hne : o.cls ≠ o'.cls) : a ≠ b := fun e => by
  subst e
  rw [ha] at hb
  exact hne (by rw [Option.some.inj hb])
theorem not_frame {h : Heap} {l : List Env} {frs : List (Addr × Obj)} (Fs : Frs l frs) (hf : ∀ q ∈ frs, h.get? q.1 = some q.2) {a : Addr} {o : Obj} (ha : h.get? a = some o) (hd : ∀ es ep, o.data ≠ .dict es ep) : a ∉ frs.map (·.1) := fun hm => by
  obtain ⟨q, hq, rfl⟩ := List.mem_map.mp hm
  obtain ⟨es, ep, e⟩ := Fs.dict q hq
  rw [hf q hq] at ha
  cases ha
  exact hd es ep e
theorem sel_fin {s : Shared} {G₀ g h' : Heap} {L : Addr} {m : Str → Option Value} {P : Params} {W dW lr sf ls : Addr} {k : Nat → Tok} {tw th : Tok} {n tk : Nat} {secs : List Gp} {ps ps' : Array Value} {cs cs' frs frs' : List (Addr × Obj)} {gs : Array GenState} {led : List (Addr × Obj)} {Post : Value → Heap → Prop} {v : Value}
    (hgg : g = hideAll s.heap (([(W, instObj 480 dW), (dW, dictOf (wEs P k tw th lr sf ls) 8), (ls, PySem.W.listOf (refs secs).toArray n)] ++ tl ps cs frs).map (·.1)))
    (hC : Has G₀ s.heap ([(W, instObj 480 dW), (dW, dictOf (wEs P k tw th lr sf ls) 8), (ls, PySem.W.listOf (refs secs).toArray n)] ++ tl ps cs frs)) (F : Fr g L h' m) (N : News g L h' led)
    (hw : ∀ q ∈ [(W, instObj 480 dW), (dW, dictOf (wEs P k tw th lr sf ls) 8), (ls, PySem.W.listOf (refs secs).toArray n)], q ∈ led) (ht : ∀ q ∈ tl ps' cs' frs', q ∈ led)
    (hA : AllBare gs) (X : TabOK ps' cs') (SU : SameUp frs frs') (hsub : ∀ q ∈ cs, q ∈ cs') (hnew : ∀ q ∈ cs', q ∈ cs ∨ s.heap.get? q.1 = none) (hp : Post v h') :
    OutII s [] cs frs Post v { s with heap := h', toks := tk, gens := gs } := by
  refine ⟨h', tk, gs, ps', cs', frs', rfl, hA, X, SU, fun q hq => (N q (ht q hq)).1, hnew, hsub, fun b o hb e => ?_, hp⟩
  by_cases hm : b ∈ ([(W, instObj 480 dW), (dW, dictOf (wEs P k tw th lr sf ls) 8), (ls, PySem.W.listOf (refs secs).toArray n)] ++ tl ps cs frs).map (·.1)
  · obtain ⟨q, hq, rfl⟩ := List.mem_map.mp hm
    rw [(hC q hq).1] at e
    cases e
    rcases List.mem_append.mp hq with hq | hq
    · exact (N q (hw q hq)).1
    · rcases List.mem_cons.mp hq with rfl | hq
      · exact absurd (.head _) hb
      · rcases List.mem_append.mp hq with hq | hq
        · exact (N q (ht q (.tail _ (List.mem_append_left _ (hsub q hq))))).1
        · exact absurd (.tail _ (List.mem_map_of_mem hq)) hb
  · exact F.keep b o (by rw [hgg]; exact hideAll_get _ e hm)
section
variable {w : World} {mean : ExcName → Option Value} {mg mb : Str → Option Value} {loose : List Str} {G₀ : Heap}
noncomputable def SelPost (secs : List Gp) (wd hg : Int) (h : Heap) (v : Value) (h' : Heap) : Prop :=
  ∃ t, v = .ref t ∧ @LE.le Nat _ h.objs.size t ∧
    ((∃ g n, g ∈ secs ∧ h'.get? t = some (seqObj "tuple" #[.ref g.a, .bool false] n) ∧ Fits wd hg g ∧ ∀ q ∈ secs, Fits wd hg q → g.r.w * g.r.h ≤ q.r.w * q.r.h) ∨
      (∃ n, h'.get? t = some (seqObj "tuple" #[.none, .none] n) ∧ ∀ q ∈ secs, ¬ Fits wd hg q))

theorem select_c (G : Gnd w mean mg mb loose G₀) (CH : CodeHd G₀ 364 360) (W dW lr sf ls : Addr) (k : Nat → Tok) (tw th : Tok) (n : Nat) (secs : List Gp) (wd hg : Int) (t1 t2 : Tok)
    (hm1 : ∀ q ∈ secs, IntMulOk q.r.w q.r.h) (hm2 : IntMulOk wd hg) (hsz : secs.length < sizeLine)
    (hne : ∀ q ∈ secs, ∀ o ∈ q.objs w.params, o.1 ∉ [W, dW, ls]) :
    CII w G₀ 60 600 365 [.ref W, .int wd t1, .int hg t2] ([(W, instObj 480 dW), (dW, dictOf (wEs w.params k tw th lr sf ls) 8), (ls, listOf (refs secs).toArray n)] ++ secs.flatMap (Gp.objs w.params)) [] (SelPost secs wd hg) := by
  have zS0 : Mine.Stop "eval GeneratorExp" := ⟨trivial⟩
  have zS1 : Mine.Stop "call builtin:min" := ⟨trivial⟩
  have zS2 : Mine.Stop "exec Try" := ⟨trivial⟩
  have zS3 : Mine.Stop "eval Lambda" := ⟨trivial⟩
  intro dp l gd un s E ps cs frs hd hu hG hC X Fs hoff hA
  have hC3 : Has G₀ s.heap ([(W, instObj 480 dW), (dW, dictOf (wEs w.params k tw th lr sf ls) 8), (ls, listOf (refs secs).toArray n)] ++ tl ps cs frs) := fun q hq => hC q (by
    rcases List.mem_append.mp hq with h | h
    · exact List.mem_append_left _ (List.mem_append_left _ h)
    · exact List.mem_append_right _ h)
  have hCg : ∀ q ∈ secs, ∀ o ∈ q.objs w.params, s.heap.get? o.1 = some o.2 ∧ G₀.get? o.1 = none := fun q hq o ho => hC o (List.mem_append_left _ (List.mem_append_right _ (List.mem_flatMap.mpr ⟨q, hq, ho⟩)))
  have GT := G
  obtain ⟨KX, T⟩ := G
  refine wpAny_call (code_startC KX T hG hC3 (by k_is) (by k_is) (by k_room) (BindsTo.of_eq rfl) rfl (by decide) ?_ rfl rfl rfl)
  intro g L' h₁ tk cells hgg F N CA X' T' hlt hL
  have hGg : G₀.StaysIn g := by
    rw [hgg]
    exact stays_hideAll hG fun b hb => by obtain ⟨q, hq, rfl⟩ := List.mem_map.mp hb; exact (hC3 q hq).2
  have hgap : ∀ q ∈ secs, ∀ o ∈ q.objs w.params, g.get? o.1 = some o.2 ∧ G₀.get? o.1 = none := fun q hq o ho => by
    refine ⟨?_, (hCg q hq o ho).2⟩
    rw [hgg]
    refine hideAll_get _ (hCg q hq o ho).1 fun hm => ?_
    rw [List.map_append] at hm
    rcases List.mem_append.mp hm with hm | hm
    · exact hne q hq o ho hm
    · obtain ⟨p, hp, e⟩ := List.mem_map.mp hm
      exact hoff o (List.mem_append_right _ (List.mem_flatMap.mpr ⟨q, hq, ho⟩)) p hp e.symm
  obtain ⟨o1, o2, o3, hE, c1, c2, c3⟩ := CellsAre.three (n₁ := "h") (n₂ := "w") (n₃ := "self") (c₁ := L' + 1 + 1 + 1) (c₂ := L' + 1 + 1) (c₃ := L' + 1) CA
  have F : Fr g L' h₁ (fun _ => none) := F
  rw [hE] at N
  clear CA
  dsimp only [List.cons_append, List.nil_append] at N
  have hltT : ∀ p ∈ tl ps cs frs, @LT.lt Nat _ p.1 L' := fun p hp => hlt p (List.mem_append_right _ hp)
  have hlt' : ∀ q ∈ [(W, instObj 480 dW), (dW, dictOf (wEs w.params k tw th lr sf ls) 8), (ls, listOf (refs secs).toArray n)], q.1 < L' := fun q hq => hlt q (List.mem_append_left _ hq)
  have hCT : Has G₀ s.heap (tl ps cs frs) := fun q hq => hC3 q (List.mem_append_right _ hq)
  have hC3' := hC3
  clear KX T hC hC3 hlt
  k_lt hlt'
  have d1 : _ = Data.cell (some (.int hg t2)) := c1
  have d2 : _ = Data.cell (some (.int wd t1)) := c2
  have d3 : _ = Data.cell (some (.ref W)) := c3
  clear c1 c2 c3
  (with_reducible show wpAny _ _ _ _ _ _)
  k_fold
  k_steps
  refine Halt.mk ?_
  have h360 : ∀ q ∈ selLits w.params L' W dW lr sf ls k tw th n secs o1 o2 o3, q.1 ≠ 360 := by
    have h3 : @LT.lt Nat _ 360 L' := hltT _ (.head _)
    have h4 := Nat.lt_succ_of_lt h3
    have h5 := Nat.lt_succ_of_lt h4
    have h6 := Nat.lt_succ_of_lt h5
    exact List.forall_mem_cons.mpr ⟨Nat.ne_of_gt h6, List.forall_mem_cons.mpr ⟨Nat.ne_of_gt h5, List.forall_mem_cons.mpr ⟨Nat.ne_of_gt h4, fun q hq => hoff q (List.mem_append_left _ hq) _ (.head _)⟩⟩⟩
  have hf360 : ∀ q ∈ frs, q.1 ≠ 360 := fun q hq e => by
    obtain ⟨es, ep, hd⟩ := Fs.dict q hq
    have z := (hCT q (.tail _ (List.mem_append_right _ hq))).1
    have z' := (hCT _ (.head _)).1
    rw [e, z'] at z
    rw [← Option.some.inj z] at hd
    cases hd
  refine fitn_eval GT CH F N d1 d2 d3 hm1 hm2 hd hu hGg X' T' X hgap h360 hf360 (by intro _; rfl) (fun a C I oa oC oI h₂ tk₂ ps₂ gs₂ lI lC la F₂ N₂ X₂ b₂ GA => ?_)
  simp only [selLits, List.cons_append, List.nil_append] at N₂
  have Z₂ : Fr g L' h₂ _ ∧ News g L' h₂ _ := ⟨F₂, N₂⟩
  have ub : ∀ {b : Addr}, @LE.le Nat _ s.heap.objs.size b → b ≠ 360 := fun h => Nat.ne_of_gt (Nat.lt_of_lt_of_le (Heap.lt_size (hCT _ (.head _)).1) h)
  have hLh : @LT.lt Nat _ L' h₁.objs.size := F.ns.lt
  have c1' := (N (L' + 1 + 1 + 1, o1) (.head _)).1
  have c2' := (N (L' + 1 + 1, o2) (.tail _ (.head _))).1
  have c3' := (N (L' + 1, o3) (.tail _ (.tail _ (.head _)))).1
  clear N F
  k_steps
  refine Halt.mk ?_
  (with_reducible rename News _ _ _ _ => N₃)
  (with_reducible rename Fr _ _ _ _ => F₃)
  refine fitr_eval CH F₃ N₃ d3 rfl hd hGg X' T' X₂ ?_ hf360 (by intro _; rfl) (fun b h₄ tk₄ ps₄ gs₄ F₄ N₄ X₄ b₄ => ?_)
  · intro q hq
    have lI' : @LE.le Nat _ s.heap.objs.size I := Nat.le_trans (Nat.le_of_lt (by rw [← hL]; exact hLh)) lI
    exact (List.forall_mem_cons.mpr ⟨ub (Nat.le_of_lt (Nat.lt_of_le_of_lt lI' (Nat.lt_trans lC la))), List.forall_mem_cons.mpr ⟨ub (Nat.le_of_lt (Nat.lt_of_le_of_lt lI' lC)), List.forall_mem_cons.mpr ⟨ub lI', h360⟩⟩⟩ : ∀ q ∈ (a, oa) :: (C, oC) :: (I, oI) :: selLits w.params L' W dW lr sf ls k tw th n secs o1 o2 o3, q.1 ≠ 360) q hq
  have hLI : @LT.lt Nat _ L' I := Nat.lt_of_lt_of_le hLh lI
  simp only [selLits, List.cons_append, List.nil_append] at N₄
  clear N₃ F₃
  k_steps
  (with_reducible rename News _ _ _ _ => N₅)
  (with_reducible rename Fr _ _ _ _ => F₅)
  (with_reducible rename Heap => hc)
  rename_i R hR₀ l1
  have F₅h : Fr g L' hc _ := F₅
  have up : ∀ {b : Addr}, @LT.lt Nat _ L' b → g.get? b = none := fun hb => Heap.get?_none_of_le (Nat.le_trans F₅.above (Nat.le_of_lt hb))
  have its : ∀ q ∈ (a, oa) :: (C, oC) :: (I, oI) :: selLits w.params L' W dW lr sf ls k tw th n secs o1 o2 o3, h₂.get? q.1 = some q.2 ∧ _ := fun q hq => Z₂.2 q (List.mem_append_left (tl ps₂ cs frs) hq)
  have its' : ∀ q ∈ (a, oa) :: (C, oC) :: (I, oI) :: selLits w.params L' W dW lr sf ls k tw th n secs o1 o2 o3, _ ∧ q.1 ≠ L' ∧ g.get? q.1 = none := fun q hq => N₅ q (.tail _ (List.mem_append_left (tl ps₄ cs frs) hq))
  have hcs : ∃ o, g.get? cStatics = some o := let ⟨mc, ⟨o, es, ep, e, _⟩, _⟩ := T'.nolimit; ⟨o, e⟩
  have hIg : g.get? I = none := up hLI
  refine list_fitn (secs := secs) (wd := wd) (hg := hg) (C := C) (I := I) rfl (GenAtH.carry GA ?c1 ?c2 ?c3) ?c4 hsz la lC ?c5 ?c6 ?c7 ?c8 ?c9 (fun h₆ tk₆ gs₆ ts c hgn hk₆ hS hts hall hlen => ?_)
  case c1 =>
    obtain ⟨o, e⟩ := hcs
    exact mem_fqOf.mpr ⟨Nat.lt_of_lt_of_le (Heap.lt_size e) (Nat.le_trans F₅.above (Nat.le_of_lt (Nat.lt_trans hLI lC))), .inl ⟨o, e⟩⟩
  case c2 => simp [Array.getElem?_push]
  case c3 =>
    intro b hb o e
    refine fq_keep (its := (a, oa) :: (C, oC) :: (I, oI) :: selLits w.params L' W dW lr sf ls k tw th n secs o1 o2 o3) (fun q hq => (its q hq).1) (fun q hq => (its' q hq).1) Z₂.1.keep F₅.keep ?_ e
    rcases List.mem_cons.mp hb with h | hb
    · exact .inr (h ▸ .head _)
    · rcases List.mem_cons.mp hb with h | hb
      · exact .inr (h ▸ .tail _ (.head _))
      · rcases (mem_fqOf.mp hb).2 with h | h
        · exact .inl h
        · exact .inr (.tail _ (.tail _ h))
  case c4 => show dp + 1 + 4 < recursionLimit; ktu_offL
  case c5 => exact Heap.lt_size (its' (a, oa) (.head _)).1
  case c6 => exact fun b hb => (mem_fqOf.mp hb).1
  case c7 => exact mem_fqOf.mpr ⟨lC, .inr (.head _)⟩
  case c8 =>
    obtain ⟨o, e⟩ := hcs
    exact mem_fqOf.mpr ⟨Nat.lt_of_lt_of_le (Heap.lt_size e) (Nat.le_trans F₅.above (Nat.le_of_lt (Nat.lt_trans hLI lC))), .inl ⟨o, e⟩⟩
  case c9 =>
    obtain ⟨o, e⟩ := hcs
    intro q
    rw [q, hIg] at e; cases e
  have F₆ : Fr g L' h₆ _ := ⟨F₅.ns.at' fun o e => hk₆ _ o (Nat.ne_of_lt (Nat.lt_trans hLI lC)) (Nat.ne_of_lt hLI) e, fun b o e => hk₆ b o (Nat.ne_of_lt (Nat.lt_of_lt_of_le (Heap.lt_size e) (Nat.le_trans F₅.above (Nat.le_of_lt (Nat.lt_trans hLI lC))))) (Nat.ne_of_lt (Nat.lt_of_lt_of_le (Heap.lt_size e) (Nat.le_trans F₅.above (Nat.le_of_lt hLI)))) (F₅.keep b o e), F₅.above⟩
  have tlC : ∀ q ∈ tl ps₄ cs frs, q.1 ≠ C ∧ q.1 ≠ I := fun q hq => by
    have hq' : @LT.lt Nat _ q.1 L' := by
      rcases List.mem_cons.mp hq with rfl | hq
      · exact hltT (360, tabObj ps) (.head _)
      · exact hltT q (.tail _ hq)
    exact ⟨Nat.ne_of_lt (Nat.lt_trans hq' (Nat.lt_trans hLI lC)), Nat.ne_of_lt (Nat.lt_trans hq' hLI)⟩
  have litC : ∀ q ∈ selLits w.params L' W dW lr sf ls k tw th n secs o1 o2 o3, q.1 ≠ C ∧ q.1 ≠ I := by
    have hI : ∀ {b : Nat}, b < I → b ≠ C ∧ b ≠ I := fun h => ⟨Nat.ne_of_lt (Nat.lt_trans h lC), Nat.ne_of_lt h⟩
    exact List.forall_mem_cons.mpr ⟨hI (Nat.lt_of_lt_of_le (Heap.lt_size (h := h₁) c1') lI), List.forall_mem_cons.mpr ⟨hI (Nat.lt_of_lt_of_le (Heap.lt_size (h := h₁) c2') lI), List.forall_mem_cons.mpr ⟨hI (Nat.lt_of_lt_of_le (Heap.lt_size (h := h₁) c3') lI),
      List.forall_mem_cons.mpr ⟨hI (Nat.lt_trans hlt'.1 hLI), List.forall_mem_cons.mpr ⟨hI (Nat.lt_trans hlt'.2.1 hLI), List.forall_mem_cons.mpr ⟨hI (Nat.lt_trans hlt'.2.2 hLI), List.forall_mem_nil _⟩⟩⟩⟩⟩⟩
  have N₆ : News g L' h₆ ((hc.objs.size, seqObj "list" (ts.map fun x : Tup => Value.ref x.t).toArray c) :: (R, listOf #[] 0) :: (selLits w.params L' W dW lr sf ls k tw th n secs o1 o2 o3 ++ (ts.map (Tup.obj wd hg) ++ tl ps₄ cs frs))) := by
    refine News.cons ⟨hS, Nat.ne_of_gt F₅h.ns.lt, up F₅h.ns.lt⟩ (News.cons ⟨hk₆ _ _ (Nat.ne_of_gt l1.2.1) (Nat.ne_of_gt l1.2.2.1) (N₅ _ (.head _)).1, (N₅ (R, _) (.head _)).2⟩ fun q hq => ?_)
    rcases List.mem_append.mp hq with hq | hq
    · have z := its' q (.tail _ (.tail _ (.tail _ hq)))
      exact ⟨hk₆ _ _ (litC q hq).1 (litC q hq).2 z.1, z.2⟩
    · rcases List.mem_append.mp hq with hq | hq
      · obtain ⟨x, hx, rfl⟩ := List.mem_map.mp hq
        obtain ⟨z1, z2, _⟩ := hts x hx
        have : @LT.lt Nat _ L' x.t := Nat.lt_trans (Nat.lt_trans hLI lC) z2
        exact ⟨z1, Nat.ne_of_gt this, up this⟩
      · have z := N₅ q (.tail _ (List.mem_append_right ((a, oa) :: (C, oC) :: (I, oI) :: selLits w.params L' W dW lr sf ls k tw th n secs o1 o2 o3) hq))
        exact ⟨hk₆ _ _ (tlC q hq).1 (tlC q hq).2 z.1, z.2⟩
  simp only [selLits, List.cons_append, List.nil_append] at N₆
  have hA₆ : AllBare gs₆ := ((hA.push b₂).push b₄).moved hgn
  clear N₅ F₅ F₅h GA hS
  k_steps
  clear hk₆ its its'
  refine Halt.mk ?_
  refine wpAny_Try_except ?_
  k_steps
  refine Halt.mk ?_
  (with_reducible rename News _ _ _ _ => N₇)
  (with_reducible rename Fr _ _ _ _ => F₇)
  (with_reducible rename Heap => h₇)
  have tl₇ : ∀ q ∈ tl ps₄ cs frs, h₇.get? q.1 = some q.2 ∧ q.1 ≠ L' ∧ g.get? q.1 = none := fun q hq => N₇ q (.tail _ (.tail _ (.tail _ (.tail _ (.tail _ (.tail _ (.tail _ (.tail _ (.tail _ (.tail _ (List.mem_append_right _ hq)))))))))))
  have P₇ := tl₇ (360, tabObj ps₄) (.head _)
  have s2 := N₇ _ (.head _)
  have w3 : ∀ q ∈ [(W, instObj 480 dW), (dW, dictOf (wEs w.params k tw th lr sf ls) 8), (ls, listOf (refs secs).toArray n)], h₇.get? q.1 = some q.2 ∧ q.1 ≠ L' ∧ g.get? q.1 = none := fun q hq => N₇ q (subm hq (by walk_at "sub"))
  have tp₇ : ∀ x ∈ ts, h₇.get? x.t = some (x.obj wd hg).2 ∧ x.t ≠ L' ∧ g.get? x.t = none := fun x hx => N₇ (x.obj wd hg) (.tail _ (.tail _ (.tail _ (.tail _ (.tail _ (.tail _ (.tail _ (.tail _ (.tail _ (.tail _ (List.mem_append_left _ (List.mem_map_of_mem hx))))))))))))
  have s2ne := ne_cls s2.1 P₇.1 (by intro e; cases e)
  obtain ⟨bm, ob, b1, b2, b3, b4, b5, b6⟩ := T'.bmain
  have hgP : mainGlobals ≠ 360 := fun q => by
    obtain ⟨o, es, ep, e, hd, _⟩ := T'.g
    rw [q, P₇.2.2] at e; cases e
  have hbP : bm ≠ 360 := fun q => by
    rw [q, P₇.2.2] at b3; cases b3
  have hbG : bm ≠ mainGlobals := fun q => by
    obtain ⟨o, es, ep, e, hd, _⟩ := T'.g
    rw [q, e] at b3; cases b3; rw [hd] at b6; cases b6
  refine lam_tab (mg := mg) (ps := ps₄) (cs := cs) rfl (CH.keeps fun b o e => F₇.keep b o (hGg b o e)) P₇.1 X₄ (fun q hq => (tl₇ q (.tail _ (List.mem_append_left _ hq))).1) rfl rfl (T'.g.keeps F₇.keep) ⟨bm, ob, b1, b2, hbG, hbP, F₇.keep _ _ b3, b4, b5, b6⟩ hgP rfl rfl (fun f c' ctv h₈ tk₈ ps₅ cs₅ hx hP₅ X₅ hcs₅ hf hfun hc₅ hsub₅ => ?_)
  have hL7 : @LT.lt Nat _ L' h₇.objs.size := F₇.ns.lt
  have F₈ : Fr g L' h₈ _ := ⟨F₇.ns.at' fun o e => hx _ o P₇.2.1.symm e, fun b o e => hx b o (get_ne e P₇.2.2) (F₇.keep b o e), F₇.above⟩
  have N₈ := News.cons (q := (f, _)) ⟨hfun, Nat.ne_of_gt (Nat.lt_of_lt_of_le hL7 hf), up (Nat.lt_of_lt_of_le hL7 hf)⟩ (News.cons ⟨hx _ _ s2ne s2.1, s2.2⟩ (l := [(W, instObj 480 dW), (dW, dictOf (wEs w.params k tw th lr sf ls) 8), (ls, listOf (refs secs).toArray n)] ++ (ts.map (Tup.obj wd hg) ++ tl ps₅ cs₅ frs)) fun q hq => by
    rcases List.mem_append.mp hq with hq | hq
    · have z := w3 q hq
      refine ⟨hx _ _ ?_ z.1, z.2⟩
      exact h360 q (.tail _ (.tail _ (.tail _ hq)))
    · rcases List.mem_append.mp hq with hq | hq
      · obtain ⟨x, hx', rfl⟩ := List.mem_map.mp hq
        have z := tp₇ x hx'
        exact ⟨hx _ _ (ne_cls z.1 P₇.1 (by intro e; cases e)) z.1, z.2⟩
      · rcases List.mem_cons.mp hq with rfl | hq
        · exact ⟨hP₅, P₇.2⟩
        · rcases List.mem_append.mp hq with hq | hq
          · obtain ⟨z1, z2⟩ := hcs₅ q hq
            rcases z2 with z2 | z2
            · exact ⟨z1, (tl₇ q (.tail _ (List.mem_append_left _ z2))).2⟩
            · exact ⟨z1, Nat.ne_of_gt (Nat.lt_of_lt_of_le hL7 z2), up (Nat.lt_of_lt_of_le hL7 z2)⟩
          · have z := tl₇ q (.tail _ (List.mem_append_right _ hq))
            exact ⟨hx _ _ (hf360 q hq) z.1, z.2⟩)
  dsimp only [List.cons_append, List.nil_append] at N₈
  clear N₇ F₇ s2 w3 tp₇ hfun
  k_steps
  refine Halt.mk ?_
  have fr₈ : ∀ q ∈ frs, h₈.get? q.1 = some q.2 := fun q hq => (N₈ q (.tail _ (.tail _ (.tail _ (.tail _ (.tail _ (List.mem_append_right _ (.tail _ (List.mem_append_right _ hq))))))))).1
  have S2h := N₈ _ (.tail _ (.head _))
  have fh := N₈ _ (.head _)
  have hsize : @LE.le Nat _ s.heap.objs.size h₇.objs.size := Nat.le_of_lt (by rw [← hL]; exact hL7)
  have hcs₅' : ∀ q ∈ cs₅, q ∈ cs ∨ s.heap.get? q.1 = none := fun q hq => (hcs₅ q hq).2.imp (fun h => h) fun h => Heap.get?_none_of_le (Nat.le_trans hsize h)
  cases hts' : ts with
  | nil =>
    rw [hts'] at N₈ S2h
    refine min_none rfl ⟨_, S2h.1, rfl, _, rfl⟩ (fun h₉ tk₉ e hx₉ => ?_)
    refine noted_X (l := l) (frs := frs) (new := _ :: _ :: (W, instObj 480 dW) :: (dW, dictOf (wEs w.params k tw th lr sf ls) 8) :: (ls, PySem.W.listOf (refs secs).toArray n) :: (360, tabObj ps₅) :: cs₅) rfl Fs hx₉ F₈ N₈ ?hap (fun h₁₀ frs₁₀ SU Fs₁₀ H => ?_) rfl
    case hap =>
      have offw : ∀ q ∈ [(W, instObj 480 dW), (dW, dictOf (wEs w.params k tw th lr sf ls) 8), (ls, PySem.W.listOf (refs secs).toArray n)], q.1 ∉ frs.map (·.1) := fun q hq hm => by
        obtain ⟨r, hr, e⟩ := List.mem_map.mp hm
        exact hoff q (List.mem_append_left _ hq) r (.tail _ (List.mem_append_right _ hr)) e.symm
      have ap : ∀ {p : Addr × Obj}, _ → p.1 ∉ frs.map (·.1) → p.1 ∉ L' :: frs.map (·.1) := fun {p} hp k hm => (List.mem_cons.mp hm).elim (N₈ p hp).2.1 k
      exact List.forall_mem_cons.mpr ⟨ap (.head _) (not_frame Fs fr₈ (N₈ _ (.head _)).1 (by intro _ _ e; cases e)), List.forall_mem_cons.mpr ⟨ap (.tail _ (.head _)) (not_frame Fs fr₈ (N₈ _ (.tail _ (.head _))).1 (by intro _ _ e; cases e)), List.forall_mem_cons.mpr ⟨ap (.tail _ (.tail _ (.head _))) (offw _ (.head _)), List.forall_mem_cons.mpr ⟨ap (.tail _ (.tail _ (.tail _ (.head _)))) (offw _ (.tail _ (.head _))), List.forall_mem_cons.mpr ⟨ap (.tail _ (.tail _ (.tail _ (.tail _ (.head _))))) (offw _ (.tail _ (.tail _ (.head _)))), List.forall_mem_cons.mpr ⟨ap (.tail _ (.tail _ (.tail _ (.tail _ (.tail _ (.head _)))))) (not_frame Fs fr₈ (N₈ _ (.tail _ (.tail _ (.tail _ (.tail _ (.tail _ (.head _))))))).1 (by intro _ _ e; cases e)), fun p hp => ap (.tail _ (.tail _ (.tail _ (.tail _ (.tail _ (.tail _ (List.mem_append_left _ hp))))))) (not_frame Fs fr₈ (N₈ p (.tail _ (.tail _ (.tail _ (.tail _ (.tail _ (.tail _ (List.mem_append_left _ hp)))))))).1 (by obtain ⟨_, vs, hv⟩ := X₅.2.1 p hp; intro _ _ e; rw [hv] at e; cases e))⟩⟩⟩⟩⟩⟩
    refine H.land (fun h₁₁ H₁₁ => ?_)
    refine clause_X H₁₁ (fun Q' hQ' => ?_) (fun h₁₂ F₁₂ N₁₂ => ?_) (by passes_own)
    · have F₁₁ := H₁₁.held.fr
      clear F₈ N₈
      k_steps
      exact hQ'
    · clear F₈ N₈
      k_steps
      (with_reducible rename News _ _ _ _ => N₁₃)
      (with_reducible rename Fr _ _ _ _ => F₁₃)
      rename_i D₁₃ hh₁₃ l₁₃
      refine sel_fin (ps' := ps₅) (cs' := cs₅) (frs' := frs₁₀) hgg hC3' F₁₃ N₁₃ (fun q hq => ?_) (fun q hq => ?_) hA₆ X₅ SU hsub₅ hcs₅' ⟨D₁₃, rfl, hL ▸ Nat.le_of_lt ?_, .inr ⟨_, (N₁₃ _ (.head _)).1, fun q hq hf => ?_⟩⟩
      · exact subm hq (by walk_at "sub")
      · exact subm hq (by walk_at "sub")
      · exact Nat.lt_trans (Nat.lt_of_lt_of_le hL7 hf) (l₁₃ _ (.head _))
      · obtain ⟨x, hx, _⟩ := hall q hq hf
        rw [hts'] at hx
        cases hx
  | cons x0 xs =>
    have item : ∀ (i : Nat) (v : Value), (ts.map (fun x : Tup => Value.ref x.t) ++ [])[i]? = some v → ∃ x, ts[i]? = some x ∧ v = .ref x.t := fun i v hv => by
      rw [List.append_nil, List.getElem?_map] at hv
      cases e : ts[i]? with
      | none => rw [e] at hv; cases hv
      | some x => rw [e] at hv; exact ⟨x, rfl, (Option.some.inj hv).symm⟩
    refine kmk_min (vs := ts.map (fun x : Tup => Value.ref x.t) ++ []) (fun i => match ts[i]? with | some x => x.g.r.w * x.g.r.h - wd * hg | none => 0) rfl F₈ N₈ (fun h _ N => ⟨_, (N _ (.tail _ (.head _))).1, rfl, _, rfl⟩) (by rw [hts']; simp) (fun i v hv h tk own F N => ?_) (fun i v h₉ tk₉ hv hmin F₉ N₉ => ?_)
    · obtain ⟨x, hx, rfl⟩ := item i v hv
      obtain ⟨oc, vs, t, hm, hd', hv'⟩ := hc₅
      rw [hx]
      refine lam_turn (pm := _) (ctv := ctv) (c := c') (n := x.n) (tk0 := x.k) (x1 := .ref x.g.a) (x2 := .bool false) (by show dp + 1 < recursionLimit; ktu_offL) F N (List.mem_append_left _ (.head _)) ⟨c', oc, vs, t, rfl, (N (c', oc) (List.mem_append_left _ ?_)).1, hd', hv'⟩ (T'.nolimit.keeps F.keep) (List.mem_append_left _ ?_)
      · simp [hm]
      · have : x.obj wd hg ∈ ts.map (Tup.obj wd hg) := List.mem_map_of_mem (List.mem_of_getElem? hx)
        exact .tail _ (.tail _ (.tail _ (.tail _ (.tail _ (List.mem_append_left _ this)))))
    · obtain ⟨x, hx, rfl⟩ := item i v hv
      have hxt := List.mem_of_getElem? hx
      have xm : x.obj wd hg ∈ ts.map (Tup.obj wd hg) := List.mem_map_of_mem hxt
      have xN := N₉ (x.obj wd hg) (.tail _ (.tail _ (.tail _ (.tail _ (.tail _ (List.mem_append_left _ xm))))))
      have N₁₀ := News.cons (q := (x.t, seqObj "tuple" #[.int (x.g.r.w * x.g.r.h - wd * hg) x.k, .ref x.g.a, .bool false] x.n)) xN N₉
      clear F₈ N₈ N₉ xN
      k_steps
      (with_reducible rename News _ _ _ _ => N₁₃)
      (with_reducible rename Fr _ _ _ _ => F₁₃)
      rename_i D₁₃ hh₁₃ l₁₃
      show OutII s [] cs frs (SelPost secs wd hg s.heap) (.ref D₁₃) _
      refine sel_fin (ps' := ps₅) (cs' := cs₅) (frs' := frs) hgg hC3' F₁₃ N₁₃ (fun q hq => ?_) (fun q hq => ?_) hA₆ X₅ (SameUp.refl _) hsub₅ hcs₅' ⟨D₁₃, rfl, hL ▸ Nat.le_of_lt ?_, .inl ⟨x.g, _, (hts x hxt).2.2.1, (N₁₃ _ (.head _)).1, (hts x hxt).2.2.2, fun q hq hf => ?_⟩⟩
      · exact subm hq (by walk_at "sub")
      · exact .tail _ (.tail _ (.tail _ (.tail _ (.tail _ (.tail _ (.tail _ (List.mem_append_right _ hq)))))))
      · exact Nat.lt_trans (Nat.lt_of_lt_of_le hL7 hf) (by ktu_offL)
      · obtain ⟨y, hy, rfl⟩ := hall q hq hf
        obtain ⟨j, hj⟩ := List.mem_iff_getElem?.mp hy
        have hjl := (List.getElem?_eq_some_iff.mp hj).1
        have := (hmin j (by simpa using hjl)).1
        simp only [hx, hj] at this
        ktu_offL
end
end Mine

namespace Mine
open PyProof.Rows.TI (Frs SameUp gone)
section
variable {w : World} {mean : ExcName → Option Value} {mg mb : Str → Option Value} {loose : List Str} {G₀ : Heap}
theorem store_has {P : Params} {g h : Heap} {L : Addr} {m : Str → Option Value} {conc T : List (Addr × Obj)} {secs : List Gp} (F : Fr g L h m) (N : ∀ q ∈ conc, h.get? q.1 = some q.2 ∧ q.1 ≠ L ∧ g.get? q.1 = none) (hGg : G₀.StaysIn g)
    (hgap : ∀ q ∈ secs, ∀ o ∈ q.objs P, g.get? o.1 = some o.2 ∧ G₀.get? o.1 = none) (hoff : ∀ q ∈ conc ++ secs.flatMap (Gp.objs P), ∀ p ∈ T, q.1 ≠ p.1) :
    Has G₀ h (conc ++ secs.flatMap (Gp.objs P)) ∧ ∀ q ∈ conc ++ secs.flatMap (Gp.objs P), q.1 ≠ L ∧ ∀ p ∈ T, q.1 ≠ p.1 := by
  constructor
  · intro q hq
    rcases List.mem_append.mp hq with hq | hq
    · exact ⟨(N q hq).1, off_base hGg (N q hq).2.2⟩
    · obtain ⟨p, hp, ho⟩ := List.mem_flatMap.mp hq
      exact ⟨F.keep _ _ (hgap p hp q ho).1, (hgap p hp q ho).2⟩
  · intro q hq
    refine ⟨?_, hoff q hq⟩
    rcases List.mem_append.mp hq with hq | hq
    · exact (N q hq).2.1
    · obtain ⟨p, hp, ho⟩ := List.mem_flatMap.mp hq
      exact Nat.ne_of_lt (Nat.lt_of_lt_of_le (Heap.lt_size (hgap p hp q ho).1) F.above)
/-- a gap's own objects are taken out of the base into the ledger -/
theorem rebase {P : Params} {g h : Heap} {L : Addr} {m : Str → Option Value} {led : List (Addr × Obj)} {gp : Gp} (F : Fr g L h m) (N : News g L h led) (hG : G₀.StaysIn g) (hq : ∀ o ∈ gp.objs P, g.get? o.1 = some o.2 ∧ G₀.get? o.1 = none) :
    ∃ g', g' = hideAll g [gp.a, gp.d] ∧ G₀.StaysIn g' ∧ Fr g' L h m ∧ News g' L h ((gp.a, instObj 203 gp.d) :: (gp.d, dictOf (rcEs P gp.r) 5) :: led) := by
  have ha := hq (gp.a, instObj 203 gp.d) (.head _)
  have hd := hq (gp.d, dictOf (rcEs P gp.r) 5) (.tail _ (.head _))
  have lt : ∀ {b : Addr} {o : Obj}, g.get? b = some o → b ≠ L := fun e => Nat.ne_of_lt (Nat.lt_of_lt_of_le (Heap.lt_size e) F.above)
  refine ⟨_, rfl, stays_hideAll hG fun b hb => ?_, ⟨F.ns, fun b o e => F.keep b o (of_hideAll _ e), by rw [hideAll_size]; exact F.above⟩, News.cons ⟨F.keep _ _ ha.1, lt ha.1, hideAll_none _ (.head _)⟩ (News.cons ⟨F.keep _ _ hd.1, lt hd.1, hideAll_none _ (.tail _ (.head _))⟩ fun q hq' => ⟨(N q hq').1, (N q hq').2.1, ?_⟩)⟩
  · simp only [List.mem_cons, List.not_mem_nil, or_false] at hb
    rcases hb with rfl | rfl
    · exact ha.2
    · exact hd.2
  · cases e : (hideAll g [gp.a, gp.d]).get? q.1 with
    | none => rfl
    | some o => have := of_hideAll _ e; rw [(N q hq').2.2] at this; cases this
theorem rebase_back {P : Params} {g g' h : Heap} {L : Addr} {m : Str → Option Value} {gp : Gp} (hg' : g' = hideAll g [gp.a, gp.d]) (hgs : g.objs.size ≤ L) (hq : ∀ o ∈ gp.objs P, g.get? o.1 = some o.2 ∧ G₀.get? o.1 = none) (F : Fr g' L h m) (N : ∀ o ∈ gp.objs P, h.get? o.1 = some o.2) : Fr g L h m := by
  refine ⟨F.ns, fun b o e => ?_, hgs⟩
  by_cases hm : b ∈ [gp.a, gp.d]
  · simp only [List.mem_cons, List.not_mem_nil, or_false] at hm
    rcases hm with rfl | rfl
    · have z := (hq (gp.a, instObj 203 gp.d) (.head _)).1
      rw [e] at z
      rw [N (gp.a, instObj 203 gp.d) (.head _)]; exact z.symm
    · have z := (hq (gp.d, dictOf (rcEs P gp.r) 5) (.tail _ (.head _))).1
      rw [e] at z
      rw [N (gp.d, dictOf (rcEs P gp.r) 5) (.tail _ (.head _))]; exact z.symm
  · exact F.keep b o (by rw [hg']; exact hideAll_get _ e hm)
/-- what fitness tells -/
noncomputable def FnV (secs : List Gp) (wd hg : Int) (v : Value) : Prop :=
  (∃ g t, g ∈ secs ∧ v = .int (g.r.w * g.r.h - wd * hg) t ∧ Fits wd hg g ∧ ∀ q ∈ secs, Fits wd hg q → g.r.w * g.r.h ≤ q.r.w * q.r.h) ∨ (v = .none ∧ ∀ q ∈ secs, ¬ Fits wd hg q)

theorem fitness_c (G : Gnd w mean mg mb loose G₀) (CH : CodeHd G₀ 364 360) (W dW lr sf ls : Addr) (k : Nat → Tok) (tw th : Tok) (n : Nat) (secs : List Gp) (wd hg : Int) (t1 t2 : Tok)
    (hm1 : ∀ q ∈ secs, IntMulOk q.r.w q.r.h) (hm2 : IntMulOk wd hg) (hsz : secs.length < sizeLine) (hw : 0 < wd) (hh : 0 < hg)
    (hne : ∀ q ∈ secs, ∀ o ∈ q.objs w.params, o.1 ∉ [W, dW, ls]) :
    CII w G₀ 70 700 380 [.ref W, .int wd t1, .int hg t2] ([(W, instObj 480 dW), (dW, dictOf (wEs w.params k tw th lr sf ls) 8), (ls, listOf (refs secs).toArray n)] ++ secs.flatMap (Gp.objs w.params)) [] (fun _ v _ => FnV secs wd hg v) := by
  have zS0 : Mine.StopAt 365 := ⟨trivial⟩
  have zS1 : Mine.StopAt 407 := ⟨trivial⟩
  intro dp l gd un s E ps cs frs hd hu hG hC X Fs hoff hA
  have hC3 : Has G₀ s.heap ([(W, instObj 480 dW), (dW, dictOf (wEs w.params k tw th lr sf ls) 8), (ls, listOf (refs secs).toArray n)] ++ tl ps cs frs) := fun q hq => hC q (by
    rcases List.mem_append.mp hq with h | h
    · exact List.mem_append_left _ (List.mem_append_left _ h)
    · exact List.mem_append_right _ h)
  have hCg : ∀ q ∈ secs, ∀ o ∈ q.objs w.params, s.heap.get? o.1 = some o.2 ∧ G₀.get? o.1 = none := fun q hq o ho => hC o (List.mem_append_left _ (List.mem_append_right _ (List.mem_flatMap.mpr ⟨q, hq, ho⟩)))
  have GT := G
  obtain ⟨KX, T⟩ := G
  refine wpAny_call (code_start KX T hG hC3 (by k_is) (by k_is) (by k_room) (BindsTo.of_eq rfl) (locs rfl) ?_ rfl rfl rfl (by decide))
  intro g L' h₁ hgg F N X' T' hlt
  have hGg : G₀.StaysIn g := by
    rw [hgg]
    exact stays_hideAll hG fun b hb => by obtain ⟨q, hq, rfl⟩ := List.mem_map.mp hb; exact (hC3 q hq).2
  have hgap : ∀ q ∈ secs, ∀ o ∈ q.objs w.params, g.get? o.1 = some o.2 ∧ G₀.get? o.1 = none := fun q hq o ho => by
    refine ⟨?_, (hCg q hq o ho).2⟩
    rw [hgg]
    refine hideAll_get _ (hCg q hq o ho).1 fun hm => ?_
    rw [List.map_append] at hm
    rcases List.mem_append.mp hm with hm | hm
    · exact hne q hq o ho hm
    · obtain ⟨p, hp, e⟩ := List.mem_map.mp hm
      exact hoff o (List.mem_append_right _ (List.mem_flatMap.mpr ⟨q, hq, ho⟩)) p hp e.symm
  have hltT : ∀ p ∈ tl ps cs frs, @LT.lt Nat _ p.1 L' := fun p hp => hlt p (List.mem_append_right _ hp)
  have hlt' : ∀ q ∈ [(W, instObj 480 dW), (dW, dictOf (wEs w.params k tw th lr sf ls) 8), (ls, listOf (refs secs).toArray n)], q.1 < L' := fun q hq => hlt q (List.mem_append_left _ hq)
  have hC3' := hC3
  clear KX T hC hC3 hlt
  k_lt hlt'
  dsimp only [List.cons_append, List.nil_append] at N
  dsimp only
  (with_reducible show wpAny _ _ _ _ _ _)
  k_fold
  k_steps
  refine Halt.mk ?_
  (with_reducible rename News _ _ _ _ => N₁)
  (with_reducible rename Fr _ _ _ _ => F₁)
  obtain ⟨SH, SO⟩ := store_has (conc := [(W, instObj 480 dW), (dW, dictOf (wEs w.params k tw th lr sf ls) 8), (ls, listOf (refs secs).toArray n)]) F₁ (fun q hq => N₁ q (List.mem_append_left (tl ps cs frs) hq)) hGg hgap hoff
  have n3 : ∀ q ∈ [(W, instObj 480 dW), (dW, dictOf (wEs w.params k tw th lr sf ls) 8), (ls, listOf (refs secs).toArray n)], ∀ p ∈ tl ps cs frs, q.1 ≠ p.1 := fun q hq => hoff q (List.mem_append_left _ hq)
  refine call_II (select_c GT CH W dW lr sf ls k tw th n secs wd hg t1 t2 hm1 hm2 hsz hne) (lits := [(W, instObj 480 dW), (dW, dictOf (wEs w.params k tw th lr sf ls) 8), (ls, listOf (refs secs).toArray n)]) F₁ N₁ (by show dp + 1 + 60 < recursionLimit; ktu_offL) (by show un + 3 + 600 < cLine; ktu_offL) hGg SH X Fs hA rfl (by intro e; cases e) SO (List.forall_mem_nil _) n3
    (fun v h₂ tk₂ gs₂ ps₂ cs₂ frs₂ F₂ N₂ hl₂ X₂ Fs₂ SU₂ A₂ hcs₂ hsub₂ hb₂ hp k₂ => ?_)
  obtain ⟨t, rfl, hts, hp⟩ := hp
  have htn := Heap.get?_none_of_le hts
  have htL : @LT.lt Nat _ L' t := Nat.lt_of_lt_of_le F₁.ns.lt hts
  have hcs₂' : ∀ q ∈ cs₂, q ∈ cs ∨ s.heap.get? q.1 = none := fun q hq => (hcs₂ q hq).imp (fun h => h) fun h => none_back hgg F₁.keep (fun q hq => (N₁ q hq).1) (fun a ha => ha) h
  have toff := new_off F₁ htn
  have w3 : News g L' h₂ ([(W, instObj 480 dW), (dW, dictOf (wEs w.params k tw th lr sf ls) 8), (ls, listOf (refs secs).toArray n)] ++ tl ps₂ cs₂ frs₂) := fun q hq => by
    rcases List.mem_append.mp hq with hq | hq
    · exact hl₂ q hq (fun h => nomatch h)
    · exact N₂ q hq
  dsimp only [List.cons_append, List.nil_append] at w3
  have N₀ : ∀ q ∈ [(W, instObj 480 dW), (dW, dictOf (wEs w.params k tw th lr sf ls) 8), (ls, listOf (refs secs).toArray n)], h₂.get? q.1 = some q.2 ∧ q.1 ≠ L' ∧ g.get? q.1 = none := fun q hq => hl₂ q hq (fun h => nomatch h)
  have N₂' : ∀ q ∈ tl ps₂ cs₂ frs₂, h₂.get? q.1 = some q.2 ∧ q.1 ≠ L' ∧ g.get? q.1 = none := N₂
  clear N₁ F₁ N₂ hl₂ k₂
  rcases hp with ⟨gp, nt, hmem, ht, hfit, hmin⟩ | ⟨nt, ht, hnone⟩
  · have N₃ := News.cons (q := (t, seqObj "tuple" #[.ref gp.a, .bool false] nt)) ⟨ht, toff⟩ w3
    have hgo := hgap gp hmem
    obtain ⟨g', hg', hGg', F₄, N₄⟩ := rebase F₂ N₃ hGg hgo
    have X₄ := GT.X.keeps hGg'
    have T₄ := GT.T.keeps hGg'
    have hgs : g.objs.size ≤ L' := F₂.above
    clear w3 F₂ N₃ X' T'
    k_steps
    refine Halt.mk ?_
    (with_reducible rename News _ _ _ _ => N₅)
    (with_reducible rename Fr _ _ _ _ => F₅)
    have HS : Has G₀ _ [(gp.a, instObj 203 gp.d), (gp.d, dictOf (rcEs w.params gp.r) 5)] := fun q hq => ⟨(N₅ q (by
      exact subm hq (by walk_at "sub"))).1, (hgo q hq).2⟩
    refine wpAny_mono (fit_c GT W gp.a gp.d gp.r wd hg t1 t2 (hm1 gp hmem) hm2 (dp + 1) _ _ (un + 3) _ _ (by ktu_offL) (by ktu_offL) (fun b o e => F₅.keep _ _ (hGg' b o e)) HS) (fun v s₃ hv => ?_) fun _ _ x => x
    obtain ⟨h₃, tk₃, rfl, k₃, hf⟩ := hv
    have kk : ∀ b o, _ → h₃.get? b = some o := fun b o e => k₃ b o List.not_mem_nil e
    unfold FitV at hf
    rw [if_neg hfit] at hf
    obtain ⟨t', rfl⟩ := hf
    have F₃ : Fr g' L' h₃ _ := k₃.fr F₅ (fun h => nomatch h) (List.forall_mem_nil _)
    have N₃ := N₅.grown kk
    show OutII s [] cs frs (fun v _ => FnV secs wd hg v) (.int (gp.r.w * gp.r.h - wd * hg) t') _
    have Fb := rebase_back (P := w.params) hg' hgs hgo F₃ (fun q hq => (N₃ q (by
      exact subm hq (by walk_at "sub"))).1)
    have Nb : News g L' h₃ ([(W, instObj 480 dW), (dW, dictOf (wEs w.params k tw th lr sf ls) 8), (ls, listOf (refs secs).toArray n)] ++ tl ps₂ cs₂ frs₂) := fun q hq => by
      have z := N₃ q (by
        rcases List.mem_append.mp hq with hq | hq
        · exact subm hq (by walk_at "sub")
        · exact subm hq (by walk_at "sub"))
      refine ⟨z.1, z.2.1, ?_⟩
      rcases List.mem_append.mp hq with hq | hq
      · exact (N₀ q hq).2.2
      · exact (N₂' q hq).2.2
    exact sel_fin (ps' := ps₂) (cs' := cs₂) (frs' := frs₂) hgg hC3' Fb Nb (fun q hq => List.mem_append_left _ hq) (fun q hq => List.mem_append_right _ hq) A₂ X₂ SU₂ hsub₂ hcs₂' (.inl ⟨gp, t', hmem, rfl, hfit, hmin⟩)
  · have N₃ := News.cons (q := (t, seqObj "tuple" #[.none, .none] nt)) ⟨ht, toff⟩ w3
    clear w3
    k_steps
    (with_reducible rename News _ _ _ _ => N₁₃)
    (with_reducible rename Fr _ _ _ _ => F₁₃)
    show OutII s [] cs frs (fun v _ => FnV secs wd hg v) .none _
    refine sel_fin (ps' := ps₂) (cs' := cs₂) (frs' := frs₂) hgg hC3' F₁₃ N₁₃ (fun q hq => ?_) (fun q hq => ?_) A₂ X₂ SU₂ hsub₂ hcs₂' (.inr ⟨rfl, hnone⟩)
    · exact subm hq (by walk_at "sub")
    · exact subm hq (by walk_at "sub")
end
end Mine

namespace Mine
open AutoSeq1 (wpAny_loadPart')
open PySem.Spec
theorem map_erase {α β : Type} (f : α → β) : ∀ (l : List α) (i : Nat), (l.map f).eraseIdx i = (l.eraseIdx i).map f
  | [], _ => rfl
  | _ :: _, 0 => rfl
  | a :: l, i + 1 => by simp [map_erase f l i]
section
variable {w : World} {mean : ExcName → Option Value} {mg mb : Str → Option Value} {loose : List Str} {G₀ : Heap}
theorem eq_c (G : Gnd w mean mg mb loose G₀) (b e a d : Addr) (q r : Rc) (hxy : q.x ≠ r.x ∨ q.y ≠ r.y) :
    CI w G₀ 10 100 149 [.ref b, .ref a] [(b, instObj 203 e), (e, dictOf (rcEs w.params q) 5), (a, instObj 203 d), (d, dictOf (rcEs w.params r) 5)] [] (fun _ v _ => v = .bool false) := by
  intro dp fr gd un s E hd hu hG hC
  obtain ⟨KX, T⟩ := G
  refine wpAny_call (code_start KX T hG hC (by k_is) (by k_is) (by k_room) (BindsTo.of_eq rfl) (locs rfl) ?_ rfl rfl rfl (by decide))
  intro g L' h₁ hgg F N X' T' hlt
  clear KX T hlt
  dsimp only
  (with_reducible show wpAny _ _ _ _ _ _)
  k_fold
  k_steps
  all_goals (show OutI s [] (fun v _ => v = .bool false) (.bool _) _; refine OutI.intro hgg (fun q hq => (hC q hq).1) (by assumption) (by assumption) (fun q hq => .inr hq) ?_; first | rfl | (refine congrArg Value.bool ?_; rw [beq_eq_false_iff_ne]; ktu_offL))

theorem eqBool_no (G : Gnd w mean mg mb loose G₀) {dp un : Nat} {fr : Option (List Env)} {gd : Option (List Code)} {s : Shared} {E : Value → Shared → Prop} {Q : Bool → Shared → Prop} {g : Heap} {L : Addr} {m : Str → Option Value} (b e a d : Addr) (q r : Rc) (hxy : q.x ≠ r.x ∨ q.y ≠ r.y) (hab : b ≠ a)
    (hd : dp + 20 < recursionLimit) (hu : un + 200 < cLine) (F : Fr g L s.heap m) (hGg : G₀.StaysIn g) (HS : Has G₀ s.heap [(b, instObj 203 e), (e, dictOf (rcEs w.params q) 5), (a, instObj 203 d), (d, dictOf (rcEs w.params r) 5)])
    (h : ∀ h' tk, (∀ x o, s.heap.get? x = some o → h'.get? x = some o) → Q false { s with heap := h', toks := tk }) :
    wpAny (model PR w) (AT dp fr gd un) (eqBool (.ref b) (.ref a)) Q E s := by
  have X' := G.X.keeps hGg
  unfold eqBool
  refine wpAny_holding ?_
  have hne : (Value.ref b == Value.ref a) = false := by simp [hab]
  rw [if_neg (by rw [hne]; decide)]
  refine wpAny_bind ?_
  have I : InstAt s.heap b (instObj 203 e) 203 (some (dictOf (rcEs w.params q) 5)) := ⟨(HS _ (.head _)).1, rfl, rfl, (HS _ (.tail _ (.head _))).1⟩
  refine cmp_K (op := .Eq) (K := Mine.hd.heap_1 w.params) (f := 149) (tb := .ref 203) (by show un < cLine; ktu_offL) F X' I ?_ (by k_is) (by k_is) (by k_is) ?_
  · exact (Looks.ld (HS _ (.tail _ (.tail _ (.head _)))).1).andThen .now
  · refine wpAny_mono (eq_c G b e a d q r hxy dp fr gd un s E (by ktu_offL) (by ktu_offL) (fun b o e => F.keep _ _ (hGg b o e)) HS) (fun v s' hv => ?_) fun _ _ x => x
    obtain ⟨h', tk', rfl, kp, rfl⟩ := hv
    exact wpAny_of_eq (rfl : truthOfDropped (.bool false) = pure false) (h h' tk' fun x o e => kp x o List.not_mem_nil e)
theorem rem_loop (G : Gnd w mean mg mb loose G₀) {dp un : Nat} {fr : Option (List Env)} {gd : Option (List Code)} {g : Heap} {L ls : Addr} {m : Str → Option Value} {n : Nat} {R : Result → Shared → Prop} {gs : List Gp} {tgt : Gp} {j : Nat}
    (hd : dp + 30 < recursionLimit) (hu : un + 300 < cLine) (hGg : G₀.StaysIn g) (hj : gs[j]? = some tgt) (hoff : ∀ i q, i < j → gs[i]? = some q → q.a ≠ tgt.a ∧ (q.r.x ≠ tgt.r.x ∨ q.r.y ≠ tgt.r.y)) (hsz : gs.length ≤ sizeLine) :
    ∀ (k i : Nat) (s : Shared), j - i = k → i ≤ j → Fr g L s.heap m → s.heap.get? ls = some (listOf (refs gs).toArray n) → (∀ q ∈ gs, ∀ o ∈ q.objs w.params, s.heap.get? o.1 = some o.2 ∧ G₀.get? o.1 = none) →
    (∀ h' tk, (∀ b o, b ≠ ls → s.heap.get? b = some o → h'.get? b = some o) → (∃ n', h'.get? ls = some (listOf (refs (gs.eraseIdx j)).toArray n')) → R (.ok (.ret .none)) { s with heap := h', toks := tk }) →
    codeAny (model PR w) (AT dp fr gd un) (.builtin "list.remove.loop" ⟨[.ref ls, .ref tgt.a, rawInt i], []⟩) R s := by
  have hjl := (List.getElem?_eq_some_iff.mp hj).1
  intro k
  induction k with
  | zero =>
    intro i s hk hij F hl ho h
    obtain ⟨hp, g', d, tk, os⟩ := s
    have hij' : i = j := eq_end hk hij
    subst hij'
    refine codeAny_builtin MeetsSeq.entry_remove_loop ?_
    rw [Around.under_plainId MeetsSeq.plain_remove_loop _]
    wp_walk using wpAny_loadPart' hl
    have hi : (refs gs).toArray[((i : Nat) : Int).toNat]? = some (.ref tgt.a) := by simp [refs, hj]
    rw [hi]
    have hz : (refs gs).toArray.size ≤ sizeLine := by simpa [refs] using hsz
    have hz' : ((refs gs).toArray.eraseIdxIfInBounds i).size ≤ sizeLine + 1 := Nat.le_trans (MeetsSeq.size_erased _ _) (Nat.le_succ_of_le hz)
    refine wpAny_bind (wpAny_mono (Q := fun ok s' => ok = true ∧ s' = { heap := hp, gens := g', drawn := d, toks := tk, os := os }) ?_ (fun ok s' hk => ?_) fun _ _ x => x)
    · unfold eqBool
      refine wpAny_holding ?_
      rw [if_pos (by walk_at "sm")]
      exact wpAny_bind (wpAny_rule (wpAny_pure ⟨rfl, rfl⟩))
    · obtain ⟨rfl, rfl⟩ := hk
      wp_walk using (wpAny_updateSeq hl rfl (hz := hz) (_hz' := hz')), wpAny_loadPart' hl
      refine h _ tk (fun b o hb e => (Heap.get?_update_other _ _ (Ne.symm hb)).trans e) ?_
      have e : (refs gs).toArray.eraseIdxIfInBounds i = (refs (gs.eraseIdx i)).toArray := by
        apply Array.toList_inj.mp
        rw [Array.toList_eraseIdxIfInBounds, refs, refs, ← map_erase]
      refine ⟨if ((refs gs).toArray.eraseIdxIfInBounds i).size == (refs gs).toArray.size then n else n + 1, ?_⟩
      rw [← e]
      exact Heap.get?_update_self _ hl rfl
  | succ k ih =>
    intro i s hk hij F hl ho h
    obtain ⟨hp, g', d, tk, os⟩ := s
    have hlt : i < j := Nat.lt_of_sub_eq_succ hk
    have hil : i < gs.length := Nat.lt_trans hlt hjl
    have hq : gs[i]? = some gs[i] := List.getElem?_eq_getElem hil
    refine codeAny_builtin MeetsSeq.entry_remove_loop ?_
    rw [Around.under_plainId MeetsSeq.plain_remove_loop _]
    wp_walk using wpAny_loadPart' hl
    have hi : (refs gs).toArray[((i : Nat) : Int).toNat]? = some (.ref gs[i].a) := by simp [refs, hil]
    have hc : ((i : Int) + 1) = ((i + 1 : Nat) : Int) := by push_cast; rfl
    rw [hi]
    have hm := List.getElem_mem hil
    have ht := List.mem_of_getElem? hj
    obtain ⟨o1, o2⟩ := hoff i _ hlt hq
    refine wpAny_bind (eqBool_no (dp := dp) (un := un + 1) G gs[i].a gs[i].d tgt.a tgt.d gs[i].r tgt.r o2 o1 (by ktu_offL) (by ktu_offL) F hGg (fun q hq => ?_) fun h' tk' kp => ?_)
    · simp only [List.mem_cons, List.not_mem_nil, or_false] at hq
      rcases hq with rfl | rfl | rfl | rfl
      · exact ho _ hm (gs[i].a, instObj 203 gs[i].d) (.head _)
      · exact ho _ hm (gs[i].d, dictOf (rcEs w.params gs[i].r) 5) (.tail _ (.head _))
      · exact ho _ ht (tgt.a, instObj 203 tgt.d) (.head _)
      · exact ho _ ht (tgt.d, dictOf (rcEs w.params tgt.r) 5) (.tail _ (.head _))
    · dsimp only at kp
      wp_walk
      rw [hc]
      refine ⟨plainId_quiet MeetsSeq.plain_remove_loop _, ih (i + 1) _ (sub1 (by assumption)) (by ktu_offL) ⟨F.ns.keeps kp, fun b o e => kp b o (F.keep b o e), F.above⟩ (kp _ _ hl) (fun q hq o hqo => ⟨kp _ _ (ho q hq o hqo).1, (ho q hq o hqo).2⟩) fun h'' tk'' k2 h2 => ?_⟩
      exact h h'' tk'' (fun b o hb e => k2 b o hb (kp b o e)) h2
theorem rem_call (G : Gnd w mean mg mb loose G₀) {dp un : Nat} {fr : Option (List Env)} {gd : Option (List Code)} {g : Heap} {L ls : Addr} {m : Str → Option Value} {n : Nat} {s : Shared} {E Q : Value → Shared → Prop} {gs : List Gp} {tgt : Gp} {j : Nat}
    (hd : dp + 30 < recursionLimit) (hu : un + 300 < cLine) (hGg : G₀.StaysIn g) (hj : gs[j]? = some tgt) (hoff : ∀ i q, i < j → gs[i]? = some q → q.a ≠ tgt.a ∧ (q.r.x ≠ tgt.r.x ∨ q.r.y ≠ tgt.r.y)) (hsz : gs.length ≤ sizeLine)
    (F : Fr g L s.heap m) (hl : s.heap.get? ls = some (listOf (refs gs).toArray n)) (ho : ∀ q ∈ gs, ∀ o ∈ q.objs w.params, s.heap.get? o.1 = some o.2 ∧ G₀.get? o.1 = none)
    (h : ∀ h' tk, (∀ b o, b ≠ ls → s.heap.get? b = some o → h'.get? b = some o) → (∃ n', h'.get? ls = some (listOf (refs (gs.eraseIdx j)).toArray n')) → Q .none { s with heap := h', toks := tk }) :
    wpAny (model PR w) (AT dp fr gd un) (call (.builtin "list.remove") [.ref ls, .ref tgt.a]) Q E s := by
  refine call_meetsIn PySem.F.slot_list_remove ⟨_, hl, rfl⟩ PySem.F.entry_list_remove (PySem.F.args_list_remove_2 _ _) (S := fun A R s => A = AT dp fr gd un ∧ Fr g L s.heap m ∧ s.heap.get? ls = some (listOf (refs gs).toArray n) ∧ (∀ q ∈ gs, ∀ o ∈ q.objs w.params, s.heap.get? o.1 = some o.2 ∧ G₀.get? o.1 = none) ∧
    (∀ h' tk, (∀ b o, b ≠ ls → s.heap.get? b = some o → h'.get? b = some o) → (∃ n', h'.get? ls = some (listOf (refs (gs.eraseIdx j)).toArray n')) → R (.ok (.ret .none)) { s with heap := h', toks := tk })) ?_ ⟨rfl, F, hl, ho, fun h' tk a b => h h' tk a b⟩
  rintro A R s ⟨rfl, F, hl, ho, h⟩
  obtain ⟨hp, g', d, tk, os⟩ := s
  wp_walk using wpAny_loadPart' hl
  exact ⟨plainId_quiet MeetsSeq.plain_remove_loop _, rem_loop G hd hu hGg hj hoff hsz _ 0 _ rfl (Nat.zero_le _) F hl ho h⟩
end
end Mine

namespace Mine
open PyProof.Rows.TI (Frs SameUp gone)
theorem fin_II {s : Shared} {G₀ g h' : Heap} {L : Addr} {m : Str → Option Value} {tk : Nat} {ps ps' : Array Value} {cs cs' frs frs' : List (Addr × Obj)} {gs : Array GenState} {led concH : List (Addr × Obj)} {D : List Addr} {Post : Value → Heap → Prop} {v : Value}
    (hgg : g = hideAll s.heap ((concH ++ tl ps cs frs).map (·.1))) (hC : Has G₀ s.heap (concH ++ tl ps cs frs)) (F : Fr g L h' m) (N : ∀ q ∈ led, h'.get? q.1 = some q.2)
    (hw : ∀ q ∈ concH, q.1 ∈ D ∨ q ∈ led) (ht : ∀ q ∈ tl ps' cs' frs', q ∈ led)
    (hA : AllBare gs) (X : TabOK ps' cs') (SU : SameUp frs frs') (hsub : ∀ q ∈ cs, q ∈ cs') (hnew : ∀ q ∈ cs', q ∈ cs ∨ s.heap.get? q.1 = none) (hp : Post v h') :
    OutII s D cs frs Post v { s with heap := h', toks := tk, gens := gs } := by
  refine ⟨h', tk, gs, ps', cs', frs', rfl, hA, X, SU, fun q hq => N q (ht q hq), hnew, hsub, fun b o hb e => ?_, hp⟩
  by_cases hm : b ∈ (concH ++ tl ps cs frs).map (·.1)
  · obtain ⟨q, hq, rfl⟩ := List.mem_map.mp hm
    rw [(hC q hq).1] at e
    cases e
    rcases List.mem_append.mp hq with hq | hq
    · rcases hw q hq with h | h
      · exact absurd (List.mem_append_left _ h) hb
      · exact N q h
    · rcases List.mem_cons.mp hq with rfl | hq
      · exact absurd (List.mem_append_right _ (.head _)) hb
      · rcases List.mem_append.mp hq with hq | hq
        · exact N q (ht q (.tail _ (List.mem_append_left _ (hsub q hq))))
        · exact absurd (List.mem_append_right _ (.tail _ (List.mem_map_of_mem hq))) hb
  · exact F.keep b o (by rw [hgg]; exact hideAll_get _ e hm)
/-- two gaps that lie apart are other objects -/
theorem gap_ne {P : Params} {h : Heap} {q g : Gp} {up : Bool} {X Y B : Int} (hq : ∀ o ∈ q.objs P, h.get? o.1 = some o.2) (hg : ∀ o ∈ g.objs P, h.get? o.1 = some o.2) (oq : q.ok up X Y B) (og : g.ok up X Y B) (ha : Apart q.st q.ln g.st g.ln) :
    (q.r.x ≠ g.r.x ∨ q.r.y ≠ g.r.y) ∧ q.a ≠ g.a ∧ q.a ≠ g.d ∧ q.d ≠ g.a ∧ q.d ≠ g.d := by
  have xy : q.r.x ≠ g.r.x ∨ q.r.y ≠ g.r.y := by
    obtain ⟨oq, lq⟩ := oq
    obtain ⟨og, lg⟩ := og
    have n := (apart_ne ha lq lg).2.2.1
    cases up with
    | true => obtain ⟨_, y1, _⟩ := oq; obtain ⟨_, y2, _⟩ := og; exact .inr fun e => n (Int.add_left_cancel (y1.symm.trans (e.trans y2)))
    | false => obtain ⟨y1, _⟩ := oq; obtain ⟨y2, _⟩ := og; exact .inl fun e => n (Int.add_left_cancel (y1.symm.trans (e.trans y2)))
  have qa := hq (q.a, instObj 203 q.d) (.head _)
  have qd := hq (q.d, dictOf (rcEs P q.r) 5) (.tail _ (.head _))
  have ga := hg (g.a, instObj 203 g.d) (.head _)
  have gd := hg (g.d, dictOf (rcEs P g.r) 5) (.tail _ (.head _))
  have dd : q.d ≠ g.d := fun e => by
    have gd' : h.get? q.d = some (dictOf (rcEs P g.r) 5) := by rw [e]; exact gd
    have z : dictOf (rcEs P q.r) 5 = dictOf (rcEs P g.r) 5 := Option.some.inj (qd.symm.trans gd')
    have z1 := congrArg (fun o : Obj => match o.data with | .dict es _ => (es[2]?.map fun e : DictEntry => e.val, es[3]?.map fun e : DictEntry => e.val) | _ => (none, none)) z
    have z2 : (some (Value.int q.r.x q.r.tx), some (Value.int q.r.y q.r.ty)) = (some (Value.int g.r.x g.r.tx), some (Value.int g.r.y g.r.ty)) := z1
    simp only [Prod.mk.injEq, Option.some.injEq, Value.int.injEq] at z2
    rcases xy with h | h
    · exact h z2.1.1
    · exact h z2.2.1
  refine ⟨xy, fun e => dd ?_, ne_cls qa gd (by intro e; cases e), fun e => ne_cls ga qd (by intro e; cases e) e.symm, dd⟩
  have ga' : h.get? q.a = some (instObj 203 g.d) := by rw [e]; exact ga
  have z : instObj 203 q.d = instObj 203 g.d := Option.some.inj (qa.symm.trans ga')
  have z1 := congrArg (fun o : Obj => o.dict) z
  exact Option.some.inj (show some q.d = some g.d from z1)
/-- the piece's breadth and height, for a line that stands or lies -/
noncomputable def Dim (up : Bool) (B len wd hg : Int) : Prop := match up with | true => wd = B ∧ hg = len | false => wd = len ∧ hg = B
noncomputable def Mul (M : Int) : Prop := ∀ a b : Int, 0 ≤ a → a ≤ M → 0 ≤ b → b ≤ M → IntMulOk a b
noncomputable def SplitPost (P : Params) (up : Bool) (X Y B len : Int) (k : Nat → Tok) (tw th : Tok) (lr sf ls dW : Addr) (n : Nat) (rest : List Gp) (gp : Gp) (h : Heap) (v : Value) (h' : Heap) : Prop :=
  (gp.ln = len ∧ v = .none ∧ h'.get? dW = some (dictOf (wEs P k tw th lr sf ls) 8) ∧ h'.get? ls = some (listOf (refs rest).toArray n)) ∨
    (len < gp.ln ∧ WastePost P up X Y B k tw th lr sf ls dW rest (gp.st + len) (gp.ln - len) h v h')
section
variable {w : World} {mean : ExcName → Option Value} {mg mb : Str → Option Value} {loose : List Str} {G₀ : Heap}
theorem split_any (G : Gnd w mean mg mb loose G₀) (W dW lr sf ls : Addr) (k : Nat → Tok) (tw th : Tok) (n : Nat) (rest : List Gp) (gp : Gp) (up : Bool) (X Y B len M : Int) (wd hg : Int) (t1 t2 : Tok)
    (hdim : Dim up B len wd hg) (og : gp.ok up X Y B) (hok : ∀ q ∈ rest, q.ok up X Y B) (hB : 0 < B) (hlen : 0 < len) (hfit : len ≤ gp.ln) (hM : Mul M) (hBM : B ≤ M) (hgM : gp.ln ≤ M)
    (hsep : Sep Gp.st Gp.ln rest) (hap : ∀ q ∈ rest, Apart q.st q.ln gp.st gp.ln) (hsz : rest.length < sizeLine)
    (h1 : @Ne Nat W dW) (h2 : @Ne Nat W ls) (h4 : @Ne Nat dW ls) (h5 : @Ne Nat gp.a dW) (h6 : @Ne Nat gp.a ls) (h7 : @Ne Nat gp.d dW) (h8 : @Ne Nat gp.d ls) (hne : ∀ q ∈ rest, ∀ o ∈ q.objs w.params, o.1 ∉ [W, dW, ls, gp.a, gp.d]) :
    CI w G₀ 40 400 426 [.ref W, .ref gp.a, .int wd t1, .int hg t2] ([(W, instObj 480 dW), (dW, dictOf (wEs w.params k tw th lr sf ls) 8), (ls, listOf (refs rest).toArray n), (gp.a, instObj 203 gp.d), (gp.d, dictOf (rcEs w.params gp.r) 5)] ++ rest.flatMap (Gp.objs w.params)) [dW, ls]
      (SplitPost w.params up X Y B len k tw th lr sf ls dW n rest gp) := by
  obtain ⟨on, hln⟩ := og
  have hfree : Free Gp.st Gp.ln (gp.st + len) (gp.ln - len) rest := fun q hq => by
    have a := hap q hq
    have b := (hok q hq).2
    unfold Apart at a
    ktu_offL
  by_cases he : gp.ln = len
  · intro dp fr gd un s E hd hu hG hC
    have hC4 : Has G₀ s.heap [(W, instObj 480 dW), (dW, dictOf (wEs w.params k tw th lr sf ls) 8), (gp.a, instObj 203 gp.d), (gp.d, dictOf (rcEs w.params gp.r) 5)] := fun q hq => hC q (List.mem_append_left _ (by
      exact subm hq (by walk_at "sub")))
    have hw : (IntMulOk wd (gp.r.h - hg) ∧ IntMulOk hg (gp.r.w - wd)) ∧ hg * (gp.r.w - wd) ≤ wd * (gp.r.h - hg) ∧ ¬ hg < gp.r.h ∧ ¬ wd < gp.r.w := by
      cases up with
      | true =>
        obtain ⟨_, _, c, d⟩ := on
        obtain ⟨z1, z2⟩ := hdim
        rw [z1, z2, c, d, he]
        simp only [Int.sub_self, Int.mul_zero]
        exact ⟨⟨hM _ _ (by ktu_offL) (by ktu_offL) (by ktu_offL) (by ktu_offL), hM _ _ (by ktu_offL) (by ktu_offL) (by ktu_offL) (by ktu_offL)⟩, by ktu_offL, by ktu_offL, by ktu_offL⟩
      | false =>
        obtain ⟨_, _, c, d⟩ := on
        obtain ⟨z1, z2⟩ := hdim
        rw [z1, z2, c, d, he]
        simp only [Int.sub_self, Int.mul_zero]
        exact ⟨⟨hM _ _ (by ktu_offL) (by ktu_offL) (by ktu_offL) (by ktu_offL), hM _ _ (by ktu_offL) (by ktu_offL) (by ktu_offL) (by ktu_offL)⟩, by ktu_offL, by ktu_offL, by ktu_offL⟩
    refine wpAny_mono (split_0 G W dW lr sf ls gp.a gp.d k tw th gp.r wd hg t1 t2 hw.1.1 hw.1.2 hw.2.1 hw.2.2.1 hw.2.2.2 h5 h7 dp fr gd un s E hd hu hG hC4) (fun v s' hv => ?_) fun _ _ x => x
    obtain ⟨h', tk', rfl, kp, rfl⟩ := hv
    have all : ∀ b o, s.heap.get? b = some o → h'.get? b = some o := fun b o e => kp b o List.not_mem_nil e
    refine ⟨h', tk', rfl, fun b o _ e => all b o e, .inl ⟨he, rfl, all _ _ (hC (dW, dictOf (wEs w.params k tw th lr sf ls) 8) (by walk_at "sm")).1, all _ _ (hC (ls, listOf (refs rest).toArray n) (by walk_at "sm")).1⟩⟩
  · have hlt : len < gp.ln := by ktu_offL
    have key : CI w G₀ 40 400 426 [.ref W, .ref gp.a, .int wd t1, .int hg t2] ([(W, instObj 480 dW), (dW, dictOf (wEs w.params k tw th lr sf ls) 8), (ls, listOf (refs rest).toArray n), (gp.a, instObj 203 gp.d), (gp.d, dictOf (rcEs w.params gp.r) 5)] ++ rest.flatMap (Gp.objs w.params)) [dW, ls]
        (WastePost w.params up X Y B k tw th lr sf ls dW rest (gp.st + len) (gp.ln - len)) := by
      cases up with
      | true =>
        obtain ⟨a, b, c, d⟩ := on
        obtain ⟨rfl, rfl⟩ := hdim
        refine split_h G W dW lr sf ls gp.a gp.d k tw th n rest true X Y wd (gp.st + hg) (gp.ln - hg) gp.r wd hg t1 t2 (fun _ _ _ _ _ => ⟨a, by show gp.r.y + hg = _; ktu_offL, c, by show gp.r.h - hg = _; ktu_offL⟩) hok hB (by ktu_offL) (by ktu_offL) hlen ?_ ?_ ?_ (by ktu_offL) (by ktu_offL) hsep hfree hsz h1 h2 h4 h5 h6 h7 h8 hne
        · exact hM _ _ (by ktu_offL) (by ktu_offL) (by ktu_offL) (by ktu_offL)
        · exact hM _ _ (by ktu_offL) (by ktu_offL) (by ktu_offL) (by ktu_offL)
        · rw [c, d, Int.sub_self, Int.mul_zero]
          exact Int.mul_nonneg (by ktu_offL) (by ktu_offL)
      | false =>
        obtain ⟨a, b, c, d⟩ := on
        obtain ⟨rfl, rfl⟩ := hdim
        refine split_v G W dW lr sf ls gp.a gp.d k tw th n rest false X Y hg (gp.st + wd) (gp.ln - wd) gp.r wd hg t1 t2 (fun _ _ _ _ _ => ⟨by show gp.r.x + wd = _; ktu_offL, b, by show gp.r.w - wd = _; ktu_offL, d⟩) hok hB (by ktu_offL) (by ktu_offL) hlen ?_ ?_ ?_ (by ktu_offL) (by ktu_offL) hsep hfree hsz h1 h2 h4 h5 h6 h7 h8 hne
        · exact hM _ _ (by ktu_offL) (by ktu_offL) (by ktu_offL) (by ktu_offL)
        · exact hM _ _ (by ktu_offL) (by ktu_offL) (by ktu_offL) (by ktu_offL)
        · rw [c, d, Int.sub_self, Int.mul_zero]
          exact Int.mul_pos (by ktu_offL) (by ktu_offL)
    intro dp fr gd un s E hd hu hG hC
    refine wpAny_mono (key dp fr gd un s E hd hu hG hC) (fun v s' hv => ?_) fun _ _ x => x
    obtain ⟨h', tk', rfl, kp, hp⟩ := hv
    exact ⟨h', tk', rfl, kp, .inr ⟨hlt, hp⟩⟩
end
end Mine

namespace Mine
open PyProof.Rows.TI (Frs SameUp gone)
section
variable {w : World} {mean : ExcName → Option Value} {mg mb : Str → Option Value} {loose : List Str} {G₀ : Heap}
theorem allLt_mem {d : Nat} : ∀ {l : List (Addr × Obj)}, AllLt d l → ∀ q ∈ l, @LT.lt Nat _ q.1 d
  | [], _, _, h => nomatch h
  | _ :: _, x, q, h => by
    rcases List.mem_cons.mp h with rfl | h
    · exact x.1
    · exact allLt_mem x.2 q h
theorem sep_erase {gs : List Gp} {g : Gp} {j : Nat} (h : Sep Gp.st Gp.ln gs) (hj : gs[j]? = some g) : ∀ q ∈ gs.eraseIdx j, q ∈ gs ∧ Apart q.st q.ln g.st g.ln := fun q hq => by
  obtain ⟨i, hij, hi⟩ := List.mem_eraseIdx_iff_getElem?.mp hq
  refine ⟨List.mem_of_getElem? hi, ?_⟩
  obtain ⟨hi1, hi2⟩ := List.getElem?_eq_some_iff.mp hi
  obtain ⟨hj1, hj2⟩ := List.getElem?_eq_some_iff.mp hj
  rcases Nat.lt_or_gt_of_ne hij with h' | h'
  · have := List.pairwise_iff_getElem.mp h i j hi1 hj1 h'
    rwa [hi2, hj2] at this
  · have := List.pairwise_iff_getElem.mp h j i hj1 hi1 h'
    rw [hi2, hj2] at this
    exact Or.symm this
/-- what stands in the store behind add_rect, where a piece was taken -/
inductive AddSome (P : Params) (up : Bool) (X Y B len : Int) (k : Nat → Tok) (tw th : Tok) (lr sf ls dW : Addr) (secs : List Gp) (vs : List Value) (rid : Value) (h : Heap) (v : Value) (h' : Heap) : Prop
  | mk (i : Nat) (gp : Gp) (ra rd : Addr) (r : Rc) (ls' : Addr) (n' np' : Nat) (secs' : List Gp) (hi : secs[i]? = some gp) (hle : len ≤ gp.ln) (hmin : ∀ q ∈ secs, len ≤ q.ln → gp.ln ≤ q.ln) (e : v = .ref ra) (na : h.get? ra = none) (nd : h.get? rd = none) (nad : @Ne Nat ra rd)
    (ea : h'.get? ra = some (instObj 203 rd)) (ed : h'.get? rd = some (dictOf (rcEs P r) 5)) (on : On up X Y B gp.st len r) (hrid : r.rid = rid) (elr : h'.get? lr = some (listOf (vs ++ [Value.ref ra]).toArray np'))
    (edW : h'.get? dW = some (dictOf (wEs P k tw th lr sf ls') 8)) (els : ls' = ls ∨ h.get? ls' = none) (e2 : h'.get? ls' = some (listOf (refs secs').toArray n'))
    (hcase : (gp.ln = len ∧ secs' = secs.eraseIdx i) ∨ (len < gp.ln ∧ ∃ a d r', secs' = secs.eraseIdx i ++ [⟨a, d, r', gp.st + len, gp.ln - len⟩] ∧ h.get? a = none ∧ h.get? d = none ∧ @Ne Nat a d ∧ h'.get? a = some (instObj 203 d) ∧ h'.get? d = some (dictOf (rcEs P r') 5) ∧
      On up X Y B (gp.st + len) (gp.ln - len) r' ∧ a ≠ ra ∧ a ≠ rd ∧ d ≠ ra ∧ d ≠ rd)) : AddSome P up X Y B len k tw th lr sf ls dW secs vs rid h v h'
noncomputable def AddPost (P : Params) (up : Bool) (X Y B len : Int) (k : Nat → Tok) (tw th : Tok) (lr sf ls dW : Addr) (secs : List Gp) (vs : List Value) (n np : Nat) (rid : Value) (h : Heap) (v : Value) (h' : Heap) : Prop :=
  (v = .none ∧ (∀ q ∈ secs, q.ln < len) ∧ h'.get? dW = some (dictOf (wEs P k tw th lr sf ls) 8) ∧ h'.get? ls = some (listOf (refs secs).toArray n) ∧ h'.get? lr = some (listOf vs.toArray np)) ∨
  AddSome P up X Y B len k tw th lr sf ls dW secs vs rid h v h'

theorem on_dim {up : Bool} {X Y B st ln len wd hg : Int} {r : Rc} {tx ty t1 t2 : Tok} {rid : Value} {kk : Nat → Tok} (o : On up X Y B st ln r) (d : Dim up B len wd hg) : On up X Y B st len ⟨r.x, r.y, wd, hg, tx, ty, t1, t2, rid, kk⟩ := by
  cases up with
  | true => obtain ⟨a, b, _⟩ := o; exact ⟨a, b, d⟩
  | false => obtain ⟨a, b, _⟩ := o; exact ⟨a, b, d⟩
inductive SplitRes (P : Params) (up : Bool) (X Y B len : Int) (k : Nat → Tok) (tw th : Tok) (lr sf ls dW : Addr) (rest : List Gp) (gp : Gp) (h₇ : Heap) (v : Value) (h₈ : Heap) : Prop
  | mk (ls' : Addr) (n' : Nat) (secs' : List Gp) (ex : List (Addr × Obj)) (e : v = .none) (e1 : h₈.get? dW = some (dictOf (wEs P k tw th lr sf ls') 8)) (e2 : ls' = ls ∨ h₇.get? ls' = none) (e3 : h₈.get? ls' = some (listOf (refs secs').toArray n')) (eex : ∀ q ∈ ex, h₈.get? q.1 = some q.2 ∧ h₇.get? q.1 = none)
    (est : (gp.ln = len ∧ secs' = rest) ∨ (len < gp.ln ∧ ∃ a d r', secs' = rest ++ [⟨a, d, r', gp.st + len, gp.ln - len⟩] ∧ (a, instObj 203 d) ∈ ex ∧ (d, dictOf (rcEs P r') 5) ∈ ex ∧ @Ne Nat a d ∧ On up X Y B (gp.st + len) (gp.ln - len) r')) : SplitRes P up X Y B len k tw th lr sf ls dW rest gp h₇ v h₈
theorem add_c (G : Gnd w mean mg mb loose G₀) (CH : CodeHd G₀ 364 360) (W dW lr sf ls : Addr) (k : Nat → Tok) (tw th : Tok) (n np : Nat) (secs : List Gp) (vs : List Value) (up : Bool) (X Y B len M : Int) (wd hg ri : Int) (t1 t2 t3 : Tok)
    (hdim : Dim up B len wd hg) (hok : ∀ q ∈ secs, q.ok up X Y B) (hB : 0 < B) (hlen : 0 < len) (hM : Mul M) (hBM : B ≤ M) (hlM : len ≤ M) (hgM : ∀ q ∈ secs, q.ln ≤ M) (hsep : Sep Gp.st Gp.ln secs) (hsz : secs.length < sizeLine) (hvs : vs.length < sizeLine)
    (h1 : @Ne Nat W dW) (h2 : @Ne Nat W ls) (h3 : @Ne Nat W lr) (h4 : @Ne Nat dW ls) (h5 : @Ne Nat dW lr) (h6 : @Ne Nat ls lr)
    (hne : ∀ q ∈ secs, ∀ o ∈ q.objs w.params, o.1 ∉ [W, dW, ls, lr]) :
    CII w G₀ 80 800 373 [.ref W, .int wd t1, .int hg t2, .int ri t3] ([(W, instObj 480 dW), (dW, dictOf (wEs w.params k tw th lr sf ls) 8), (ls, listOf (refs secs).toArray n), (lr, listOf vs.toArray np)] ++ secs.flatMap (Gp.objs w.params)) [dW, ls, lr]
      (AddPost w.params up X Y B len k tw th lr sf ls dW secs vs n np (.int ri t3)) := by
  have zS0 : Mine.StopAt 365 := ⟨trivial⟩
  have zS1 : Mine.StopAt 426 := ⟨trivial⟩
  have zS2 : Mine.Stop "call builtin:list.remove" := ⟨trivial⟩
  have zS3 : Mine.Stop "call builtin:list.append" := ⟨trivial⟩
  intro dp l gd un s E ps cs frs hd hu hG hC Xt Fs hoff hA
  have hC4 : Has G₀ s.heap ([(W, instObj 480 dW), (dW, dictOf (wEs w.params k tw th lr sf ls) 8), (ls, listOf (refs secs).toArray n), (lr, listOf vs.toArray np)] ++ tl ps cs frs) := fun q hq => hC q (by
    rcases List.mem_append.mp hq with h | h
    · exact List.mem_append_left _ (List.mem_append_left _ h)
    · exact List.mem_append_right _ h)
  have hCg : ∀ q ∈ secs, ∀ o ∈ q.objs w.params, s.heap.get? o.1 = some o.2 ∧ G₀.get? o.1 = none := fun q hq o ho => hC o (List.mem_append_left _ (List.mem_append_right _ (List.mem_flatMap.mpr ⟨q, hq, ho⟩)))
  have hwh : 0 < wd ∧ 0 < hg ∧ wd ≤ M ∧ hg ≤ M := by
    cases up with
    | true => obtain ⟨z1, z2⟩ := hdim; rw [z1, z2]; exact ⟨hB, hlen, hBM, hlM⟩
    | false => obtain ⟨z1, z2⟩ := hdim; rw [z1, z2]; exact ⟨hlen, hB, hlM, hBM⟩
  have hfits : ∀ q ∈ secs, Fits wd hg q ↔ len ≤ q.ln := fun q hq => by
    obtain ⟨on, _⟩ := hok q hq
    unfold Fits
    cases up with
    | true => obtain ⟨_, _, c, d⟩ := on; obtain ⟨z1, z2⟩ := hdim; rw [c, d, z1, z2]; exact fitA
    | false => obtain ⟨_, _, c, d⟩ := on; obtain ⟨z1, z2⟩ := hdim; rw [c, d, z1, z2]; exact fitB
  have harea : ∀ q ∈ secs, q.r.w * q.r.h = B * q.ln := fun q hq => by
    obtain ⟨on, _⟩ := hok q hq
    cases up with
    | true => obtain ⟨_, _, c, d⟩ := on; rw [c, d]
    | false => obtain ⟨_, _, c, d⟩ := on; rw [c, d, Int.mul_comm]
  have hm1 : ∀ q ∈ secs, IntMulOk q.r.w q.r.h := fun q hq => by
    obtain ⟨on, hl⟩ := hok q hq
    have := hgM q hq
    cases up with
    | true => obtain ⟨_, _, c, d⟩ := on; rw [c, d]; exact hM _ _ (by ktu_offL) (by ktu_offL) (by ktu_offL) (by ktu_offL)
    | false => obtain ⟨_, _, c, d⟩ := on; rw [c, d]; exact hM _ _ (by ktu_offL) (by ktu_offL) (by ktu_offL) (by ktu_offL)
  have hm2 : IntMulOk wd hg := hM _ _ (by ktu_offL) (by ktu_offL) (by ktu_offL) (by ktu_offL)
  have hne3 : ∀ q ∈ secs, ∀ o ∈ q.objs w.params, o.1 ∉ [W, dW, ls] := fun q hq o ho hm => hne q hq o ho (subm hm (by walk_at "sub"))
  have GT := G
  obtain ⟨KX, T⟩ := G
  have KS := KX.keeps hG
  refine wpAny_call (code_start KX T hG hC4 (by k_is) (by k_is) (by k_room) (binds_K KS rfl (by k_is) rfl rfl rfl) (locs rfl) ?_ rfl rfl rfl (by decide))
  clear KS
  intro g L' h₁ hgg F N X' T' hlt
  have hGg : G₀.StaysIn g := by
    rw [hgg]
    exact stays_hideAll hG fun b hb => by obtain ⟨q, hq, rfl⟩ := List.mem_map.mp hb; exact (hC4 q hq).2
  have hgap : ∀ q ∈ secs, ∀ o ∈ q.objs w.params, g.get? o.1 = some o.2 ∧ G₀.get? o.1 = none := fun q hq o ho => by
    refine ⟨?_, (hCg q hq o ho).2⟩
    rw [hgg]
    refine hideAll_get _ (hCg q hq o ho).1 fun hm => ?_
    rw [List.map_append] at hm
    rcases List.mem_append.mp hm with hm | hm
    · exact hne q hq o ho hm
    · obtain ⟨p, hp, e⟩ := List.mem_map.mp hm
      exact hoff o (List.mem_append_right _ (List.mem_flatMap.mpr ⟨q, hq, ho⟩)) p hp e.symm
  have hltT : ∀ p ∈ tl ps cs frs, @LT.lt Nat _ p.1 L' := fun p hp => hlt p (List.mem_append_right _ hp)
  have hlt' : ∀ q ∈ [(W, instObj 480 dW), (dW, dictOf (wEs w.params k tw th lr sf ls) 8), (ls, listOf (refs secs).toArray n), (lr, listOf vs.toArray np)], q.1 < L' := fun q hq => hlt q (List.mem_append_left _ hq)
  have hC4' := hC4
  clear KX T hC hC4 hlt
  k_lt hlt'
  dsimp only [List.cons_append, List.nil_append] at N
  dsimp only
  (with_reducible show wpAny _ _ _ _ _ _)
  k_fold
  k_steps
  refine Halt.mk ?_
  (with_reducible rename News _ _ _ _ => N₁)
  (with_reducible rename Fr _ _ _ _ => F₁)
  have h4h : ∀ q ∈ [(W, instObj 480 dW), (dW, dictOf (wEs w.params k tw th lr sf ls) 8), (ls, listOf (refs secs).toArray n), (lr, listOf vs.toArray np)], _ = some q.2 := fun q hq => (N₁ q (List.mem_append_left (tl ps cs frs) hq)).1
  have n4 : ∀ q ∈ [(W, instObj 480 dW), (dW, dictOf (wEs w.params k tw th lr sf ls) 8), (ls, listOf (refs secs).toArray n), (lr, listOf vs.toArray np)], ∀ p ∈ tl ps cs frs, q.1 ≠ p.1 := fun q hq => hoff q (List.mem_append_left _ hq)
  have s34 : ∀ q ∈ [(W, instObj 480 dW), (dW, dictOf (wEs w.params k tw th lr sf ls) 8), (ls, listOf (refs secs).toArray n)], q ∈ [(W, instObj 480 dW), (dW, dictOf (wEs w.params k tw th lr sf ls) 8), (ls, listOf (refs secs).toArray n), (lr, listOf vs.toArray np)] := by walk_at "sub"
  obtain ⟨SH, SO⟩ := store_has (conc := [(W, instObj 480 dW), (dW, dictOf (wEs w.params k tw th lr sf ls) 8), (ls, listOf (refs secs).toArray n)]) (T := tl ps cs frs) F₁ (fun q hq => N₁ q (List.mem_append_left (tl ps cs frs) (s34 q hq))) hGg hgap (fun q hq p hp => hoff q (by
    rcases List.mem_append.mp hq with h | h
    · exact List.mem_append_left _ (s34 q h)
    · exact List.mem_append_right _ h) p hp)
  refine call_II (select_c GT CH W dW lr sf ls k tw th n secs wd hg t1 t2 hm1 hm2 hsz hne3) (lits := [(W, instObj 480 dW), (dW, dictOf (wEs w.params k tw th lr sf ls) 8), (ls, listOf (refs secs).toArray n), (lr, listOf vs.toArray np)]) F₁ N₁ (by show dp + 1 + 60 < recursionLimit; ktu_offL) (by show un + 3 + 600 < cLine; ktu_offL) hGg SH Xt Fs hA rfl (by intro e; cases e) SO (List.forall_mem_nil _) n4
    (fun v h₂ tk₂ gs₂ ps₂ cs₂ frs₂ F₂ N₂ hl₂ X₂ Fs₂ SU₂ A₂ hcs₂ hsub₂ hb₂ hp k₂ => ?_)
  obtain ⟨t, rfl, hts, hp⟩ := hp
  have htn := Heap.get?_none_of_le hts
  have htL : @LT.lt Nat _ L' t := Nat.lt_of_lt_of_le F₁.ns.lt hts
  have hcs₂' : ∀ q ∈ cs₂, q ∈ cs ∨ s.heap.get? q.1 = none := fun q hq => (hcs₂ q hq).imp (fun h => h) fun h => none_back hgg F₁.keep (fun q hq => (N₁ q hq).1) (fun a ha => ha) h
  have toff := new_off F₁ htn
  have N₀ : ∀ q ∈ [(W, instObj 480 dW), (dW, dictOf (wEs w.params k tw th lr sf ls) 8), (ls, listOf (refs secs).toArray n), (lr, listOf vs.toArray np)], h₂.get? q.1 = some q.2 ∧ q.1 ≠ L' ∧ g.get? q.1 = none := fun q hq => hl₂ q hq (fun h => nomatch h)
  have N₂' : ∀ q ∈ tl ps₂ cs₂ frs₂, h₂.get? q.1 = some q.2 ∧ q.1 ≠ L' ∧ g.get? q.1 = none := N₂
  have w3 : News g L' h₂ ([(W, instObj 480 dW), (dW, dictOf (wEs w.params k tw th lr sf ls) 8), (ls, listOf (refs secs).toArray n), (lr, listOf vs.toArray np)] ++ tl ps₂ cs₂ frs₂) := fun q hq => by
    rcases List.mem_append.mp hq with hq | hq
    · exact N₀ q hq
    · exact N₂ q hq
  dsimp only [List.cons_append, List.nil_append] at w3
  clear N₁ F₁ N₂ hl₂ k₂
  rcases hp with ⟨gp, nt, hmem, ht, hfit, hmin⟩ | ⟨nt, ht, hnone⟩
  · have N₃ := News.cons (q := (t, seqObj "tuple" #[.ref gp.a, .bool false] nt)) ⟨ht, toff⟩ w3
    have hgo := hgap gp hmem
    obtain ⟨g', hg', hGg', F₄, N₄⟩ := rebase F₂ N₃ hGg hgo
    have X₄ := GT.X.keeps hGg'
    have T₄ := GT.T.keeps hGg'
    have hgs : g.objs.size ≤ L' := F₂.above
    clear w3 F₂ N₃ X' T'
    k_steps
    refine Halt.mk ?_
    (with_reducible rename News _ _ _ _ => N₅)
    (with_reducible rename Fr _ _ _ _ => F₅)
    obtain ⟨j, hj⟩ := List.mem_iff_getElem?.mp hmem
    have og := hok gp hmem
    have hr := sep_erase hsep hj
    have m5 : ∀ o ∈ gp.objs w.params, _ := fun q hq => (N₅ q (subm hq (by walk_at "sub"))).1
    have Fb₅ := rebase_back (P := w.params) hg' hgs hgo F₅ m5
    have gne : ∀ q ∈ secs.eraseIdx j, (q.r.x ≠ gp.r.x ∨ q.r.y ≠ gp.r.y) ∧ q.a ≠ gp.a ∧ q.a ≠ gp.d ∧ q.d ≠ gp.a ∧ q.d ≠ gp.d := fun q hq => gap_ne (P := w.params) (h := g) (fun o ho => (hgap q (hr q hq).1 o ho).1) (fun o ho => (hgo o ho).1) (hok q (hr q hq).1) og (hr q hq).2
    refine rem_call (dp := dp + 1) (un := un + 3) GT (by ktu_offL) (by ktu_offL) hGg' hj (fun i q hi hq => ?_) (Nat.le_of_lt hsz) F₅ (N₅ (ls, listOf (refs secs).toArray n) (by walk_at "mem")).1 (fun q hq o ho => ⟨Fb₅.keep _ _ (hgap q hq o ho).1, (hgap q hq o ho).2⟩) (fun h₆ tk₆ k₆ hls₆ => ?_)
    · have := gne q (List.mem_eraseIdx_iff_getElem?.mpr ⟨i, by ktu_offL, hq⟩)
      exact ⟨this.2.1, this.1⟩
    obtain ⟨n₆, hls₆⟩ := hls₆
    have nls : ls ≠ L' ∧ g'.get? ls = none := (N₅ (ls, listOf (refs secs).toArray n) (by walk_at "mem")).2
    have F₆ : Fr g' L' h₆ _ := ⟨F₅.ns.at' fun o e => k₆ L' o nls.1.symm e, fun b o e => k₆ b o (get_ne e nls.2) (F₅.keep b o e), F₅.above⟩
    have tl4 : ∀ q ∈ [(W, instObj 480 dW), (dW, dictOf (wEs w.params k tw th lr sf ls) 8), (ls, listOf (refs secs).toArray n), (lr, listOf vs.toArray np)], ∀ p ∈ tl ps₂ cs₂ frs₂, q.1 ≠ p.1 := fun q hq p hp e => by
      rcases hb₂ p hp with ⟨p', hp', e'⟩ | hn
      · exact n4 q hq p' hp' (e.trans e')
      · have z := h4h q hq
        rw [e, hn] at z; cases z
    have gls : ∀ q ∈ [(gp.a, instObj 203 gp.d), (gp.d, dictOf (rcEs w.params gp.r) 5)], q.1 ∉ [W, dW, ls, lr] := fun q hq => hne gp hmem q hq
    have N₆ : News g' L' h₆ ((gp.a, instObj 203 gp.d) :: (gp.d, dictOf (rcEs w.params gp.r) 5) :: (t, seqObj "tuple" #[.ref gp.a, .bool false] nt) :: (W, instObj 480 dW) :: (dW, dictOf (wEs w.params k tw th lr sf ls) 8) :: (ls, listOf (refs (secs.eraseIdx j)).toArray n₆) :: (lr, listOf vs.toArray np) :: tl ps₂ cs₂ frs₂) := by
      have kp : ∀ q ∈ (gp.a, instObj 203 gp.d) :: (gp.d, dictOf (rcEs w.params gp.r) 5) :: (t, seqObj "tuple" #[.ref gp.a, .bool false] nt) :: (W, instObj 480 dW) :: (dW, dictOf (wEs w.params k tw th lr sf ls) 8) :: (lr, listOf vs.toArray np) :: tl ps₂ cs₂ frs₂, q.1 ≠ ls → h₆.get? q.1 = some q.2 ∧ q.1 ≠ L' ∧ g'.get? q.1 = none := fun q hq hn => by
        have z := N₅ q (subm hq (by walk_at "sub"))
        exact ⟨k₆ _ _ hn z.1, z.2⟩
      have ga4 := nmem4 (gls _ (.head _))
      have gd4 := nmem4 (gls _ (.tail _ (.head _)))
      exact News.cons (kp _ (.head _) ga4.2.2.1) (News.cons (kp _ (.tail _ (.head _)) gd4.2.2.1) (News.cons (kp _ (.tail _ (.tail _ (.head _))) (Nat.ne_of_gt (Nat.lt_trans hlt'.2.2.1 htL))) (News.cons (kp _ (.tail _ (.tail _ (.tail _ (.head _)))) h2) (News.cons (kp _ (.tail _ (.tail _ (.tail _ (.tail _ (.head _))))) h4) (News.cons ⟨hls₆, nls⟩
        (News.cons (kp _ (.tail _ (.tail _ (.tail _ (.tail _ (.tail _ (.head _)))))) (Ne.symm h6)) (fun q hq => kp q (.tail _ (.tail _ (.tail _ (.tail _ (.tail _ (.tail _ hq)))))) (fun e => tl4 (ls, listOf (refs secs).toArray n) (by walk_at "mem") q hq e.symm))))))))
    clear N₅ F₅ Fb₅ m5
    k_steps
    refine Halt.mk ?_
    (with_reducible rename News _ _ _ _ => N₇)
    (with_reducible rename Fr _ _ _ _ => F₇)
    (with_reducible rename Heap => h₇)
    have rg : ∀ q ∈ secs.eraseIdx j, ∀ o ∈ q.objs w.params, g'.get? o.1 = some o.2 ∧ G₀.get? o.1 = none := fun q hq o ho => by
      refine ⟨?_, (hgap q (hr q hq).1 o ho).2⟩
      rw [hg']
      refine hideAll_get _ (hgap q (hr q hq).1 o ho).1 fun hm => ?_
      have z := (gne q hq).2
      exact (List.forall_mem_cons.mpr ⟨fun m => (mem2 m).elim z.1 z.2.1, List.forall_mem_cons.mpr ⟨fun m => (mem2 m).elim z.2.2.1 z.2.2.2, List.forall_mem_nil _⟩⟩ : ∀ o ∈ Gp.objs w.params q, ¬ o.1 ∈ [gp.a, gp.d]) o ho hm
    have conc5 : ∀ q ∈ [(W, instObj 480 dW), (dW, dictOf (wEs w.params k tw th lr sf ls) 8), (ls, listOf (refs (secs.eraseIdx j)).toArray n₆), (gp.a, instObj 203 gp.d), (gp.d, dictOf (rcEs w.params gp.r) 5)], h₇.get? q.1 = some q.2 ∧ q.1 ≠ L' ∧ g'.get? q.1 = none := fun q hq => N₇ q (subm hq (by walk_at "sub"))
    have HS : Has G₀ h₇ ([(W, instObj 480 dW), (dW, dictOf (wEs w.params k tw th lr sf ls) 8), (ls, listOf (refs (secs.eraseIdx j)).toArray n₆), (gp.a, instObj 203 gp.d), (gp.d, dictOf (rcEs w.params gp.r) 5)] ++ (secs.eraseIdx j).flatMap (Gp.objs w.params)) := fun q hq => by
      rcases List.mem_append.mp hq with hq | hq
      · exact ⟨(conc5 q hq).1, off_base hGg' (conc5 q hq).2.2⟩
      · obtain ⟨p, hp, ho⟩ := List.mem_flatMap.mp hq
        exact ⟨F₇.keep _ _ (rg p hp q ho).1, (rg p hp q ho).2⟩
    have ga4 := gls _ (.head _)
    have gd4 := gls _ (.tail _ (.head _))
    have ga4 := nmem4 ga4
    have gd4 := nmem4 gd4
    have sub := List.eraseIdx_sublist secs j
    refine wpAny_out (split_any GT W dW lr sf ls k tw th n₆ (secs.eraseIdx j) gp up X Y B len M wd hg t1 t2 hdim og (fun q hq => hok q (hr q hq).1) hB hlen ((hfits gp hmem).mp hfit) hM hBM (hgM gp hmem) (hsep.sublist sub) (fun q hq => (hr q hq).2) (Nat.lt_of_le_of_lt sub.length_le hsz) h1 h2 h4 ga4.2.1 ga4.2.2.1 gd4.2.1 gd4.2.2.1 (fun q hq o ho hm => ?_)
      (dp + 1) _ _ (un + 3) _ _ (by ktu_offL) (by ktu_offL) (fun b o e => F₇.keep _ _ (hGg' b o e)) HS) (fun v h₈ tk₈ k₈ hp₈ => ?_)
    · have z := nmem4 (hne q (hr q hq).1 o ho)
      have z2 := (gne q hq).2
      have z3 := (List.forall_mem_cons.mpr ⟨⟨z2.1, z2.2.1⟩, List.forall_mem_cons.mpr ⟨⟨z2.2.2.1, z2.2.2.2⟩, List.forall_mem_nil _⟩⟩ : ∀ o ∈ Gp.objs w.params q, o.1 ≠ gp.a ∧ o.1 ≠ gp.d) o ho
      exact (mem5 hm).elim z.1 (Or.rec z.2.1 (Or.rec z.2.2.1 (Or.rec z3.1 z3.2)))
    dsimp only at k₈ hp₈
    obtain ⟨ls', n', secs', ex, rfl, e1, e2, e3, eex, est⟩ : SplitRes w.params up X Y B len k tw th lr sf ls dW (secs.eraseIdx j) gp h₇ v h₈ := by
      rcases hp₈ with ⟨a1, rfl, a2, a3⟩ | ⟨a1, rfl, a, d, z1, z2, z3, ls', n', r', t', z4, z5, z6, z7, z8, z9, z10⟩
      · exact ⟨ls, n₆, _, [], rfl, a2, .inl rfl, a3, fun _ h => (nomatch h), .inl ⟨a1, rfl⟩⟩
      · have hpe : pass (gp.st + len) (gp.ln - len) (secs.eraseIdx j) = (gp.st + len, gp.ln - len, secs.eraseIdx j) := (pass_eq ..).trans (gpass_apart _ _ _ _ _ (fun q hq => (hok q (hr q hq).1).2) (by ktu_offL) fun q hq => by
          rcases (hr q hq).2 with z | z
          · exact .inl (Int.lt_trans z (Int.lt_add_of_pos_right _ hlen))
          · exact .inr (by rw [show gp.st + len + (gp.ln - len) = gp.st + gp.ln by omega]; exact z))
        rw [hpe] at z6 z7
        exact ⟨ls', n', _, [(a, instObj 203 d), (d, dictOf (rcEs w.params r') 5)], rfl, z4, z5, z6, List.forall_mem_cons.mpr ⟨⟨z9, z1⟩, List.forall_mem_cons.mpr ⟨⟨z10, z2⟩, List.forall_mem_nil _⟩⟩, .inr ⟨a1, a, d, r', rfl, .head _, .tail _ (.head _), z3, z7⟩⟩
    have hdW := conc5 (dW, dictOf (wEs w.params k tw th lr sf ls) 8) (by walk_at "mem")
    have hls := conc5 (ls, listOf (refs (secs.eraseIdx j)).toArray n₆) (by walk_at "mem")
    have F₈ : Fr g' L' h₈ _ := k₈.fr F₇ (fun hm => (mem2 hm).elim (fun e => hdW.2.1 e.symm) (fun e => hls.2.1 e.symm)) (List.forall_mem_cons.mpr ⟨hdW.2.2, List.forall_mem_cons.mpr ⟨hls.2.2, List.forall_mem_nil _⟩⟩)
    have N₈ : News g' L' h₈ ((gp.a, instObj 203 gp.d) :: (gp.d, dictOf (rcEs w.params gp.r) 5) :: (t, seqObj "tuple" #[.ref gp.a, .bool false] nt) :: (W, instObj 480 dW) :: (dW, dictOf (wEs w.params k tw th lr sf ls') 8) :: (ls', listOf (refs secs').toArray n') :: (lr, listOf vs.toArray np) :: (ex ++ tl ps₂ cs₂ frs₂)) := by
      have kp : ∀ q ∈ (gp.a, instObj 203 gp.d) :: (gp.d, dictOf (rcEs w.params gp.r) 5) :: (t, seqObj "tuple" #[.ref gp.a, .bool false] nt) :: (W, instObj 480 dW) :: (lr, listOf vs.toArray np) :: tl ps₂ cs₂ frs₂, q.1 ≠ dW → q.1 ≠ ls → h₈.get? q.1 = some q.2 ∧ q.1 ≠ L' ∧ g'.get? q.1 = none := fun q hq hn hn' => by
        have z := N₇ q (subm hq (by walk_at "sub"))
        exact ⟨k₈ _ _ (fun hm => (mem2 hm).elim hn hn') z.1, z.2⟩
      exact News.cons (kp _ (.head _) ga4.2.1 ga4.2.2.1) (News.cons (kp _ (.tail _ (.head _)) gd4.2.1 gd4.2.2.1) (News.cons (kp _ (.tail _ (.tail _ (.head _))) (Nat.ne_of_gt (Nat.lt_trans hlt'.2.1 htL)) (Nat.ne_of_gt (Nat.lt_trans hlt'.2.2.1 htL))) (News.cons (kp _ (.tail _ (.tail _ (.tail _ (.head _)))) h1 h2) (News.cons ⟨e1, hdW.2⟩
        (News.cons ⟨e3, e2.elim (fun e => e ▸ hls.2) (fun e => new_off F₇ e)⟩ (News.cons (kp _ (.tail _ (.tail _ (.tail _ (.tail _ (.head _))))) (Ne.symm h5) (Ne.symm h6)) (fun q hq => (List.mem_append.mp hq).elim (fun hq => ⟨(eex q hq).1, new_off F₇ (eex q hq).2⟩)
          (fun hq => kp q (.tail _ (.tail _ (.tail _ (.tail _ (.tail _ hq))))) (fun e => tl4 (dW, dictOf (wEs w.params k tw th lr sf ls) 8) (by walk_at "mem") q hq e.symm) (fun e => tl4 (ls, listOf (refs secs).toArray n) (by walk_at "mem") q hq e.symm)))))))))
    have st₇ : ∀ {b : Addr}, h₇.get? b = none → s.heap.get? b = none := fun {b} hb => none_back hgg (rebase_back (P := w.params) hg' hgs hgo F₇ (fun o ho => (conc5 o (subm ho (by walk_at "sub"))).1)).keep (fun q hq => (N₇ q hq).1) (fun a ha => ?_) hb
    rotate_left
    · rw [List.map_append] at ha
      show a ∈ gp.a :: gp.d :: t :: W :: dW :: ls :: lr :: _
      rcases List.mem_append.mp ha with ha | ha
      · exact subm ha (by walk_at "sub")
      · rcases List.mem_cons.mp ha with h | ha
        · subst h; walk_at "mem"
        · obtain ⟨q, hq, rfl⟩ := List.mem_map.mp ha
          rcases List.mem_append.mp hq with hq | hq
          · exact .tail _ (.tail _ (.tail _ (.tail _ (.tail _ (.tail _ (.tail _ (List.mem_map_of_mem (f := (·.1)) (.tail _ (List.mem_append_left _ (hsub₂ q hq))))))))))
          · obtain ⟨sl, hm⟩ := SU₂.back q hq
            exact .tail _ (.tail _ (.tail _ (.tail _ (.tail _ (.tail _ (.tail _ (List.mem_map_of_mem (f := (·.1)) (.tail _ (List.mem_append_right cs₂ hm)))))))))
    have hlr₇ := (N₇ (lr, listOf vs.toArray np) (by walk_at "mem")).1
    clear N₇ F₇ hp₈
    k_steps
    refine Halt.mk ?_
    (with_reducible rename News _ _ _ _ => N₉)
    (with_reducible rename Fr _ _ _ _ => F₉)
    rename (@LT.lt Nat _ gp.a _ ∧ _) => l1
    have lall : ∀ q ∈ ex ++ tl ps₂ cs₂ frs₂, _ := allLt_mem l1.2.2.2.2.2.2.2
    have nx := N₉ _ (.head _)
    have nd := N₉ _ (.tail _ (.head _))
    dsimp only at nx nd
    have nlr := N₉ (lr, listOf vs.toArray np) (by walk_at "mem")
    have old : ∀ q ∈ (W, instObj 480 dW) :: (gp.a, instObj 203 gp.d) :: (gp.d, dictOf (rcEs w.params gp.r) 5) :: (dW, dictOf (wEs w.params k tw th lr sf ls') 8) :: (ls', listOf (refs secs').toArray n') :: (ex ++ tl ps₂ cs₂ frs₂), _ := fun q hq => N₉ q (subm hq (by walk_at "sub"))
    refine wpAny_list_append_plain (items := vs.toArray) ⟨np, nlr.1⟩ (fun h₁₀ hp₁₀ hs₁₀ => ?_) (by simp; ktu_offL)
    obtain ⟨np', hp₁₀⟩ := hp₁₀
    have lr8 : ∀ q ∈ (W, instObj 480 dW) :: (gp.a, instObj 203 gp.d) :: (gp.d, dictOf (rcEs w.params gp.r) 5) :: (dW, dictOf (wEs w.params k tw th lr sf ls') 8) :: (ls', listOf (refs secs').toArray n') :: (ex ++ tl ps₂ cs₂ frs₂), q.1 ≠ lr := by
      exact List.forall_mem_cons.mpr ⟨h3, List.forall_mem_cons.mpr ⟨ga4.2.2.2, List.forall_mem_cons.mpr ⟨gd4.2.2.2, List.forall_mem_cons.mpr ⟨h5, List.forall_mem_cons.mpr ⟨e2.elim (fun e => e ▸ h6) (fun e2 (e' : ls' = lr) => by rw [e', hlr₇] at e2; cases e2), fun q hq => (List.mem_append.mp hq).elim
        (fun hq e => by have z := (eex q hq).2; rw [e, hlr₇] at z; cases z) (fun hq e => tl4 (lr, listOf vs.toArray np) (by walk_at "mem") q hq e.symm)⟩⟩⟩⟩⟩
    have kx : ∀ b o, b ≠ lr → _ → h₁₀.get? b = some o := fun b o hb e => (hs₁₀.2 b hb).trans e
    have F₁₀ : Fr g' L' h₁₀ _ := ⟨F₉.ns.sameBut hs₁₀ (Ne.symm nlr.2.1), fun b o e => kx b o (get_ne e nlr.2.2) (F₉.keep b o e), F₉.above⟩
    have N₁₀ : News g' L' h₁₀ ((W, instObj 480 dW) :: (gp.a, instObj 203 gp.d) :: (gp.d, dictOf (rcEs w.params gp.r) 5) :: (dW, dictOf (wEs w.params k tw th lr sf ls') 8) :: (ls', listOf (refs secs').toArray n') :: (ex ++ tl ps₂ cs₂ frs₂)) := fun q hq => ⟨kx _ _ (lr8 q hq) (old q hq).1, (old q hq).2⟩
    have nx' := kx _ _ (fun e => by have e' : @Eq Nat _ _ := e; ktu_offL) nx.1
    have nd' := kx _ _ (fun e => by have e' : @Eq Nat _ _ := e; ktu_offL) nd.1
    clear N₉ F₉
    k_steps
    show OutII s [dW, ls, lr] cs frs (AddPost w.params up X Y B len k tw th lr sf ls dW secs vs n np (.int ri t3) s.heap) (.ref _) _
    have hsz0 : @LE.le Nat _ s.heap.objs.size L' := by
      have z := hgs
      rw [hgg, hideAll_size] at z
      exact z
    have Fb := rebase_back (P := w.params) hg' hgs hgo F₁₀ (fun o ho => (N₁₀ o (subm ho (by walk_at "sub"))).1)
    have on : ∀ kk, On up X Y B gp.st len ⟨gp.r.x, gp.r.y, wd, hg, gp.r.tx, gp.r.ty, t1, t2, .int ri t3, kk⟩ := fun kk => on_dim og.1 hdim
    refine fin_II (led := _ :: _ :: _ :: _ :: _ :: (ex ++ tl ps₂ cs₂ frs₂)) (ps' := ps₂) (cs' := cs₂) (frs' := frs₂) hgg hC4' Fb (fun q hq => (N₁₀ q hq).1) (fun q hq => ?_) (fun q hq => ?_) A₂ X₂ SU₂ hsub₂ hcs₂'
      (.inr ⟨j, gp, _, _, ⟨gp.r.x, gp.r.y, wd, hg, gp.r.tx, gp.r.ty, t1, t2, .int ri t3, k5 _ _ _ _ _⟩, ls', n', np', secs', hj, (hfits gp hmem).mp hfit, fun q hq hl => ?_, rfl, Heap.get?_none_of_le ?_, Heap.get?_none_of_le ?_, ?_, nx', nd', on _, rfl, ?_, (N₁₀ (dW, _) (by walk_at "mem")).1, e2.imp (fun h => h) st₇, (N₁₀ (ls', _) (by walk_at "mem")).1, ?_⟩)
    · (revert q; walk_at "oi")
    · exact .tail _ (.tail _ (.tail _ (.tail _ (.tail _ (List.mem_append_right _ hq)))))
    · have z := hmin q hq ((hfits q hq).mpr hl)
      rw [harea gp hmem, harea q hq] at z
      exact Int.le_of_mul_le_mul_left z hB
    · ktu_offL
    · ktu_offL
    · ktu_offL
    · rw [hp₁₀]; simp
    · rcases est with h | ⟨z0, a, d, r', z1, z2, z3, z4, z5⟩
      · exact .inl h
      · have la := lall _ (List.mem_append_left _ z2)
        have ld := lall _ (List.mem_append_left _ z3)
        have neN : ∀ {x y : Nat}, x < y → x ≠ y := Nat.ne_of_lt
        refine .inr ⟨z0, a, d, r', z1, st₇ (eex _ z2).2, st₇ (eex _ z3).2, z4, (N₁₀ _ (List.mem_append_right [_, _, _, _, _] (List.mem_append_left _ z2))).1, (N₁₀ _ (List.mem_append_right [_, _, _, _, _] (List.mem_append_left _ z3))).1, z5, ?_, ?_, ?_, ?_⟩
        · exact neN (Nat.lt_trans la (by assumption))
        · exact neN la
        · exact neN (Nat.lt_trans ld (by assumption))
        · exact neN ld
  · have N₃ := News.cons (q := (t, seqObj "tuple" #[.none, .none] nt)) ⟨ht, toff⟩ w3
    clear w3
    k_steps
    (with_reducible rename News _ _ _ _ => N₁₃)
    (with_reducible rename Fr _ _ _ _ => F₁₃)
    show OutII s [dW, ls, lr] cs frs (AddPost w.params up X Y B len k tw th lr sf ls dW secs vs n np (.int ri t3) s.heap) .none _
    refine fin_II (ps' := ps₂) (cs' := cs₂) (frs' := frs₂) hgg hC4' F₁₃ (fun q hq => (N₁₃ q hq).1) (fun q hq => .inr ?_) (fun q hq => ?_) A₂ X₂ SU₂ hsub₂ hcs₂' (.inl ⟨rfl, fun q hq => ?_, (N₁₃ (dW, dictOf (wEs w.params k tw th lr sf ls) 8) (by walk_at "mem")).1, (N₁₃ (ls, listOf (refs secs).toArray n) (by walk_at "mem")).1, (N₁₃ (lr, listOf vs.toArray np) (by walk_at "mem")).1⟩)
    · (revert q; walk_at "sub")
    · first | exact .tail _ (hq) | exact .tail _ (.tail _ (hq)) | exact .tail _ (.tail _ (.tail _ (hq))) | exact .tail _ (.tail _ (.tail _ (.tail _ (hq)))) | exact .tail _ (.tail _ (.tail _ (.tail _ (.tail _ (hq))))) | exact .tail _ (.tail _ (.tail _ (.tail _ (.tail _ (.tail _ (hq)))))) | exact .tail _ (.tail _ (.tail _ (.tail _ (.tail _ (.tail _ (.tail _ (hq))))))) | exact .tail _ (.tail _ (.tail _ (.tail _ (.tail _ (.tail _ (.tail _ (.tail _ (hq)))))))) | exact List.mem_append_right _ hq | exact .tail _ (List.mem_append_right _ hq) | exact .tail _ (.tail _ (List.mem_append_right _ hq)) | exact .tail _ (.tail _ (.tail _ (List.mem_append_right _ hq))) | exact .tail _ (.tail _ (.tail _ (.tail _ (List.mem_append_right _ hq)))) | exact .tail _ (.tail _ (.tail _ (.tail _ (.tail _ (List.mem_append_right _ hq))))) | exact .tail _ (.tail _ (.tail _ (.tail _ (.tail _ (.tail _ (List.mem_append_right _ hq)))))) | exact .tail _ (.tail _ (.tail _ (.tail _ (.tail _ (.tail _ (.tail _ (List.mem_append_right _ hq))))))) | exact .tail _ (.tail _ (.tail _ (.tail _ (.tail _ (.tail _ (.tail _ (.tail _ (List.mem_append_right _ hq))))))))
    · have := hnone q hq
      rw [hfits q hq] at this
      exact Int.not_le.mp this
end
end Mine

namespace Mine
open PyProof.Rows.TI (Frs SameUp gone)
section
variable {w : World} {mean : ExcName → Option Value} {mg mb : Str → Option Value} {loose : List Str} {G₀ : Heap}
/-- what the law is told of a length -/
noncomputable def Told (B len : Int) (lens : List Int) (v : Value) : Prop :=
  (∃ m t, m ∈ lens ∧ len ≤ m ∧ (∀ q ∈ lens, len ≤ q → m ≤ q) ∧ v = .int (B * (m - len)) t) ∨ (v = .none ∧ ∀ q ∈ lens, q < len)
theorem told_of {up : Bool} {X Y B len wd hg : Int} {secs : List Gp} {v : Value} (hok : ∀ q ∈ secs, q.ok up X Y B) (hB : 0 < B) (hdim : Dim up B len wd hg) (h : FnV secs wd hg v) : Told B len (secs.map Gp.ln) v := by
  have hfits : ∀ q ∈ secs, Fits wd hg q ↔ len ≤ q.ln := fun q hq => by
    obtain ⟨on, _⟩ := hok q hq
    unfold Fits
    cases up with
    | true => obtain ⟨_, _, c, d⟩ := on; obtain ⟨rfl, rfl⟩ := hdim; rw [c, d]; exact fitA
    | false => obtain ⟨_, _, c, d⟩ := on; obtain ⟨rfl, rfl⟩ := hdim; rw [c, d]; exact fitB
  have harea : ∀ q ∈ secs, q.r.w * q.r.h = B * q.ln := fun q hq => by
    obtain ⟨on, _⟩ := hok q hq
    cases up with
    | true => obtain ⟨_, _, c, d⟩ := on; rw [c, d]
    | false => obtain ⟨_, _, c, d⟩ := on; rw [c, d, Int.mul_comm]
  have hwh : wd * hg = B * len := by
    cases up with
    | true => obtain ⟨rfl, rfl⟩ := hdim; rfl
    | false => obtain ⟨rfl, rfl⟩ := hdim; exact Int.mul_comm _ _
  rcases h with ⟨g, t, hg', rfl, hf, hmin⟩ | ⟨rfl, hno⟩
  · refine .inl ⟨g.ln, t, List.mem_map_of_mem hg', (hfits g hg').mp hf, fun q hq hl => ?_, ?_⟩
    · obtain ⟨p, hp, rfl⟩ := List.mem_map.mp hq
      have z := hmin p hp ((hfits p hp).mpr hl)
      rw [harea g hg', harea p hp] at z
      exact Int.le_of_mul_le_mul_left z hB
    · rw [harea g hg', hwh, Int.mul_sub]
  · refine .inr ⟨rfl, fun q hq => ?_⟩
    obtain ⟨p, hp, rfl⟩ := List.mem_map.mp hq
    have z := hno p hp
    rw [hfits p hp] at z
    exact Int.not_le.mp z
theorem told_c (G : Gnd w mean mg mb loose G₀) (CH : CodeHd G₀ 364 360) (W dW lr sf ls : Addr) (k : Nat → Tok) (tw th : Tok) (n : Nat) (secs : List Gp) (up : Bool) (X Y B len M : Int) (tb tl' : Tok)
    (hok : ∀ q ∈ secs, q.ok up X Y B) (hB : 0 < B) (hlen : 0 < len) (hM : Mul M) (hBM : B ≤ M) (hlM : len ≤ M) (hgM : ∀ q ∈ secs, q.ln ≤ M) (hsz : secs.length < sizeLine)
    (hne : ∀ q ∈ secs, ∀ o ∈ q.objs w.params, o.1 ∉ [W, dW, ls]) :
    CII w G₀ 80 800 496 [.ref W, .bool up, .int B tb, .int len tl'] ([(W, instObj 480 dW), (dW, dictOf (wEs w.params k tw th lr sf ls) 8), (ls, listOf (refs secs).toArray n)] ++ secs.flatMap (Gp.objs w.params)) [] (fun _ v _ => Told B len (secs.map Gp.ln) v) := by
  have zS0 : Mine.StopAt 380 := ⟨trivial⟩
  intro dp l gd un s E ps cs frs hd hu hG hC Xt Fs hoff hA
  have hC3 : Has G₀ s.heap ([(W, instObj 480 dW), (dW, dictOf (wEs w.params k tw th lr sf ls) 8), (ls, listOf (refs secs).toArray n)] ++ tl ps cs frs) := fun q hq => hC q (by
    rcases List.mem_append.mp hq with h | h
    · exact List.mem_append_left _ (List.mem_append_left _ h)
    · exact List.mem_append_right _ h)
  have hCg : ∀ q ∈ secs, ∀ o ∈ q.objs w.params, s.heap.get? o.1 = some o.2 ∧ G₀.get? o.1 = none := fun q hq o ho => hC o (List.mem_append_left _ (List.mem_append_right _ (List.mem_flatMap.mpr ⟨q, hq, ho⟩)))
  have hm1 : ∀ q ∈ secs, IntMulOk q.r.w q.r.h := fun q hq => by
    obtain ⟨on, hl⟩ := hok q hq
    have := hgM q hq
    cases up with
    | true => obtain ⟨_, _, c, d⟩ := on; rw [c, d]; exact hM _ _ (by ktu_offL) (by ktu_offL) (by ktu_offL) (by ktu_offL)
    | false => obtain ⟨_, _, c, d⟩ := on; rw [c, d]; exact hM _ _ (by ktu_offL) (by ktu_offL) (by ktu_offL) (by ktu_offL)
  have GT := G
  obtain ⟨KX, T⟩ := G
  refine wpAny_call (code_start KX T hG hC3 (by k_is) (by k_is) (by k_room) (BindsTo.of_eq rfl) (locs rfl) ?_ rfl rfl rfl (by decide))
  intro g L' h₁ hgg F N X' T' hlt
  have hGg : G₀.StaysIn g := by
    rw [hgg]
    exact stays_hideAll hG fun b hb => by obtain ⟨q, hq, rfl⟩ := List.mem_map.mp hb; exact (hC3 q hq).2
  have hgap : ∀ q ∈ secs, ∀ o ∈ q.objs w.params, g.get? o.1 = some o.2 ∧ G₀.get? o.1 = none := fun q hq o ho => by
    refine ⟨?_, (hCg q hq o ho).2⟩
    rw [hgg]
    refine hideAll_get _ (hCg q hq o ho).1 fun hm => ?_
    rw [List.map_append] at hm
    rcases List.mem_append.mp hm with hm | hm
    · exact hne q hq o ho hm
    · obtain ⟨p, hp, e⟩ := List.mem_map.mp hm
      exact hoff o (List.mem_append_right _ (List.mem_flatMap.mpr ⟨q, hq, ho⟩)) p hp e.symm
  have hC3' := hC3
  clear KX T hC hC3 hlt
  dsimp only [List.cons_append, List.nil_append] at N
  have n3 : ∀ q ∈ [(W, instObj 480 dW), (dW, dictOf (wEs w.params k tw th lr sf ls) 8), (ls, listOf (refs secs).toArray n)], ∀ p ∈ tl ps cs frs, q.1 ≠ p.1 := fun q hq => hoff q (List.mem_append_left _ hq)
  cases up
  all_goals (
    dsimp only
    (with_reducible show wpAny _ _ _ _ _ _)
    k_fold
    k_steps
    refine Halt.mk ?_
    (with_reducible rename News _ _ _ _ => N₁)
    (with_reducible rename Fr _ _ _ _ => F₁)
    obtain ⟨SH, SO⟩ := store_has (conc := [(W, instObj 480 dW), (dW, dictOf (wEs w.params k tw th lr sf ls) 8), (ls, listOf (refs secs).toArray n)]) F₁ (fun q hq => N₁ q (List.mem_append_left (tl ps cs frs) hq)) hGg hgap hoff
    refine call_II (fitness_c GT CH W dW lr sf ls k tw th n secs _ _ _ _ hm1 (hM _ _ (by ktu_offL) (by ktu_offL) (by ktu_offL) (by ktu_offL)) hsz (by assumption) (by assumption) hne) (lits := [(W, instObj 480 dW), (dW, dictOf (wEs w.params k tw th lr sf ls) 8), (ls, listOf (refs secs).toArray n)]) F₁ N₁ (by show dp + 1 + 70 < recursionLimit; ktu_offL) (by show un + 3 + 700 < cLine; ktu_offL) hGg SH Xt Fs hA rfl (by intro e; cases e) SO (List.forall_mem_nil _) n3
      (fun v h₂ tk₂ gs₂ ps₂ cs₂ frs₂ F₂ N₂ hl₂ X₂ Fs₂ SU₂ A₂ hcs₂ hsub₂ hb₂ hp k₂ => ?_)
    have hcs₂' : ∀ q ∈ cs₂, q ∈ cs ∨ s.heap.get? q.1 = none := fun q hq => (hcs₂ q hq).imp (fun h => h) fun h => none_back hgg F₁.keep (fun q hq => (N₁ q hq).1) (fun a ha => ha) h
    show OutII s [] cs frs (fun v _ => Told B len (secs.map Gp.ln) v) v _
    refine sel_fin (ps' := ps₂) (cs' := cs₂) (frs' := frs₂) (led := [(W, instObj 480 dW), (dW, dictOf (wEs w.params k tw th lr sf ls) 8), (ls, listOf (refs secs).toArray n)] ++ tl ps₂ cs₂ frs₂) hgg hC3' F₂ (fun q hq => ?_) (fun q hq => List.mem_append_left _ hq) (fun q hq => List.mem_append_right _ hq) A₂ X₂ SU₂ hsub₂ hcs₂' (told_of hok hB ?_ hp)
    · rcases List.mem_append.mp hq with hq | hq
      · exact hl₂ q hq (fun h => nomatch h)
      · exact N₂ q hq
    · exact ⟨rfl, rfl⟩)
end
end Mine

namespace Mine
open Builtin
section
/-- every leaf of a decision tree, and every question within the bound -/
noncomputable def Lv {α : Type} (n : Nat) (P : α → Prop) : KasT α → Prop
  | .ret a => P a
  | .ask i j k => i < n ∧ j < n ∧ ∀ b, Lv n P (k b)
theorem Lv.bind {α β : Type} {n : Nat} {P : α → Prop} {Q : β → Prop} {f : α → KasT β} (hf : ∀ a, P a → Lv n Q (f a)) : ∀ {t : KasT α}, Lv n P t → Lv n Q (t.bind f)
  | .ret _, h => hf _ h
  | .ask _ _ _, h => ⟨h.1, h.2.1, fun b => Lv.bind hf (h.2.2 b)⟩
theorem Lv.run {α : Type} {n : Nat} {P : α → Prop} {cmp : Nat → Nat → (Bool → Shared → Prop) → Shared → Prop} {I : Shared → Prop} {Q : α → Shared → Prop}
    (hc : ∀ i j s C, i < n → j < n → I s → (∀ b s', I s' → C b s') → cmp i j C s) (hQ : ∀ a s, P a → I s → Q a s) : ∀ {t : KasT α} {s : Shared}, Lv n P t → I s → t.kasWp cmp Q s
  | .ret _, s, h, hi => hQ _ s h hi
  | .ask i j k, s, h, hi => hc i j s _ h.1 h.2.1 hi fun b s' hi' => Lv.run hc hQ (h.2.2 b) hi'
noncomputable def PermR (n : Nat) (p : Array Nat) : Prop := p.toList.Perm (List.range n)
theorem PermR.size {n : Nat} {p : Array Nat} (h : PermR n p) : p.size = n := by
  have := h.length_eq
  simpa using this
theorem PermR.lt {n : Nat} {p : Array Nat} (h : PermR n p) (hn : 0 < n) (i : Nat) : p.getD i 0 < n := by
  by_cases hi : i < p.size
  · have hm : p[i] ∈ p.toList := by simp
    have := List.mem_range.mp (h.mem_iff.mp hm)
    simpa [Array.getD, hi] using this
  · simpa [Array.getD, hi] using hn
theorem PermR.rev {n : Nat} {p : Array Nat} (h : PermR n p) (i j : Nat) : PermR n (kas_rev p i j) := ((Array.perm_iff_toList_perm.mp (mirror_perm p i j _))).trans h
theorem PermR.bub {n : Nat} {p : Array Nat} (h : PermR n p) (i j : Nat) : PermR n (bubble p i j) := ((Array.perm_iff_toList_perm.mp (bubble_perm p i j))).trans h
theorem lv_asc {n : Nat} {p : Array Nat} (h : PermR n p) (hn : 0 < n) : ∀ (f m : Nat), Lv n (fun _ => True) (kas_asc p f m)
  | 0, _ => trivial
  | f + 1, m => ⟨h.lt hn _, h.lt hn _, fun b => by
    try dsimp only
    split
    · trivial
    · exact lv_asc h hn f (m + 1)⟩
theorem lv_desc {n : Nat} (hn : 0 < n) : ∀ (f : Nat) (p : Array Nat) (m q : Nat), PermR n p → Lv n (fun r => PermR n r.1) (kas_desc f p m q)
  | 0, _, _, _, h => h
  | f + 1, p, m, q, h => ⟨h.lt hn _, h.lt hn _, fun b => by
    try dsimp only
    split
    · split
      · exact lv_desc hn f _ _ _ (h.rev _ _)
      · exact lv_desc hn f _ _ _ h
    · exact ⟨h.lt hn _, h.lt hn _, fun c => by
        try dsimp only
        split
        · exact h
        · exact lv_desc hn f _ _ _ h⟩⟩
theorem lv_tail3 {n : Nat} (hn : 0 < n) {p : Array Nat} (h : PermR n p) (m k : Nat) : Lv n (fun r => PermR n r.2) (kas_tail3 m k p) := by
  unfold kas_tail3
  refine Lv.bind (P := fun _ => True) ?_ (lv_asc (h.rev _ _) hn _ _)
  intro m' _
  show PermR n (kas_rev p 0 m)
  exact h.rev _ _
theorem lv_descPart {n : Nat} (hn : 0 < n) {p : Array Nat} (h : PermR n p) (m k : Nat) : Lv n (fun r => PermR n r.2) (kas_descPart m k p) := by
  unfold kas_descPart
  exact Lv.bind (P := fun r => PermR n r.1) (fun r hr => by
    try dsimp only
    split
    · exact lv_tail3 hn (hr.rev _ _) _ _
    · exact lv_tail3 hn hr _ _) (lv_desc hn _ _ _ _ h)
theorem lv_count {n : Nat} (hn : 0 < n) {p : Array Nat} (h : PermR n p) (k : Nat) : Lv n (fun r => PermR n r.2) (kas_count k p) := by
  unfold kas_count
  exact Lv.bind (P := fun _ => True) (fun m _ => by
    try dsimp only
    split
    · exact h
    · split
      · exact ⟨h.lt hn _, h.lt hn _, fun b => by
          try dsimp only
          split
          · exact h
          · exact lv_descPart hn (h.rev _ _) _ _⟩
      · exact lv_descPart hn h _ _) (lv_asc h hn _ _)
theorem lv_place {n : Nat} {p : Array Nat} (h : PermR n p) (hn : 0 < n) (k : Nat) : ∀ (f l r : Nat), Lv n (fun _ => True) (kas_place p k f l r)
  | 0, _, _ => trivial
  | f + 1, l, r => by
    unfold kas_place
    split
    · trivial
    · exact ⟨h.lt hn _, h.lt hn _, fun b => by
        try dsimp only
        split
        · exact lv_place h hn k f _ _
        · exact lv_place h hn k f _ _⟩
theorem lv_bin {n : Nat} (hn : 0 < n) : ∀ (f : Nat) (p : Array Nat) (k : Nat), PermR n p → Lv n (PermR n) (kas_bin f p k)
  | 0, _, _, h => h
  | f + 1, p, k, h => Lv.bind (fun l _ => lv_bin hn f _ _ (h.bub _ _)) (lv_place h hn k _ _ _)
theorem lv_sort {n : Nat} (hn : 0 < n) : Lv n (PermR n) (kas_sort n) := by
  unfold kas_sort
  exact Lv.bind (P := fun r => PermR n r.2) (fun r hr => by
    try dsimp only
    split
    · exact lv_bin hn _ _ _ hr
    · exact hr) (lv_count hn (by unfold PermR; simp) n)
end
/-- a pair of whole numbers that stands as a tuple -/
structure Pr where
  a : Addr
  x : Int
  y : Int
  tx : Tok
  ty : Tok
  n : Nat
noncomputable def Pr.obj (p : Pr) : Addr × Obj := (p.a, seqObj "tuple" #[.int p.x p.tx, .int p.y p.ty] p.n)
noncomputable abbrev prs (ps : List Pr) : List Value := ps.map fun p => .ref p.a
theorem perm_pick {α : Type} {vs : List α} {d : α} {p : List Nat} (h : p.Perm (List.range vs.length)) : (p.map fun i => vs.getD i d).Perm vs := by
  have h1 := h.map fun i => vs.getD i d
  have e : (List.range vs.length).map (fun i => vs.getD i d) = vs := by
    apply List.ext_getElem
    · simp
    · intro i h1 h2
      simp at h1
      simp [h1]
  rwa [e] at h1
section
variable {w : World}
theorem tups_of {h : Heap} : ∀ {vs : List Pr}, (∀ p ∈ vs, h.get? p.a = some p.obj.2) → KatTups h (prs vs) (vs.map fun p => .int p.x p.tx)
  | [], _ => trivial
  | p :: _, hm => ⟨⟨p.a, _, _, _, rfl, hm p (.head _), rfl, rfl, rfl⟩, tups_of fun q hq => hm q (.tail _ hq)⟩
theorem lt_pairs {A : Around} {s : Shared} {C : Bool → Shared → Prop} {p q : Pr} {b : Bool} (hb : b = true) (hp : s.heap.get? p.a = some p.obj.2) (hq : s.heap.get? q.a = some q.obj.2) (hu : A.units < cLine) (h : ∀ c, C c s) :
    wpAny (model PR w) A (keyLt' (tuples' b) (.ref p.a) (.ref q.a)) C (fun _ _ => False) s := by
  subst hb
  refine kat_lt hp rfl hq rfl ?_
  refine kat_cons (wpAny_eqBool_int ?_)
  refine kat_go (fun _ => kat_yes ?_) (fun _ => kat_no ?_)
  · refine kat_cons (wpAny_eqBool_int ?_)
    refine kat_go (fun _ => kat_yes ?_) (fun _ => kat_no ?_)
    · exact kat_nil (h _)
    · refine kat_one _ _ (wpAny_lt_int ?_)
      exact h _
  · exact oneLt_int (h _)
theorem sort_few {A : Around} {s : Shared} {E : Value → Shared → Prop} {P : PySem.Fin → Shared → Prop} {a : Addr} {xs : Array Value} {n : Nat} (h2 : xs.size < 2) (ho : s.heap.get? a = some (seqObj "list" xs n))
    (h : ∀ h' n', (∀ b o, b ≠ a → s.heap.get? b = some o → h'.get? b = some o) → h'.get? a = some (seqObj "list" xs n') → P (.done (.ret .none)) { s with heap := h' }) :
    wpAny (model PR w) A (Builtin.«list.sort» ⟨[.ref a], []⟩) P E s := by
  have hz : xs.size ≤ sizeLine := by rw [sizeLine_eq]; ktu_offL
  obtain ⟨e1, ho1⟩ : ∃ e1, (s.heap.update a (Obj.mapSeq fun _ => (#[] : Array Value))).get? a = some (seqObj "list" #[] e1) := ⟨_, get?_update_seq ho fun _ => #[]⟩
  have ho2 : (((s.heap.update a (Obj.mapSeq fun _ => (#[] : Array Value))).push (seqObj "tuple" xs 0)).push (seqObj "list" #[] 0)).get? a = some (seqObj "list" #[] e1) := Heap.get?_push_of_some _ (Heap.get?_push_of_some _ ho1)
  rw [list_sort_plain]
  refine wpAny_bind (listItems_at ho rfl ?_)
  refine wpAny_bind (listUpdate_at ho rfl ?_ hz (Nat.zero_le _))
  refine wpAny_bind (seqEpoch_at ho1 rfl ?_)
  refine wpAny_bind (wpAny_newTuple ?_ (by simpa using hz))
  refine wpAny_bind (wpAny_newList ?_ (Nat.zero_le _))
  refine wpAny_holding ?_
  rw [if_pos h2, if_pos h2]
  refine wpAny_bind (wpAny_pure ?_)
  refine wpAny_bind (wpAny_pure ?_)
  have hout : (arrOf (SortSt.mk' general' (xs.zip xs) #[] 7 none)).map (·.2) = xs := by
    show (xs.zip xs).map (·.2) = xs
    apply Array.ext
    · simp
    · intro i h1 h2
      simp
  dsimp only
  rw [hout]
  refine wpAny_bind (seqEpoch_at ho2 rfl ?_)
  refine wpAny_bind (listUpdate_at ho2 rfl ?_ (Nat.zero_le _) (Nat.le_succ_of_le hz))
  rw [if_neg (by walk_at "sm")]
  refine wpAny_pure ?_
  refine h _ _ (fun b o hb e => ?_) (get?_update_seq ho2 fun _ => xs)
  exact (Heap.get?_update_other _ _ (Ne.symm hb)).trans (Heap.get?_push_of_some _ (Heap.get?_push_of_some _ ((Heap.get?_update_other _ _ (Ne.symm hb)).trans e)))
theorem sorted_pairs {A : Around} {s : Shared} {E Q : Value → Shared → Prop} {g : Heap} {L l : Addr} {m : Str → Option Value} {news : List (Addr × Obj)} {vs : List Pr} (F : Fr g L s.heap m) (N : News g L s.heap news) (hl : s.heap.IsList l (prs vs).toArray) (hm : ∀ p ∈ vs, p.obj ∈ news) (h64 : vs.length < 64) (hu : A.units + 10 < cLine)
    (hQ : ∀ D vs' n h' tk, vs'.Perm vs → Fr g L h' m → News g L h' ((D, seqObj "list" (prs vs').toArray n) :: news) → (∀ q ∈ news, @LT.lt Nat _ q.1 D) → Q (.ref D) { s with heap := h', toks := tk }) :
    wpAny (model PR w) A (call (.builtin "sorted") [.ref l]) Q E s := by
  by_cases h2 : 2 ≤ vs.length
  · refine kat_sorted F N hl (by simpa using h2) (by simpa using h64) fun D e1 h' F' N' hlt => ?_
    have hm' : ∀ p ∈ vs, h'.get? p.a = some p.obj.2 := fun p hp => (N' p.obj (.tail _ (hm p hp))).1
    refine kat_kind (T := .type "int") (tups_of hm') (by simp; ktu_offL) (fun v hv => ?_) (by decide) ?_
    · obtain ⟨p, hp, rfl⟩ := List.mem_map.mp hv
      exact .now
    · refine Lv.run (n := (prs vs).length) (P := PermR (prs vs).length) (I := fun s' => s' = { s with heap := h' }) (fun i j s' C hi hj hI hC => ?_) (fun p s' hp hI => ?_) (lv_sort (by simp; ktu_offL)) rfl
      · subst hI
        have hi' : i < vs.length := by simpa using hi
        have hj' : j < vs.length := by simpa using hj
        unfold kas_ask
        have ei : (prs vs).getD i Value.none = .ref vs[i].a := by simp [hi']
        have ej : (prs vs).getD j Value.none = .ref vs[j].a := by simp [hj']
        rw [ei, ej]
        exact lt_pairs (by decide) (hm' _ (List.getElem_mem hi')) (hm' _ (List.getElem_mem hj')) (by show A.units + 1 + 1 < cLine; ktu_offL) fun c => hC c _ rfl
      · subst hI
        refine KasFin.intro F' N' (UpdF.head fun q hq => Nat.ne_of_lt (hlt q hq)) fun h'' c F'' N'' => ?_
        have hp' : p.toList.Perm (List.range vs.length) := by simpa [PermR] using hp
        have e : (p.toList.map fun i => (prs vs).getD i Value.none) = prs (p.toList.map fun i => vs.getD i (vs[0]'(by ktu_offL))) := by
          unfold prs
          rw [List.map_map]
          refine List.map_congr_left fun i hi => ?_
          have := List.mem_range.mp (hp'.mem_iff.mp hi)
          simp [this]
        rw [e] at N''
        exact hQ D _ c h'' _ (perm_pick hp') F'' N'' hlt
  · refine Calls.call_function_entry kind_sorted plain_sorted entry_sorted (args_sorted1 _) ?_
    unfold Builtin.«sorted»
    refine wpAny_bind (m := checkCount "sorted" 1 1 _) (wpAny_pure ?_)
    refine wpAny_bind (collect_list hl ?_ (by rw [sizeLine_eq]; simp; ktu_offL))
    refine wpAny_bind (wpAny_newList ?_ (by rw [sizeLine_eq]; simp; ktu_offL))
    have hsz : ((s.heap.push (seqObj "list" #[] 0)).update s.heap.objs.size (Obj.mapSeq (· ++ (prs vs).toArray))).objs.size = s.heap.objs.size + 1 := by
      rw [Heap.size_update, size_push']
    have old : ∀ b o, s.heap.get? b = some o → (((s.heap.push (seqObj "list" #[] 0)).update s.heap.objs.size (Obj.mapSeq (· ++ (prs vs).toArray))).push (seqObj "list" (prs vs).toArray 0)).get? b = some o := fun b o e =>
      Heap.get?_push_of_some _ ((Heap.get?_update_other _ _ (Ne.symm (Nat.ne_of_lt (Heap.lt_size e)))).trans (Heap.get?_push_of_some _ e))
    have new : (((s.heap.push (seqObj "list" #[] 0)).update s.heap.objs.size (Obj.mapSeq (· ++ (prs vs).toArray))).push (seqObj "list" (prs vs).toArray 0)).get? (s.heap.objs.size + 1) = some (seqObj "list" (prs vs).toArray 0) := by
      rw [← hsz]; exact Heap.get?_push_size _ rfl
    have hLs : L < s.heap.objs.size := F.ns.lt
    have dL : s.heap.objs.size + 1 ≠ L := Nat.ne_of_gt (Nat.lt_succ_of_lt hLs)
    have d0 : g.get? (s.heap.objs.size + 1) = none := Heap.get?_none_of_le (Nat.le_trans F.above (Nat.le_succ_of_le (Nat.le_of_lt hLs)))
    have dN : ∀ q ∈ news, q.1 < s.heap.objs.size := fun q hq => Heap.lt_size (N q hq).1
    generalize hH : ((s.heap.push (seqObj "list" #[] 0)).update s.heap.objs.size (Obj.mapSeq (· ++ (prs vs).toArray))) = H at *
    show wpAny _ _ _ _ _ { s with heap := H.push (seqObj "list" (prs vs).toArray 0) }
    dsimp only
    rw [hsz]
    refine wpAny_bind (wpAny_holding (wpAny_call_entry slot_list_sort ⟨_, new, rfl⟩ entry_list_sort ?body (args_list_sort _)))
    case body =>
      refine sort_few (by simp; ktu_offL) new fun h' n' kp hn' => ?_
      refine ⟨_, rfl, wpAny_pure ⟨_, rfl, ?_⟩⟩
      exact hQ _ vs n' h' _ (List.Perm.refl _) ⟨F.ns.at' fun o e => kp _ o dL.symm (old _ _ e), fun b o e => kp b o (get_ne e d0) (old _ _ (F.keep b o e)), F.above⟩
        (News.cons ⟨hn', dL, d0⟩ fun q hq => ⟨kp _ _ (Nat.ne_of_lt (Nat.lt_succ_of_lt (dN q hq))) (old _ _ (N q hq).1), (N q hq).2⟩) fun q hq => Nat.lt_succ_of_lt (dN q hq)
end
end Mine

namespace Mine
section
variable {prog : Program} {w : World} {A : Around} {E : Value → Shared → Prop} {s : Shared}
/-- a target that the owned-tuple rule can be told of -/
noncomputable def OwnT (target : Expr) : Prop := (∃ es k p, target = .Tuple es k p) ∨ ∀ r a, letOwnedTupleGo target r a = pure ()
theorem owned_list {target : Expr} {Ia ax a : Addr} {i : Nat} {Q : Unit → Shared → Prop} (ht : OwnT target) (hit : s.heap.IsListIter Ia ax i) (h : Q () s) : wpAny (model prog w) A (letOwnedTupleGo target (.ref Ia) (.ref a)) Q E s := by
  rcases ht with ⟨es, k, p, e⟩ | e
  · rw [e]; exact wpAny_letOwnedTupleGo_listiter hit h
  · rw [e]; exact wpAny_pure h

/-- the same, whatever is done with the list in the end -/
theorem comp_gen {u : Option (Value → Sem Unit)} {pos' : Pos} {env : Env} {elt target iter : Expr} {ifs : List Expr} {scope : Scope} {cl : List (Str × Addr)} {pos : Pos} {Q : Value → Shared → Prop}
    (hh : A.handled = none) (hclos : closureFor scope env = pure cl) (hcell : ∀ y ∈ scope.names, y.2 ≠ .cell) (hkind : scope.kind = .function)
    (hnames : ∀ y ∈ scope.names, y.2 = .local → scope.names.lookup y.1 = some .local)
    (h : wpAny (model prog w) A (eval iter env) (fun xv s₁ => CompH prog w A target ifs elt scope cl env s₁ (fun items Inv => ∀ D C mC acc s', @LE.le Nat _ s₁.heap.objs.size D → @LT.lt Nat _ D C → s₁.heap.get? D = none → Inv items.size acc s' → s'.heap.PlainList D acc.toArray → Like s₁ s' → s'.heap.Ns C mC → compPost (model prog w) A E u Q (.ref D) C (.ok .next) s') xv) E s)
    (hs : ∀ x, foldedSetIterable iter env x = pure x := by intro _; rfl) :
    wpAny (model prog w) A (comprehension (.ListComp elt [⟨target, iter, ifs, 0⟩] scope pos) scope env pos' (newList []) false (eval iter env) u) Q E s := by
  refine wpAny_comprehension_free (use := u) rfl hs hclos hkind hnames (wpAny_mono h (fun xv s₁ h₁ => ?_) fun _ _ e => e)
  obtain ⟨ax, items, Du, Inv, rfl, hl, hsz, hDu, h0, stab, turn, done⟩ := h₁
  refine wpAny_pyIter_list hl ?_
  refine wpAny_newObj_type (wpAny_newFunctionEnv hcell (by intro y hy; simp at hy) (fun h₃ hns₃ hsb₃ => ?_) hkind)
  dsimp only at hns₃ hsb₃ ⊢
  have hax := Heap.lt_size (show s₁.heap.get? ax = some _ from hl.choose_spec.1)
  generalize hH1 : s₁.heap.push { cls := .type "list_iterator", data := .fields #[.ref ax, .int 0 0] } = H1 at hns₃ hsb₃ ⊢
  have z1 : H1.objs.size = s₁.heap.objs.size + 1 := by rw [← hH1, Heap.size_push]
  generalize hH2 : H1.push { cls := .type "list", dict := none, data := .seq ([] : List Value).toArray } = H2 at hns₃ hsb₃ ⊢
  have z2 : H2.objs.size = s₁.heap.objs.size + 2 := by rw [← hH2, Heap.size_push, z1]
  have old : ∀ b o, s₁.heap.get? b = some o → h₃.get? b = some o := fun b o e =>
    hsb₃.extBut b o (adr_ne (.inl (Nat.lt_of_lt_of_le (Heap.lt_size e) (show s₁.heap.objs.size ≤ H2.objs.size by ktu_offL)))) (Heap.get?_push_of_some _ (hH2 ▸ Heap.get?_push_of_some _ (hH1 ▸ Heap.get?_push_of_some _ e)))
  have hI : h₃.IsListIter s₁.heap.objs.size ax 0 := ⟨_, hsb₃.extBut _ _ (adr_ne (.inl (by ktu_offL))) (Heap.get?_push_of_some _ (hH2 ▸ Heap.get?_push_of_some _ (hH1 ▸ Heap.get?_push_size _ rfl))), rfl, rfl⟩
  have hD : h₃.PlainList H1.objs.size #[] := ⟨_, hsb₃.extBut _ _ (adr_ne (.inl (by ktu_offL))) (Heap.get?_push_of_some _ (hH2 ▸ Heap.get?_push_size _ rfl))⟩
  have fresh : ∀ a, @LE.le Nat _ s₁.heap.objs.size a → s₁.heap.get? a = none := fun a ha => by
    cases e : s₁.heap.get? a with
    | none => rfl
    | some o' => exact absurd (Heap.lt_size e) (Nat.not_lt.mpr ha)
  have inv₃ : ∀ tk, Inv 0 [] { s₁ with heap := h₃, toks := tk } := fun tk => stab 0 [] s₁ h₃ tk [] (List.forall_mem_nil _) h0 fun b o _ e => old b o e
  have loop : ∀ s₃ : Shared, s₃ = { s₁ with heap := h₃, toks := s₁.toks + ([] : List (Str × Value)).length } →
      codeAny (model prog w) A (.compLoop (.ListComp elt [⟨target, iter, ifs, 0⟩] scope pos) 0 (.ref s₁.heap.objs.size) (.ref H1.objs.size) (compEnvC scope cl H2.objs.size env))
        (compPost (model prog w) A E u Q (.ref H1.objs.size) H2.objs.size) s₃ := by
    rintro s₃ rfl
    refine comp_list (cenv := compEnvC scope cl H2.objs.size env) (Du := Du) Inv hh (Nat.ne_of_lt hax) (adr_ne (.inr (by ktu_offL))) (adr_ne (.inr (Nat.lt_of_lt_of_le hax (show s₁.heap.objs.size ≤ H1.objs.size by ktu_offL)))) (adr_ne (.inr (show s₁.heap.objs.size < H2.objs.size by ktu_offL))) (adr_ne (.inr (show H1.objs.size < H2.objs.size by ktu_offL))) (adr_ne (.inr (Nat.lt_of_lt_of_le hax (show s₁.heap.objs.size ≤ H2.objs.size by ktu_offL))))
      (fun d hd => ⟨adr_ne (.inl (hDu d hd).1), (hDu d hd).2, adr_ne (.inl (by have := (hDu d hd).1; ktu_offL))⟩) hsz
      (fun i acc s h' tk' hi k => stab i acc s h' tk' _ (fun a ha => ?_) hi k) (fun i v acc s E' hv hn hit hi => turn _ _ i v acc s E' (Nat.le_refl _) (by rw [z2]; ktu_offL) hv hn hit hi) hI (hl.at fun o e => old _ o e) hD ⟨_, hns₃⟩ (inv₃ _) fun acc s' hi hpl hn hlk => ?_
    · simp only [List.mem_cons, List.not_mem_nil, or_false] at ha
      rcases ha with rfl | rfl | rfl
      · exact Nat.le_refl _
      · rw [z1]; ktu_offL
      · show _ ≤ H2.objs.size; rw [z2]; ktu_offL
    · obtain ⟨m, hm⟩ := hn
      exact done _ _ m acc s' (show s₁.heap.objs.size ≤ H1.objs.size by ktu_offL) (show H1.objs.size < H2.objs.size by ktu_offL) (fresh _ (show s₁.heap.objs.size ≤ H1.objs.size by ktu_offL)) hi hpl hlk hm
  exact codeAny_compStart_list (loop _ rfl) (wpAny_pyIter_listiter hI (loop _ rfl))
/-- a list comprehension over pairs, on the ledger -/
theorem comp_prs_gen {u : Option (Value → Sem Unit)} {pos' : Pos} {env : Env} {elt target iter : Expr} {ifs : List Expr} {scope : Scope} {cl : List (Str × Addr)} {pos : Pos} {Q : Value → Shared → Prop} {g : Heap} {L Gl : Addr} {m : Str → Option Value} {led : List (Addr × Obj)} {vs : List Pr} {ng : Nat} (Bm : Pr → (Str → Option Value) → Prop) (keep : Pr → Bool) (outv : Pr → Value)
    (ht : OwnT target) (hh : A.handled = none) (hclos : closureFor scope env = pure cl) (hcell : ∀ y ∈ scope.names, y.2 ≠ .cell) (hkind : scope.kind = .function) (hnames : ∀ y ∈ scope.names, y.2 = .local → scope.names.lookup y.1 = some .local)
    (F : Fr g L s.heap m) (N : News g L s.heap led) (hG : (Gl, listOf (prs vs).toArray ng) ∈ led) (hm : ∀ p ∈ vs, p.obj ∈ led) (hsz : vs.length ≤ sizeLine)
    (hiter : ∀ Q' : Value → Shared → Prop, (∀ tk, Q' (.ref Gl) { s with toks := tk }) → wpAny (model prog w) A (eval iter env) Q' E s)
    (hasg : ∀ (C : Addr) (p : Pr) (s' : Shared) (E' : Value → Shared → Prop) (Q' : Unit → Shared → Prop), (∃ m, s'.heap.Ns C m) → s'.heap.get? p.a = some p.obj.2 → (∀ h' tk m', Bm p m' → h'.Ns C m' → (∀ b o, b ≠ C → s'.heap.get? b = some o → h'.get? b = some o) → Q' () { s' with heap := h', toks := tk }) →
      wpAny (model prog w) A (assign target (compEnvC scope cl C env) (.ref p.a)) Q' E' s')
    (htest : ∀ (C : Addr) (p : Pr) (h : Heap) (tk : Nat) (m' : Str → Option Value) (E' : Value → Shared → Prop), p ∈ vs → Bm p m' → Fr g C h m' → News g C h led →
      wpAny (model prog w) A (forIn ifs true fun c r => if r = true then do let ok ← isTrue c (compEnvC scope cl C env) (eval c (compEnvC scope cl C env)); pure (ForInStep.yield ok) else pure (ForInStep.yield r)) (fun ok s'' => ok = keep p ∧ Keeps { s with heap := h, toks := tk } s'') E' { s with heap := h, toks := tk })
    (helt : ∀ (C : Addr) (p : Pr) (h : Heap) (tk : Nat) (m' : Str → Option Value) (E' : Value → Shared → Prop), p ∈ vs → keep p = true → Bm p m' → Fr g C h m' → News g C h led →
      wpAny (model prog w) A (eval elt (compEnvC scope cl C env)) (fun y s'' => y = outv p ∧ Keeps { s with heap := h, toks := tk } s'') E' { s with heap := h, toks := tk })
    (hfin : ∀ D C mC h' tk n, Fr g L h' m → News g L h' ((D, listOf ((vs.filter keep).map outv).toArray n) :: led) → (∀ q ∈ led, @LT.lt Nat _ q.1 D) → @LT.lt Nat _ L D → @LT.lt Nat _ D C → h'.Ns C mC → compPost (model prog w) A E u Q (.ref D) C (.ok .next) { s with heap := h', toks := tk })
    (hs : ∀ x, foldedSetIterable iter env x = pure x := by intro _; rfl) :
    wpAny (model prog w) A (comprehension (.ListComp elt [⟨target, iter, ifs, 0⟩] scope pos) scope env pos' (newList []) false (eval iter env) u) Q E s := by
  refine comp_gen hh hclos hcell hkind hnames (hiter _ fun tk₁ => ?_) hs
  have gl : ∀ {b : Addr} {o : Obj}, s.heap.get? b = some o → @LT.lt Nat _ b s.heap.objs.size := fun e => Heap.lt_size e
  have hLs := F.ns.lt
  refine ⟨Gl, (prs vs).toArray, [], fun i acc s' => acc = ((vs.take i).filter keep).map outv ∧ Like s s' ∧ ∀ b o, s.heap.get? b = some o → s'.heap.get? b = some o, rfl, ⟨_, (N _ hG).1, rfl, ng, rfl⟩, by simpa using hsz, fun _ h => (nomatch h), ⟨rfl, ⟨_, _, rfl⟩, fun _ _ e => e⟩, ?_, ?_, ?_⟩
  · rintro i acc s' h' tk' own hown ⟨e1, e2, e3⟩ k'
    refine ⟨e1, e2.trans ⟨h', tk', rfl⟩, fun b o e => k' b o (fun hb => Nat.lt_irrefl _ (Nat.lt_of_lt_of_le (gl e) (hown b hb))) (e3 b o e)⟩
  · rintro Ia C i v acc s' E' hIa hC hv hn hit ⟨e1, e2, e3⟩
    obtain ⟨p, hp, rfl⟩ : ∃ p, vs[i]? = some p ∧ v = .ref p.a := by
      simp only [prs, List.getElem?_toArray, List.getElem?_map, Option.map_eq_some_iff] at hv
      obtain ⟨gp, h1, h2⟩ := hv
      exact ⟨gp, h1, h2.symm⟩
    have hmem := List.mem_of_getElem? hp
    have htake : vs.take (i + 1) = vs.take i ++ [p] := by rw [List.take_add_one, hp]; rfl
    obtain ⟨hx, tkx, rfl⟩ := e2
    dsimp only at hn hit e3
    refine owned_list ht hit ?_
    refine hasg C p _ E' _ hn (e3 _ _ (N _ (hm p hmem)).1) fun h₂ tk₂ m₂ hB hn₂ k₂ => ?_
    have old : ∀ b o, s.heap.get? b = some o → h₂.get? b = some o := fun b o e => k₂ b o (adr_ne (.inl (Nat.lt_of_lt_of_le (gl e) hC))) (e3 b o e)
    have F₂ : Fr g C h₂ m₂ := ⟨hn₂, fun b o e => old _ _ (F.keep b o e), Nat.le_trans F.above (Nat.le_trans (Nat.le_of_lt hLs) hC)⟩
    have N₂ : News g C h₂ led := fun q hq => ⟨old _ _ (N q hq).1, adr_ne (.inl (Nat.lt_of_lt_of_le (gl (N q hq).1) hC)), (N q hq).2.2⟩
    refine wpAny_mono (htest C p h₂ tk₂ m₂ E' hmem hB F₂ N₂) (fun ok s₃ h₃ => ?_) fun _ _ x => x
    obtain ⟨rfl, h₄, tk₄, rfl, k₄⟩ := h₃
    dsimp only at k₄
    have T₄ : Turn C [] { s with heap := hx, toks := tkx } { s with heap := h₄, toks := tk₄ } := ⟨⟨_, _, rfl⟩, fun b o hb e => k₄ _ _ (k₂ b o (fun q => hb (by simp [q])) e), _, hn₂.keeps k₄⟩
    cases hk : keep p with
    | false =>
      simp only [Bool.false_eq_true, if_false]
      refine ⟨T₄, ?_, ⟨_, _, rfl⟩, fun b o e => k₄ _ _ (old b o e)⟩
      rw [e1, htake, List.filter_append]
      simp [hk]
    | true =>
      simp only [if_true]
      have F₄ : Fr g C h₄ m₂ := ⟨hn₂.keeps k₄, fun b o e => k₄ _ _ (F₂.keep b o e), F₂.above⟩
      refine wpAny_mono (helt C p h₄ tk₄ m₂ E' hmem hk hB F₄ (N₂.grown k₄)) (fun y s₅ h₅ => ?_) fun _ _ x => x
      obtain ⟨rfl, h₆, tk₆, rfl, k₆⟩ := h₅
      dsimp only at k₆
      refine ⟨⟨⟨_, _, rfl⟩, fun b o hb e => k₆ _ _ (k₄ _ _ (k₂ b o (fun q => hb (by simp [q])) e)), _, (hn₂.keeps k₄).keeps k₆⟩, ?_, ⟨_, _, rfl⟩, fun b o e => k₆ _ _ (k₄ _ _ (old b o e))⟩
      rw [e1, htake, List.filter_append]
      simp [hk]
  · rintro D C mC acc s' hDge hDC hD ⟨e1, e2, e3⟩ ⟨n', hpl⟩ hlk hnC
    obtain ⟨h', tk', rfl⟩ := e2
    have hsz' : (prs vs).toArray.size = vs.length := by simp
    rw [hsz', List.take_length] at e1
    subst e1
    refine hfin D C mC h' tk' n' ⟨F.ns.keeps e3, fun b o e => e3 _ _ (F.keep b o e), F.above⟩ (News.cons ⟨hpl, Nat.ne_of_gt (Nat.lt_of_lt_of_le hLs hDge), Heap.get?_none_of_le (Nat.le_trans F.above (Nat.le_trans (Nat.le_of_lt hLs) hDge))⟩ (N.grown e3)) (fun q hq => Nat.lt_of_lt_of_le (gl (N q hq).1) hDge) (Nat.lt_of_lt_of_le hLs hDge) hDC hnC
theorem frN_but {g h h' : Heap} {L C : Addr} {m : Str → Option Value} {led : List (Addr × Obj)} (F : Fr g L h m) (N : News g L h led) (hC : @LT.lt Nat _ L C) (hl : ∀ q ∈ led, q.1 ≠ C) (hs : Heap.SameBut C h h') : Fr g L h' m ∧ News g L h' led :=
  ⟨⟨F.ns.sameBut hs (Nat.ne_of_lt hC), fun b o e => hs.extBut b o (fun q => by rw [q] at e; exact absurd (Nat.lt_of_lt_of_le (Heap.lt_size e) (Nat.le_trans F.above (Nat.le_of_lt hC))) (Nat.lt_irrefl _)) (F.keep b o e), F.above⟩, fun q hq => ⟨hs.extBut _ _ (hl q hq) (N q hq).1, (N q hq).2⟩⟩
/-- a list comprehension over pairs, on the ledger -/
theorem comp_prs {env : Env} {elt target iter : Expr} {ifs : List Expr} {scope : Scope} {cl : List (Str × Addr)} {pos : Pos} {Q : Value → Shared → Prop} {g : Heap} {L Gl : Addr} {m : Str → Option Value} {led : List (Addr × Obj)} {vs : List Pr} {ng : Nat} (Bm : Pr → (Str → Option Value) → Prop) (keep : Pr → Bool) (outv : Pr → Value)
    (ht : OwnT target) (hh : A.handled = none) (hclos : closureFor scope env = pure cl) (hcell : ∀ y ∈ scope.names, y.2 ≠ .cell) (hkind : scope.kind = .function) (hnames : ∀ y ∈ scope.names, y.2 = .local → scope.names.lookup y.1 = some .local)
    (F : Fr g L s.heap m) (N : News g L s.heap led) (hG : (Gl, listOf (prs vs).toArray ng) ∈ led) (hm : ∀ p ∈ vs, p.obj ∈ led) (hsz : vs.length ≤ sizeLine)
    (hiter : ∀ Q' : Value → Shared → Prop, (∀ tk, Q' (.ref Gl) { s with toks := tk }) → wpAny (model prog w) A (eval iter env) Q' E s)
    (hasg : ∀ (C : Addr) (p : Pr) (s' : Shared) (E' : Value → Shared → Prop) (Q' : Unit → Shared → Prop), (∃ m, s'.heap.Ns C m) → s'.heap.get? p.a = some p.obj.2 → (∀ h' tk m', Bm p m' → h'.Ns C m' → (∀ b o, b ≠ C → s'.heap.get? b = some o → h'.get? b = some o) → Q' () { s' with heap := h', toks := tk }) →
      wpAny (model prog w) A (assign target (compEnvC scope cl C env) (.ref p.a)) Q' E' s')
    (htest : ∀ (C : Addr) (p : Pr) (h : Heap) (tk : Nat) (m' : Str → Option Value) (E' : Value → Shared → Prop), p ∈ vs → Bm p m' → Fr g C h m' → News g C h led →
      wpAny (model prog w) A (forIn ifs true fun c r => if r = true then do let ok ← isTrue c (compEnvC scope cl C env) (eval c (compEnvC scope cl C env)); pure (ForInStep.yield ok) else pure (ForInStep.yield r)) (fun ok s'' => ok = keep p ∧ Keeps { s with heap := h, toks := tk } s'') E' { s with heap := h, toks := tk })
    (helt : ∀ (C : Addr) (p : Pr) (h : Heap) (tk : Nat) (m' : Str → Option Value) (E' : Value → Shared → Prop), p ∈ vs → keep p = true → Bm p m' → Fr g C h m' → News g C h led →
      wpAny (model prog w) A (eval elt (compEnvC scope cl C env)) (fun y s'' => y = outv p ∧ Keeps { s with heap := h, toks := tk } s'') E' { s with heap := h, toks := tk })
    (hQ : ∀ D h' tk n, Fr g L h' m → News g L h' ((D, listOf ((vs.filter keep).map outv).toArray n) :: led) → (∀ q ∈ led, @LT.lt Nat _ q.1 D) → Q (.ref D) { s with heap := h', toks := tk })
    (hs : ∀ x, foldedSetIterable iter env x = pure x := by intro _; rfl) :
    wpAny (model prog w) A (eval (.ListComp elt [⟨target, iter, ifs, 0⟩] scope pos) env) Q E s := by
  rw [eval_ListComp]
  refine comp_prs_gen Bm keep outv ht hh hclos hcell hkind hnames F N hG hm hsz hiter hasg htest helt (fun D C mC h' tk n F' N' h1 h2 h3 h4 => ?_) hs
  refine ⟨mC, h4, fun h'' hs'' => ?_⟩
  obtain ⟨F'', N''⟩ := frN_but F' N' (Nat.lt_trans h2 h3) (fun q hq => by
    rcases List.mem_cons.mp hq with rfl | hq
    · exact Nat.ne_of_lt h3
    · exact Nat.ne_of_lt (Nat.lt_trans (h1 q hq) h3)) hs''
  exact hQ D h'' tk n F'' N'' h1
/-- the same, given a name -/
theorem comp_prs_as {env : Env} {elt target iter : Expr} {ifs : List Expr} {scope : Scope} {cl : List (Str × Addr)} {pos : Pos} {Q : Flow → Shared → Prop} {y : Str} {py spos : Pos} {g : Heap} {L Gl : Addr} {m : Str → Option Value} {led : List (Addr × Obj)} {vs : List Pr} {ng : Nat} (Bm : Pr → (Str → Option Value) → Prop) (keep : Pr → Bool) (outv : Pr → Value)
    (ht : OwnT target) (hh : A.handled = none) (hclos : closureFor scope env = pure cl) (hcell : ∀ y ∈ scope.names, y.2 ≠ .cell) (hkind : scope.kind = .function) (hnames : ∀ y ∈ scope.names, y.2 = .local → scope.names.lookup y.1 = some .local)
    (F : Fr g L s.heap m) (N : News g L s.heap led) (hG : (Gl, listOf (prs vs).toArray ng) ∈ led) (hm : ∀ p ∈ vs, p.obj ∈ led) (hsz : vs.length ≤ sizeLine)
    (hiter : ∀ Q' : Value → Shared → Prop, (∀ tk, Q' (.ref Gl) { s with toks := tk }) → wpAny (model prog w) A (eval iter env) Q' E s)
    (hasg : ∀ (C : Addr) (p : Pr) (s' : Shared) (E' : Value → Shared → Prop) (Q' : Unit → Shared → Prop), (∃ m, s'.heap.Ns C m) → s'.heap.get? p.a = some p.obj.2 → (∀ h' tk m', Bm p m' → h'.Ns C m' → (∀ b o, b ≠ C → s'.heap.get? b = some o → h'.get? b = some o) → Q' () { s' with heap := h', toks := tk }) →
      wpAny (model prog w) A (assign target (compEnvC scope cl C env) (.ref p.a)) Q' E' s')
    (htest : ∀ (C : Addr) (p : Pr) (h : Heap) (tk : Nat) (m' : Str → Option Value) (E' : Value → Shared → Prop), p ∈ vs → Bm p m' → Fr g C h m' → News g C h led →
      wpAny (model prog w) A (forIn ifs true fun c r => if r = true then do let ok ← isTrue c (compEnvC scope cl C env) (eval c (compEnvC scope cl C env)); pure (ForInStep.yield ok) else pure (ForInStep.yield r)) (fun ok s'' => ok = keep p ∧ Keeps { s with heap := h, toks := tk } s'') E' { s with heap := h, toks := tk })
    (helt : ∀ (C : Addr) (p : Pr) (h : Heap) (tk : Nat) (m' : Str → Option Value) (E' : Value → Shared → Prop), p ∈ vs → keep p = true → Bm p m' → Fr g C h m' → News g C h led →
      wpAny (model prog w) A (eval elt (compEnvC scope cl C env)) (fun y s'' => y = outv p ∧ Keeps { s with heap := h, toks := tk } s'') E' { s with heap := h, toks := tk })
    (hsw : swapsWith (.ListComp elt [⟨target, iter, ifs, 0⟩] scope pos) (some (.Name y py)) spos.line env = pure true) (hy : env.kindOf y = some .local) (hp : (env.scope.kind == .class || (env.scope.kind == .module && env.locals != env.globals)) = false) (hL : env.locals = L)
    (hQ : ∀ D h' tk n, Fr g L h' (fun z => if z = y then some (.ref D) else m z) → News g L h' ((D, listOf ((vs.filter keep).map outv).toArray n) :: led) → (∀ q ∈ led, @LT.lt Nat _ q.1 D) → Q .next { s with heap := h', toks := tk })
    (hs : ∀ x, foldedSetIterable iter env x = pure x := by intro _; rfl) :
    wpAny (model prog w) A (exec (.Assign [.Name y py] (.ListComp elt [⟨target, iter, ifs, 0⟩] scope pos) spos) env) Q E s := by
  rw [exec_Assign_Name_used _ _ _ _ hsw]
  refine wpAny_bind (wpAny_standAt (wpAny_bind ?_))
  show wpAny _ A (do let _ ← comprehension (.ListComp elt [⟨target, iter, ifs, 0⟩] scope pos) scope env _ (newList []) false (eval iter env) (some (assign (.Name y py) env))) _ _ s
  refine wpAny_bind (wpAny_mono (comp_prs_gen (u := some (assign (.Name y py) env)) (Q := fun _ s' => Q .next s') Bm keep outv ht hh hclos hcell hkind hnames F N hG hm hsz hiter hasg htest helt (fun D C mC h' tk n F' N' h1 h2 h3 h4 => ?_) hs) (fun _ s' hq => wpAny_pure (wpAny_pure hq)) fun _ _ e => e)
  show wpAny _ A (assign (.Name y py) env (.ref D)) _ _ _
  have nL : ∀ q ∈ (D, listOf ((vs.filter keep).map outv).toArray n) :: led, q.1 ≠ L := fun q hq => (N' q hq).2.1
  refine wpAny_assign_Name (wpAny_storeName_local hy (hL ▸ F'.ns) (fun h₂ hn₂ hs₂ => ?_) hp)
  rw [hL] at hn₂ hs₂
  refine ⟨mC, h4.sameBut hs₂ (Nat.ne_of_gt (Nat.lt_trans h2 h3)), fun h₃ hs₃ => ?_⟩
  have F₂ : Fr g L h₂ _ := ⟨hn₂, fun b o e => hs₂.extBut b o (fun q => by rw [q] at e; exact absurd (Nat.lt_of_lt_of_le (Heap.lt_size e) F'.above) (Nat.lt_irrefl _)) (F'.keep b o e), F'.above⟩
  have N₂ : News g L h₂ ((D, listOf ((vs.filter keep).map outv).toArray n) :: led) := fun q hq => ⟨hs₂.extBut _ _ (nL q hq) (N' q hq).1, (N' q hq).2⟩
  obtain ⟨F'', N''⟩ := frN_but F₂ N₂ (Nat.lt_trans h2 h3) (fun q hq => by
    rcases List.mem_cons.mp hq with rfl | hq
    · exact Nat.ne_of_lt h3
    · exact Nat.ne_of_lt (Nat.lt_trans (h1 q hq) h3)) hs₃
  exact hQ D h₃ _ n F'' N'' h1
theorem asg_pair {scope : Scope} {cl : List (Str × Addr)} {env : Env} {a b : Str} {pa pb tp : Pos} {kk : Nat} (hh : A.handled = none) (ha : ∀ C, (compEnvC scope cl C env).kindOf a = some .local) (hb : ∀ C, (compEnvC scope cl C env).kindOf b = some .local)
    (hp : ∀ C, ((compEnvC scope cl C env).scope.kind == .class || ((compEnvC scope cl C env).scope.kind == .module && (compEnvC scope cl C env).locals != (compEnvC scope cl C env).globals)) = false) :
    ∀ (C : Addr) (p : Pr) (s' : Shared) (E' : Value → Shared → Prop) (Q' : Unit → Shared → Prop), (∃ m, s'.heap.Ns C m) → s'.heap.get? p.a = some p.obj.2 → (∀ h' tk m', (m' b = some (.int p.y p.ty) ∧ (a ≠ b → m' a = some (.int p.x p.tx))) → h'.Ns C m' → (∀ b o, b ≠ C → s'.heap.get? b = some o → h'.get? b = some o) → Q' () { s' with heap := h', toks := tk }) →
      wpAny (model prog w) A (assign (.Tuple [.Name a pa, .Name b pb] kk tp) (compEnvC scope cl C env) (.ref p.a)) Q' E' s' := by
  rintro C p s' E' Q' ⟨m, hn⟩ ho h
  refine kcp_assign hh ⟨_, ho, rfl, p.n, rfl⟩ (ha C) (hb C) (hp C) hn fun h' tk hn' hk => h h' tk _ ⟨by simp, fun hne => ?_⟩ hn' hk
  simp [hne]
theorem asg_name {scope : Scope} {cl : List (Str × Addr)} {env : Env} {a : Str} {pa : Pos} (ha : ∀ C, (compEnvC scope cl C env).kindOf a = some .local)
    (hp : ∀ C, ((compEnvC scope cl C env).scope.kind == .class || ((compEnvC scope cl C env).scope.kind == .module && (compEnvC scope cl C env).locals != (compEnvC scope cl C env).globals)) = false) :
    ∀ (C : Addr) (p : Pr) (s' : Shared) (E' : Value → Shared → Prop) (Q' : Unit → Shared → Prop), (∃ m, s'.heap.Ns C m) → s'.heap.get? p.a = some p.obj.2 → (∀ h' tk m', m' a = some (.ref p.a) → h'.Ns C m' → (∀ b o, b ≠ C → s'.heap.get? b = some o → h'.get? b = some o) → Q' () { s' with heap := h', toks := tk }) →
      wpAny (model prog w) A (assign (.Name a pa) (compEnvC scope cl C env) (.ref p.a)) Q' E' s' := by
  rintro C p s' E' Q' ⟨m, hn⟩ ho h
  refine wpAny_assign_Name (wpAny_storeName_local (ha C) hn (fun h₃ hn₃ hs₃ => ?_) (hp C))
  exact h h₃ _ _ (by walk_at "sm") hn₃ fun b o hb e => hs₃.extBut b o hb e
end
end Mine

namespace Mine
open PyProof.Rows.TI (Frs SameUp gone)
section
variable {w : World} {mean : ExcName → Option Value} {mg mb : Str → Option Value} {loose : List Str} {G₀ : Heap}
noncomputable abbrev st3 (P : Params) (W dW lr sf ls : Addr) (k : Nat → Tok) (tw th : Tok) (n : Nat) (secs : List Gp) : List (Addr × Obj) := [(W, instObj 480 dW), (dW, dictOf (wEs P k tw th lr sf ls) 8), (ls, listOf (refs secs).toArray n)]
theorem told_at (G : Gnd w mean mg mb loose G₀) (CH : CodeHd G₀ 364 360) {dp un : Nat} {l : List Env} {gd : Option (List Code)} {s : Shared} {E Q : Value → Shared → Prop} {g : Heap} {L : Addr} {m : Str → Option Value} {env : Env} {lits : List (Addr × Obj)} {ps : Array Value} {cs frs : List (Addr × Obj)}
    {W dW lr sf ls : Addr} {k : Nat → Tok} {tw th : Tok} {n : Nat} {secs : List Gp} {up : Bool} {X Y B len M : Int} {tb tl' : Tok}
    (F : Fr g L s.heap m) (N : News g L s.heap (lits ++ tl ps cs frs)) (h3 : ∀ q ∈ st3 w.params W dW lr sf ls k tw th n secs, q ∈ lits) (hGg : G₀.StaysIn g) (hgap : ∀ q ∈ secs, ∀ o ∈ q.objs w.params, g.get? o.1 = some o.2 ∧ G₀.get? o.1 = none)
    (Xt : TabOK ps cs) (Fs : Frs l frs) (hA : AllBare s.gens) (hlo : ∀ q ∈ lits, ∀ p ∈ tl ps cs frs, q.1 ≠ p.1) (hgo : ∀ q ∈ secs, ∀ o ∈ q.objs w.params, ∀ p ∈ tl ps cs frs, o.1 ≠ p.1)
    (hok : ∀ q ∈ secs, q.ok up X Y B) (hB : 0 < B) (hlen : 0 < len) (hM : Mul M) (hBM : B ≤ M) (hlM : len ≤ M) (hgM : ∀ q ∈ secs, q.ln ≤ M) (hsz : secs.length < sizeLine) (hne : ∀ q ∈ secs, ∀ o ∈ q.objs w.params, o.1 ∉ [W, dW, ls])
    (hd : dp + 80 < recursionLimit) (hu : un + 800 < cLine) (henv : env.frame = some L) (hke : env.scope.kind ≠ .module)
    (hQ : ∀ v h' tk gs ps' cs' frs', Fr g L h' m → News g L h' (lits ++ tl ps' cs' frs') → TabOK ps' cs' → Frs l frs' → SameUp frs frs' → AllBare gs → (∀ q ∈ cs', q ∈ cs ∨ s.heap.get? q.1 = none) → (∀ q ∈ cs, q ∈ cs') →
      (∀ q ∈ lits, ∀ p ∈ tl ps' cs' frs', q.1 ≠ p.1) → (∀ q ∈ secs, ∀ o ∈ q.objs w.params, ∀ p ∈ tl ps' cs' frs', o.1 ≠ p.1) → Told B len (secs.map Gp.ln) v → Q v { s with heap := h', toks := tk, gens := gs }) :
    wpAny (model PR w) (AT dp (some (env :: l)) gd un) (call (.ref 496) [.ref W, .bool up, .int B tb, .int len tl']) Q E s := by
  have N0 : ∀ q ∈ lits, s.heap.get? q.1 = some q.2 ∧ q.1 ≠ L ∧ g.get? q.1 = none := fun q hq => N q (List.mem_append_left _ hq)
  obtain ⟨SH, SO⟩ := store_has (P := w.params) (conc := st3 w.params W dW lr sf ls k tw th n secs) (T := tl ps cs frs) F (fun q hq => N0 q (h3 q hq)) hGg hgap (fun q hq p hp => by
    rcases List.mem_append.mp hq with h | h
    · exact hlo q (h3 q h) p hp
    · obtain ⟨x, hx, ho⟩ := List.mem_flatMap.mp h
      exact hgo x hx q ho p hp)
  refine call_II (told_c G CH W dW lr sf ls k tw th n secs up X Y B len M tb tl' hok hB hlen hM hBM hlM hgM hsz hne) (lits := lits) F N hd hu hGg SH Xt Fs hA henv hke SO (List.forall_mem_nil _) hlo
    (fun v h₂ tk₂ gs₂ ps₂ cs₂ frs₂ F₂ N₂ hl₂ X₂ Fs₂ SU₂ A₂ hcs₂ hsub₂ hb₂ hp k₂ => ?_)
  refine hQ v h₂ tk₂ gs₂ ps₂ cs₂ frs₂ F₂ (fun q hq => ?_) X₂ Fs₂ SU₂ A₂ hcs₂ hsub₂ (fun q hq p hp e => ?_) (fun q hq o ho p hp e => ?_) hp
  · rcases List.mem_append.mp hq with hq | hq
    · exact hl₂ q hq (fun h => nomatch h)
    · exact N₂ q hq
  · rcases hb₂ p hp with ⟨p', hp', e'⟩ | hn
    · exact hlo q hq p' hp' (e.trans e')
    · have z := (N0 q hq).1
      rw [e, hn] at z; cases z
  · rcases hb₂ p hp with ⟨p', hp', e'⟩ | hn
    · exact hgo q hq o ho p' hp' (e.trans e')
    · have z := F.keep _ _ (hgap q hq o ho).1
      rw [e, hn] at z; cases z
theorem truthy_vals {prog : Program} {A : Around} {E : Value → Shared → Prop} {s : Shared} {h₀ : Heap} {L ls : Addr} {n : Nat} {news : List (Addr × Obj)} {xs : List Value} {Q : Bool → Shared → Prop} (N : News h₀ L s.heap news) (hm : (ls, listOf xs.toArray n) ∈ news)
    (hlen : xs.length < sizeLine) (h : Q (!xs.isEmpty) { s with toks := s.toks + 1 + 1 }) : wpAny (model prog w) A (truthy (.ref ls)) Q E s := by
  refine wpAny_truthy_list (items := xs.toArray) ⟨_, (N _ hm).1, rfl, n, rfl⟩ ?_ ?_
  · have : sizeLine < 2 ^ 63 := by decide
    simp only [List.size_toArray]; ktu_offL
  · cases xs <;> exact h
theorem ints_prs : ∀ (vs : List Pr), IntsAre (vs.map fun p => Value.int p.y p.ty) (vs.map Pr.y)
  | [] => .nil
  | p :: vs => .cons p.y p.ty (ints_prs vs)
theorem right_c (G : Gnd w mean mg mb loose G₀) (CH : CodeHd G₀ 364 360) (W dW lr sf ls Gl : Addr) (k : Nat → Tok) (tw th : Tok) (n ng : Nat) (secs : List Gp) (vs : List Pr) (up : Bool) (X Y B M : Int) (tb : Tok)
    (hok : ∀ q ∈ secs, q.ok up X Y B) (hB : 0 < B) (hM : Mul M) (hBM : B ≤ M) (hgM : ∀ q ∈ secs, q.ln < M) (hsz : secs.length < sizeLine) (h0M : 1 ≤ M)
    (hne : ∀ q ∈ secs, ∀ o ∈ q.objs w.params, o.1 ∉ [W, dW, ls]) (hne2 : ∀ q ∈ secs, ∀ o ∈ q.objs w.params, o.1 ≠ Gl ∧ ∀ p ∈ vs, o.1 ≠ p.a) (hperm : (vs.map Pr.y).Perm (secs.map Gp.ln)) :
    CII w G₀ 90 900 501 [.ref W, .bool up, .int B tb, .ref Gl] ((st3 w.params W dW lr sf ls k tw th n secs ++ (Gl, listOf (prs vs).toArray ng) :: vs.map Pr.obj) ++ secs.flatMap (Gp.objs w.params)) [] (fun _ v _ => v = .bool true) := by
  have zS0 : Mine.StopAt 496 := ⟨trivial⟩
  have zS1 : Mine.Stop "exec Assign cons ListComp" := ⟨trivial⟩
  have zS2 : Mine.Stop "eval ListComp" := ⟨trivial⟩
  have zS3 : Mine.Stop "call builtin:max" := ⟨trivial⟩
  have zS4 : Mine.Stop "call builtin:min" := ⟨trivial⟩
  intro dp l gd un s E ps cs frs hd hu hG hC Xt Fs hoff hA
  have hC3 : Has G₀ s.heap ((st3 w.params W dW lr sf ls k tw th n secs ++ (Gl, listOf (prs vs).toArray ng) :: vs.map Pr.obj) ++ tl ps cs frs) := fun q hq => hC q (by
    rcases List.mem_append.mp hq with h | h
    · exact List.mem_append_left _ (List.mem_append_left _ h)
    · exact List.mem_append_right _ h)
  have hCg : ∀ q ∈ secs, ∀ o ∈ q.objs w.params, s.heap.get? o.1 = some o.2 ∧ G₀.get? o.1 = none := fun q hq o ho => hC o (List.mem_append_left _ (List.mem_append_right _ (List.mem_flatMap.mpr ⟨q, hq, ho⟩)))
  have GT := G
  obtain ⟨KX, T⟩ := G
  refine wpAny_call (code_start KX T hG hC3 (by k_is) (by k_is) (by k_room) (BindsTo.of_eq rfl) (locs rfl) ?_ rfl rfl rfl (by decide))
  intro g L' h₁ hgg F N X' T' hlt
  have hGg : G₀.StaysIn g := by
    rw [hgg]
    exact stays_hideAll hG fun b hb => by obtain ⟨q, hq, rfl⟩ := List.mem_map.mp hb; exact (hC3 q hq).2
  have hgap : ∀ q ∈ secs, ∀ o ∈ q.objs w.params, g.get? o.1 = some o.2 ∧ G₀.get? o.1 = none := fun q hq o ho => by
    refine ⟨?_, (hCg q hq o ho).2⟩
    rw [hgg]
    refine hideAll_get _ (hCg q hq o ho).1 fun hm => ?_
    rw [List.map_append, List.map_append] at hm
    rcases List.mem_append.mp hm with hm | hm
    · rcases List.mem_append.mp hm with hm | hm
      · exact hne q hq o ho hm
      · rcases List.mem_cons.mp hm with hm | hm
        · exact (hne2 q hq o ho).1 hm
        · obtain ⟨p, hp, e⟩ := List.mem_map.mp hm
          obtain ⟨p', hp', rfl⟩ := List.mem_map.mp hp
          exact (hne2 q hq o ho).2 p' hp' e.symm
    · obtain ⟨p, hp, e⟩ := List.mem_map.mp hm
      exact hoff o (List.mem_append_right _ (List.mem_flatMap.mpr ⟨q, hq, ho⟩)) p hp e.symm
  have hC3' := hC3
  clear KX T hC hC3
  have hvl : vs.length = secs.length := by simpa using hperm.length_eq
  simp only [st3, List.cons_append, List.nil_append, List.append_assoc] at N
  dsimp only
  (with_reducible show wpAny _ _ _ _ _ _)
  k_fold
  k_steps
  refine Halt.mk ?_
  (with_reducible rename News _ _ _ _ => N₁)
  (with_reducible rename Fr _ _ _ _ => F₁)
  refine comp_prs_as (vs := vs) (Gl := Gl) (ng := ng) (cl := []) (fun p m' => m' (Str.ofString "many") = some (.int p.y p.ty) ∧ _) (fun _ => true) (fun p => .int p.y p.ty) (.inl ⟨_, _, _, rfl⟩) rfl rfl (by decide) rfl (by decide) F₁ N₁ (by walk_at "sm") (fun p hp => by simp [List.mem_map_of_mem hp]) (by rw [hvl]; exact Nat.le_of_lt hsz) (fun Q' hQ' => ?_) (asg_pair rfl (fun _ => rfl) (fun _ => rfl) (fun _ => rfl)) (fun C p h tk m' E' hp hB F N => ?_) (fun C p h tk m' E' hp hk hB F N => ?_) rfl rfl rfl rfl (fun D h₂ tk₂ nD F₂ N₂ hlt₂ => ?_)
  · k_steps
    exact hQ' _
  · exact wpAny_tests_nil ⟨rfl, _, _, rfl, fun _ _ e => e⟩
  · exact nameC_L F hB.1 ⟨rfl, _, _, rfl, fun _ _ e => e⟩ rfl rfl
  have e0 : vs.filter (fun _ => true) = vs := List.filter_eq_self.mpr fun _ _ => rfl
  rw [e0] at N₂
  clear N₁ F₁
  have zL : Mine.Stop "truthy ref" := ⟨trivial⟩
  k_steps
  refine Halt.mk ?_
  refine truthy_vals (by assumption) (.head _) (by simpa [hvl] using hsz) ?_
  have hcov : ∀ {csx frsx : List (Addr × Obj)} {psx : Array Value} {h : Heap} {mx : Str → Option Value} {b : Addr}, Fr g L' h mx → News g L' h (((D, listOf (vs.map fun p : Pr => Value.int p.y p.ty).toArray nD) :: (st3 w.params W dW lr sf ls k tw th n secs ++ (Gl, listOf (prs vs).toArray ng) :: vs.map Pr.obj)) ++ tl psx csx frsx) → (∀ q ∈ cs, q ∈ csx) → SameUp frs frsx → h.get? b = none → s.heap.get? b = none := fun {csx frsx psx h mx b} F N hs SU hb => none_back hgg F.keep (fun q hq => (N q hq).1) (fun a ha => by
    rw [List.map_append] at ha
    rw [List.map_append, List.map_cons]
    rcases List.mem_append.mp ha with ha | ha
    · exact List.mem_append_left _ (.tail _ ha)
    · refine List.mem_append_right _ ?_
      rcases List.mem_cons.mp ha with h | ha
      · exact h ▸ .head _
      · obtain ⟨q, hq, rfl⟩ := List.mem_map.mp ha
        rcases List.mem_append.mp hq with hq | hq
        · exact .tail _ (List.mem_map_of_mem (List.mem_append_left _ (hs q hq)))
        · obtain ⟨sl, hm⟩ := SU.back q hq
          exact .tail _ (List.mem_map_of_mem (f := (·.1)) (List.mem_append_right _ hm))) hb
  have hlo₀ : ∀ q ∈ (D, listOf (vs.map fun p : Pr => Value.int p.y p.ty).toArray nD) :: (st3 w.params W dW lr sf ls k tw th n secs ++ (Gl, listOf (prs vs).toArray ng) :: vs.map Pr.obj), ∀ p ∈ tl ps cs frs, q.1 ≠ p.1 := fun q hq p hp => by
    rcases List.mem_cons.mp hq with rfl | hq
    · exact Nat.ne_of_gt (hlt₂ p (.tail _ (.tail _ (.tail _ (.tail _ (List.mem_append_right _ hp))))))
    · exact hoff q (List.mem_append_left _ hq) p hp
  have hgo₀ : ∀ q ∈ secs, ∀ o ∈ q.objs w.params, ∀ p ∈ tl ps cs frs, o.1 ≠ p.1 := fun q hq o ho p hp => hoff o (List.mem_append_right _ (List.mem_flatMap.mpr ⟨q, hq, ho⟩)) p hp
  have hs3 : ∀ q ∈ st3 w.params W dW lr sf ls k tw th n secs, q ∈ (D, listOf (vs.map fun p : Pr => Value.int p.y p.ty).toArray nD) :: (st3 w.params W dW lr sf ls k tw th n secs ++ (Gl, listOf (prs vs).toArray ng) :: vs.map Pr.obj) := fun q hq => .tail _ (List.mem_append_left _ hq)
  have hgM' : ∀ q ∈ secs, q.ln ≤ M := fun q hq => Int.le_of_lt (hgM q hq)
  by_cases hv0 : vs = []
  · have hs0 : secs = [] := List.eq_nil_of_length_eq_zero (by rw [← hvl, hv0]; rfl)
    rw [show (List.map (fun p : Pr => Value.int p.y p.ty) vs).isEmpty = true from by rw [hv0]; rfl]
    dsimp only [Bool.not_true]
    k_steps
    refine Halt.mk ?_
    (with_reducible rename News _ _ _ _ => N₃)
    (with_reducible rename Fr _ _ _ _ => F₃)
    refine told_at (lits := (D, listOf (vs.map fun p : Pr => Value.int p.y p.ty).toArray nD) :: (st3 w.params W dW lr sf ls k tw th n secs ++ (Gl, listOf (prs vs).toArray ng) :: vs.map Pr.obj)) GT CH F₃ N₃ hs3 hGg hgap Xt Fs hA hlo₀ hgo₀ hok hB (by ktu_offL) hM hBM h0M hgM' hsz hne (by show dp + 1 + 80 < recursionLimit; ktu_offL) (by show un + 3 + 800 < cLine; ktu_offL) rfl (by intro e; cases e)
      (fun v h₄ tk₄ gs₄ ps₄ cs₄ frs₄ F₄ N₄ X₄ Fs₄ SU₄ A₄ hcs₄ hsub₄ hlo₄ hgo₄ hT => ?_)
    have hn₄ : ∀ q ∈ cs₄, q ∈ cs ∨ s.heap.get? q.1 = none := fun q hq => (hcs₄ q hq).imp (fun h => h) fun h => hcov F₃ N₃ (fun _ h => h) (SameUp.refl _) h
    have hv : v = .none := by
      rcases hT with ⟨m, t, hm, _⟩ | ⟨e, _⟩
      · rw [hs0] at hm; cases hm
      · exact e
    subst hv
    have Fx := F₄
    have Nx := N₄
    clear N₃ F₃
    k_steps
    show OutII s [] cs frs (fun v _ => v = .bool true) (.bool true) _
    exact fin_II hgg hC3' Fx (fun q hq => (Nx q hq).1) (fun q hq => .inr (List.mem_append_left _ (.tail _ hq))) (fun q hq => List.mem_append_right _ hq) A₄ X₄ SU₄ hsub₄ hn₄ rfl
  · have hvi : (List.map (fun p : Pr => Value.int p.y p.ty) vs).isEmpty = false := map_ne hv0
    rw [hvi]
    dsimp only [Bool.not_false]
    have hne0 : 0 < (vs.map Pr.y).length := map_pos hv0
    have hrng : ∀ a ∈ vs.map Pr.y, a ∈ secs.map Gp.ln ∧ 0 < a ∧ a < M := fun a ha => by
      have z := hperm.mem_iff.mp ha
      refine ⟨z, ?_⟩
      obtain ⟨q, hq, rfl⟩ := List.mem_map.mp z
      exact ⟨(hok q hq).2, hgM q hq⟩
    have hin : ∀ a ∈ secs.map Gp.ln, a ∈ vs.map Pr.y := fun a ha => hperm.mem_iff.mpr ha
    k_steps
    refine Halt.mk ?_
    (with_reducible rename News _ _ _ _ => N11)
    (with_reducible rename Fr _ _ _ _ => F11)
    refine kso_max F11 N11 (vs := vs.map fun p : Pr => Value.int p.y p.ty) ⟨_, (N11 _ (.head _)).1, rfl, nD, rfl⟩ (ints_prs vs) hne0 rfl (fun h12 m12 t12 tk12 F12 N12 hm12 hx12 => ?_)
    have hr12 := hrng m12 hm12
    clear N11 F11
    k_steps
    refine Halt.mk ?_
    (with_reducible rename News _ _ _ _ => N13)
    (with_reducible rename Fr _ _ _ _ => F13)
    refine told_at (lits := ((D, listOf (vs.map fun p : Pr => Value.int p.y p.ty).toArray nD) :: (st3 w.params W dW lr sf ls k tw th n secs ++ (Gl, listOf (prs vs).toArray ng) :: vs.map Pr.obj))) GT CH F13 N13 hs3 hGg hgap Xt Fs hA hlo₀ hgo₀ hok hB (by ktu_offL) hM hBM (by ktu_offL) hgM' hsz hne (by show dp + 1 + 80 < recursionLimit; ktu_offL) (by show un + 3 + 800 < cLine; ktu_offL) rfl (by intro e; cases e)
      (fun v h14 tk14 gs14 ps14 cs14 frs14 F14 N14 X14 Fs14 SU14' A14 hcs14 hsub14' hlo14 hgo14 hT => ?_)
    have hn14 : ∀ q ∈ cs14, q ∈ cs ∨ s.heap.get? q.1 = none := fun q hq => by
      rcases hcs14 q hq with h | h
      · exact .inl h
      · exact .inr (hcov F13 N13 (fun _ h => h) (SameUp.refl _) h)
    have hsub14 : ∀ q ∈ cs, q ∈ cs14 := fun q hq => hsub14' q ((fun _ h => h) q hq)
    have SU14 : SameUp frs frs14 := SameUp.trans (SameUp.refl _) SU14'
    have hv : v = .none := by
      rcases hT with ⟨m, t, hm, hl, _⟩ | ⟨e, _⟩
      · have := hx12 m (hin m hm)
        ktu_offL
      · exact e
    subst hv
    clear N13 F13
    k_steps
    refine Halt.mk ?_
    (with_reducible rename News _ _ _ _ => N15)
    (with_reducible rename Fr _ _ _ _ => F15)
    refine kso_max F15 N15 (vs := vs.map fun p : Pr => Value.int p.y p.ty) ⟨_, (N15 _ (.head _)).1, rfl, nD, rfl⟩ (ints_prs vs) hne0 rfl (fun h16 m16 t16 tk16 F16 N16 hm16 hx16 => ?_)
    have hr16 := hrng m16 hm16
    clear N15 F15
    k_steps
    refine Halt.mk ?_
    (with_reducible rename News _ _ _ _ => N17)
    (with_reducible rename Fr _ _ _ _ => F17)
    refine told_at (lits := ((D, listOf (vs.map fun p : Pr => Value.int p.y p.ty).toArray nD) :: (st3 w.params W dW lr sf ls k tw th n secs ++ (Gl, listOf (prs vs).toArray ng) :: vs.map Pr.obj))) GT CH F17 N17 hs3 hGg hgap X14 Fs14 A14 hlo14 hgo14 hok hB (by ktu_offL) hM hBM (by ktu_offL) hgM' hsz hne (by show dp + 1 + 80 < recursionLimit; ktu_offL) (by show un + 3 + 800 < cLine; ktu_offL) rfl (by intro e; cases e)
      (fun v h18 tk18 gs18 ps18 cs18 frs18 F18 N18 X18 Fs18 SU18' A18 hcs18 hsub18' hlo18 hgo18 hT => ?_)
    have hn18 : ∀ q ∈ cs18, q ∈ cs ∨ s.heap.get? q.1 = none := fun q hq => by
      rcases hcs18 q hq with h | h
      · exact hn14 q h
      · exact .inr (hcov F17 N17 hsub14 SU14 h)
    have hsub18 : ∀ q ∈ cs, q ∈ cs18 := fun q hq => hsub18' q (hsub14 q hq)
    have SU18 : SameUp frs frs18 := SameUp.trans (SU14) SU18'
    obtain ⟨t, hv⟩ : ∃ t, v = .int 0 t := by
      rcases hT with ⟨m, t, hm, hl, hmin, e'⟩ | ⟨_, hno⟩
      · have e : m - m16 = 0 := by
          have := hx16 m (hin m hm)
          ktu_offL
        exact ⟨t, by rw [e', e, Int.mul_zero]⟩
      · have := hno m16 hr16.1
        ktu_offL
    subst hv
    clear N17 F17
    k_steps
    refine Halt.mk ?_
    (with_reducible rename News _ _ _ _ => N19)
    (with_reducible rename Fr _ _ _ _ => F19)
    refine told_at (lits := ((D, listOf (vs.map fun p : Pr => Value.int p.y p.ty).toArray nD) :: (st3 w.params W dW lr sf ls k tw th n secs ++ (Gl, listOf (prs vs).toArray ng) :: vs.map Pr.obj))) GT CH F19 N19 hs3 hGg hgap X18 Fs18 A18 hlo18 hgo18 hok hB (by ktu_offL) hM hBM h0M hgM' hsz hne (by show dp + 1 + 80 < recursionLimit; ktu_offL) (by show un + 3 + 800 < cLine; ktu_offL) rfl (by intro e; cases e)
      (fun v h20 tk20 gs20 ps20 cs20 frs20 F20 N20 X20 Fs20 SU20' A20 hcs20 hsub20' hlo20 hgo20 hT => ?_)
    have hn20 : ∀ q ∈ cs20, q ∈ cs ∨ s.heap.get? q.1 = none := fun q hq => by
      rcases hcs20 q hq with h | h
      · exact hn18 q h
      · exact .inr (hcov F19 N19 hsub18 SU18 h)
    have hsub20 : ∀ q ∈ cs, q ∈ cs20 := fun q hq => hsub20' q (hsub18 q hq)
    have SU20 : SameUp frs frs20 := SameUp.trans (SU18) SU20'
    obtain ⟨m1, t1, hm1, hl1, hmin1, rfl⟩ : ∃ m t, m ∈ secs.map Gp.ln ∧ 1 ≤ m ∧ (∀ q ∈ secs.map Gp.ln, 1 ≤ q → m ≤ q) ∧ v = .int (B * (m - 1)) t := by
      rcases hT with h | ⟨_, hno⟩
      · exact h
      · have := hno m16 hr16.1
        ktu_offL
    clear N19 F19
    k_steps
    refine Halt.mk ?_
    (with_reducible rename News _ _ _ _ => N21)
    (with_reducible rename Fr _ _ _ _ => F21)
    refine kso_min F21 N21 (vs := vs.map fun p : Pr => Value.int p.y p.ty) ⟨_, (N21 _ (.head _)).1, rfl, nD, rfl⟩ (ints_prs vs) hne0 rfl (fun h22 m22 t22 tk22 F22 N22 hm22 hx22 => ?_)
    have hr22 := hrng m22 hm22
    have hmulok : IntMulOk B (m22 - 1) := hM _ _ (by ktu_offL) hBM (by ktu_offL) (by ktu_offL)
    have e22 : m1 = m22 := by
      have a := hmin1 m22 hr22.1 (by ktu_offL)
      have b := hx22 m1 (hin m1 hm1)
      ktu_offL
    subst e22
    have Fx := F22
    have Nx := N22
    clear N21 F21
    k_steps
    show OutII s [] cs frs (fun v _ => v = .bool true) _ _
    refine fin_II hgg hC3' Fx (fun q hq => (Nx q hq).1) (fun q hq => .inr (List.mem_append_left _ (.tail _ hq))) (fun q hq => List.mem_append_right _ hq) A20 X20 SU20 hsub20 hn20 ?_
    simp
end
end Mine

namespace Mine
section
variable {prog : Program} {w : World} {A : Around} {E : Value → Shared → Prop} {s : Shared}
/-- a for loop over a list, by an invariant over what stands -/
theorem for_list {target : Expr} {body orelse : List Stmt} {env : Env} {R : Result → Shared → Prop} {Ia ax : Addr} {items : Array Value} (J : Nat → Shared → Prop) (hh : A.handled = none)
    (hJ : ∀ i s', J i s' → s'.heap.IsListIter Ia ax i ∧ s'.heap.IsList ax items)
    (hown : ∀ i v (s' : Shared) (Q' : Unit → Shared → Prop) (E' : Value → Shared → Prop), items[i]? = some v → s'.heap.IsListIter Ia ax (i + 1) → Q' () s' → wpAny (model prog w) A (letOwnedTupleGo target (.ref Ia) v) Q' E' s')
    (turn : ∀ i v s' h₁, items[i]? = some v → J i s' → h₁.IsListIter Ia ax (i + 1) → Heap.SameBut Ia s'.heap h₁ →
      wpAny (model prog w) A (assign target env v) (fun _ s₂ => wpAny (model prog w) A (execs body env) (fun f s₃ => match f with
          | .next | .cont => J (i + 1) s₃
          | .brk => R (.ok .next) s₃
          | .ret v => R (.ok (.ret v)) s₃) (notedBy (model prog w) A env fun e s' => R (.error e) s') s₂) (notedBy (model prog w) A env fun e s' => R (.error e) s') { s' with heap := h₁ })
    (done : ∀ s' h₁, J items.size s' → Heap.ExtBut Ia s'.heap h₁ → wpAny (model prog w) A (execs orelse env) (fun f s₃ => R (.ok f) s₃) (notedBy (model prog w) A env fun e s' => R (.error e) s') { s' with heap := h₁ })
    (h0 : J 0 s) : codeAny (model prog w) A (.forLoop target (.ref Ia) body orelse env) R s := by
  refine codeAny_forLoop_any (fun n s' => ∃ i, n = items.size + 1 - i ∧ i ≤ items.size ∧ J i s') (fun n s' hI => ?_) (items.size + 1) ⟨0, rfl, Nat.zero_le _, h0⟩
  obtain ⟨i, rfl, hi, hj⟩ := hI
  obtain ⟨hit, hl⟩ := hJ i s' hj
  by_cases hlt : i < items.size
  · refine wpAny_pyNext_list_item hit hl (x := items[i]) (by simp [hlt]) fun h₁ hit₁ hs₁ => ?_
    refine hown i items[i] _ _ _ (by simp [hlt]) hit₁ (wpAny_mono (turn i items[i] s' h₁ (by simp [hlt]) hj hit₁ hs₁) (fun _ s₂ h₂ => wpAny_mono h₂ (fun f s₃ h₃ => ?_) fun _ _ x => x) fun _ _ x => x)
    cases f with
    | next => exact ⟨_, dec1 hlt, i + 1, rfl, hlt, h₃⟩
    | cont => exact ⟨_, dec1 hlt, i + 1, rfl, hlt, h₃⟩
    | brk => exact h₃
    | ret v => exact h₃
  · have hin : i = items.size := by ktu_offL
    subst hin
    exact wpAny_pyNext_list_end hh hit hl (by walk_at "sm") fun h₁ hs₁ => done s' h₁ hj hs₁
end
section
variable {w : World} {mean : ExcName → Option Value} {mg mb : Str → Option Value} {loose : List Str} {G₀ : Heap}
/-- the law gives a piece back -/
theorem give_c (G : Gnd w mean mg mb loose G₀) (W dW lr sf ls Tp : Addr) (k : Nat → Tok) (tw th : Tok) (n nt : Nat) (secs : List Gp) (up : Bool) (X Y B st ln : Int) (tx ty tb ts tl' : Tok)
    (hok : ∀ q ∈ secs, q.ok up X Y B) (hB : 0 < B) (hln : 0 < ln) (hsep : Sep Gp.st Gp.ln secs) (hfree : Free Gp.st Gp.ln st ln secs) (hsz : secs.length < sizeLine)
    (h1 : @Ne Nat W dW) (h2 : @Ne Nat W ls) (h4 : @Ne Nat dW ls) (hT : Tp ∉ [W, dW, ls]) (hne : ∀ q ∈ secs, ∀ o ∈ q.objs w.params, o.1 ∉ [W, dW, ls, Tp]) :
    CI w G₀ 40 400 508 [.ref W, .bool up, .ref Tp, .int B tb, .int st ts, .int ln tl'] ([(Tp, seqObj "tuple" #[.int X tx, .int Y ty] nt), (W, instObj 480 dW), (dW, dictOf (wEs w.params k tw th lr sf ls) 8), (ls, listOf (refs secs).toArray n)] ++ secs.flatMap (Gp.objs w.params)) [dW, ls]
      (WastePost w.params up X Y B k tw th lr sf ls dW secs st ln) := by
  have zS0 : Mine.StopAt 455 := ⟨trivial⟩
  intro dp fr gd un s E hd hu hG hC
  have hC4 : Has G₀ s.heap [(Tp, seqObj "tuple" #[.int X tx, .int Y ty] nt), (W, instObj 480 dW), (dW, dictOf (wEs w.params k tw th lr sf ls) 8), (ls, listOf (refs secs).toArray n)] := fun q hq => hC q (List.mem_append_left _ hq)
  have hCg : ∀ q ∈ secs, ∀ o ∈ q.objs w.params, s.heap.get? o.1 = some o.2 ∧ G₀.get? o.1 = none := fun q hq o ho => hC o (List.mem_append_right _ (List.mem_flatMap.mpr ⟨q, hq, ho⟩))
  have GT := G
  obtain ⟨KX, T⟩ := G
  refine wpAny_call (code_start KX T hG hC4 (by k_is) (by k_is) (by k_room) (BindsTo.of_eq rfl) (locs rfl) ?_ rfl rfl rfl (by decide))
  intro g L' h₁ hgg F N X' T' hlt
  have hGg : G₀.StaysIn g := by
    rw [hgg]
    exact stays_hideAll hG fun b hb => by obtain ⟨q, hq, rfl⟩ := List.mem_map.mp hb; exact (hC4 q hq).2
  have hgap : ∀ q ∈ secs, ∀ o ∈ q.objs w.params, g.get? o.1 = some o.2 ∧ G₀.get? o.1 = none := fun q hq o ho => by
    refine ⟨?_, (hCg q hq o ho).2⟩
    rw [hgg]
    refine hideAll_get _ (hCg q hq o ho).1 fun hm => hne q hq o ho ?_
    exact subm (show o.1 ∈ [Tp, W, dW, ls] from hm) (by walk_at "sub")
  clear KX T hC
  have hT3 := nmem3 hT
  cases up
  all_goals (
    dsimp only
    (with_reducible show wpAny _ _ _ _ _ _)
    k_fold
    k_steps
    refine Halt.mk ?_
    (with_reducible rename News _ _ _ _ => N₁)
    (with_reducible rename Fr _ _ _ _ => F₁)
    have HS : Has G₀ _ ([(W, instObj 480 dW), (dW, dictOf (wEs w.params k tw th lr sf ls) 8), (ls, listOf (refs secs).toArray n)] ++ secs.flatMap (Gp.objs w.params)) := fun q hq => by
      rcases List.mem_append.mp hq with hq | hq
      · have z := N₁ q (.tail _ hq)
        exact ⟨z.1, off_base hGg z.2.2⟩
      · obtain ⟨p, hp, ho⟩ := List.mem_flatMap.mp hq
        exact ⟨F₁.keep _ _ (hgap p hp q ho).1, (hgap p hp q ho).2⟩
    have hne3 : ∀ q ∈ secs, ∀ o ∈ q.objs w.params, o.1 ∉ [W, dW, ls] := fun q hq o ho hm => hne q hq o ho (by
      exact subm hm (by walk_at "sub"))
    refine wpAny_out (waste_c GT W dW lr sf ls k tw th n secs _ X Y B st ln _ _ _ _ _ _ _ _ (by intro _; exact ⟨rfl, rfl, rfl, rfl⟩) hok hB hln (by ktu_offL) (by ktu_offL) hsep hfree hsz h1 h2 h4 hne3 (dp + 1) _ _ (un + 3) _ _ (by ktu_offL) (by ktu_offL) (fun b o e => F₁.keep _ _ (hGg b o e)) HS) (fun v h₂ tk₂ k₂ hp => ?_)
    obtain ⟨rfl, a, d, z1, z2, z3, ls', n', r', t', z4, z5, z6, z7, z8, z9, z10⟩ := hp
    have hback : ∀ {b : Addr}, _ → s.heap.get? b = none := fun {b} e => none_back hgg F₁.keep (fun q hq => (N₁ q hq).1) (fun a ha => ha) e
    have hdW := N₁ (dW, dictOf (wEs w.params k tw th lr sf ls) 8) (by walk_at "sm")
    have hls := N₁ (ls, listOf (refs secs).toArray n) (by walk_at "sm")
    have F₂ : Fr g L' h₂ _ := k₂.fr F₁ (fun hm => (mem2 hm).elim (fun e => hdW.2.1 e.symm) (fun e => hls.2.1 e.symm)) (List.forall_mem_cons.mpr ⟨hdW.2.2, List.forall_mem_cons.mpr ⟨hls.2.2, List.forall_mem_nil _⟩⟩)
    have y1 := N₁ (Tp, seqObj "tuple" #[.int X tx, .int Y ty] nt) (by walk_at "sm")
    have y2 := N₁ (W, instObj 480 dW) (by walk_at "sm")
    have N₂ : News g L' h₂ [(Tp, seqObj "tuple" #[.int X tx, .int Y ty] nt), (W, instObj 480 dW)] := News.cons ⟨k₂ _ _ (fun hm => (mem2 hm).elim hT3.2.1 hT3.2.2) y1.1, y1.2⟩ (News.cons ⟨k₂ _ _ (fun hm => (mem2 hm).elim h1 h2) y2.1, y2.2⟩ (List.forall_mem_nil _))
    have Fx := F₂
    have Nx := N₂
    clear N₁ F₁
    k_steps
    refine OutI.intro hgg (fun q hq => (hC4 q hq).1) Fx Nx (by walk_at "oi") ⟨rfl, a, d, hback z1, hback z2, z3, ls', n', r', t', z4, z5.imp (fun h => h) hback, z6, z7, z8, z9, z10⟩)
end
end Mine

namespace Mine
section
variable {w : World} {mean : ExcName → Option Value} {mg mb : Str → Option Value} {loose : List Str} {G₀ : Heap}
noncomputable abbrev prOf (p : Pr) : Int × Int := (p.x, p.y)
inductive JoinedPost (vs : List Pr) (st ln : Int) (h : Heap) (v : Value) (h' : Heap) : Prop
  | mk (R : Addr) (vs' : List Pr) (n : Nat) (e : v = .ref R) (e1 : h.get? R = none) (e2 : h'.get? R = some (listOf (prs vs').toArray n)) (e3 : ∀ p ∈ vs', h'.get? p.a = some p.obj.2 ∧ h.get? p.a = none)
    (e4 : (vs'.map prOf).Perm (((gpass Pr.x Pr.y st ln vs).2.2.map prOf) ++ [((gpass Pr.x Pr.y st ln vs).1, (gpass Pr.x Pr.y st ln vs).2.1)])) : JoinedPost vs st ln h v h'
noncomputable def jm (m₀ : Str → Option Value) (O : Addr) (lv mv la lb : Option Value) : Str → Option Value := fun y => if y = Str.ofString "many" then mv else if y = Str.ofString "low" then lv else if y = Str.ofString "length" then lb else if y = Str.ofString "start" then la else if y = Str.ofString "others" then some (.ref O) else m₀ y
theorem jm_of {m m₀ : Str → Option Value} {O : Addr} (h : ∀ y, y ≠ Str.ofString "many" → y ≠ Str.ofString "low" → y ≠ Str.ofString "length" → y ≠ Str.ofString "start" → m y = if y = Str.ofString "others" then some (.ref O) else m₀ y) :
    ∀ y, m y = jm m₀ O (m (Str.ofString "low")) (m (Str.ofString "many")) (m (Str.ofString "start")) (m (Str.ofString "length")) y := by
  intro y
  unfold jm
  split
  · rename_i h; rw [h]
  split
  · rename_i h; rw [h]
  split
  · rename_i h; rw [h]
  split
  · rename_i h; rw [h]
  · exact h y (by assumption) (by assumption) (by assumption) (by assumption)
theorem sorted_snoc {A : Around} {s : Shared} {E Q : Value → Shared → Prop} {g : Heap} {L LL D' : Addr} {m : Str → Option Value} {n : Nat} {q2 : Addr × Obj} {rest : List (Addr × Obj)} {os : List Pr} {a b : Int} {t1 t2 : Tok} (F : Fr g L s.heap m)
    (N : News g L s.heap ((LL, listOf (prs os ++ [Value.ref D']).toArray n) :: q2 :: (D', seqObj "tuple" #[.int a t1, .int b t2] 0) :: rest)) (hos : ∀ p ∈ os, p.obj ∈ rest) (hlen : os.length < 62) (hu : A.units + 10 < cLine)
    (hQ : ∀ D R vs' n' h' tk, vs'.Perm (os ++ [⟨D, a, b, t1, t2, 0⟩]) → Fr g L h' m → News g L h' ((R, seqObj "list" (prs vs').toArray n') :: (LL, listOf (prs os ++ [Value.ref D]).toArray n) :: q2 :: (D, seqObj "tuple" #[.int a t1, .int b t2] 0) :: rest) → (∀ q ∈ (LL, listOf (prs os ++ [Value.ref D]).toArray n) :: q2 :: (D, seqObj "tuple" #[.int a t1, .int b t2] 0) :: rest, @LT.lt Nat _ q.1 R) → D = D' → Q (.ref R) { s with heap := h', toks := tk }) :
    wpAny (model PR w) A (call (.builtin "sorted") [.ref LL]) Q E s := by
  have e : prs os ++ [Value.ref D'] = prs (os ++ [⟨D', a, b, t1, t2, 0⟩]) := by simp [prs]
  refine sorted_pairs (vs := os ++ [⟨D', a, b, t1, t2, 0⟩]) F N ⟨_, (N _ (.head _)).1, rfl, n, by rw [e]⟩ (fun p hp => ?_) (by simp; ktu_offL) hu (fun R vs' n' h' tk hp F' N' hl => hQ D' R vs' n' h' tk hp F' N' hl rfl)
  rcases List.mem_append.mp hp with hp | hp
  · exact .tail _ (.tail _ (.tail _ (hos p hp)))
  · rw [List.mem_singleton.mp hp]
    exact .tail _ (.tail _ (.head _))
inductive JoinJ (s : Shared) (g hc : Heap) (L' : Addr) (m₀ : Str → Option Value) (O Gl : Addr) (vs : List Pr) (ng : Nat) (st ln : Int) (i : Nat) (s' : Shared) : Prop
  | mk (h : Heap) (tk : Nat) (lv mv la lb : Option Value) (nO : Nat) (os : List Pr) (oI : Obj) (e : s' = { s with heap := h, toks := tk }) (F : Fr g L' h (jm m₀ O lv mv la lb)) (hla : ∃ t, la = some (.int (gpass Pr.x Pr.y st ln (vs.take i)).1 t)) (hlb : ∃ t, lb = some (.int (gpass Pr.x Pr.y st ln (vs.take i)).2.1 t))
    (N : News g L' h ((O, listOf (prs os).toArray nO) :: (hc.objs.size, oI) :: (Gl, listOf (prs vs).toArray ng) :: (vs.map Pr.obj ++ os.map Pr.obj))) (hit : h.IsListIter hc.objs.size Gl i) (hos : os.map prOf = (gpass Pr.x Pr.y st ln (vs.take i)).2.2.map prOf) (hfr : ∀ p ∈ os, @LT.lt Nat _ hc.objs.size p.a) (hlen : os.length ≤ i) : JoinJ s g hc L' m₀ O Gl vs ng st ln i s'
theorem joined_c (G : Gnd w mean mg mb loose G₀) (Gl : Addr) (vs : List Pr) (ng : Nat) (st ln : Int) (ts tl' : Tok) (hsz : vs.length < 60) :
    CI w G₀ 20 200 489 [.ref Gl, .int st ts, .int ln tl'] ((Gl, listOf (prs vs).toArray ng) :: vs.map Pr.obj) [] (JoinedPost vs st ln) := by
  have zS0 : Mine.Stop "exec For" := ⟨trivial⟩
  have zS1 : Mine.Stop "call builtin:sorted" := ⟨trivial⟩
  have zS2 : Mine.Stop "call builtin:list.append" := ⟨trivial⟩
  intro dp fr gd un s E hd hu hG hC
  have GT := G
  obtain ⟨KX, T⟩ := G
  refine wpAny_call (code_start KX T hG hC (by k_is) (by k_is) (by k_room) (BindsTo.of_eq rfl) (locs rfl) ?_ rfl rfl rfl (by decide))
  intro g L' h₁ hgg F N X' T' hlt
  have hltv : ∀ p ∈ vs, @LT.lt Nat _ p.a L' := fun p hp => hlt p.obj (.tail _ (List.mem_map_of_mem hp))
  have hltG : @LT.lt Nat _ Gl L' := hlt (Gl, _) (.head _)
  clear KX T hlt
  dsimp only
  (with_reducible show wpAny _ _ _ _ _ _)
  k_fold
  k_steps
  refine Halt.mk ?_
  (with_reducible rename News _ _ _ _ => N₁)
  (with_reducible rename Fr _ _ _ _ => F₁)
  refine wpAny_For ?_ (by intro _; rfl)
  k_steps
  (with_reducible rename Heap => hc)
  rename_i O hO₀ l1
  obtain ⟨m₀, F₂, hms, hml, hmo⟩ : ∃ m₀, Fr g L' hc m₀ ∧ m₀ (Str.ofString "start") = some (.int st ts) ∧ m₀ (Str.ofString "length") = some (.int ln tl') ∧ m₀ (Str.ofString "others") = some (.ref O) := ⟨_, F₁, rfl, rfl, rfl⟩
  have hjm := jm_of (m := m₀) (m₀ := m₀) (O := O) fun y _ _ _ _ => by
    split
    · rename_i h; rw [h, hmo]
    · rfl
  have hGl := N₁ (Gl, listOf (prs vs).toArray ng) (by walk_at "sm")
  refine wpAny_pyIter_list ⟨_, hGl.1, rfl, ng, rfl⟩ ?_
  dsimp only
  have hLc : @LT.lt Nat _ L' hc.objs.size := F₂.ns.lt
  have upg : ∀ {b : Addr}, @LT.lt Nat _ L' b → g.get? b = none := fun hb => Heap.get?_none_of_le (Nat.le_trans F₂.above (Nat.le_of_lt hb))
  have hP : ∀ i p, vs[i]? = some p → gpass Pr.x Pr.y st ln (vs.take (i + 1)) = gstep Pr.x Pr.y (gpass Pr.x Pr.y st ln (vs.take i)) p := fun i p h => by
    rw [List.take_add_one, h]; simp [gpass, List.foldl_append]
  have hvl : (prs vs).toArray.size = vs.length := by simp
  have hOc : @LT.lt Nat _ O hc.objs.size := Heap.lt_size (N₁ (O, _) (.head _)).1
  have oth : ∀ {os : List Pr} {nO : Nat}, (∀ p ∈ os, @LT.lt Nat _ hc.objs.size p.a) → ∀ q ∈ (O, listOf (prs os).toArray nO) :: (Gl, listOf (prs vs).toArray ng) :: (vs.map Pr.obj ++ os.map Pr.obj), q.1 ≠ hc.objs.size := fun hfr =>
    List.forall_mem_cons.mpr ⟨Nat.ne_of_lt hOc, List.forall_mem_cons.mpr ⟨Nat.ne_of_lt (Heap.lt_size hGl.1), List.forall_mem_append.mpr ⟨List.forall_mem_map.mpr fun x hx => Nat.ne_of_lt (Nat.lt_trans (hltv x hx) hLc), List.forall_mem_map.mpr fun x hx => Nat.ne_of_gt (hfr x hx)⟩⟩⟩
  refine for_list (items := (prs vs).toArray) (ax := Gl) (JoinJ s g hc L' m₀ O Gl vs ng st ln) rfl ?hJ ?hown ?turn ?done ?h0
  case hJ =>
    rintro i s' ⟨h, tk, lv, mv, la, lb, nO, os, oI, rfl, F, _, _, N, hit, _⟩
    exact ⟨hit, _, (N (Gl, listOf (prs vs).toArray ng) (by walk_at "sm")).1, rfl, ng, rfl⟩
  case hown =>
    intro i v s' Q' E' hv hit hq
    obtain ⟨p, hp, rfl⟩ : ∃ p, vs[i]? = some p ∧ v = .ref p.a := by
      simp only [prs, List.getElem?_toArray, List.getElem?_map, Option.map_eq_some_iff] at hv
      obtain ⟨gp, h1, h2⟩ := hv
      exact ⟨gp, h1, h2.symm⟩
    exact wpAny_letOwnedTupleGo_listiter hit hq
  case h0 =>
    refine ⟨_, _, _, _, _, _, 0, [], _, rfl, Fr.congr (F₂.push _) hjm, ⟨ts, hms⟩, ⟨tl', hml⟩, News.cons ⟨Heap.get?_push_of_some _ (N₁ (O, _) (.head _)).1, (N₁ (O, _) (.head _)).2⟩ (News.cons ⟨Heap.get?_push_size _ rfl, Nat.ne_of_gt hLc, upg hLc⟩ (News.cons ⟨Heap.get?_push_of_some _ hGl.1, hGl.2⟩ fun q hq => ?_)), ⟨_, Heap.get?_push_size _ rfl, rfl, rfl⟩, rfl, fun _ h => (nomatch h), Nat.le_refl _⟩
    have z := N₁ q (by
      simp only [List.map_nil, List.append_nil] at hq
      simp [hq])
    exact ⟨Heap.get?_push_of_some _ z.1, z.2⟩
  case turn =>
    rintro i v s' h₂ hv ⟨h, tk, lv, mv, la, lb, nO, os, oI, rfl, F, hla, hlb, N, hit, hos, hfr, hlen⟩ hit₂ hs₂
    obtain ⟨p, hp, rfl⟩ : ∃ p, vs[i]? = some p ∧ v = .ref p.a := by
      simp only [prs, List.getElem?_toArray, List.getElem?_map, Option.map_eq_some_iff] at hv
      obtain ⟨gp, h1, h2⟩ := hv
      exact ⟨gp, h1, h2.symm⟩
    have hmem := List.mem_of_getElem? hp
    have hgs := hP i p hp
    have hlen' : os.length < 60 := by
      have := (List.getElem?_eq_some_iff.mp hp).1
      ktu_offL
    generalize gpass Pr.x Pr.y st ln (vs.take i) = pi at hla hlb hos hgs
    obtain ⟨s₁, l₁, kept⟩ := pi
    dsimp only at hla hlb hos hgs
    obtain ⟨t1, rfl⟩ := hla
    obtain ⟨t2, rfl⟩ := hlb
    dsimp only at hs₂
    obtain ⟨oI', hoI', hIc, hId⟩ := id hit₂
    have nI : @LT.lt Nat _ L' hc.objs.size := hLc
    have keepI : ∀ b o, b ≠ hc.objs.size → h.get? b = some o → h₂.get? b = some o := fun b o hb e => hs₂.extBut b o hb e
    have F₃ : Fr g L' h₂ _ := ⟨F.ns.sameBut hs₂ (Nat.ne_of_lt nI), fun b o e => keepI b o (get_ne e (upg nI)) (F.keep b o e), F.above⟩
    have N₃ : News g L' h₂ ((p.a, seqObj "tuple" #[.int p.x p.tx, .int p.y p.ty] p.n) :: (O, listOf (prs os).toArray nO) :: (hc.objs.size, oI') :: (Gl, listOf (prs vs).toArray ng) :: (vs.map Pr.obj ++ os.map Pr.obj)) := by
      have kp : ∀ q ∈ (O, listOf (prs os).toArray nO) :: (Gl, listOf (prs vs).toArray ng) :: (vs.map Pr.obj ++ os.map Pr.obj), h₂.get? q.1 = some q.2 ∧ q.1 ≠ L' ∧ g.get? q.1 = none := fun q hq => by
        have z := N q (by
          exact subm hq (by walk_at "sub"))
        exact ⟨keepI _ _ (oth hfr q hq) z.1, z.2⟩
      refine News.cons (kp p.obj (.tail _ (.tail _ (List.mem_append_left _ (List.mem_map_of_mem hmem))))) (News.cons (kp _ (.head _)) (News.cons ⟨hoI', Nat.ne_of_gt nI, upg nI⟩ fun q hq => kp q (.tail _ hq)))
    clear F N
    k_steps
    · (with_reducible rename News _ _ _ _ => N₄)
      (with_reducible rename Fr g _ _ _ => F₄)
      have e : gstep Pr.x Pr.y (s₁, l₁, kept) p = (p.x, l₁ + p.y, kept) := by
        have hc' : p.x + p.y = s₁ := by ktu_offL
        simp [gstep, mst, mln, touch, hc']
      show JoinJ _ _ _ _ _ _ _ _ _ _ _ _ _
      rw [e] at hgs
      refine ⟨_, _, _, _, _, _, nO, os, oI', rfl, Fr.congr F₄ (jm_of fun y b1 b2 b3 b4 => by walk_at "ifn"), (by rw [hgs]; exact ⟨_, rfl⟩), (by rw [hgs]; exact ⟨_, by rw [Int.add_comm]; rfl⟩), fun q hq => N₄ q ?_, ⟨oI', (N₄ (hc.objs.size, oI') (by walk_at "sm")).1, hIc, hId⟩, (by rw [hgs]; exact hos), hfr, by ktu_offL⟩
      exact subm hq (by walk_at "sub")
    · (with_reducible rename News _ _ _ _ => N₄)
      (with_reducible rename Fr g _ _ _ => F₄)
      have e : gstep Pr.x Pr.y (s₁, l₁, kept) p = (s₁, l₁ + p.y, kept) := by
        have hc' : ¬ p.x + p.y = s₁ := by ktu_offL
        have hc2 : s₁ + l₁ = p.x := by ktu_offL
        simp [gstep, mst, mln, touch, hc', hc2]
      show JoinJ _ _ _ _ _ _ _ _ _ _ _ _ _
      rw [e] at hgs
      refine ⟨_, _, _, _, _, _, nO, os, oI', rfl, Fr.congr F₄ (jm_of fun y b1 b2 b3 b4 => by walk_at "ifn"), (by rw [hgs]; exact ⟨_, rfl⟩), (by rw [hgs]; exact ⟨_, rfl⟩), fun q hq => N₄ q ?_, ⟨oI', (N₄ (hc.objs.size, oI') (by walk_at "sm")).1, hIc, hId⟩, (by rw [hgs]; exact hos), hfr, by ktu_offL⟩
      exact subm hq (by walk_at "sub")
    · refine Halt.mk ?_
      (with_reducible rename News _ _ _ _ => N₄)
      (with_reducible rename Fr g _ _ _ => F₄)
      rename (@LT.lt Nat _ p.a _ ∧ _) => l4
      rename_i DT h₄
      have e : gstep Pr.x Pr.y (s₁, l₁, kept) p = (s₁, l₁, kept ++ [p]) := by
        have hc' : ¬ p.x + p.y = s₁ := by ktu_offL
        have hc2 : ¬ s₁ + l₁ = p.x := by ktu_offL
        simp [gstep, mst, mln, touch, hc', hc2]
      have nO' := N₄ (O, listOf (prs os).toArray nO) (by walk_at "sm")
      have nT := N₄ _ (.head _)
      dsimp only at nT
      refine wpAny_list_append_plain (items := (prs os).toArray) ⟨nO, nO'.1⟩ (fun h₁₀ hp₁₀ hs₁₀ => ?_) (by rw [sizeLine_eq]; simp; ktu_offL)
      obtain ⟨nO₂, hp₁₀⟩ := hp₁₀
      have oneO : ∀ q ∈ (hc.objs.size, oI') :: (Gl, listOf (prs vs).toArray ng) :: (vs.map Pr.obj ++ os.map Pr.obj), q.1 ≠ O :=
        List.forall_mem_cons.mpr ⟨Nat.ne_of_gt hOc, List.forall_mem_cons.mpr ⟨Nat.ne_of_lt l1.1, List.forall_mem_append.mpr ⟨List.forall_mem_map.mpr fun x hx => Nat.ne_of_lt (allLt_mem l1.2 _ (List.mem_map_of_mem hx)), List.forall_mem_map.mpr fun x hx => Nat.ne_of_gt (Nat.lt_trans hOc (hfr x hx))⟩⟩⟩
      have kx : ∀ b o, b ≠ O → _ → h₁₀.get? b = some o := fun b o hb e => (hs₁₀.2 b hb).trans e
      have F₅ : Fr g L' h₁₀ _ := ⟨F₄.ns.sameBut hs₁₀ (Ne.symm nO'.2.1), fun b o e => kx b o (get_ne e nO'.2.2) (F₄.keep b o e), F₄.above⟩
      have nT' := kx _ _ (fun e => by have e' : @Eq Nat _ _ := e; ktu_offL) nT.1
      have N₅ : ∀ q ∈ (hc.objs.size, oI') :: (Gl, listOf (prs vs).toArray ng) :: (vs.map Pr.obj ++ os.map Pr.obj), h₁₀.get? q.1 = some q.2 ∧ q.1 ≠ L' ∧ g.get? q.1 = none := fun q hq => by
        have z := N₄ q (by
          exact subm hq (by walk_at "sub"))
        exact ⟨kx _ _ (oneO q hq) z.1, z.2⟩
      have Fx := F₅
      clear N₄ F₄
      k_steps
      show JoinJ _ _ _ _ _ _ _ _ _ _ _ _ _
      rw [e] at hgs
      refine ⟨_, _, _, _, _, _, nO₂, os ++ [⟨DT, p.x, p.y, p.tx, p.ty, 0⟩], oI', rfl, Fr.congr Fx (jm_of fun y b1 b2 b3 b4 => by walk_at "ifn"), (by rw [hgs]; exact ⟨_, rfl⟩), (by rw [hgs]; exact ⟨_, rfl⟩), fun q hq => ?_, ⟨oI', (N₅ (hc.objs.size, oI') (by walk_at "sm")).1, hIc, hId⟩, ?_, fun q hq => ?_, by simp; ktu_offL⟩
      · revert q
        exact List.forall_mem_cons.mpr ⟨⟨by rw [hp₁₀]; simp, nO'.2⟩, List.forall_mem_cons.mpr ⟨N₅ _ (.head _), List.forall_mem_cons.mpr ⟨N₅ _ (.tail _ (.head _)), List.forall_mem_append.mpr ⟨fun q hq => N₅ q (.tail _ (.tail _ (List.mem_append_left _ hq))), List.forall_mem_map.mpr (List.forall_mem_append.mpr ⟨fun x hx => N₅ x.obj (.tail _ (.tail _ (List.mem_append_right _ (List.mem_map_of_mem hx)))), List.forall_mem_cons.mpr ⟨⟨nT', nT.2⟩, List.forall_mem_nil _⟩⟩)⟩⟩⟩⟩
      · rw [hgs]; simp [hos]
      · rcases List.mem_append.mp hq with hq | hq
        · exact hfr q hq
        · rw [List.mem_singleton.mp hq]
          exact l4.2.2.1
  case done =>
    rintro s' h₂ ⟨h, tk, lv, mv, la, lb, nO, os, oI, rfl, F, hla, hlb, N, hit, hos, hfr, hlen⟩ hs₂
    rw [hvl] at hla hlb hos hlen
    rw [List.take_length] at hla hlb hos
    dsimp only at hs₂
    have keepI : ∀ b o, b ≠ hc.objs.size → h.get? b = some o → h₂.get? b = some o := fun b o hb e => hs₂ b o hb e
    have F₃ : Fr g L' h₂ _ := ⟨F.ns.at' fun o e => keepI L' o (Nat.ne_of_lt hLc) e, fun b o e => keepI b o (get_ne e (upg hLc)) (F.keep b o e), F.above⟩
    have N₃ : News g L' h₂ ((O, listOf (prs os).toArray nO) :: (Gl, listOf (prs vs).toArray ng) :: (vs.map Pr.obj ++ os.map Pr.obj)) := fun q hq => by
      have z := N q (by
        exact subm hq (by walk_at "sub"))
      exact ⟨keepI _ _ (oth hfr q hq) z.1, z.2⟩
    have hlen' : os.length < 60 := by ktu_offL
    obtain ⟨t1, rfl⟩ := hla
    obtain ⟨t2, rfl⟩ := hlb
    clear F N
    k_steps
    refine Halt.mk ?_
    (with_reducible rename News _ _ _ _ => N₆)
    (with_reducible rename Fr g _ _ _ => F₆)
    refine sorted_snoc (os := os) F₆ N₆ (fun p hp => by first | exact List.mem_append_right _ (List.mem_map_of_mem hp) | exact .tail _ (List.mem_append_right _ (List.mem_map_of_mem hp)) | exact .tail _ (.tail _ (List.mem_append_right _ (List.mem_map_of_mem hp))) | exact .tail _ (.tail _ (.tail _ (List.mem_append_right _ (List.mem_map_of_mem hp)))) | exact .tail _ (.tail _ (.tail _ (.tail _ (List.mem_append_right _ (List.mem_map_of_mem hp))))) | exact .tail _ (.tail _ (.tail _ (.tail _ (.tail _ (List.mem_append_right _ (List.mem_map_of_mem hp)))))) | exact .tail _ (.tail _ (.tail _ (.tail _ (.tail _ (.tail _ (List.mem_append_right _ (List.mem_map_of_mem hp))))))) | exact .tail _ (.tail _ (.tail _ (.tail _ (.tail _ (.tail _ (.tail _ (List.mem_append_right _ (List.mem_map_of_mem hp))))))))) (by ktu_offL) (by show un + 3 + 10 < cLine; ktu_offL) (fun D R vs' n' h₇ tk₇ hperm F₇ N₇ hltR hDD => ?_)
    rename (@LT.lt Nat _ O _ ∧ @LT.lt Nat _ Gl _ ∧ AllLt _ _) => lD
    show OutI s [] (JoinedPost vs st ln s.heap) (.ref R) _
    have nD := N₇ (D, seqObj "tuple" #[.int (gpass Pr.x Pr.y st ln vs).1 t1, .int (gpass Pr.x Pr.y st ln vs).2.1 t2] 0) (by walk_at "sm")
    have off : ∀ {b : Addr}, g.get? b = none → (@LT.lt Nat _ L' b ∨ (@LT.lt Nat _ Gl b ∧ ∀ p ∈ vs, @LT.lt Nat _ p.a b)) → s.heap.get? b = none := fun {b} hn hb => fresh_of hgg hn fun hm => by
      rcases List.mem_cons.mp hm with e | hm
      · have e' : b = Gl := e
        rcases hb with h | ⟨h, _⟩
        · rw [e'] at h; exact Nat.lt_irrefl _ (Nat.lt_trans h hltG)
        · rw [e'] at h; exact Nat.lt_irrefl _ h
      · obtain ⟨q, hq, e⟩ := List.mem_map.mp hm
        obtain ⟨x, hx, rfl⟩ := List.mem_map.mp hq
        have e' : b = x.a := e.symm
        rcases hb with h | ⟨_, h⟩
        · rw [e'] at h; exact Nat.lt_irrefl _ (Nat.lt_trans h (hltv x hx))
        · have := h x hx
          rw [e'] at this; exact Nat.lt_irrefl _ this
    refine OutI.intro hgg (fun q hq => (hC q hq).1) F₇ N₇ (List.forall_mem_cons.mpr ⟨.inr (by walk_at "mem"), fun q hq => .inr (by first | exact List.mem_append_left _ hq | exact .tail _ (List.mem_append_left _ hq) | exact .tail _ (.tail _ (List.mem_append_left _ hq)) | exact .tail _ (.tail _ (.tail _ (List.mem_append_left _ hq))) | exact .tail _ (.tail _ (.tail _ (.tail _ (List.mem_append_left _ hq)))) | exact .tail _ (.tail _ (.tail _ (.tail _ (.tail _ (List.mem_append_left _ hq))))) | exact .tail _ (.tail _ (.tail _ (.tail _ (.tail _ (.tail _ (List.mem_append_left _ hq)))))) | exact .tail _ (.tail _ (.tail _ (.tail _ (.tail _ (.tail _ (.tail _ (List.mem_append_left _ hq))))))))⟩) ⟨R, vs', n', rfl, off (N₇ (R, _) (.head _)).2.2 (.inr ⟨hltR (Gl, listOf (prs vs).toArray ng) (by walk_at "sm"), fun x hx => hltR x.obj (by first | exact List.mem_append_left _ (List.mem_map_of_mem hx) | exact .tail _ (List.mem_append_left _ (List.mem_map_of_mem hx)) | exact .tail _ (.tail _ (List.mem_append_left _ (List.mem_map_of_mem hx))) | exact .tail _ (.tail _ (.tail _ (List.mem_append_left _ (List.mem_map_of_mem hx)))) | exact .tail _ (.tail _ (.tail _ (.tail _ (List.mem_append_left _ (List.mem_map_of_mem hx))))) | exact .tail _ (.tail _ (.tail _ (.tail _ (.tail _ (List.mem_append_left _ (List.mem_map_of_mem hx)))))) | exact .tail _ (.tail _ (.tail _ (.tail _ (.tail _ (.tail _ (List.mem_append_left _ (List.mem_map_of_mem hx))))))) | exact .tail _ (.tail _ (.tail _ (.tail _ (.tail _ (.tail _ (.tail _ (List.mem_append_left _ (List.mem_map_of_mem hx)))))))))⟩), (N₇ (R, _) (.head _)).1, fun x hx => ?_, ?_⟩
    · rcases List.mem_append.mp (hperm.mem_iff.mp hx) with h | h
      · have z := N₇ x.obj (by first | exact List.mem_append_right _ (List.mem_map_of_mem h) | exact .tail _ (List.mem_append_right _ (List.mem_map_of_mem h)) | exact .tail _ (.tail _ (List.mem_append_right _ (List.mem_map_of_mem h))) | exact .tail _ (.tail _ (.tail _ (List.mem_append_right _ (List.mem_map_of_mem h)))) | exact .tail _ (.tail _ (.tail _ (.tail _ (List.mem_append_right _ (List.mem_map_of_mem h))))) | exact .tail _ (.tail _ (.tail _ (.tail _ (.tail _ (List.mem_append_right _ (List.mem_map_of_mem h)))))) | exact .tail _ (.tail _ (.tail _ (.tail _ (.tail _ (.tail _ (List.mem_append_right _ (List.mem_map_of_mem h))))))) | exact .tail _ (.tail _ (.tail _ (.tail _ (.tail _ (.tail _ (.tail _ (List.mem_append_right _ (List.mem_map_of_mem h)))))))))
        exact ⟨z.1, off z.2.2 (.inl (Nat.lt_trans hLc (hfr x h)))⟩
      · rw [List.mem_singleton.mp h]
        refine ⟨nD.1, off nD.2.2 (.inr ⟨?_, fun y hy => ?_⟩)⟩
        · rw [hDD]; exact lD.2.1
        · rw [hDD]; exact allLt_mem lD.2.2 y.obj (List.mem_append_left _ (List.mem_map_of_mem hy))
    · have := hperm.map prOf
      rw [List.map_append, hos] at this
      exact this
end
end Mine

namespace Mine
section
variable {prog : Program} {w : World} {A : Around}
/-- what the generator of a class's own __iter__ promises at each yield -/
noncomputable def genY (C lr : Addr) (items : Array Value) (Al : Addr → Prop) : Protocol := fun m s₀ v s kap => ∃ I i m', i + m + 1 = items.size ∧ items[i]? = some v ∧ ¬ Al I ∧ (∀ o, s₀.heap.get? I = some o → o.cls = .type "list_iterator") ∧
  (∃ h' tk, s = { s₀ with heap := h', toks := tk } ∧ ∀ b o, b ≠ C → b ≠ I → s₀.heap.get? b = some o → h'.get? b = some o) ∧ s.heap.IsListIter I lr (i + 1) ∧ s.heap.Ns C m' ∧
  ∀ s'' : Shared, (∀ b ∈ [C, lr, I], ∀ o, s.heap.get? b = some o → s''.heap.get? b = some o) → kap (.send .none) s''
noncomputable abbrev endY (C : Addr) (Al : Addr → Prop) : GenEnd := fun n s₀ r s₁ => r = .ok (.ret .none) ∧ (n = 0 ∧ ∃ I, ¬ Al I ∧ (∀ o, s₀.heap.get? I = some o → o.cls = .type "list_iterator") ∧ ∃ h' tk, s₁ = { s₀ with heap := h', toks := tk } ∧ ∀ b o, b ≠ C → b ≠ I → s₀.heap.get? b = some o → h'.get? b = some o)

theorem seg_forY {env : Env} {x : Str} {px xp yp ep : Pos} {fs : List Frame} {C lr I : Addr} {items : Array Value} {Al : Addr → Prop} (hov : ∀ c, (A.over c fs).handled = none) (hC : env.locals = C) (hx : env.kindOf x = some .local) (hk : env.scope.kind = .function) (hp : (env.scope.kind == .class || (env.scope.kind == .module && env.locals != env.globals)) = false)
    (hco : env.scope.isCoroutine = false) (hin : interactive env = false) (hdb : (x == ("__debug__" : Str)) = false) (hCI : C ≠ I) (hlI : lr ≠ I) (hlC : lr ≠ C) (hI : ¬ Al I) (hfs : splitAtGen fs = none) (hfg : fs.any Frame.guarded = false)
    (hend : ∀ s₀ s : Shared, (∀ o, s₀.heap.get? I = some o → o.cls = .type "list_iterator") → (∃ h' tk, s = { s₀ with heap := h', toks := tk } ∧ ∀ b o, b ≠ C → b ≠ I → s₀.heap.get? b = some o → h'.get? b = some o) →
      Seg (model prog w) A (endY C Al) (genY C lr items Al) 0 s₀ (.block [] env) ((model prog w).den (.block [] env)) fs s) :
    ∀ (k i : Nat) (s₀ s : Shared) (m : Str → Option Value), items.size - i = k → i ≤ items.size → s.heap.IsListIter I lr i → s.heap.IsList lr items → s.heap.Ns C m → (∀ o, s₀.heap.get? I = some o → o.cls = .type "list_iterator") →
      (∃ h' tk, s = { s₀ with heap := h', toks := tk } ∧ ∀ b o, b ≠ C → b ≠ I → s₀.heap.get? b = some o → h'.get? b = some o) →
      Seg (model prog w) A (endY C Al) (genY C lr items Al) k s₀ (.forLoop (.Name x px) (.ref I) [.Expr (.Yield (some (.Name x xp)) yp) ep] [] env)
        ((model prog w).den (.forLoop (.Name x px) (.ref I) [.Expr (.Yield (some (.Name x xp)) yp) ep] [] env)) fs s := by
  intro k
  induction k with
  | zero =>
    intro i s₀ s m hk' hi hit hl hn hcl hs
    obtain rfl : i = items.size := eq_end hk' hi
    show Seg _ A _ _ _ s₀ _ ((forTurn _ _ _ _ _).onRaise _) fs s
    unfold forTurn
    rw [Sem.onRaise_eq_wrap]
    refine seg_bind_wrap (wpAny_standAt (seg_bind_wrap (wpAny_onRaise (wpAny_pyNext_list_end (hov _) hit hl (by walk_at "sm") fun h₁ hs₁ => ?_))))
    refine seg_again rfl (hend s₀ _ hcl ?_)
    obtain ⟨h', tk, rfl, hk⟩ := hs
    exact ⟨h₁, tk, rfl, fun b o hb hb' e => hs₁ b o hb' (hk b o hb hb' e)⟩
  | succ k ih =>
    intro i s₀ s m hk' hi hit hl hn hcl hs
    have hlt : i < items.size := Nat.lt_of_sub_eq_succ hk'
    show Seg _ A _ _ _ s₀ _ ((forTurn _ _ _ _ _).onRaise _) fs s
    unfold forTurn
    rw [Sem.onRaise_eq_wrap]
    refine seg_bind_wrap (wpAny_standAt (seg_bind_wrap (wpAny_onRaise (wpAny_pyNext_list_item hit hl (x := items[i]) (by simp [hlt]) fun h₁ hit₁ hs₁ => ?_))))
    dsimp only
    refine seg_bind_wrap (wpAny_of_eq (rfl : letOwnedTupleGo (.Name x px) (.ref I) items[i] = pure ()) ?_)
    refine seg_bind_wrap (wpAny_assign_Name (wpAny_storeName_local hx (hC ▸ (hn.at' fun o e => hs₁.extBut _ o hCI e)) (fun h₂ hn₂ hs₂ => ?_) hp))
    rw [hC] at hn₂ hs₂
    rw [Sem.bind_eq_wrap', Sem.wrap_wrap]
    refine seg_execs_cons (seg_Expr_Yield hfs rfl hfg (wpAny_Name (wpAny_loadName_local hk hx (hC ▸ hn₂) (by simp; rfl) ?_) hdb) hco hin)
    intro kap hkap
    have hit₂ : h₂.IsListIter I lr (i + 1) := hit₁.at fun o e => hs₂.extBut _ o hCI.symm e
    have hl₂ : h₂.IsList lr items := (hl.at fun o e => hs₁.extBut _ o hlI e).at fun o e => hs₂.extBut _ o hlC e
    obtain ⟨h', tk, rfl, hkk⟩ := hs
    refine ⟨I, i, _, sub5 hk' hi, by simp [hlt], hI, hcl, ⟨h₂, _, rfl, fun b o hb hb' e => hs₂.extBut b o hb (hs₁.extBut b o hb' (hkk b o hb hb' e))⟩, hit₂, hn₂, fun s'' hal => hkap _ _ ?_⟩
    refine seg_execs_nil ?_
    refine seg_again rfl (ih (i + 1) s'' s'' _ (sub1 (by assumption)) hlt (hit₂.at fun o e => hal I (by walk_at "sm") o e) (hl₂.at fun o e => hal lr (by walk_at "sm") o e) (hn₂.at' fun o e => hal C (by walk_at "sm") o e) ?_ ⟨s''.heap, s''.toks, rfl, fun _ _ _ _ e => e⟩)
    intro o e
    obtain ⟨oI, hoI, hcI, _⟩ := hit₂
    have := hal I (by walk_at "sm") oI hoI
    rw [this] at e
    cases e
    exact hcI
theorem seg_iterY {env : Env} {x : Str} {iter : Expr} {pos px xp yp ep : Pos} {C lr : Addr} {items : Array Value} {Al : Addr → Prop} (hh : A.handled = none) (hC : env.locals = C) (hx : env.kindOf x = some .local) (hk : env.scope.kind = .function) (hp : (env.scope.kind == .class || (env.scope.kind == .module && env.locals != env.globals)) = false)
    (hco : env.scope.isCoroutine = false) (hin : interactive env = false) (hdb : (x == ("__debug__" : Str)) = false) (hlC : lr ≠ C) (hfold : ∀ v, foldedSetIterable iter env v = pure v) {m : Str → Option Value} (s : Shared)
    (hl : s.heap.IsList lr items) (hn : s.heap.Ns C m) (halive : ∀ b, Al b → ∃ o', s.heap.get? b = some o')
    (hiter : ∀ (Q' E' : Value → Shared → Prop), (∀ tk, Q' (.ref lr) { s with toks := tk }) → wpAny (model prog w) (A.over (.func [.For (.Name x px) iter [.Expr (.Yield (some (.Name x xp)) yp) ep] [] pos] env) []) (eval iter env) Q' E' s) :
    Seg (model prog w) A (endY C Al) (genY C lr items Al) items.size s (.func [.For (.Name x px) iter [.Expr (.Yield (some (.Name x xp)) yp) ep] [] pos] env) ((model prog w).den (.func [.For (.Name x px) iter [.Expr (.Yield (some (.Name x xp)) yp) ep] [] pos] env)) [] s := by
  refine seg_func (seg_execs_cons ?_)
  rw [exec_For]
  refine seg_bind_wrap (wpAny_standAt (seg_bind_wrap (hiter _ _ fun tk => seg_bind_wrap (wpAny_of_eq (hfold _) (seg_bind_wrap (wpAny_standAt (seg_bind_wrap (wpAny_holding (wpAny_pyIter_list (s := { s with toks := tk }) hl ?_)))))))))
  have hCs : C < s.heap.objs.size := hn.lt
  have hls : lr < s.heap.objs.size := let ⟨o, e, _⟩ := hl; Heap.lt_size e
  have hI : ¬ Al s.heap.objs.size := by
    intro e
    obtain ⟨o', e'⟩ := halive _ e
    exact absurd (Heap.lt_size e') (Nat.lt_irrefl _)
  have hnone : s.heap.get? s.heap.objs.size = none := Heap.get?_none_of_le (Nat.le_refl _)
  refine seg_call fun p => ?_
  refine seg_forY (I := s.heap.objs.size) (C := C) (lr := lr) (items := items) (Al := Al) (fun c => by show A.handled = none; exact hh) hC hx hk hp hco hin hdb (Nat.ne_of_lt hCs) (Nat.ne_of_lt hls) hlC hI rfl rfl (fun s₀ s' hcl hs => ?_) items.size 0 s _ m (Nat.sub_zero _) (Nat.zero_le _) ⟨_, Heap.get?_push_size _ rfl, rfl, rfl⟩ (hl.at fun o e => Heap.get?_push_of_some _ e) (hn.push _) (fun o e => by rw [hnone] at e; cases e) ⟨_, _, rfl, fun b o _ _ e => Heap.get?_push_of_some _ e⟩
  show Seg _ A _ _ 0 s₀ _ (leafOf (.ok .next)) _ s'
  refine seg_leaf (.ok .next) ?_
  show Seg _ A _ _ 0 s₀ _ (leafOf (.ok (.ret .none))) [] s'
  exact seg_end _ ⟨rfl, rfl, _, hI, hcl, hs⟩

theorem nextY_gen {s : Shared} {E : Value → Shared → Prop} {a : Addr} {g n : Nat} {gs : GenState} {P : Nat → Shared → Shared → Prop} {Y : Protocol} {Q : Option Value → Shared → Prop} (hh : A.handled = none) (hl : s.heap.NoLimit) (hroom : A.depth < recursionLimit) (hg : s.heap.IsGen a g) (hgs : s.gens[g]? = some gs)
    (hgo : gs.Goes (model prog w) A.in1 (fun n s₀ r s₁ => r = .ok (.ret .none) ∧ P n s₀ s₁) Y n (.send .none) (s.setGen g .running))
    (hY : ∀ v s₁ gs', gs'.bare = true → Y (n - 1) (s.setGen g .running) v s₁ (fun r' s'' => match n with | 0 => False | m + 1 => gs'.Goes (model prog w) A.in1 (fun n s₀ r s₁ => r = .ok (.ret .none) ∧ P n s₀ s₁) Y m r' s'') → Q (some v) (s₁.setGen g gs'))
    (hP : ∀ s₁, P n (s.setGen g .running) s₁ → ∀ h', (∀ b o, s₁.heap.get? b = some o → h'.get? b = some o) → Q none { s₁.setGen g .finished with heap := h' }) :
    wpAny (model prog w) A (pyNext (.ref a)) Q E s := by
  unfold pyNext
  refine wpAny_bind (wpAny_attempt (wpAny_callSpecial?_slot (name := Str.ofString "__next__") hg.typeIs slot_gen_next (wpAny_call_entry slot_gen_next hg.typeIs entry_gen_next ?_ (args_gen_next _))))
  show wpAny _ A.in1 (Builtin.Generator.genWake (.ref a) (.send .none)) _ _ s
  unfold Builtin.Generator.genWake
  refine wpAny_bind (wpAny_holding (wpAny_genNumber hg (wpAny_bind (wpAny_genState hgs ?_))))
  cases gs with
  | running => exact hgo.elim
  | finished => exact hgo.elim
  | _ =>
    refine wpAny_bind (wpAny_roomToWake hl hroom ?_)
    show wpAny _ A.in1 (.resume g (.send .none) [] _) _ _ s
    refine wpAny_resumeQ hgs hgo (fun x s₁ hx => ?_) (fun v s₁ gs' hb hv => ?_)
    · obtain ⟨rfl, hp⟩ := hx
      show wpAny _ A.in1 (newExc (.type "StopIteration") [] >>= _) _ _ _
      refine wpAny_bind ?_
      simp only [newExc, newTuple]
      refine wpAny_bind (wpAny_newObj_type ?_ (by size_fits))
      refine wpAny_bind (m := firstArgMember _ _) (wpAny_of_eq (a := Value.none) (by first | rfl | (simp only [firstArgMember]; rfl)) ?_)
      refine wpAny_newObj_type ?_ (by size_fits)
      first | refine wpAny_raiseNew_none hh ?_ | refine wpAny_bind (wpAny_raiseNew_none hh ?_)
      refine wpAny_bind (wpAny_isInstance (T := "StopIteration") (b := true) ⟨_, Heap.get?_push_size _ rfl, rfl⟩ isSubtype_stop ?_)
      exact wpAny_pure (hP s₁ hp _ fun b o hb => Heap.get?_push_of_some _ (Heap.get?_push_of_some _ hb))
    · exact wpAny_pure ⟨v, rfl, wpAny_pure (hY v s₁ gs' hb hv)⟩

/-- the generator between two yields -/
noncomputable def GenAtY (prog : Program) (w : World) (A : Around) (a : Addr) (gi : Nat) (C lr : Addr) (items : Array Value) (Al : Addr → Prop) (need : List Addr) (j : Nat) (s : Shared) : Prop :=
  s.heap.IsGen a gi ∧ ∃ gs, s.gens[gi]? = some gs ∧ ∀ s'' : Shared, (∀ b ∈ need, ∀ o, s.heap.get? b = some o → s''.heap.get? b = some o) → (∀ b, Al b → ∃ o', s''.heap.get? b = some o') →
    gs.Goes (model prog w) A.in1 (endY C Al) (genY C lr items Al) (items.size - j) (.send .none) s''
theorem next_Y {a C lr : Addr} {gi j : Nat} {items : Array Value} {Al : Addr → Prop} {need : List Addr} {s : Shared} {E : Value → Shared → Prop} {Q : Option Value → Shared → Prop} (hh : A.handled = none) (hroom : A.depth < recursionLimit) (hl : s.heap.NoLimit)
    (st : GenAtY prog w A a gi C lr items Al need j s) (hal : ∀ b, Al b → ∃ o', s.heap.get? b = some o') (hj : j < items.size)
    (hQ : ∀ I h' tk gs', ¬ Al I → (∀ o, s.heap.get? I = some o → o.cls = .type "list_iterator") → (∀ b o, b ≠ C → b ≠ I → s.heap.get? b = some o → h'.get? b = some o) → h'.IsListIter I lr (j + 1) → (∃ m', h'.Ns C m') → GenOnlyQ gi s.gens gs' →
      (h'.IsGen a gi → GenAtY prog w A a gi C lr items Al [C, lr, I] (j + 1) { s with heap := h', toks := tk, gens := gs' }) → Q (some items[j]) { s with heap := h', toks := tk, gens := gs' }) :
    wpAny (model prog w) A (pyNext (.ref a)) Q E s := by
  obtain ⟨hg, gs, hgs, hgo⟩ := st
  obtain ⟨n, hn⟩ : ∃ n, items.size - j = n + 1 := ⟨_, sub2 (by assumption)⟩
  have hgo' := hgo (s.setGen gi .running) (fun _ _ _ e => e) hal
  rw [hn] at hgo'
  refine nextY_gen (P := fun n s₀ s₁ => n = 0 ∧ ∃ I, ¬ Al I ∧ (∀ o, s₀.heap.get? I = some o → o.cls = .type "list_iterator") ∧ ∃ h' tk, s₁ = { s₀ with heap := h', toks := tk } ∧ ∀ b o, b ≠ C → b ≠ I → s₀.heap.get? b = some o → h'.get? b = some o) hh hl hroom hg hgs hgo' (fun v s₁ gs' hb hv => ?_) (fun s₁ hp h' hk => absurd hp.1 (Nat.succ_ne_zero n))
  obtain ⟨I, i, m', e1, e2, e3, e4, ⟨h', tk, rfl, kk⟩, e5, e6, e7⟩ := hv
  have hij : i = j := sub4 hj hn e1
  subst hij
  have hv : v = items[i] := by
    rw [Array.getElem?_eq_getElem hj] at e2
    exact (Option.some.inj e2).symm
  subst hv
  refine hQ I h' tk _ e3 e4 kk e5 ⟨m', e6⟩ ?_ fun hga => ⟨hga, gs', setGen_self (gs := .running) (setGen_self hgs), fun s'' hal' _ => ?_⟩
  · exact GenOnlyQ.of ((GenOnly.setGen s gi .running).trans (GenOnly.setGen _ gi gs')) (setGen_self (gs := .running) (setGen_self hgs)) hb
  · have := e7 s'' hal'
    rw [sub1 (by assumption)]
    exact this
theorem done_Y {a C lr : Addr} {gi : Nat} {items : Array Value} {Al : Addr → Prop} {need : List Addr} {s : Shared} {E : Value → Shared → Prop} {Q : Option Value → Shared → Prop} (hh : A.handled = none) (hroom : A.depth < recursionLimit) (hl : s.heap.NoLimit)
    (st : GenAtY prog w A a gi C lr items Al need items.size s) (hal : ∀ b, Al b → ∃ o', s.heap.get? b = some o')
    (hQ : ∀ I h' tk gs', ¬ Al I → (∀ o, s.heap.get? I = some o → o.cls = .type "list_iterator") → (∀ b o, b ≠ C → b ≠ I → s.heap.get? b = some o → h'.get? b = some o) → GenOnlyQ gi s.gens gs' → Q none { s with heap := h', toks := tk, gens := gs' }) :
    wpAny (model prog w) A (pyNext (.ref a)) Q E s := by
  obtain ⟨hg, gs, hgs, hgo⟩ := st
  have hgo' := hgo (s.setGen gi .running) (fun _ _ _ e => e) hal
  rw [Nat.sub_self] at hgo'
  refine nextY_gen (P := fun n s₀ s₁ => n = 0 ∧ ∃ I, ¬ Al I ∧ (∀ o, s₀.heap.get? I = some o → o.cls = .type "list_iterator") ∧ ∃ h' tk, s₁ = { s₀ with heap := h', toks := tk } ∧ ∀ b o, b ≠ C → b ≠ I → s₀.heap.get? b = some o → h'.get? b = some o) hh hl hroom hg hgs hgo' (fun v s₁ gs' hb hv => ?_) (fun s₁ hp h' hk => ?_)
  · obtain ⟨I, i, m', e1, e2, _, _, _, _, _, e7⟩ := hv
    exact (e7 s₁ fun _ _ _ e => e).elim
  · obtain ⟨_, I, e3, e4, h₁, tk, rfl, kk⟩ := hp
    exact hQ I h' _ _ e3 e4 (fun b o hb hb' e => hk b o (kk b o hb hb' e)) (GenOnlyQ.of ((GenOnly.setGen s gi .running).trans (GenOnly.setGen _ gi .finished)) (setGen_self (gs := .running) (setGen_self hgs)) rfl)
end
end Mine

namespace Mine
/-- all that stands beside base, frame and some: as a ledger -/
theorem rest_ledger (g h : Heap) (L : Addr) (ex : List Addr) : ∃ Tl : List (Addr × Obj), News g L h Tl ∧ ∀ b o, h.get? b = some o → g.get? b = none → b ≠ L → b ∉ ex → (b, o) ∈ Tl := by
  refine ⟨(List.range h.objs.size).filterMap fun b => match h.get? b with | some o => if (g.get? b).isNone = true ∧ @Ne Nat b L ∧ b ∉ ex then some (b, o) else none | none => none, fun q hq => ?_, fun b o e1 e2 e3 e4 => ?_⟩
  · obtain ⟨b, _, hb⟩ := List.mem_filterMap.mp hq
    cases e : h.get? b with
    | none => rw [e] at hb; cases hb
    | some o =>
      rw [e] at hb
      dsimp only at hb
      split at hb
      · rename_i hc
        cases hb
        exact ⟨e, hc.2.1, Option.isNone_iff_eq_none.mp hc.1⟩
      · cases hb
  · refine List.mem_filterMap.mpr ⟨b, List.mem_range.mpr (Heap.lt_size e1), ?_⟩
    rw [e1]
    dsimp only
    rw [if_pos ⟨Option.isNone_iff_eq_none.mpr e2, e3, e4⟩]
section
variable {prog : Program} {w : World} {A : Around} {E : Value → Shared → Prop} {s : Shared} {K : Frag} {f : Addr} {args : List Value} {binds : List (Str × Value)}
  {name qual : Str} {params : Arguments} {body : List Stmt} {scope : Scope} {dV kV doc pm cdv ct oc : Value} {an od : Option Addr} {osl : Array (Option Value)}
/-- a call of a generator's def: the generator stands, not yet run -/
theorem gen_call (X : K.In s.heap) (hl : s.heap.NoLimit) (ho : K.lookup f = some ⟨oc, od, .func (fnOf name qual params body scope dV kV doc pm an cdv ct), osl⟩) (hcd : codeIn K cdv qual = true) (hroom : A.depth < recursionLimit)
    (hbind : BindsTo s (fnOf name qual params body scope dV kV doc pm an cdv ct) ⟨args, []⟩ binds) (hloc : ∀ y ∈ binds, scope.names.lookup y.1 = some .local) {Q : Value → Shared → Prop}
    (h : ∀ h₁ gs tk a, a = h₁.objs.size - 1 → a = s.heap.objs.size + 1 → gs = .fresh (.func body (callEnv (fnOf name qual params body scope dV kV doc pm an cdv ct) s.heap.objs.size f)) → (∀ b o, s.heap.get? b = some o → h₁.get? b = some o) → h₁.Ns s.heap.objs.size (fun x => binds.reverse.lookup x) → h₁.IsGen a s.gens.size → h₁.NoLimit → Q (.ref a) { s with heap := h₁, gens := s.gens.push gs, toks := tk })
    (hco : scope.isCoroutine = false) (hgen : scope.isGenerator = true) (hk : scope.kind = .function) (hcell : ∀ x ∈ scope.names, x.2 ≠ .cell) : wpAny (model prog w) A (call (.ref f) args) Q E s := by
  refine wpAny_call (codeAny_call_generator hroom (X _ _ ho) rfl hco hgen rfl (codeRec_of X hcd) (hbind _ _ _ _ ?_))
  refine wpAny_newFunctionEnv hcell hloc (fun h₀ hns₀ hsb₀ => ⟨hl.fresh _ hsb₀, ?_⟩) hk
  have hsz : h₀.objs.size = s.heap.objs.size + 1 := by rw [hsb₀.1, Heap.size_push]
  have k0 : ∀ b o, s.heap.get? b = some o → h₀.get? b = some o := fun b o e => hsb₀.extBut b o (Nat.ne_of_lt (Heap.lt_size e)) (Heap.get?_push_of_some _ e)
  exact h _ _ _ h₀.objs.size (by rw [Heap.size_push]; rfl) hsz rfl (fun b o e => Heap.get?_push_of_some _ (k0 b o e)) (hns₀.push _) ⟨_, _, _, Heap.get?_push_size _ rfl, rfl, rfl, rfl⟩ ((hl.keeps k0).keeps fun b o e => Heap.get?_push_of_some _ e)
end
theorem for_count {target : Expr} {body orelse : List Stmt} {env : Env} {R : Result → Shared → Prop} {it : Value} (N : Nat) (J : Nat → Shared → Prop)
    (turn : ∀ i s', i ≤ N → J i s' → wpAny (model prog w) A (pyNext it) (fun r s₁ => match r with
      | none => wpAny (model prog w) A (execs orelse env) (fun f s₃ => R (.ok f) s₃) (notedBy (model prog w) A env fun e s' => R (.error e) s') s₁
      | some v => i < N ∧ wpAny (model prog w) A (letOwnedTupleGo target it v) (fun _ s₁' =>
          wpAny (model prog w) A (assign target env v) (fun _ s₂ => wpAny (model prog w) A (execs body env) (fun f s₃ => match f with
            | .next | .cont => J (i + 1) s₃
            | .brk => R (.ok .next) s₃
            | .ret v => R (.ok (.ret v)) s₃) (notedBy (model prog w) A env fun e s' => R (.error e) s') s₂) (notedBy (model prog w) A env fun e s' => R (.error e) s') s₁') (notedBy (model prog w) A env fun e s' => R (.error e) s') s₁) (notedBy (model prog w) A env fun e s' => R (.error e) s') s')
    (h0 : J 0 s) : codeAny (model prog w) A (.forLoop target it body orelse env) R s := by
  refine codeAny_forLoop_any (fun n s' => ∃ i, n = N + 1 - i ∧ i ≤ N ∧ J i s') (fun n s' hI => ?_) (N + 1) ⟨0, rfl, Nat.zero_le _, h0⟩
  obtain ⟨i, rfl, hi, hj⟩ := hI
  refine wpAny_mono (turn i s' hi hj) (fun r s₁ h₁ => ?_) fun _ _ x => x
  cases r with
  | none => exact h₁
  | some v =>
    obtain ⟨hlt, h₁⟩ := h₁
    refine wpAny_mono h₁ (fun _ s₂ h₂ => wpAny_mono h₂ (fun _ s₃ h₃ => wpAny_mono h₃ (fun f s₄ h₄ => ?_) fun _ _ x => x) fun _ _ x => x) fun _ _ x => x
    cases f with
    | next => exact ⟨_, dec1 hlt, i + 1, rfl, hlt, h₄⟩
    | cont => exact ⟨_, dec1 hlt, i + 1, rfl, hlt, h₄⟩
    | brk => exact h₄
    | ret v => exact h₄
/-- a piece that was taken: its object, its dict, its rectangle -/
structure Pc where
  a : Addr
  d : Addr
  r : Rc
noncomputable def Pc.objs (P : Params) (p : Pc) : List (Addr × Obj) := [(p.a, instObj 203 p.d), (p.d, dictOf (rcEs P p.r) 5)]
noncomputable def rlm (W R : Addr) (rv : Option Value) : Str → Option Value := fun y => if y = Str.ofString "r" then rv else if y = Str.ofString "rectangle_list" then some (.ref R) else [(Str.ofString "self", Value.ref W)].lookup y
noncomputable abbrev pcs (ps : List Pc) : List Value := ps.map fun p => .ref p.a
section
variable {w : World} {mean : ExcName → Option Value} {mg mb : Str → Option Value} {loose : List Str} {G₀ : Heap}
inductive RlPost (ps : List Pc) (h : Heap) (v : Value) (h' : Heap) : Prop
  | mk (R : Addr) (n : Nat) (ts : List Addr) (e : v = .ref R) (e1 : h.get? R = none) (e2 : h'.get? R = some (listOf ((ts : List Addr).map Value.ref).toArray n)) (e3 : ts.length = ps.length)
    (e4 : ∀ (j : Nat) (p : Pc) (t : Addr), ps[j]? = some p → ts[j]? = some t → h.get? t = none ∧ ∃ c, h'.get? t = some (seqObj "tuple" #[.int p.r.x p.r.tx, .int p.r.y p.r.ty, .int p.r.w p.r.tw, .int p.r.h p.r.th, p.r.rid] c)) : RlPost ps h v h'
inductive RlJ (w : World) (A : Around) (s : Shared) (h₂ g : Heap) (L' W R C a lr : Addr) (ps : List Pc) (j : Nat) (s' : Shared) : Prop
  | mk (h' : Heap) (tk : Nat) (gs' : Array GenState) (need : List Addr) (rv : Option Value) (nR : Nat) (ts : List Addr) (e : s' = { s with heap := h', toks := tk, gens := gs' }) (hB : AllBare gs') (hF : Fr g L' h' (rlm W R rv)) (hR : h'.get? R = some (listOf ((ts : List Addr).map Value.ref).toArray nR)) (hts : ts.length = j) (hfr : (∀ t ∈ ts, h₂.get? t = none))
    (htup : (∀ (i : Nat) (p : Pc) (t : Addr), ps[i]? = some p → ts[i]? = some t → ∃ c, h'.get? t = some (seqObj "tuple" #[.int p.r.x p.r.tx, .int p.r.y p.r.ty, .int p.r.w p.r.tw, .int p.r.h p.r.th, p.r.rid] c)))
    (kk : (∀ b o, @Ne Nat b C → @Ne Nat b R → @Ne Nat b L' → h₂.get? b = some o → h'.get? b = some o)) (hC : (∃ m', h'.Ns C m')) (st : GenAtY PR w A a s.gens.size C lr (pcs ps).toArray (fun b => ∃ o, h₂.get? b = some o) need j s') : RlJ w A s h₂ g L' W R C a lr ps j s'
theorem rlist_c (G : Gnd w mean mg mb loose G₀) (W dW lr sf ls : Addr) (k : Nat → Tok) (tw th : Tok) (np : Nat) (pieces : List Pc) (hsz : pieces.length < 64) (hrid : ∀ q ∈ pieces, ∃ i t, q.r.rid = .int i t)
    (hne : ∀ q ∈ pieces, ∀ o ∈ q.objs w.params, o.1 ∉ [W, dW, lr]) {dp un : Nat} {fr : Option (List Env)} {gd : Option (List Code)} {s : Shared} {E : Value → Shared → Prop} (hd : dp + 30 < recursionLimit) (hu : un + 300 < cLine) (hG : G₀.StaysIn s.heap)
    (hC : Has G₀ s.heap ([(W, instObj 480 dW), (dW, dictOf (wEs w.params k tw th lr sf ls) 8), (lr, listOf (pcs pieces).toArray np)] ++ pieces.flatMap (Pc.objs w.params))) (hA : AllBare s.gens) :
    wpAny (model PR w) (AT dp fr gd un) (call (.ref 280) [.ref W]) (fun v s' => ∃ h' tk' gs', s' = { s with heap := h', toks := tk', gens := gs' } ∧ AllBare gs' ∧ (∀ b o, s.heap.get? b = some o → h'.get? b = some o) ∧ RlPost pieces s.heap v h') E s := by
  have zS0 : Mine.Stop "exec For" := ⟨trivial⟩
  have zS1 : Mine.Stop "exec For Name Name cons nil" := ⟨trivial⟩
  have zS2 : Mine.StopAt 236 := ⟨trivial⟩
  have zS3 : Mine.Stop "call builtin:list.append" := ⟨trivial⟩
  have hCg : ∀ q ∈ pieces, ∀ o ∈ q.objs w.params, s.heap.get? o.1 = some o.2 ∧ G₀.get? o.1 = none := fun q hq o ho => hC o (List.mem_append_right _ (List.mem_flatMap.mpr ⟨q, hq, ho⟩))
  have GT := G
  obtain ⟨KX, T⟩ := G
  refine wpAny_call (code_start KX T hG hC (by k_is) (by k_is) (by k_room) (BindsTo.of_eq rfl) (locs rfl) ?_ rfl rfl rfl (by decide))
  intro g L' h₁ hgg F N X' T' hlt
  have hGg : G₀.StaysIn g := by
    rw [hgg]
    exact stays_hideAll hG fun b hb => by obtain ⟨q, hq, rfl⟩ := List.mem_map.mp hb; exact (hC q hq).2
  clear KX T hlt
  dsimp only
  (with_reducible show wpAny _ _ _ _ _ _)
  k_fold
  k_steps
  refine Halt.mk ?_
  (with_reducible rename News _ _ _ _ => N₁)
  (with_reducible rename Fr g _ _ _ => F₁)
  refine wpAny_For ?_ (by intro _; rfl)
  k_steps
  rename_i R h' lR hw
  have N₀ := N₁
  have F₀ := F₁
  k_dflt (refine' owit_iter ?F ?X ?I ?hs ?hf ?_; (case F => k_asm); (case X => k_asm); (case I => k_inst); (case hs => k_is); (case hf => k_is); k_whole)
  refine gen_call (X'.keeps F₁.keep) (T'.nolimit.keeps F₁.keep) (by k_is) (by k_is) (by k_room) (BindsTo.of_eq rfl) (locs rfl) ?_ rfl rfl rfl (by decide)
  dsimp only
  intro h₂ gs tk a ea1 ea egs k₂ n₂ g₂ l₂
  unfold OwitIt
  refine wpAny_specialOf g₂.typeIs slot_gen_next.lookup ?_
  (with_reducible show codeAny _ _ _ _ _)
  have hW := N₀ (W, instObj 480 dW) (by walk_at "sm")
  have hdW := N₀ (dW, dictOf (wEs w.params k tw th lr sf ls) 8) (by walk_at "sm")
  have hlr := N₀ (lr, listOf (pcs pieces).toArray np) (by walk_at "sm")
  have hR := N₀ (R, listOf #[] 0) (by walk_at "sm")
  have hsw : ∀ b o, s.heap.get? b = some o → hw.get? b = some o := fun b o e => by
    by_cases hm : b ∈ ([(W, instObj 480 dW), (dW, dictOf (wEs w.params k tw th lr sf ls) 8), (lr, listOf (pcs pieces).toArray np)] ++ pieces.flatMap (Pc.objs w.params)).map (·.1)
    · obtain ⟨q, hq, rfl⟩ := List.mem_map.mp hm
      have e1 := (hC q hq).1
      rw [e] at e1
      cases e1
      exact (N₀ q (List.mem_cons_of_mem _ hq)).1
    · exact F₀.keep b o (by rw [hgg]; exact hideAll_get _ e hm)
  have st0 : ∀ (A : Around) (hh : A.handled = none), GenAtY PR w A a s.gens.size hw.objs.size lr (pcs pieces).toArray (fun b => ∃ o, h₂.get? b = some o) (List.range h₂.objs.size) 0 { s with heap := h₂, gens := s.gens.push gs, toks := tk } := fun A hh => by
    refine ⟨g₂, gs, Array.getElem?_push_size .., fun s'' hk hal => ?_⟩
    have hk2 : ∀ b o, h₂.get? b = some o → s''.heap.get? b = some o := fun b o e => hk b (List.mem_range.mpr (Heap.lt_size e)) o e
    subst egs
    refine ⟨rfl, ?_⟩
    refine seg_iterY (A := A.in1) (C := hw.objs.size) (m := fun x => [(Str.ofString "self", Value.ref W)].lookup x) hh rfl rfl rfl rfl rfl rfl rfl (Nat.ne_of_lt (Heap.lt_size hlr.1)) (fun _ => rfl) s'' ⟨_, hk2 _ _ (k₂ _ _ hlr.1), rfl, np, rfl⟩ (n₂.at' fun o e => hk2 _ o e) hal ?_
    intro Q' E' hQ
    have Fg : Fr g hw.objs.size s''.heap _ := ⟨n₂.at' fun o e => hk2 _ o e, fun b o e => hk2 _ _ (k₂ _ _ (F₀.keep _ _ e)), Nat.le_trans F₀.above (Nat.le_of_lt F₀.ns.lt)⟩
    have Ng : News g hw.objs.size s''.heap [(W, instObj 480 dW), (dW, dictOf (wEs w.params k tw th lr sf ls) 8)] := fun q hq => by
      have z := N₀ q (by
        exact subm hq (by walk_at "sub"))
      exact ⟨hk2 _ _ (k₂ _ _ z.1), Nat.ne_of_lt (Heap.lt_size z.1), z.2.2⟩
    clear F₁ N₁ F₀ N₀
    k_steps
    exact hQ _
  have hA2 : AllBare (s.gens.push gs) := hA.push (by rw [egs]; rfl)
  have hcg : g.get? hw.objs.size = none := by
    cases e : g.get? hw.objs.size with
    | none => rfl
    | some o => exact absurd (Heap.lt_size (F₀.keep _ _ e)) (Nat.lt_irrefl _)
  generalize eA : (AT dp fr gd un).deeper _ = AA
  have hAh : AA.handled = none := by rw [← eA]; rfl
  have hAd : AA.depth < recursionLimit := by rw [← eA]; show dp + 1 < recursionLimit; ktu_offL
  refine for_count pieces.length (fun j s' => Halt (RlJ w AA s h₂ g L' W R hw.objs.size a lr pieces j s')) ?_ (Halt.mk ?_)
  case refine_2 =>
    refine ⟨h₂, tk, _, _, none, 0, [], rfl, hA2, ?_, ?_, rfl, (List.forall_mem_nil _), (fun i p t _ ht => by simp at ht), (fun b o _ _ _ e => e), ⟨_, n₂⟩, st0 _ hAh⟩
    · exact Fr.congr ⟨F₀.ns.keeps k₂, fun b o e => k₂ _ _ (F₀.keep b o e), F₀.above⟩ fun y => by
        unfold rlm
        by_cases h : y = Str.ofString "r"
        · subst h; rfl
        · rw [if_neg h]; rfl
    · exact k₂ _ _ hR.1
  intro j s' hj hJ
  obtain ⟨h₃, tk₃, gs₃, need, rv, nR, ts, rfl, hB₃, F₃, hR₃, hts, hfr, htup, kk₃, hC₃, st₃⟩ := hJ.go
  have hal₃ : ∀ b, (∃ o, h₂.get? b = some o) → ∃ o', h₃.get? b = some o' := fun b ⟨o, e⟩ => by
    by_cases b1 : @Eq Nat b hw.objs.size
    · obtain ⟨m', oC, _, _, z, _⟩ := hC₃
      exact ⟨_, b1 ▸ z⟩
    by_cases b2 : @Eq Nat b R
    · exact ⟨_, b2 ▸ hR₃⟩
    by_cases b3 : @Eq Nat b L'
    · obtain ⟨oL, _, _, z, _⟩ := F₃.ns
      exact ⟨_, b3 ▸ z⟩
    exact ⟨o, kk₃ b o b1 b2 b3 e⟩
  have hl₃ : h₃.NoLimit := T'.nolimit.keeps F₃.keep
  have hlC : @LT.lt Nat _ L' hw.objs.size := F₀.ns.lt
  have hLI : ∀ I, ¬ (∃ o, h₂.get? I = some o) → @Ne Nat L' I ∧ @Ne Nat R I ∧ g.get? I = none := fun I hI => by
    refine ⟨fun e => hI ?_, fun e => hI ?_, ?_⟩
    · obtain ⟨oL, _, _, z, _⟩ := F₀.ns
      exact ⟨_, e ▸ k₂ _ _ z⟩
    · exact ⟨_, e ▸ k₂ _ _ hR.1⟩
    · cases e : g.get? I with
      | none => rfl
      | some o => exact absurd ⟨o, k₂ _ _ (F₀.keep _ _ e)⟩ hI
  have hRC : @Ne Nat R hw.objs.size := Nat.ne_of_lt (Heap.lt_size hR.1)
  have hLw : ∃ m', hw.Ns L' m' := ⟨_, F₀.ns⟩
  have hgs : ∀ b, g.get? b = none → (∀ q ∈ ([(W, instObj 480 dW), (dW, dictOf (wEs w.params k tw th lr sf ls) 8), (lr, listOf (pcs pieces).toArray np)] ++ pieces.flatMap (Pc.objs w.params)), q.1 ≠ b) → s.heap.get? b = none := fun b hn hx => by
    cases e : s.heap.get? b with
    | none => rfl
    | some o =>
      have := hideAll_get (([(W, instObj 480 dW), (dW, dictOf (wEs w.params k tw th lr sf ls) 8), (lr, listOf (pcs pieces).toArray np)] ++ pieces.flatMap (Pc.objs w.params)).map (·.1)) e fun hm => by
        obtain ⟨q, hq, eq⟩ := List.mem_map.mp hm
        exact hx q hq eq
      rw [← hgg, hn] at this
      cases this
  have hsR : s.heap.get? R = none := hgs R hR.2.2 fun q hq => Nat.ne_of_lt (lR q hq)
  have hsL : s.heap.get? L' = none := hgs L' (Heap.get?_none_of_le F₀.above) fun q hq => (N₀ q (List.mem_cons_of_mem _ hq)).2.1
  have hga2 : ∃ o, h₂.get? a = some o := by
    obtain ⟨o, _, _, ho, _⟩ := g₂
    exact ⟨o, ho⟩
  have haC : @Ne Nat a hw.objs.size := by ktu_offL
  have haL : @Ne Nat a L' := Nat.ne_of_gt (Nat.lt_of_lt_of_eq (Nat.lt_succ_of_lt hlC) ea.symm)
  have haR : @Ne Nat a R := Nat.ne_of_gt (Nat.lt_of_lt_of_eq (Nat.lt_succ_of_lt (Heap.lt_size hR.1)) ea.symm)
  obtain ⟨oA2, hga2⟩ := hga2
  rcases Nat.lt_or_ge j pieces.length with hlt | hge
  · obtain ⟨p, hp⟩ : ∃ p, pieces[j]? = some p := ⟨pieces[j], List.getElem?_eq_getElem hlt⟩
    have hpm := List.mem_of_getElem? hp
    refine next_Y hAh hAd hl₃ st₃ hal₃ (by simp; exact hlt) fun I h₄ tk₄ gs₄ hI hIc kk₄ hit₄ hC₄ hgq st₄ => ?_
    have hitem : (pcs pieces).toArray[j]'(by simp; exact hlt) = .ref p.a := by
      rw [List.getElem?_eq_getElem hlt] at hp
      simp [← Option.some.inj hp]
    rw [hitem]
    dsimp only
    refine ⟨hlt, ?_⟩
    refine wpAny_of_eq (rfl : letOwnedTupleGo _ (.ref a) _ = pure ()) ?_
    have F₄ : Fr g L' h₄ (rlm W R rv) := ⟨F₃.ns.at' fun o e => kk₄ L' o (Nat.ne_of_lt hlC) (hLI I hI).1 e, fun b o e => kk₄ b o (get_ne e hcg) (get_ne e (hLI I hI).2.2) (F₃.keep b o e), F₃.above⟩
    refine wpAny_assign_Name (wpAny_storeName_local rfl F₄.ns (fun h₅ hn₅ hs₅ => ?_) rfl)
    have k45 : ∀ b o, @Ne Nat b L' → h₄.get? b = some o → h₅.get? b = some o := fun b o hb e => hs₅.extBut b o hb e
    have F₅ : Fr g L' h₅ (rlm W R (some (.ref p.a))) := Fr.congr ⟨hn₅, fun b o e => k45 b o (fun q => by rw [q] at e; exact absurd (Heap.lt_size e) (Nat.not_lt.mpr F₃.above)) (F₄.keep b o e), F₃.above⟩ fun y => by
      unfold rlm
      by_cases h : y = Str.ofString "r"
      · subst h; rfl
      · simp only [if_neg h]
    have old5 : ∀ b o, @Ne Nat b hw.objs.size → @Ne Nat b R → @Ne Nat b L' → h₂.get? b = some o → h₅.get? b = some o := fun b o b1 b2 b3 e => k45 b o b3 (kk₄ b o b1 (fun q => hI ⟨o, q ▸ e⟩) (kk₃ b o b1 b2 b3 e))
    have hR₅ := k45 _ _ hR.2.1 (kk₄ _ _ hRC (hLI I hI).2.1 hR₃)
    have hpo : ∀ q ∈ p.objs w.params, h₅.get? q.1 = some q.2 ∧ q.1 ≠ L' ∧ g.get? q.1 = none := fun q hq => by
      have hm := List.mem_append_right [(W, instObj 480 dW), (dW, dictOf (wEs w.params k tw th lr sf ls) 8), (lr, listOf (pcs pieces).toArray np)] (List.mem_flatMap.mpr ⟨p, hpm, hq⟩)
      have z := N₀ q (List.mem_cons_of_mem _ hm)
      exact ⟨old5 _ _ (Nat.ne_of_lt (Heap.lt_size z.1)) (Nat.ne_of_lt (lR q hm)) z.2.1 (k₂ _ _ z.1), z.2⟩
    obtain ⟨ri, rt, erid⟩ := hrid p hpm
    have er : p.r = { p.r with rid := .int ri rt } := by rw [← erid]
    have hpd := hpo (p.d, dictOf (rcEs w.params p.r) 5) (.tail _ (.head _))
    obtain ⟨Tl, NT, hTl⟩ := rest_ledger g h₅ L' [R, p.a, p.d]
    have N₅ : News g L' h₅ ((R, listOf (ts.map Value.ref).toArray nR) :: (p.a, instObj 203 p.d) :: (p.d, dictOf (rcEs w.params { p.r with rid := .int ri rt }) 5) :: Tl) :=
      News.cons ⟨hR₅, hR.2⟩ (News.cons (hpo (p.a, instObj 203 p.d) (.head _)) (News.cons (by rw [← er]; exact hpd) NT))
    have hkg : ∀ b o, g.get? b = some o → h₅.get? b = some o := F₅.keep
    clear F₀ N₀ F₁ N₁ F₄ F₃ hs₅ hn₅
    k_steps
    refine Halt.mk ?_
    (with_reducible rename News _ _ _ _ => N₆)
    (with_reducible rename Fr g _ _ _ => F₆)
    rename (@LT.lt Nat _ R _ ∧ _) => l6
    rename_i D h₆
    have kR := N₆ (R, listOf (ts.map Value.ref).toArray nR) (by walk_at "sm")
    have kD := N₆ _ (.head _)
    dsimp only at kD
    have k56 : ∀ b o, @Ne Nat b L' → h₅.get? b = some o → h₆.get? b = some o := fun b o hb e => by
      cases e' : g.get? b with
      | some o' =>
        have := hkg _ _ e'
        rw [e] at this
        cases this
        exact F₆.keep _ _ e'
      | none =>
        by_cases hx : b ∈ [R, p.a, p.d]
        · rcases mem3 hx with rfl | rfl | rfl
          · rw [hR₅] at e; cases e; exact kR.1
          · rw [(hpo (p.a, instObj 203 p.d) (.head _)).1] at e; cases e; exact (N₆ (p.a, instObj 203 p.d) (by walk_at "sm")).1
          · rw [hpd.1] at e
            cases e
            have z := (N₆ (p.d, dictOf (rcEs w.params { p.r with rid := .int ri rt }) 5) (by walk_at "sm")).1
            rw [← er] at z
            exact z
        · exact (N₆ (b, o) (by first | exact hTl b o e e' hb hx | exact .tail _ (hTl b o e e' hb hx) | exact .tail _ (.tail _ (hTl b o e e' hb hx)) | exact .tail _ (.tail _ (.tail _ (hTl b o e e' hb hx))) | exact .tail _ (.tail _ (.tail _ (.tail _ (hTl b o e e' hb hx)))) | exact .tail _ (.tail _ (.tail _ (.tail _ (.tail _ (hTl b o e e' hb hx))))) | exact .tail _ (.tail _ (.tail _ (.tail _ (.tail _ (.tail _ (hTl b o e e' hb hx)))))))).1
    refine wpAny_list_append_plain (items := (ts.map Value.ref).toArray) ⟨nR, kR.1⟩ (fun h₇ hp₇ hs₇ => ?_) (by rw [sizeLine_eq]; simp; ktu_offL)
    obtain ⟨nR₂, hp₇⟩ := hp₇
    have k67 : ∀ b o, @Ne Nat b R → h₆.get? b = some o → h₇.get? b = some o := fun b o hb e => (hs₇.2 b hb).trans e
    have k47 : ∀ b o, @Ne Nat b L' → @Ne Nat b R → h₄.get? b = some o → h₇.get? b = some o := fun b o b1 b2 e => k67 b o b2 (k56 b o b1 (k45 b o b1 e))
    have F₇ : Fr g L' h₇ (rlm W R (some (.ref p.a))) := ⟨F₆.ns.sameBut hs₇ (Ne.symm hR.2.1), fun b o e => k67 b o (get_ne e hR.2.2) (F₆.keep b o e), F₆.above⟩
    have N₇ : News g L' h₇ [] := fun q hq => nomatch hq
    have hD5 : h₅.get? D = none := by
      cases e : h₅.get? D with
      | none => rfl
      | some o =>
        refine absurd (Nat.lt_irrefl D) (not_not_intro ?_)
        by_cases hx : D ∈ [R, p.a, p.d]
        · rcases mem3 hx with h | h | h
          · have := l6.1; rw [← h] at this; exact this
          · have := l6.2.1; rw [← h] at this; exact this
          · have := l6.2.2.1; rw [← h] at this; exact this
        · exact allLt_mem l6.2.2.2 _ (hTl D o e kD.2.2 kD.2.1 hx)
    have hCh : ∃ o, h₄.get? hw.objs.size = some o := by
      obtain ⟨m', oC, _, _, z, _⟩ := hC₄
      exact ⟨_, z⟩
    have hLC : @Ne Nat hw.objs.size L' := Nat.ne_of_gt hlC
    have hD2 : h₂.get? D = none := by
      cases e : h₂.get? D with
      | none => rfl
      | some o =>
        exfalso
        by_cases b1 : @Eq Nat D hw.objs.size
        · obtain ⟨oC, z⟩ := hCh
          have := k45 _ _ hLC z
          rw [← b1, hD5] at this; cases this
        by_cases b2 : @Eq Nat D R
        · have := l6.1; rw [b2] at this; exact Nat.lt_irrefl _ this
        have := old5 D o b1 b2 kD.2.1 e
        rw [hD5] at this; cases this
    have F₈ := F₇
    have N₈ := N₇
    clear F₆ N₆ F₇ N₇
    k_steps
    (with_reducible rename Fr g _ _ _ => F₈)
    refine Halt.mk ⟨h₇, _, gs₄, [hw.objs.size, lr, I], _, nR₂, ts ++ [D], rfl, ?_, F₈, ?_, by simp [hts], ?_, ?_, ?_, ?_, ?_⟩
    · exact hB₃.moved hgq
    · rw [hp₇]; simp
    · intro t ht
      rcases List.mem_append.mp ht with ht | ht
      · exact hfr t ht
      · rw [List.mem_singleton.mp ht]; exact hD2
    · intro i q t hq ht
      rcases Nat.lt_or_ge i ts.length with hi | hi
      · rw [List.getElem?_append_left hi] at ht
        obtain ⟨c, hc⟩ := htup i q t hq ht
        have hn := hfr t (List.mem_of_getElem? ht)
        have t1 : @Ne Nat t hw.objs.size := fun e => by
          obtain ⟨m', oC, _, _, z, _⟩ : ∃ m', h₂.Ns hw.objs.size m' := ⟨_, n₂⟩
          have e' : t = hw.objs.size := e
          rw [e', z] at hn; cases hn
        have t2 : t ≠ I := fun e => by
          have := hIc _ (e ▸ hc)
          exact absurd (show Value.type "tuple" = Value.type "list_iterator" from this) (by decide)
        have t3 : @Ne Nat t R := fun e => by
          have e' : t = R := e
          rw [e', k₂ _ _ hR.1] at hn; cases hn
        have t4 : @Ne Nat t L' := fun e => by
          obtain ⟨mL, oL, _, _, z, _⟩ := hLw
          have e' : t = L' := e
          rw [e', k₂ _ _ z] at hn; cases hn
        exact ⟨c, k47 _ _ t4 t3 (kk₄ t _ t1 t2 hc)⟩
      · have : i = ts.length := by
          have := (List.getElem?_eq_some_iff.mp ht).1
          simp at this
          ktu_offL
        rw [this, hts, hp] at hq
        rw [this] at ht
        cases hq
        simp at ht
        subst ht
        refine ⟨0, ?_⟩
        rw [erid]
        exact k67 _ _ (Nat.ne_of_gt l6.1) kD.1
    · exact fun b o b1 b2 b3 e => k47 b o b3 b2 (kk₄ b o b1 (fun q => hI ⟨o, q ▸ e⟩) (kk₃ b o b1 b2 b3 e))
    · obtain ⟨m', hn⟩ := hC₄
      exact ⟨m', hn.at' fun o e => k47 _ o hLC hRC.symm e⟩
    · have ga : h₄.IsGen a s.gens.size := by
        obtain ⟨o, nm, qn, ho, r⟩ := st₃.1
        exact ⟨o, nm, qn, kk₄ _ _ haC (fun q => hI ⟨_, q ▸ hga2⟩) ho, r⟩
      obtain ⟨_, gs', e1, e2⟩ := st₄ ga
      refine ⟨?_, gs', e1, fun s'' hk hal => e2 s'' (fun b hb o e => hk b hb o (k47 b o ?_ ?_ e)) hal⟩
      · obtain ⟨o, nm, qn, ho, r⟩ := ga
        exact ⟨o, nm, qn, k47 _ _ haL haR ho, r⟩
      · exact or3 (mem3 hb) (fun h => h ▸ hLC) (fun h => h ▸ hlr.2.1) (fun h => h ▸ (hLI _ hI).1.symm)
      · exact or3 (mem3 hb) (fun h => h ▸ hRC.symm) (fun h => h ▸ Nat.ne_of_lt (lR (_, listOf (pcs pieces).toArray np) (by walk_at "sm"))) (fun h => h ▸ (hLI _ hI).2.1.symm)
  · have hj : j = pieces.length := by ktu_offL
    rw [show j = (pcs pieces).toArray.size by rw [hj]; simp] at st₃
    refine done_Y hAh hAd hl₃ st₃ hal₃ fun I h₄ tk₄ gs₄ hI hIc kk₄ hgq => ?_
    dsimp only
    have F₄ : Fr g L' h₄ (rlm W R rv) := ⟨F₃.ns.at' fun o e => kk₄ L' o (Nat.ne_of_lt hlC) (hLI I hI).1 e, fun b o e => kk₄ b o (get_ne e hcg) (get_ne e (hLI I hI).2.2) (F₃.keep b o e), F₃.above⟩
    have N₄ : News g L' h₄ [] := fun q hq => nomatch hq
    clear F₀ N₀ F₁ N₁ F₃
    k_steps
    · exact hB₃.moved hgq
    · rename_i b o e
      exact kk₄ b o (fun q => absurd (Heap.lt_size (hsw _ _ e)) (by rw [q]; exact Nat.lt_irrefl _)) (fun q => hI ⟨o, q ▸ k₂ _ _ (hsw _ _ e)⟩)
        (kk₃ b o (fun q => absurd (Heap.lt_size (hsw _ _ e)) (by have q' : b = hw.objs.size := q; rw [q']; exact Nat.lt_irrefl _)) (fun q => by have q' : b = R := q; rw [q', hsR] at e; cases e) (fun q => by have q' : b = L' := q; rw [q', hsL] at e; cases e) (k₂ _ _ (hsw _ _ e)))
    · refine ⟨R, nR, ts, rfl, hsR, kk₄ _ _ hRC (hLI I hI).2.1 hR₃, hts.trans hj, fun i q t hq ht => ?_⟩
      have hn := hfr t (List.mem_of_getElem? ht)
      obtain ⟨c, hc⟩ := htup i q t hq ht
      refine ⟨?_, c, kk₄ _ _ (fun e => ?_) (fun e => ?_) hc⟩
      · cases e : s.heap.get? t with
        | none => rfl
        | some o => rw [k₂ _ _ (hsw _ _ e)] at hn; cases hn
      · obtain ⟨m', oC, _, _, z, _⟩ : ∃ m', h₂.Ns hw.objs.size m' := ⟨_, n₂⟩
        rw [e, z] at hn; cases hn
      · exact absurd (show Value.type "tuple" = Value.type "list_iterator" from hIc _ (e ▸ hc)) (by decide)
end
end Mine

namespace Mine
section
variable {prog : Program} {w : World} {A : Around} {E : Value → Shared → Prop} {s : Shared}
theorem keys_str {P : Params} {l : List DictEntry} (h : ∀ e ∈ l, ∃ k t, e.key = .str k t ∧ e.hash = PyData.keyHash w.params k) : KeysOf (strKind prog w) l.toArray := fun e he => by
  obtain ⟨k, t, e1, e2⟩ := h e (by simpa using he)
  exact ⟨k, by rw [e1]; exact strKind_is prog w k t, e2⟩
theorem find_none {d : Addr} {l : List DictEntry} {n : Nat} {k : Str} {t : Tok} {Q : Option Nat → Shared → Prop} (hd : s.heap.get? d = some (dictOf l n)) (h : ∀ e ∈ l, ∃ k' t, e.key = .str k' t ∧ e.hash = PyData.keyHash w.params k' ∧ k' ≠ k) (hQ : Q none s) :
    wpAny (model prog w) A (dictFind d (.str k t) (PyData.keyHash w.params k)) Q E s := by
  refine wpAny_dictFind_of (knd := strKind prog w) (strKind_is prog w k t) hd rfl (keys_str (P := w.params) fun e he => ?_) ?_
  · obtain ⟨k', t', e1, e2, _⟩ := h e he
    exact ⟨k', t', e1, e2⟩
  · rw [show (l.toArray.findIdx? fun e => (strKind prog w).is k e.key) = none from ?_]
    · exact hQ
    · simp only [List.findIdx?_toArray, List.findIdx?_eq_none_iff]
      intro e he
      obtain ⟨k', t', e1, e2, e3⟩ := h e he
      rw [e1]
      show Value.isStrOf k (.str k' t') = false
      simp [Value.isStrOf, e3]
theorem put_new {d : Addr} {l : List DictEntry} {n : Nat} {k : Str} {t : Tok} {v : Value} {Q : Unit → Shared → Prop} (hd : s.heap.get? d = some (dictOf l n)) (h : ∀ e ∈ l, ∃ k' t, e.key = .str k' t ∧ e.hash = PyData.keyHash w.params k' ∧ k' ≠ k) (hl : l.length < 16)
    (hQ : ∀ h', h'.get? d = some (dictOf (l ++ [⟨PyData.keyHash w.params k, .str k t, v⟩]) (n + 1)) → Heap.SameBut d s.heap h' → Q () { s with heap := h' }) :
    wpAny (model prog w) A (dictPut d (PyData.keyHash w.params k) (.str k t) v) Q E s := by
  unfold dictPut
  refine wpAny_bind (find_none hd h ?_)
  refine wpAny_updateDictKeys hd rfl (hQ _ ?_ (Heap.SameBut.update ..)) (by rw [sizeLine_eq]; simp; ktu_offL)
  rw [Heap.get?_update_self _ hd rfl]
  exact congrArg (fun a => some ({ cls := .type "dict", data := .dict a (n + 1) } : Obj)) (List.push_toArray _ _)
/-- a mapping with two keys into an empty one -/
theorem merge_two {d o : Addr} {n1 n2 : Str} {t1 t2 : Tok} {v1 v2 : Value} {n : Nat} {Q : Unit → Shared → Prop} (hdo : @Ne Nat d o) (hoS : (o == sysModules) = false) (hne : n1 ≠ n2) (hd : s.heap.get? d = some (dictOf [] 0)) (ho : s.heap.get? o = some (dictOf [⟨PyData.keyHash w.params n1, .str n1 t1, v1⟩, ⟨PyData.keyHash w.params n2, .str n2 t2, v2⟩] n))
    (hQ : ∀ h', h'.get? d = some (dictOf [⟨PyData.keyHash w.params n1, .str n1 t1, v1⟩, ⟨PyData.keyHash w.params n2, .str n2 t2, v2⟩] 2) → Heap.SameBut d s.heap h' → Q () { s with heap := h' }) :
    wpAny (model prog w) A (mergeMapping d (.ref o) true) Q E s := by
  have hT : s.TypeIs (.ref o) "dict" := ⟨_, ho, rfl⟩
  unfold mergeMapping
  refine wpAny_bind (wpAny_isInstance hT isSubtype_dict_dict (ifT rfl ?_))
  refine wpAny_bind (wpAny_specialOf hT F.slot_dict_iter.lookup (wpAny_bind (wpAny_pure ?_)))
  refine (ifB hoS ?_)
  refine (wpAny_bind (wpAny_dictEntries hd rfl (ifT rfl (wpAny_bind (wpAny_dictEntries ho rfl (wpAny_bind (forA (forL_cons (wpAny_pure (forL_cons (wpAny_pure (forL_nil ?_))))))))))))
  refine wpAny_bind (wpAny_dictEntries ho rfl (wpAny_bind (wpAny_dictEpoch ho rfl (wpAny_bind ?_))))
  show wpAny _ _ (forIn [0, 1] PUnit.unit _) _ _ _
  refine forL_cons (wpAny_bind (wpAny_dictEntries ho rfl (wpAny_bind (wpAny_holding (wpAny_bind (find_none hd (List.forall_mem_nil _) (ifB rfl ?_)))))))
  refine put_new hd (List.forall_mem_nil _) (Nat.le_of_ble_eq_true rfl) fun h₁ hd₁ hs₁ => ?_
  have ho₁ := (hs₁.2 o (Ne.symm hdo)).trans ho
  refine wpAny_bind (wpAny_dictEpoch ho₁ rfl ?_)
  refine ifB (bne_self_eq_false _) (wpAny_pure ?_)
  have hone : ∀ e ∈ ([] ++ [⟨PyData.keyHash w.params n1, .str n1 t1, v1⟩] : List DictEntry), ∃ k' t, e.key = .str k' t ∧ e.hash = PyData.keyHash w.params k' ∧ k' ≠ n2 := List.forall_mem_cons.mpr ⟨⟨n1, t1, rfl, rfl, hne⟩, fun _ h => nomatch h⟩
  refine forL_cons (wpAny_bind (wpAny_dictEntries ho₁ rfl (wpAny_bind (wpAny_holding (wpAny_bind (find_none hd₁ hone (ifB rfl ?_)))))))
  refine put_new hd₁ hone (Nat.le_of_ble_eq_true rfl) fun h₂ hd₂ hs₂ => ?_
  have ho₂ := (hs₂.2 o (Ne.symm hdo)).trans ho₁
  refine wpAny_bind (wpAny_dictEpoch ho₂ rfl ?_)
  exact ifB (bne_self_eq_false _) (wpAny_pure (forL_nil (wpAny_pure (hQ h₂ hd₂ (hs₁.trans hs₂)))))
/-- an empty mapping into any -/
theorem merge_none {d o : Addr} {l : List DictEntry} {m n : Nat} {Q : Unit → Shared → Prop} (hoS : (o == sysModules) = false) (hd : s.heap.get? d = some (dictOf l m)) (ho : s.heap.get? o = some (dictOf [] n)) (hQ : Q () s) :
    wpAny (model prog w) A (mergeMapping d (.ref o) true) Q E s := by
  have hT : s.TypeIs (.ref o) "dict" := ⟨_, ho, rfl⟩
  unfold mergeMapping
  refine wpAny_bind (wpAny_isInstance hT isSubtype_dict_dict (ifT rfl ?_))
  refine wpAny_bind (wpAny_specialOf hT F.slot_dict_iter.lookup (wpAny_bind (wpAny_pure ?_)))
  refine ifB hoS ?_
  refine wpAny_bind (wpAny_dictEntries hd rfl ?_)
  dsimp only
  split
  · exact wpAny_bind (wpAny_dictEntries ho rfl (wpAny_bind (forA (forL_nil (wpAny_bind (wpAny_dictEntries ho rfl (wpAny_bind (wpAny_dictEpoch ho rfl (wpAny_bind (forL_nil (wpAny_pure hQ)))))))))))
  · exact wpAny_bind (wpAny_dictEntries ho rfl (wpAny_bind (wpAny_dictEpoch ho rfl (wpAny_bind (forL_nil (wpAny_pure hQ))))))
variable {h₀ : Heap} {L : Addr} {m : Str → Option Value} {news : List (Addr × Obj)}
/-- the mapping of keywords that end in a ** of nothing -/
theorem merged_two (hnl : h₀.NoLimit) {f : Value} {n1 n2 : Str} {x1 x2 x3 : Sem Value} {v1 v2 : Value} {D : Addr} {ep : Nat} {Q : Addr → Shared → Prop} (F : Fr h₀ L s.heap m) (N : News h₀ L s.heap news) (hDm : (D, dictOf [] ep) ∈ news) (hDS : (D == sysModules) = false) (hne : n1 ≠ n2)
    (e1 : ∀ (s' : Shared) (Q' E' : Value → Shared → Prop), Fr h₀ L s'.heap m → Q' v1 s' → wpAny (model prog w) A x1 Q' E' s') (e2 : ∀ (s' : Shared) (Q' E' : Value → Shared → Prop), Fr h₀ L s'.heap m → Q' v2 s' → wpAny (model prog w) A x2 Q' E' s')
    (e3 : ∀ (s' : Shared) (Q' E' : Value → Shared → Prop), Fr h₀ L s'.heap m → Q' (.ref D) s' → wpAny (model prog w) A x3 Q' E' s')
    (hQ : ∀ d h' tk t1 t2, Fr h₀ L h' m → News h₀ L h' news → h'.get? d = some (dictOf [⟨PyData.keyHash w.params n1, .str n1 t1, v1⟩, ⟨PyData.keyHash w.params n2, .str n2 t2, v2⟩] 2) → Q d { s with heap := h', toks := tk }) :
    wpAny (model prog w) A (mergedKeywords f [(some n1, x1), (some n2, x2), (none, x3)]) Q E s := by
  unfold mergedKeywords
  refine wpAny_bind (wpAny_alloc (wpAny_bind (wpAny_holding ?_)))
  extract_lets merge group g0
  have hmerge : ∀ (o : Addr) (s' : Shared) (Q' : Unit → Shared → Prop) (E' : Value → Shared → Prop), wpAny (model prog w) A (mergeMapping s.heap.objs.size (.ref o) true) Q' (fun _ _ => False) s' → wpAny (model prog w) A (merge (.ref o)) Q' E' s' := fun o s' Q' E' h => by
    refine wpAny_holding (wpAny_tryCatch (wpAny_onRaise (wpAny_mono h (fun _ _ z => z) fun _ _ z => z.elim)))
  have hgroup0 : ∀ (s' : Shared) (Q' : Unit → Shared → Prop) (E' : Value → Shared → Prop), Q' () s' → wpAny (model prog w) A (group []) Q' E' s' := fun s' Q' E' h => wpAny_pure h
  have hgroup2 : ∀ (s' : Shared) (Q' : Unit → Shared → Prop) (E' : Value → Shared → Prop), Fr h₀ L s'.heap m → News h₀ L s'.heap news → s'.heap.get? s.heap.objs.size = some (dictOf [] 0) →
    (∀ h' tk t1 t2, Fr h₀ L h' m → News h₀ L h' news → h'.get? s.heap.objs.size = some (dictOf [⟨PyData.keyHash w.params n1, .str n1 t1, v1⟩, ⟨PyData.keyHash w.params n2, .str n2 t2, v2⟩] 2) → Q' () { s' with heap := h', toks := tk }) → wpAny (model prog w) A (group [(n1, x1), (n2, x2)]) Q' E' s' := fun s' Q' E' F' N' hd h => by
    refine wpAny_bind (m := evalAll [x1, x2]) (wpAny_evalAll_cons (e1 s' _ _ F' (wpAny_evalAll_cons (e2 s' _ _ F' (wpAny_evalAll_nil ?_)))))
    refine wpAny_bind (wpAny_alloc (wpAny_bind ?_))
    simp only [List.zip_cons_cons, List.zip_nil_right, List.forIn_cons, List.forIn_nil]
    have lt0 : @LT.lt Nat _ s.heap.objs.size s'.heap.objs.size := Heap.lt_size hd
    have lL : @LT.lt Nat _ L s.heap.objs.size := F.ns.lt
    have Nd : News h₀ L s'.heap ((s.heap.objs.size, dictOf [] 0) :: news) := News.cons ⟨hd, Nat.ne_of_gt lL, Heap.get?_none_of_le (Nat.le_of_lt (Nat.lt_of_le_of_lt F.above lL))⟩ N'
    have N1 : News h₀ L (s'.heap.push { cls := Value.type "dict", data := Data.dict #[] }) ((s'.heap.objs.size, dictOf [] 0) :: (s.heap.objs.size, dictOf [] 0) :: news) := Nd.push F' (dictOf [] 0)
    have F1 : Fr h₀ L (s'.heap.push { cls := Value.type "dict", data := Data.dict #[] }) m := F'.push _
    have nn : ∀ p ∈ (s.heap.objs.size, dictOf [] 0) :: news, p.1 ≠ s'.heap.objs.size := fun p hp => Nat.ne_of_lt (Heap.lt_size (Nd p hp).1)
    refine wpAny_bind (wpAny_bind (kp_nsSet F1 N1 nn (List.forall_mem_nil _) (List.forall_mem_nil _) fun h2 F2 N2 => wpAny_pure ?_))
    refine wpAny_bind (wpAny_bind (kp_nsSet F2 N2 nn (fun e he => ?_) (fun e he => ?_) fun h3 F3 N3 => wpAny_pure (wpAny_pure ?_)))
    · simp only [List.nil_append, List.mem_singleton] at he
      subst he
      simp [Value.isStr, hne]
    · simp only [List.nil_append, List.mem_singleton] at he
      subst he
      rfl
    have hsub := (N3 _ (.head _)).1
    have hd3 := (N3 _ (.tail _ (.head _))).1
    refine wpAny_onRaise (hmerge s'.heap.objs.size _ _ _ (merge_two (Nat.ne_of_lt lt0) ?_ hne hd3 hsub fun h4 hd4 hs4 => ?_))
    · exact F'.notModules (modules_low hnl)
    · have k4 : ∀ b o, @Ne Nat b s.heap.objs.size → h3.get? b = some o → h4.get? b = some o := fun b o hb e => (hs4.2 b hb).trans e
      refine h h4 _ _ _ ⟨F3.ns.sameBut hs4 (Nat.ne_of_lt lL), fun b o e => k4 b o (fun q => ?_) (F3.keep b o e), F3.above⟩ (fun q hq => ?_) hd4
      · rw [show b = s.heap.objs.size from q, (Nd _ (.head _)).2.2] at e; cases e
      · have z := N3 q (.tail _ (.tail _ hq))
        exact ⟨k4 _ _ (Nat.ne_of_lt (Heap.lt_size (N q hq).1)) z.1, z.2⟩
  clear_value merge group
  simp only [List.forIn_cons, List.forIn_nil]
  refine wpAny_bind (wpAny_bind (wpAny_pure (wpAny_bind (wpAny_pure (wpAny_bind (wpAny_bind ?_))))))
  have F1 : Fr h₀ L (s.heap.push { cls := Value.type "dict", data := Data.dict #[] }) m := F.push _
  have N1 : News h₀ L (s.heap.push { cls := Value.type "dict", data := Data.dict #[] }) news := fun q hq => ⟨Heap.get?_push_of_some _ (N q hq).1, (N q hq).2⟩
  refine hgroup2 _ _ _ F1 N1 (Heap.get?_push_size _ rfl) fun h' tk t1 t2 F2 N2 hd => ?_
  refine wpAny_bind (e3 _ _ _ F2 (wpAny_bind (wpAny_onRaise (hmerge D _ _ _ (merge_none hDS hd (N2 _ hDm).1 (wpAny_pure (wpAny_pure ?_)))))))
  exact hgroup0 _ _ _ (wpAny_pure (hQ _ h' tk t1 t2 F2 N2 hd))
theorem merged_one {f : Value} {x3 : Sem Value} {D : Addr} {ep : Nat} {Q : Addr → Shared → Prop} (F : Fr h₀ L s.heap m) (N : News h₀ L s.heap news) (hDm : (D, dictOf [] ep) ∈ news) (hDS : (D == sysModules) = false)
    (e3 : ∀ (s' : Shared) (Q' E' : Value → Shared → Prop), Fr h₀ L s'.heap m → Q' (.ref D) s' → wpAny (model prog w) A x3 Q' E' s')
    (hQ : ∀ d h' tk, Fr h₀ L h' m → News h₀ L h' news → h'.get? d = some (dictOf [] 0) → Q d { s with heap := h', toks := tk }) :
    wpAny (model prog w) A (mergedKeywords f [(none, x3)]) Q E s := by
  unfold mergedKeywords
  refine wpAny_bind (wpAny_alloc (wpAny_bind (wpAny_holding ?_)))
  extract_lets merge group g0
  have hmerge : ∀ (o : Addr) (s' : Shared) (Q' : Unit → Shared → Prop) (E' : Value → Shared → Prop), wpAny (model prog w) A (mergeMapping s.heap.objs.size (.ref o) true) Q' (fun _ _ => False) s' → wpAny (model prog w) A (merge (.ref o)) Q' E' s' := fun o s' Q' E' h => by
    refine wpAny_holding (wpAny_tryCatch (wpAny_onRaise (wpAny_mono h (fun _ _ z => z) fun _ _ z => z.elim)))
  have hgroup0 : ∀ (s' : Shared) (Q' : Unit → Shared → Prop) (E' : Value → Shared → Prop), Q' () s' → wpAny (model prog w) A (group []) Q' E' s' := fun s' Q' E' h => wpAny_pure h
  clear_value merge group
  simp only [List.forIn_cons, List.forIn_nil]
  have F1 : Fr h₀ L (s.heap.push { cls := Value.type "dict", data := Data.dict #[] }) m := F.push _
  have N1 : News h₀ L (s.heap.push { cls := Value.type "dict", data := Data.dict #[] }) news := fun q hq => ⟨Heap.get?_push_of_some _ (N q hq).1, (N q hq).2⟩
  have hd : (s.heap.push { cls := Value.type "dict", data := Data.dict #[] }).get? s.heap.objs.size = some (dictOf [] 0) := Heap.get?_push_size _ rfl
  refine wpAny_bind (wpAny_bind (wpAny_bind (hgroup0 _ _ _ (wpAny_bind (e3 _ _ _ F1 (wpAny_bind (wpAny_onRaise (hmerge D _ _ _ (merge_none hDS hd (N1 _ hDm).1 (wpAny_pure (wpAny_pure ?_)))))))))))
  exact hgroup0 _ _ _ (wpAny_pure (hQ _ _ _ F1 N1 hd))
theorem kwIn_two {f : Value} {d : Addr} {n1 n2 : Str} {t1 t2 : Tok} {v1 v2 : Value} {a1 a2 : Int} {n : Nat} {Q : List (Str × Value) → Shared → Prop} (hd : s.heap.get? d = some (dictOf [⟨a1, .str n1 t1, v1⟩, ⟨a2, .str n2 t2, v2⟩] n)) (hQ : Q [(n1, v1), (n2, v2)] s) :
    wpAny (model prog w) A (keywordsIn f d) Q E s := by
  unfold keywordsIn
  refine wpAny_bind (wpAny_dictEntries hd rfl ?_)
  exact wpAny_bind (forA (forL_cons (wpAny_pure (forL_cons (wpAny_pure (forL_nil (wpAny_pure hQ)))))))
theorem kwIn_none {f : Value} {d : Addr} {n : Nat} {Q : List (Str × Value) → Shared → Prop} (hd : s.heap.get? d = some (dictOf [] n)) (hQ : Q [] s) :
    wpAny (model prog w) A (keywordsIn f d) Q E s := by
  unfold keywordsIn
  refine wpAny_bind (wpAny_dictEntries hd rfl ?_)
  exact wpAny_bind (forA (forL_nil (wpAny_pure hQ)))
/-- a call with * and ** -/
theorem callWith_kw {K : Frag} {env : Env} {pos : Pos} {q g : Addr} {self : Value} {e : Expr} {rest : List Expr} {kws : List Keyword} {first : List Value} {Q : Value → Shared → Prop} (hf : fnIn K g = true)
    (h : wpAny (model prog w) A (spliced (backTo pos (starEach (e :: rest) env))) (fun vs s₁ => wpAny (model prog w) A (mergedKeywords (.ref q) (backToKw pos (keywordEach kws env))) (fun d s₂ => wpAny (model prog w) A (keywordsIn (.ref q) d) (fun kw s₃ =>
      MethP K q g self s₃.heap ∧ wpAny (model prog w) A (call (.ref q) (first ++ vs) kw) Q E s₃) E s₂) E s₁) E s)
    (hall : (backToKw pos (keywordEach kws env)).all (·.1.isSome) = false := by rfl) (hany : (backToKw pos (keywordEach kws env)).any (·.1.isNone) = true := by rfl) (he : starEach (e :: rest) env = (false, eval e env) :: starEach rest env := by rfl) :
    wpAny (model prog w) A (callWith pos (.ref q) first (backTo pos (starEach (e :: rest) env)) (backToKw pos (keywordEach kws env))) Q E s := by
  have hev : wpAny (model prog w) A (evalArgs (.ref q) true (backTo pos (starEach (e :: rest) env)) (backToKw pos (keywordEach kws env))) (fun a s₃ => MethP K q g self s₃.heap ∧ wpAny (model prog w) A (call (.ref q) (first ++ a.pos) a.kw) Q E s₃) E s := by
    rw [he] at h ⊢
    unfold evalArgs
    show wpAny _ A (spliced (backTo pos ((false, eval e env) :: starEach rest env)) >>= _) _ E s
    refine wpAny_bind (wpAny_mono h (fun vs s₁ h₁ => ?_) fun _ _ x => x)
    refine wpAny_holding ?_
    rw [hall, if_neg Bool.false_ne_true]
    refine wpAny_bind (wpAny_mono h₁ (fun d s₂ h₂ => ?_) fun _ _ x => x)
    refine wpAny_bind (wpAny_pure ?_)
    refine wpAny_bind (wpAny_holding (wpAny_mono h₂ (fun kw s₃ h₃ => wpAny_pure h₃) fun _ _ x => x))
  unfold callWith
  refine wpAny_bind (wpAny_holding (wpAny_mono hev (fun a s₁ h₁ => wpAny_bind (wpAny_standAt ?_)) fun _ _ x => x))
  obtain ⟨k, hk', Lk⟩ := keeps_M hf _ h₁.1
  rw [hany, Bool.or_true]
  refine wpAny_bind (Lk.here ?_)
  have tail : ∀ {t : Sem Value}, wpAny (model prog w) A t Q E s₁ → wpAny (model prog w) A (t >>= fun r => holding [r] point >>= fun _ => pure r) Q E s₁ :=
    fun ht => wpAny_bind (wpAny_mono ht (fun r s₂ hr => wpAny_bind (wpAny_holding (wpAny_point (wpAny_pure hr)))) fun _ _ x => x)
  have marked (mk : Value) : wpAny (model prog w) A (callMarked mk (.ref q) (first ++ a.pos) a.kw) Q E s₁ := by unfold callMarked; exact Calls.wpAny_keep h₁.2
  rcases hk' with rfl | rfl | rfl <;> dsimp only <;> first | exact tail (marked _) | exact tail (wpAny_operating h₁.2)
end
end Mine

namespace Mine
section
variable {prog : Program} {w : World} {A : Around} {s : Shared} {h₀ : Heap} {L : Addr} {m : Str → Option Value} {news : List (Addr × Obj)} {K : Frag} {p : Program} {loose : List Str} {mean : ExcName → Option Value} {mg mb : Str → Option Value}
  {R : Result → Shared → Prop} {name qual : Str} {params : Arguments} {body : List Stmt} {scope : Scope} {dV kV doc pm cdv ct oc : Value} {an od : Option Addr} {osl : Array (Option Value)} {f : Addr} {args : Args} {binds : List (Str × Value)} {cl : List (Str × Addr)}
/-- a def with *args and **kwargs -/
theorem both_free {vs : List Value} {nm nr : Str} {ex front : List (Str × Value)} {DD : List (PyData × PyData)} {g₁ : Addr → Sem (List (Str × Value))} {g₂ : Addr → Addr → Sem (List (Str × Value))}
    (F : Fr h₀ L s.heap m) (X₀ : K.In h₀) (N : News h₀ L s.heap news) (T : Top p loose mean mg mb h₀)
    (ho : K.lookup f = some ⟨oc, od, .func (fnX name qual params body scope cl dV kV doc pm an cdv ct), osl⟩) (hcd : codeIn K cdv qual = true) (hroom : A.depth < recursionLimit)
    (_hv : args.pos.drop (params.posonlyargs.length + params.args.length) = vs) (_hx : args.kw.filter (fun x => !ownKw params x.1) = ex) (hq : (params.vararg.map (·.arg), params.kwarg.map (·.arg), kwDistinct ex) = (some nr, some nm, true)) (hD : PyProof.V.FlatPairs PyData.str ex DD)
    (_hfr : peek K ⟨prog, w.params⟩ (bindArgs (fnCut (fnX name qual params body scope cl dV kV doc pm an cdv ct)) (argsCut params args)) = some front)
    (hp : peekA K ⟨prog, w.params⟩ (bindArgs (fnX name qual params body scope cl dV kV doc pm an cdv ct) args) = some (({ cls := .type "tuple", data := .seq vs.toArray } : Obj), g₁))
    (hp₂ : ∀ D, peekA K ⟨prog, w.params⟩ (g₁ D) = some (dictOf [] 0, g₂ D))
    (hk₂ : ∀ C D, g₂ C D = (forIn ex PUnit.unit (fun x _ => (nsSet D x.1 x.2 >>= fun _ => pure (ForInStep.yield PUnit.unit))) >>= fun _ => pure (front ++ [(nr, Value.ref C)] ++ [(nm, Value.ref D)])))
    (hloc : ∀ C D, ∀ y ∈ front ++ [(nr, Value.ref C)] ++ [(nm, Value.ref D)], scope.names.lookup y.1 = some .local) (hks : (scope.isCoroutine, scope.isGenerator, scope.kind) = (false, false, .function)) (hcell : ∀ x ∈ scope.names, x.2 ≠ .cell)
    (h : ∀ C D, (∀ p ∈ news, p.1 < C) → C < D → ∀ o g L' h₁ tk, (D == sysModules) = false → o.IsDictOf (strKind prog w) ex → PyProof.V.FlatPairs PyData.str ex DD → Fr h₀ L g m → Fr g L' h₁ (fun y => (front ++ [(nr, Value.ref C)] ++ [(nm, Value.ref D)]).reverse.lookup y) →
      News g L' h₁ ((D, o) :: (C, ({ cls := .type "tuple", data := .seq vs.toArray } : Obj)) :: news) → K.In g → Top p loose mean mg mb g →
      wpAny (model prog w) (A.deeper (envX qual scope L' f cdv cl)) (execs body (envX qual scope L' f cdv cl))
        (fun fl s' => LeaveK h₀ L m g R (match fl with | .ret v => v | _ => .none) s')
        (fun e s' => wpAny (model prog w) (A.deeper (envX qual scope L' f cdv cl)) (leaving (envX qual scope L' f cdv cl) e) (fun _ s'' => R (.error e) s'') (fun e' s'' => R (.error e') s'') s')
        { s with heap := h₁, toks := tk }) : codeAny (model prog w) A (.call (.ref f) args) R s := by
  have hn' := kwDistinct_nodup (congrArg (·.2.2) hq)
  refine codeAny_call_function (fd := fnX name qual params body scope cl dV kV doc pm an cdv ct) (body := body) hroom ((X₀.keeps F.keep) _ _ ho) rfl (congrArg (·.1) hks) (congrArg (·.2.1) hks) rfl (codeRec_of (X₀.keeps F.keep) hcd) ?_
  refine wp_of_peekA (o := ({ cls := .type "tuple", data := .seq vs.toArray } : Obj)) F N (X₀.keeps F.keep) rfl _ g₁ hp fun h' F' N' l => ?_
  refine wp_of_peekA (s := { s with heap := h' }) (o := dictOf [] 0) F' N' (X₀.keeps F'.keep) rfl _ (g₂ s.heap.objs.size) (hp₂ _) fun h'' F'' N'' l' => ?_
  rw [hk₂]
  refine wpAny_bind (kp_fill ex { s with heap := h'' } [] 0 F'' N'' (fun p hp => Nat.ne_of_lt (l' p hp)) (List.forall_mem_nil _) (List.forall_mem_nil _) hn' fun h₃ F₃ N₃ => wpAny_pure ?_)
  exact free_env (s := { s with heap := h₃, toks := s.toks + ex.length }) F₃ X₀ N₃ T (hloc _ _)
    (fun g L' h₁ FG FL NG XG TG => h _ _ l (l' _ (.head _)) _ g L' h₁ _ (F'.notModules (modules_low T.nolimit)) (kp_isDict s.toks (0 + ex.length) hn') hD FG FL NG XG TG) (congrArg (·.2.2) hks) hcell
theorem name_B {M : Model} {A : Around} {Q E : Value → Shared → Prop} {a : Addr} {cn : Str} {cs : Scope} {ccd : Value} {cl : List (Str × Addr)} {x : Str} {pos : Pos} {v : Value} (F : Fr h₀ L s.heap m) (X : K.In h₀) (T : TopRead p loose mg mb h₀)
    (hk : (cs.kind, (envX cn cs L a ccd cl).kindOf x) = (.function, some .globalImplicit)) (hd : (x == ("__debug__" : Str)) = false) (e : nsIn K mainGlobals x = some none) (hv : bootBuiltins x = some v) (hn : x ≠ "__name__") (h : Q v s) : wpAny M A (eval (.Name x pos) (envX cn cs L a ccd cl)) Q E s :=
  nameX_B F X T e hv hn h (congrArg (·.1) hk) (congrArg (·.2) hk) hd
/-- super(D, x) -/
theorem super_two {E Q : Value → Shared → Prop} {x C D : Addr} {ox : Obj} {odx : Option Obj} {cdD : ClassData} {cD : Value} {dD : Option Addr} {slD : Array (Option Value)} (F : Fr h₀ L s.heap m) (X₀ : K.In h₀) (N : News h₀ L s.heap news) (I : InstAt s.heap x ox C odx) (hD : K.lookup D = some ⟨cD, dD, .cls cdD, slD⟩) (hsub : mroIn K C (.ref D) = some true)
    (h : ∀ so h', Fr h₀ L h' m → News h₀ L h' ((so, ks_superObj D x C) :: news) → (∀ p ∈ news, p.1 < so) → Q (.ref so) { s with heap := h' }) :
    wpAny (model prog w) A (call (.type "super") [.ref D, .ref x]) Q E s := by
  have X : K.In s.heap := X₀.keeps F.keep
  obtain ⟨hh, g, d, t, os⟩ := s
  refine ks_wpAny_call_super (X _ _ hD) rfl I.at_ I.cls (fun c e => ?_) (looks_mroIn X hsub) (fun h' e k => ?_)
  · have := I.no
    unfold notCls at this
    rw [e] at this
    exact Bool.noConfusion this
  · obtain ⟨F', N', l'⟩ := ks_newsPush (s := ⟨hh, g, d, t, os⟩) F N rfl e k
    exact h _ _ F' N' l'
/-- an attribute of super(D, x), for a call -/
theorem sup_attr {E Q : Value → Shared → Prop} {x C D so f2 : Addr} {ox : Obj} {odx : Option Obj} {nm : Str} (F : Fr h₀ L s.heap m) (X₀ : K.In h₀) (N : News h₀ L s.heap news) (hso : (so, ks_superObj D x C) ∈ news) (I : InstAt s.heap x ox C odx) (ho : nsIn K cStatics "thirdparty.any" = some none)
    (hm : ks_superIn K C D nm = some (some (.ref f2))) (ht : typeIn K (.ref f2) = some (.type "function")) (hn : (nm == ("__class__" : Str)) = false)
    (h : ∀ q h', Fr h₀ L h' m → News h₀ L h' ((q, methodObj (.ref f2) (.ref x)) :: news) → (∀ p ∈ news, p.1 < q) → Q (.ref q) { s with heap := h', toks := s.toks + 1 }) : wpAny (model prog w) A (getAttr (.ref so) nm true) Q E s := by
  have X := X₀.keeps F.keep
  obtain ⟨hh, g, d, t, os⟩ := s
  unfold ks_superIn at hm
  cases hc : clsIn K C with
  | none => rw [hc] at hm; cases hm
  | some cd =>
    rw [hc] at hm
    obtain ⟨of, e1, e2⟩ : ∃ of, hh.get? f2 = some of ∧ of.cls = .type "function" := by
      unfold typeIn at ht
      cases z : K.lookup f2 with
      | none => simp [z] at ht
      | some of => exact ⟨of, X _ _ z, by simpa [z] using ht⟩
    have tso : ∀ t', (⟨hh, g, d, t', os⟩ : Shared).TypeIs (.ref so) "super" := fun _ => ⟨_, (N _ hso).1, rfl⟩
    unfold getAttr getAttrBy
    refine wpAny_bind (wpAny_mkText (wpAny_holding (wpAny_bind (wpAny_typeOf (tso _) (wpAny_bind (wpAny_of_eq PySem.F.ks_slot_super_ga.lookup ?_))))))
    show wpAny _ _ (getAttrByItsOwn (.ref so) (.str nm t) (.type "super") (.builtin "super.__getattribute__") true true) _ _ _
    unfold getAttrByItsOwn hookBefore callGetattribute boundAndCalled
    refine wpAny_bind (wpAny_of_eq (show (if onTheHeap (.type "super") then typeLookup (.type "super") "__getattr__" else pure none) = pure none from rfl) (wpAny_bind (wpAny_attempt (wpAny_holding ?_))))
    show wpAny _ _ (bindSpecial (.builtin "super.__getattribute__") (.ref so) >>= _) _ _ _
    refine wpAny_bind (wpAny_of_eq (PySem.F.ks_slot_super_ga.bind _) ?_)
    refine wpAny_mono (Q := fun v s' => v = .ref hh.objs.size ∧ s' = ⟨hh.push { cls := .type "method", data := .fields #[.ref f2, .ref x] }, g, d, t + 1, os⟩) (E := fun _ _ => False)
      (wpAny_call_entry PySem.F.ks_slot_super_ga (tso _) PySem.F.ks_entry_super_ga (ks_wpAny_super_ga (N _ hso).1 (looks_opaque X ho) (l₀ := cd.mro) (fun A Q E s k q => wpAny_bind ((looks_clsIn X hc) A _ E s k (wpAny_pure q))) rfl X hm e1 e2 (ks_ne X I hc) hn ⟨_, rfl, rfl, rfl⟩) (PySem.F.ks_gaArgs_super _ _)) (fun v s' hv => ?_) fun _ _ z => z.elim
    obtain ⟨rfl, rfl⟩ := hv
    obtain ⟨F', N', l'⟩ := ks_newsPush (s := ⟨hh, g, d, t, os⟩) (o := methodObj (.ref f2) (.ref x)) F N rfl (Heap.get?_push_at rfl rfl) (fun b o e => Heap.get?_push_of_some _ e)
    exact wpAny_pure (h _ _ F' N' l')
/-- a method called with * or ** -/
theorem method_star {M : Model} {E Q : Value → Shared → Prop} {env : Env} {o : Expr} {nm : Str} {apos pos : Pos} {as : List Expr} {kws : List Keyword} (h : wpAny M A (eval o env) (fun ov s₁ => wpAny M A (getAttr ov nm true) (fun fv s₂ => wpAny M A (callWith pos fv [] (backTo pos (starEach as env)) (backToKw pos (keywordEach kws env))) Q E s₂) E s₁) E s)
    (he : eval (.Call (.Attribute o nm apos) as kws pos) env = (eval o env >>= fun ov => standAt apos.atName >>= fun _ => methodCall o nm apos pos env ov (as.length + kws.length) (backTo pos (starEach as env)) (backToKw pos (keywordEach kws env))) := by rfl)
    (hf : methodCallForm (as.length + kws.length) (backTo pos (starEach as env)) (backToKw pos (keywordEach kws env)) = false := by rfl) : wpAny M A (eval (.Call (.Attribute o nm apos) as kws pos) env) Q E s := by
  rw [he]
  refine wpAny_bind (wpAny_mono h (fun ov s₁ h₁ => wpAny_bind (wpAny_standAt ?_)) fun _ _ x => x)
  unfold methodCall calleeOf methodCallPos
  rw [hf]
  refine wpAny_bind (wpAny_holding (wpAny_bind (wpAny_mono h₁ (fun fv s₂ h₂ => wpAny_pure ?_) fun _ _ x => x)))
  exact wpAny_bind (wpAny_pure h₂)
end
theorem dict_nil {prog : Program} {w : World} {o : Obj} (h : o.IsDictOf (strKind prog w) []) : ∃ ep, o = dictOf [] ep := by
  obtain ⟨es, ep, ⟨e1, e2, e3⟩, e4, _, hp, _⟩ := h
  have hl := hp.length
  obtain ⟨c, d, dt, sl⟩ := o
  dsimp only at e1 e2 e3 e4
  have h0 : es = #[] := Array.eq_empty_of_size_eq_zero (by simpa using hl)
  subst e1 e2 e3 e4 h0
  exact ⟨ep, rfl⟩
theorem kw_name {M : Model} {A : Around} {h₀ : Heap} {L a : Addr} {m : Str → Option Value} {cn : Str} {cs : Scope} {ccd : Value} {cl : List (Str × Addr)} {x : Str} {pos p : Pos} {v : Value} (hv : m x = some v)
    (hk : cs.kind = .function := by rfl) (hx : (envX cn cs L a ccd cl).kindOf x = some .local := by rfl) (hd : (x == ("__debug__" : Str)) = false := by decide) :
    ∀ (s' : Shared) (Q' E' : Value → Shared → Prop), Fr h₀ L s'.heap m → Q' v s' → wpAny M A (do let v ← eval (.Name x pos) (envX cn cs L a ccd cl); standAt p; pure v) Q' E' s' :=
  fun _ _ _ F h => wpAny_bind (nameX_L F hv (wpAny_bind (wpAny_standAt (wpAny_pure h))) hk hx hd)
local macro_rules | `(tactic| k_enter) => `(tactic| (apply Mine.clos_free; walk_at "kin"))
local macro_rules | `(tactic| k_enter) => `(tactic| (kp_kind "both"; (apply Mine.both_free; k_asm; k_asm; k_asm; k_asm; k_is; k_is; k_room; kp_lit; kp_lit; exact rfl; kp_flats; exact rfl; exact rfl; exact fun _ => rfl; exact fun _ _ => rfl; exact fun _ _ => locs rfl; exact rfl; decide; k_whole; intro _ _ l1 l2; intros; (try k_lt l1); (try k_lt2 l2); (try dsimp only); (try k_fold))))
local macro_rules | `(tactic| walk_at "call type:super") => `(tactic| (k_here; k_dflt (apply Mine.super_two; k_asm; k_asm; k_asm; k_inst; k_is; k_is; intro _ _ _ _ l1; (try k_lt l1))))
local macro_rules | `(tactic| walk_at "eval Name") => `(tactic| (k_here; k_dflt (apply Mine.name_B; k_asm; k_asm; k_asm; exact rfl; decide; k_is; boot_by_name; decide; k_whole)))
local macro_rules | `(tactic| walk_at "kat") => `(tactic| (k_asm; k_asm; k_asm; k_mem; k_inst; k_is; ks_is; k_is; decide; intro _ _ _ _ l1; (try k_lt l1)))
local macro_rules | `(tactic| walk_at "getAttr ref") => `(tactic| (k_here; k_dflt (apply Mine.sup_attr; walk_at "kat")))
local macro_rules | `(tactic| walk_at "callWith ref") => `(tactic| ((with_reducible show wpAny _ _ (callWith _ _ _ _ (backToKw _ (keywordEach (_ :: _) _))) _ _ _); refine Mine.Halt.go ?_))
local macro_rules | `(tactic| walk_at "getMethod ref") => `(tactic| (k_here; k_dflt (apply ks_method; walk_at "kat")))
section
variable {w : World} {mean : ExcName → Option Value} {mg mb : Str → Option Value} {loose : List Str} {G₀ : Heap}
noncomputable abbrev wE7 (P : Params) (k : Nat → Tok) (tw th : Tok) (lr sf : Addr) : List DictEntry :=
  [⟨PyData.keyHash P "_merge", .str "_merge" (k 0), .bool true⟩, ⟨PyData.keyHash P "width", .str "width" (k 1), .int 1 tw⟩, ⟨PyData.keyHash P "height", .str "height" (k 2), .int 1 th⟩,
   ⟨PyData.keyHash P "rot", .str "rot" (k 3), .bool false⟩, ⟨PyData.keyHash P "rectangles", .str "rectangles" (k 4), .ref lr⟩, ⟨PyData.keyHash P "bid", .str "bid" (k 5), .none⟩,
   ⟨PyData.keyHash P "_surface", .str "_surface" (k 6), .ref sf⟩]
noncomputable def k8 (k : Nat → Tok) (t : Tok) : Nat → Tok | 7 => t | i => k i
/-- reset, as the middle class has it -/
theorem g_reset (G : Gnd w mean mg mb loose G₀) {dp un : Nat} {fr : Option (List Env)} {gd : Option (List Code)} {s : Shared} {R : Result → Shared → Prop} {g : Heap} {L W dW lr₀ sf : Addr} {m : Str → Option Value} {k : Nat → Tok} {tw th : Tok} {rest : List (Addr × Obj)} (F : Fr g L s.heap m)
    (N : News g L s.heap ((W, instObj 480 dW) :: (dW, dictOf (wE7 w.params k tw th lr₀ sf) 7) :: rest)) (l1 : AllLt dW rest) (l2 : @LT.lt Nat _ dW W) (hGg : G₀.StaysIn g) (hd : dp + 50 < recursionLimit) (hu : un + 500 < cLine)
    (hQ : ∀ h' tk k' lr ls, Fr g L h' m → News g L h' ((W, instObj 480 dW) :: (dW, dictOf (wEs w.params k' tw th lr sf ls) 8) :: (lr, listOf #[] 0) :: rest) → @LT.lt Nat _ W lr → @LT.lt Nat _ dW lr → AllLt lr rest → R (.ok (.ret .none)) { s with heap := h', toks := tk }) :
    codeAny (model PR w) (AT dp fr gd un) (.call (.ref 388) ⟨[.ref W], []⟩) R s := by
  have zS0 : Mine.StopAt 330 := ⟨trivial⟩
  have zS1 : Mine.StopAt 203 := ⟨trivial⟩
  have GT := G
  obtain ⟨KX, T⟩ := G
  have X' := KX.keeps hGg
  have T' := T.keeps hGg
  clear KX T
  k_enter
  k_steps
  refine Halt.mk ?_
  (with_reducible rename News _ _ _ _ => N0)
  (with_reducible rename Fr _ _ _ _ => F0)
  rename_i lrA _ lA _ _ _ _ lsA _ lD _
  (with_reducible rename Fr g L _ m => FG1)
  obtain ⟨_, _, a3, a4, a5⟩ := lA
  obtain ⟨d1, _, _, d3, d4, d5⟩ := lD
  have N1 := News.cons (N0 _ (.tail _ (.tail _ (.tail _ (.tail _ (.head _)))))) (News.cons (N0 _ (.tail _ (.tail _ (.tail _ (.tail _ (.tail _ (.head _))))))) (News.cons (N0 _ (.head _)) (News.cons (N0 _ (.tail _ (.head _))) (l := rest) (fun q hq => N0 q (.tail _ (.tail _ (.tail _ (.tail _ (.tail _ (.tail _ hq))))))))))
  refine rect_new (dp := dp + 1) (un := un + 3) GT F0 N1 (fun b o e => FG1.keep _ _ (hGg b o e)) (by ktu_offL) (by ktu_offL) 0 0 1 1 _ _ _ _ (by decide) (by decide) (fun xA dA hr tkr kr F2 N2 lB lC => ?_)
  k_lt lB
  k_lt2 lC
  obtain ⟨b3, b4, b1, b2, b5⟩ := lB
  clear F0 N0 N1
  k_steps
  refine Halt.mk ?_
  (with_reducible rename News _ _ _ _ => N3)
  (with_reducible rename Fr _ _ _ _ => F3)
  refine sect_call (dp := dp + 1) (un := un + 3) (X := 0) (Y := 0) (B := 1) (st := 0) (ln := 1) (up := false) (secs := []) (n := 0) (W := W) (dW := dW) (lr := lrA) (sf := sf) (ls := lsA) (a := xA) (d := dA) (tw := tw) (th := th) (r := ⟨0, 0, 1, 1, _, _, _, _, .none, kr⟩) (k := k8 k _) (rest := (lrA, listOf #[] 0) :: rest)
    GT F3 N3 rfl ?_ (List.forall_mem_nil _) (by decide) (by decide) List.Pairwise.nil (List.forall_mem_nil _) (by decide) ?_ (List.forall_mem_nil _) ?_ ?_ ?_ ?_ ?_ ?_ ?_ ?_ ?_ ?_ ?_ ?_ (fun h9 tk9 ls' n' r' t' kp F9 N9 hls' hon hrid => ?_)
  all_goals try (show @Ne Nat _ _; lcg_off)
  · exact ⟨rfl, rfl, rfl, rfl⟩
  · exact fun b o e => FG1.keep _ _ (hGg b o e)
  · exact List.forall_mem_cons.mpr ⟨fun hm => or3 (mem3 hm) (Nat.ne_of_gt a4) (Nat.ne_of_lt d1) (Nat.ne_of_lt b2), fun q hq hm => or3 (mem3 hm) (Nat.ne_of_lt (allLt_mem l1 q hq)) (Nat.ne_of_lt (allLt_mem d5 q hq)) (Nat.ne_of_lt (allLt_mem b5 q hq))⟩
  · show dp + 1 + 20 < recursionLimit; ktu_offL
  · show un + 3 + 200 < cLine; ktu_offL
  have N10 : News _ _ h9 ((W, instObj 480 dW) :: (dW, dictOf (wEs w.params (k8 k _) tw th lrA sf ls') 8) :: (lrA, listOf #[] 0) :: rest) := News.cons (N9 _ (.tail _ (.tail _ (.head _)))) (News.cons (N9 _ (.tail _ (.tail _ (.tail _ (.head _))))) (fun q hq => N9 q (.tail _ (.tail _ (.tail _ (.tail _ (.tail _ hq)))))))
  clear N9 F3 N3 kp hls' hon hrid
  k_steps
  (with_reducible rename News _ _ _ _ => NE)
  (with_reducible rename Fr g L _ _ => FE)
  exact hQ _ _ _ _ _ FE NE a3 a4 a5
/-- reset -/
theorem reset_at (G : Gnd w mean mg mb loose G₀) {dp un : Nat} {fr : Option (List Env)} {gd : Option (List Code)} {s : Shared} {E Q : Value → Shared → Prop} {g : Heap} {L W dW lr₀ sf : Addr} {m : Str → Option Value} {k : Nat → Tok} {tw th : Tok} {rest : List (Addr × Obj)} (F : Fr g L s.heap m)
    (N : News g L s.heap ((W, instObj 480 dW) :: (dW, dictOf (wE7 w.params k tw th lr₀ sf) 7) :: rest)) (l1 : AllLt dW rest) (l2 : @LT.lt Nat _ dW W) (hGg : G₀.StaysIn g) (hd : dp + 60 < recursionLimit) (hu : un + 600 < cLine)
    (hQ : ∀ h' tk k' lr ls n, Fr g L h' m → News g L h' ((W, instObj 480 dW) :: (dW, dictOf (wEs w.params k' tw th lr sf ls) 8) :: (lr, listOf #[] 0) :: (ls, listOf #[] n) :: rest) → @LT.lt Nat _ W lr → @LT.lt Nat _ dW lr → AllLt lr rest → @LT.lt Nat _ lr ls → AllLt ls rest → @LT.lt Nat _ dW ls → @LT.lt Nat _ W ls → Q .none { s with heap := h', toks := tk }) :
    wpAny (model PR w) (AT dp fr gd un) (call (.ref 477) [.ref W]) Q E s := by
  have zS0 : Mine.Stop "call ref" := ⟨trivial⟩
  have GT := G
  obtain ⟨KX, T⟩ := G
  have X' := KX.keeps hGg
  have T' := T.keeps hGg
  clear KX T
  refine wpAny_call ?_
  k_enter
  k_steps
  refine Halt.mk ?_
  (with_reducible rename News _ _ _ _ => N0)
  (with_reducible rename Fr _ _ _ _ => F0)
  (with_reducible rename Fr g L _ m => FG1)
  refine call_meth N0 (.head _) ?_
  refine g_reset (dp := dp + 1) (un := un + 3) (W := W) (dW := dW) (rest := rest) GT F0 (News.cons (N0 _ (.tail _ (.tail _ (.head _)))) (News.cons (N0 _ (.tail _ (.tail _ (.tail _ (.head _))))) (fun q hq => N0 q (.tail _ (.tail _ (.tail _ (.tail _ hq))))))) l1 l2 (fun b o e => FG1.keep _ _ (hGg b o e)) (by ktu_offL) (by ktu_offL) (fun h9 tk9 k9 lr9 ls9 F9 N9 z1 z2 z3 => ?_)
  clear N0 F0
  k_steps
  (with_reducible rename News _ _ _ _ => NE)
  (with_reducible rename Fr g L _ _ => FE)
  rename (@LT.lt Nat _ W _ ∧ _) => lE
  obtain ⟨c1, c2, c3, c4⟩ := lE
  dsimp only
  exact hQ _ _ _ _ _ 0 FE (News.cons (NE _ (.tail _ (.head _))) (News.cons (NE _ (.tail _ (.tail _ (.head _)))) (News.cons (NE _ (.tail _ (.tail _ (.tail _ (.head _))))) (News.cons (NE _ (.head _)) (fun q hq => NE q (.tail _ (.tail _ (.tail _ (.tail _ hq))))))))) z1 z2 z3 c3 c4 c2 c1
end
section
variable {w : World} {mean : ExcName → Option Value} {mg mb : Str → Option Value} {loose : List Str} {G₀ : Heap}
noncomputable def k7 (a b c d e f g : Tok) : Nat → Tok | 0 => a | 1 => b | 2 => c | 3 => d | 4 => e | 5 => f | _ => g
/-- the base class's own making -/
theorem pa_init (G : Gnd w mean mg mb loose G₀) {dp un : Nat} {fr : Option (List Env)} {gd : Option (List Code)} {s : Shared} {R : Result → Shared → Prop} {g : Heap} {L W dW : Addr} {m : Str → Option Value} {k0 tw th : Tok} {rest : List (Addr × Obj)} (F : Fr g L s.heap m)
    (N : News g L s.heap ((W, instObj 480 dW) :: (dW, dictOf [⟨PyData.keyHash w.params "_merge", .str "_merge" k0, .bool true⟩] 1) :: rest)) (l1 : AllLt dW rest) (l2 : @LT.lt Nat _ dW W) (hGg : G₀.StaysIn g) (hd : dp + 70 < recursionLimit) (hu : un + 700 < cLine)
    (hQ : ∀ h' tk k lr sf ls n, Fr g L h' m → News g L h' ((W, instObj 480 dW) :: (dW, dictOf (wEs w.params k tw th lr sf ls) 8) :: (lr, listOf #[] 0) :: (ls, listOf #[] n) :: rest) → @LT.lt Nat _ W lr → @LT.lt Nat _ lr ls → R (.ok (.ret .none)) { s with heap := h', toks := tk }) :
    codeAny (model PR w) (AT dp fr gd un) (.call (.ref 222) ⟨[.ref W, .int 1 tw, .int 1 th, .bool false], []⟩) R s := by
  have zS0 : Mine.StopAt 203 := ⟨trivial⟩
  have zS1 : Mine.StopAt 477 := ⟨trivial⟩
  have GT := G
  obtain ⟨KX, T⟩ := G
  have X' := KX.keeps hGg
  have T' := T.keeps hGg
  clear KX T
  k_enter
  k_steps
  refine Halt.mk ?_
  (with_reducible rename News _ _ _ _ => N0)
  (with_reducible rename Fr _ _ _ _ => F0)
  (with_reducible rename Fr g L _ m => FG1)
  have N1 := News.cons (N0 _ (.tail _ (.tail _ (.tail _ (.head _))))) (News.cons (N0 _ (.tail _ (.tail _ (.tail _ (.tail _ (.head _)))))) (l := rest) (fun q hq => N0 q (.tail _ (.tail _ (.tail _ (.tail _ (.tail _ (hq))))))))
  refine rect_new (dp := dp + 1) (un := un + 3) GT F0 N1 (fun b o e => FG1.keep _ _ (hGg b o e)) (by ktu_offL) (by ktu_offL) 0 0 1 1 _ _ _ _ (by decide) (by decide) (fun xA dA hr tkr kr F2 N2 lB lC => ?_)
  k_lt lB
  k_lt2 lC
  clear F0 N0 N1
  k_steps
  refine Halt.mk ?_
  (with_reducible rename News _ _ _ _ => N3)
  (with_reducible rename Fr _ _ _ _ => F3)
  refine reset_at (dp := dp + 1) (un := un + 3) (W := W) (dW := dW) (k := k7 _ _ _ _ _ _ _) (rest := rest) GT F3 (News.cons (N3 _ (.tail _ (.tail _ (.head _)))) (News.cons (N3 _ (.tail _ (.tail _ (.tail _ (.head _))))) (fun q hq => N3 q (.tail _ (.tail _ (.tail _ (.tail _ (hq)))))))) l1 l2 (fun b o e => FG1.keep _ _ (hGg b o e)) (by ktu_offL) (by ktu_offL) (fun h9 tk9 k9 lr9 ls9 n9 F9 N9 z1 z2 z3 z4 z5 z6 z7 => ?_)
  clear F3 N3
  k_steps
  (with_reducible rename News g L _ _ => NE)
  (with_reducible rename Fr g L _ m => FE)
  exact hQ _ _ _ _ _ _ _ FE NE z1 z4
/-- the middle class's own making -/
theorem g_init (G : Gnd w mean mg mb loose G₀) {dp un : Nat} {fr : Option (List Env)} {gd : Option (List Code)} {s : Shared} {R : Result → Shared → Prop} {g : Heap} {L W dW : Addr} {m : Str → Option Value} {tw th : Tok} {rest : List (Addr × Obj)} (F : Fr g L s.heap m)
    (N : News g L s.heap ((W, instObj 480 dW) :: (dW, dictOf [] 0) :: rest)) (l1 : AllLt dW rest) (l2 : @LT.lt Nat _ dW W) (hGg : G₀.StaysIn g) (hd : dp + 80 < recursionLimit) (hu : un + 800 < cLine)
    (hQ : ∀ h' tk k lr sf ls n, Fr g L h' m → News g L h' ((W, instObj 480 dW) :: (dW, dictOf (wEs w.params k tw th lr sf ls) 8) :: (lr, listOf #[] 0) :: (ls, listOf #[] n) :: rest) → @LT.lt Nat _ W lr → @LT.lt Nat _ lr ls → R (.ok (.ret .none)) { s with heap := h', toks := tk }) :
    codeAny (model PR w) (AT dp fr gd un) (.call (.ref 325) ⟨[.ref W, .int 1 tw, .int 1 th], [(Str.ofString "rot", .bool false), (Str.ofString "merge", .bool true)]⟩) R s := by
  have zS1 : Mine.StopAt 477 := ⟨trivial⟩
  have GT := G
  obtain ⟨KX, T⟩ := G
  have X' := KX.keeps hGg
  have T' := T.keeps hGg
  clear KX T
  k_enter
  k_steps
  (with_reducible rename Obj.IsDictOf _ _ _ => hs2)
  obtain ⟨ep2, rfl⟩ := dict_nil hs2
  refine method_star ?_
  k_steps
  refine Halt.mk ?_
  refine callWith_kw (K := Mine.hd.heap_1 w.params) (g := 222) (self := .ref W) (by k_is) ?_
  k_steps
  (with_reducible rename News _ _ _ _ => N1)
  (with_reducible rename Fr _ _ _ _ => F1)
  refine' merged_one F1 N1 ?za ?zb (kw_name rfl) (fun d2 h2 tk F2 N2 hd => ?_)
  case za => k_mem
  case zb => assumption
  refine kwIn_none hd ⟨methP N2 (by k_mem) (by k_in), ?_⟩
  clear F1 N1 hd
  have zS0 : Mine.Stop "call ref" := ⟨trivial⟩
  k_steps
  refine Halt.mk ?_
  (with_reducible rename Fr g L _ m => FG1)
  refine call_meth N2 (.head _) ?_
  refine pa_init (dp := dp + 1) (un := un + 3) (W := W) (dW := dW) (rest := rest) GT F2 (News.cons (N2 _ (.tail _ (.tail _ (.tail _ (.tail _ (.head _)))))) (News.cons (N2 _ (.tail _ (.tail _ (.tail _ (.tail _ (.tail _ (.head _))))))) (fun q hq => N2 q (.tail _ (.tail _ (.tail _ (.tail _ (.tail _ (.tail _ (hq)))))))))) l1 l2 (fun b o e => FG1.keep _ _ (hGg b o e)) (by ktu_offL) (by ktu_offL) (fun h9 tk9 k9 lr9 sf9 ls9 n9 F9 N9 z1 z4 => ?_)
  clear N2 F2 zS0
  k_steps
  (with_reducible rename News g L _ _ => NE)
  (with_reducible rename Fr g L _ m => FE)
  exact hQ _ _ _ _ _ _ _ FE NE z1 z4
/-- the store is made -/
theorem make_c (G : Gnd w mean mg mb loose G₀) {dp un : Nat} {fr : Option (List Env)} {gd : Option (List Code)} {s : Shared} {E Q : Value → Shared → Prop} {g : Heap} {L : Addr} {m : Str → Option Value} {rest : List (Addr × Obj)} (F : Fr g L s.heap m) (N : News g L s.heap rest) (hGg : G₀.StaysIn g) (hd : dp + 90 < recursionLimit) (hu : un + 900 < cLine)
    (hQ : ∀ W dW h' tk k tw th sf lr ls n, Fr g L h' m → News g L h' ((W, instObj 480 dW) :: (dW, dictOf (wEs w.params k tw th lr sf ls) 8) :: (lr, listOf #[] 0) :: (ls, listOf #[] n) :: rest) → AllLt dW rest → @LT.lt Nat _ dW W → @LT.lt Nat _ W lr → @LT.lt Nat _ lr ls → Q (.ref W) { s with heap := h', toks := tk }) :
    wpAny (model PR w) (AT dp fr gd un) (call (.ref 480) [] [(Str.ofString "rot", .bool false)]) Q E s := by
  have zS0 : Mine.StopAt 330 := ⟨trivial⟩
  have zS1 : Mine.StopAt 477 := ⟨trivial⟩
  have GT := G
  obtain ⟨KX, T⟩ := G
  have X' := KX.keeps hGg
  have T' := T.keeps hGg
  clear KX T
  k_dflt (refine' call_cls ?k1 ?k2 ?k3 ?k4 ?k5 ?k6 ?_; (case k1 => k_asm); (case k2 => k_asm); (case k3 => k_asm); (case k4 => k_is); (case k5 => k_is); (case k6 => k_is))
  intro x' d' h' F' N' l1 l2
  have lr0 : AllLt d' rest := allLt_of l1
  have ld0 := l2
  (try k_lt l1); (try k_lt2 l2); (try k_sweep)
  k_enter
  (with_reducible rename Obj.IsDictOf _ _ _ => hs2)
  obtain ⟨ep, rfl⟩ := dict_nil hs2
  k_steps
  refine method_star ?_
  k_steps
  refine Halt.mk ?_
  refine callWith_kw (K := Mine.hd.heap_1 w.params) (g := 325) (self := .ref x') (by k_is) ?_
  k_steps
  (with_reducible rename News _ _ _ _ => N1)
  (with_reducible rename Fr _ _ _ _ => F1)
  (with_reducible rename Top _ _ _ _ _ _ => T1)
  refine' merged_two T1.nolimit F1 N1 ?za ?zb (by decide) (kw_name rfl) (kw_name rfl) (kw_name rfl) (fun d h2 tk t1 t2 F2 N2 hd => ?_)
  case za => k_mem
  case zb => assumption
  refine kwIn_two hd ⟨methP N2 (by walk_at "sm") (by k_in), ?_⟩
  clear F1 N1 hd
  have zS9 : Mine.Stop "call ref" := ⟨trivial⟩
  k_steps
  refine Halt.mk ?_
  (with_reducible rename Fr g L _ m => FG1)
  refine call_meth N2 (.head _) ?_
  refine g_init (dp := dp + 1 + 1) (un := un + 1 + 3) (W := x') (dW := d') (rest := rest) GT F2 (News.cons (N2 _ (.tail _ (.tail _ (.tail _ (.tail _ (.head _)))))) (News.cons (N2 _ (.tail _ (.tail _ (.tail _ (.tail _ (.tail _ (.head _))))))) (fun q hq => N2 q (.tail _ (.tail _ (.tail _ (.tail _ (.tail _ (.tail _ (hq)))))))))) lr0 ld0 (fun b o e => FG1.keep _ _ (hGg b o e)) ?_ ?_ (fun h9 tk9 k9 lr9 sf9 ls9 n9 F9 N9 z1 z4 => ?_)
  · show dp + 1 + 1 + 80 < recursionLimit; ktu_offL
  · show un + 1 + 3 + 800 < cLine; ktu_offL
  clear N2 F2 zS9
  k_steps
  (with_reducible rename News g L _ _ => NE)
  (with_reducible rename Fr g L _ m => FE)
  exact hQ _ _ _ _ _ _ _ _ _ _ _ FE NE lr0 ld0 z1 z4
end
end Mine

namespace Mine
/-- the plain law: gaps and pieces on one line, as pairs (start, length) -/
noncomputable abbrev Pq := Int × Int
noncomputable abbrev gpOf (g : Gp) : Pq := (g.st, g.ln)
noncomputable def ApartQ (a b : Pq) : Prop := Apart a.1 a.2 b.1 b.2
noncomputable def OffQ (a b : Pq) : Prop := a.1 + a.2 ≤ b.1 ∨ b.1 + b.2 ≤ a.1
structure Line (Wh : Int) (ss os : List Pq) : Prop where
  pos : ∀ q ∈ ss, 0 < q.2
  posO : ∀ q ∈ os, 0 < q.2
  ins : ∀ q ∈ ss, 0 ≤ q.1 ∧ q.1 + q.2 ≤ Wh
  insO : ∀ q ∈ os, 0 ≤ q.1 ∧ q.1 + q.2 ≤ Wh
  sep : ss.Pairwise ApartQ
  free : ∀ o ∈ os, ∀ q ∈ ss, OffQ q o
  disj : os.Pairwise OffQ
  cover : ∀ p, 0 ≤ p → p < Wh → (∃ q ∈ ss, q.1 ≤ p ∧ p < q.1 + q.2) ∨ ∃ o ∈ os, o.1 ≤ p ∧ p < o.1 + o.2
theorem pw_mem {α : Type} {R : α → α → Prop} (hs : ∀ a b, R a b → R b a) : ∀ {l : List α} {a b : α}, l.Pairwise R → a ∈ l → b ∈ l → a = b ∨ R a b
  | x :: l, a, b, h, ha, hb => by
    obtain ⟨h1, h2⟩ := List.pairwise_cons.mp h
    rcases List.mem_cons.mp ha with e1 | z1 <;> rcases List.mem_cons.mp hb with e2 | z2
    · exact .inl (e1.trans e2.symm)
    · exact .inr (e1 ▸ h1 _ z2)
    · exact .inr (hs _ _ (e2 ▸ h1 _ z1))
    · exact pw_mem hs h2 z1 z2
theorem perm_out {α : Type} : ∀ {l : List α} {i : Nat} {x : α}, l[i]? = some x → l.Perm (x :: l.eraseIdx i)
  | a :: l, 0, x, h => by
    have e : a = x := by simpa using h
    rw [e]
    exact List.Perm.refl _
  | a :: l, i + 1, x, h => ((perm_out (l := l) (i := i) (x := x) (by simpa using h)).cons a).trans (List.Perm.swap x a _)
theorem apart_symm (a b : Pq) (h : ApartQ a b) : ApartQ b a := h.symm
theorem off_symm (a b : Pq) (h : OffQ a b) : OffQ b a := h.symm
theorem mem_erase_or {α : Type} {l : List α} {j : Nat} {x : α} (hj : l[j]? = some x) : ∀ {a : α}, a ∈ l → a = x ∨ a ∈ l.eraseIdx j := fun {a} ha => by
  obtain ⟨i, hi⟩ := List.mem_iff_getElem?.mp ha
  by_cases e : i = j
  · subst e
    rw [hj] at hi
    exact .inl (Option.some.inj hi).symm
  · exact .inr (List.mem_eraseIdx_iff_getElem?.mpr ⟨i, e, hi⟩)
theorem erase_off {α : Type} {R : α → α → Prop} (hs : ∀ a b, R a b → R b a) {l : List α} {j : Nat} {x : α} (h : l.Pairwise R) (hj : l[j]? = some x) : ∀ q ∈ l.eraseIdx j, q ∈ l ∧ R q x := fun q hq => by
  obtain ⟨i, hij, hi⟩ := List.mem_eraseIdx_iff_getElem?.mp hq
  refine ⟨List.mem_of_getElem? hi, ?_⟩
  obtain ⟨hi1, hi2⟩ := List.getElem?_eq_some_iff.mp hi
  obtain ⟨hj1, hj2⟩ := List.getElem?_eq_some_iff.mp hj
  rcases Nat.lt_or_gt_of_ne hij with h' | h'
  · have := List.pairwise_iff_getElem.mp h i j hi1 hj1 h'
    rwa [hi2, hj2] at this
  · have := List.pairwise_iff_getElem.mp h j i hj1 hi1 h'
    rw [hi2, hj2] at this
    exact hs _ _ this

/-- the pass over pairs -/
noncomputable abbrev qpass (st ln : Int) (l : List Pq) : Int × Int × List Pq := gpass Prod.fst Prod.snd st ln l
theorem gpass_map {α : Type} (fs fl : α → Int) (st ln : Int) (gs : List α) :
    qpass st ln (gs.map fun g => (fs g, fl g)) = ((gpass fs fl st ln gs).1, (gpass fs fl st ln gs).2.1, (gpass fs fl st ln gs).2.2.map fun g => (fs g, fl g)) := by
  have key : ∀ (gs : List α) (st ln : Int) (ks : List α), (gs.map fun g => ((fs g, fl g) : Pq)).foldl (gstep Prod.fst Prod.snd) (st, ln, ks.map fun g => (fs g, fl g)) =
      ((gs.foldl (gstep fs fl) (st, ln, ks)).1, (gs.foldl (gstep fs fl) (st, ln, ks)).2.1, (gs.foldl (gstep fs fl) (st, ln, ks)).2.2.map fun g => (fs g, fl g)) := by
    intro gs
    induction gs with
    | nil => intro st ln ks; rfl
    | cons g gs ih =>
      intro st ln ks
      rw [List.map_cons, List.foldl_cons, List.foldl_cons]
      have e : gstep Prod.fst Prod.snd (st, ln, ks.map fun g => ((fs g, fl g) : Pq)) (fs g, fl g) = ((gstep fs fl (st, ln, ks) g).1, (gstep fs fl (st, ln, ks) g).2.1, (gstep fs fl (st, ln, ks) g).2.2.map fun g => (fs g, fl g)) := by
        unfold gstep
        dsimp only
        split <;> simp
      rw [e]
      exact ih _ _ _
  exact key gs st ln []

theorem qpass_ok {ss : List Pq} {st ln : Int} (hs : ss.Pairwise ApartQ) (hl : ∀ q ∈ ss, 0 < q.2) (hf : ∀ q ∈ ss, OffQ q (st, ln)) (h0 : 0 < ln) :
    let p := qpass st ln ss
    0 < p.2.1 ∧ (∀ k ∈ p.2.2, ApartQ k (p.1, p.2.1)) ∧ p.2.2 = ss.filter (fun g => !touch st ln g.1 g.2) ∧
      ((∃ g ∈ ss, g.1 + g.2 = st ∧ p.1 = g.1) ∨ ((∀ g ∈ ss, g.1 + g.2 ≠ st) ∧ p.1 = st)) ∧
      ((∃ g ∈ ss, g.1 = st + ln ∧ p.1 + p.2.1 = g.1 + g.2) ∨ ((∀ g ∈ ss, g.1 ≠ st + ln) ∧ p.1 + p.2.1 = st + ln)) :=
  gpass_ok Prod.fst Prod.snd ss st ln hs hl hf h0
/-- what comes back is joined -/
theorem Line.give {Wh st ln : Int} {ss os : List Pq} {j : Nat} (h : Line Wh ss os) (hj : os[j]? = some (st, ln)) :
    Line Wh ((qpass st ln ss).2.2 ++ [((qpass st ln ss).1, (qpass st ln ss).2.1)]) (os.eraseIdx j) := by
  have hm : (st, ln) ∈ os := List.mem_of_getElem? hj
  have l0 := h.posO _ hm
  have i0 := h.insO _ hm
  have ok := qpass_ok h.sep h.pos (fun q hq => h.free _ hm q hq) l0
  dsimp only at l0 i0
  generalize qpass st ln ss = p at ok ⊢
  obtain ⟨s1, l1, kept⟩ := p
  dsimp only at ok ⊢
  obtain ⟨a1, a2, a3, a4, a5⟩ := ok
  have hk : ∀ q ∈ kept, q ∈ ss := fun q hq => by rw [a3] at hq; exact (List.mem_filter.mp hq).1
  have he := erase_off off_symm h.disj hj
  have same : ∀ a ∈ ss, ∀ b ∈ ss, a = b ∨ ApartQ a b := fun a ha b hb => pw_mem apart_symm h.sep ha hb
  have m2 : ∀ q ∈ kept ++ [(s1, l1)], q ∈ kept ∨ q = (s1, l1) := fun q hq => by simpa using hq
  have up : ∀ g ∈ ss, g.1 < g.1 + g.2 := fun g hg => Int.lt_add_of_pos_right _ (h.pos g hg)
  have lo : s1 ≤ st := by
    rcases a4 with ⟨g, hg, e1, e2⟩ | ⟨_, e2⟩
    · rw [e2, ← e1]; exact Int.le_of_lt (up g hg)
    · exact Int.le_of_eq e2
  have hi : st + ln ≤ s1 + l1 := by
    rcases a5 with ⟨g, hg, e1, e2⟩ | ⟨_, e2⟩
    · rw [e2, ← e1]; exact Int.le_of_lt (up g hg)
    · exact Int.le_of_eq e2.symm
  have lst : st < st + ln := Int.lt_add_of_pos_right _ l0
  refine ⟨fun q hq => ?_, fun q hq => h.posO q (he q hq).1, fun q hq => ?_, fun q hq => h.insO q (he q hq).1, ?_, fun o ho q hq => ?_, h.disj.sublist (List.eraseIdx_sublist ..), fun p p0 p1 => ?_⟩
  · rcases m2 q hq with hq | rfl
    · exact h.pos q (hk q hq)
    · exact a1
  · rcases m2 q hq with hq | rfl
    · exact h.ins q (hk q hq)
    · dsimp only
      constructor
      · rcases a4 with ⟨g, hg, _, e⟩ | ⟨_, e⟩
        · rw [e]; exact (h.ins g hg).1
        · rw [e]; exact i0.1
      · rcases a5 with ⟨g, hg, _, e⟩ | ⟨_, e⟩
        · rw [e]; exact (h.ins g hg).2
        · rw [e]; exact i0.2
  · refine List.pairwise_append.mpr ⟨?_, List.pairwise_singleton .., fun a ha b hb => ?_⟩
    · rw [a3]; exact h.sep.sublist (List.filter_sublist ..)
    · rw [List.mem_singleton.mp hb]; exact a2 a ha
  · obtain ⟨ho', hoff⟩ := he o ho
    rcases m2 q hq with hq | rfl
    · exact h.free o ho' q (hk q hq)
    · have po : o.1 < o.1 + o.2 := Int.lt_add_of_pos_right _ (h.posO o ho')
      rcases hoff with f | f
      · refine .inr ?_
        dsimp only at f ⊢
        rcases a4 with ⟨g, hg, e1, e2⟩ | ⟨_, e2⟩
        · rw [e2]
          rcases h.free o ho' g hg with b | b
          · rw [e1] at b
            exact absurd (Int.lt_of_lt_of_le po f) (Int.not_lt.mpr b)
          · exact b
        · rw [e2]; exact f
      · refine .inl ?_
        dsimp only at f ⊢
        rcases a5 with ⟨g, hg, e1, e2⟩ | ⟨_, e2⟩
        · rw [e2]
          rcases h.free o ho' g hg with b | b
          · exact b
          · rw [e1] at b
            exact absurd (Int.lt_of_lt_of_le po b) (Int.not_lt.mpr f)
        · rw [e2]; exact f
  · rcases h.cover p p0 p1 with ⟨q, hq, c1, c2⟩ | ⟨o, ho, c1, c2⟩
    · by_cases ht : touch st ln q.1 q.2 = true
      · refine .inl ⟨(s1, l1), List.mem_append_right _ (.head _), ?_⟩
        dsimp only
        simp only [touch, Bool.or_eq_true, decide_eq_true_eq] at ht
        rcases ht with ht | ht
        · refine ⟨?_, Int.lt_of_lt_of_le (Int.lt_trans (ht ▸ c2) lst) hi⟩
          rcases a4 with ⟨g, hg, e1, e2⟩ | ⟨n, e2⟩
          · rcases same q hq g hg with e | ap
            · rw [e2, ← e]; exact c1
            · exact absurd (e1.trans ht.symm) (apart_ne ap (h.pos q hq) (h.pos g hg)).2.2.2
          · exact absurd ht (n q hq)
        · refine ⟨Int.le_trans lo (Int.le_trans (Int.le_of_lt lst) (ht ▸ c1)), ?_⟩
          rcases a5 with ⟨g, hg, e1, e2⟩ | ⟨n, e2⟩
          · rcases same q hq g hg with e | ap
            · rw [e2, ← e]; exact c2
            · exact absurd (ht.symm.trans e1.symm) (apart_ne ap (h.pos q hq) (h.pos g hg)).2.2.1
          · exact absurd ht.symm (n q hq)
      · refine .inl ⟨q, List.mem_append_left _ ?_, c1, c2⟩
        rw [a3]
        exact List.mem_filter.mpr ⟨hq, by simpa using ht⟩
    · rcases mem_erase_or hj ho with e | ho'
      · rw [e] at c1 c2
        exact .inl ⟨(s1, l1), List.mem_append_right _ (.head _), Int.le_trans lo c1, Int.lt_of_lt_of_le c2 hi⟩
      · exact .inr ⟨o, ho', c1, c2⟩
/-- a piece is taken from the lower end of a gap -/
theorem Line.take {Wh st ln len : Int} {ss os : List Pq} {i : Nat} (h : Line Wh ss os) (hi : ss[i]? = some (st, ln)) (h0 : 0 < len) (hl : len ≤ ln) :
    Line Wh (ss.eraseIdx i ++ (if len < ln then [(st + len, ln - len)] else [])) (os ++ [(st, len)]) := by
  have hm : (st, ln) ∈ ss := List.mem_of_getElem? hi
  have l0 := h.pos _ hm
  have i0 := h.ins _ hm
  dsimp only at l0 i0
  have he := erase_off apart_symm h.sep hi
  have ee : st + len + (ln - len) = st + ln := by omega
  have le : st + len ≤ st + ln := Int.add_le_add_left hl st
  have lt : st < st + len := Int.lt_add_of_pos_right _ h0
  have m2 : ∀ q ∈ ss.eraseIdx i ++ (if len < ln then [(st + len, ln - len)] else []), q ∈ ss.eraseIdx i ∨ (len < ln ∧ q = (st + len, ln - len)) := fun q hq => by
    rcases List.mem_append.mp hq with hq | hq
    · exact .inl hq
    · split at hq
      · exact .inr ⟨by assumption, List.mem_singleton.mp hq⟩
      · cases hq
  have m3 : ∀ q ∈ os ++ [(st, len)], q ∈ os ∨ q = (st, len) := fun q hq => by simpa using hq
  refine ⟨fun q hq => ?_, fun q hq => ?_, fun q hq => ?_, fun q hq => ?_, ?_, fun o ho q hq => ?_, ?_, fun p p0 p1 => ?_⟩
  · rcases m2 q hq with hq | ⟨hc, rfl⟩
    · exact h.pos q (he q hq).1
    · exact Int.sub_pos_of_lt hc
  · rcases m3 q hq with hq | rfl
    · exact h.posO q hq
    · exact h0
  · rcases m2 q hq with hq | ⟨hc, rfl⟩
    · exact h.ins q (he q hq).1
    · exact ⟨Int.le_trans i0.1 (Int.le_of_lt lt), by dsimp only; rw [ee]; exact i0.2⟩
  · rcases m3 q hq with hq | rfl
    · exact h.insO q hq
    · exact ⟨i0.1, Int.le_trans le i0.2⟩
  · refine List.pairwise_append.mpr ⟨h.sep.sublist (List.eraseIdx_sublist ..), ?_, fun a ha b hb => ?_⟩
    · split
      · exact List.pairwise_singleton ..
      · exact List.Pairwise.nil
    · split at hb
      · rw [List.mem_singleton.mp hb]
        rcases (he a ha).2 with z | z
        · exact .inl (Int.lt_trans z lt)
        · exact .inr (by dsimp only; rw [ee]; exact z)
      · cases hb
  · rcases m2 q hq with hq | ⟨hc, rfl⟩ <;> rcases m3 o ho with ho | rfl
    · exact h.free o ho q (he q hq).1
    · rcases (he q hq).2 with z | z
      · exact .inl (Int.le_of_lt z)
      · exact .inr (Int.le_of_lt (Int.lt_of_le_of_lt le z))
    · rcases h.free o ho _ hm with z | z
      · exact .inl (by dsimp only; rw [ee]; exact z)
      · exact .inr (Int.le_trans z (Int.le_of_lt lt))
    · exact .inr (Int.le_refl _)
  · refine List.pairwise_append.mpr ⟨h.disj, List.pairwise_singleton .., fun a ha b hb => ?_⟩
    rw [List.mem_singleton.mp hb]
    rcases h.free a ha _ hm with z | z
    · exact .inr (Int.le_trans le z)
    · exact .inl z
  · rcases h.cover p p0 p1 with ⟨q, hq, c1, c2⟩ | ⟨o, ho, c1, c2⟩
    · rcases mem_erase_or hi hq with rfl | hq'
      · dsimp only at c1 c2
        by_cases hc : p < st + len
        · exact .inr ⟨(st, len), by simp, c1, hc⟩
        · refine .inl ⟨(st + len, ln - len), List.mem_append_right _ ?_, Int.not_lt.mp hc, by dsimp only; rw [ee]; exact c2⟩
          rw [if_pos (Int.lt_of_add_lt_add_left (Int.lt_of_le_of_lt (Int.not_lt.mp hc) c2))]
          exact .head _
      · exact .inl ⟨q, List.mem_append_left _ hq', c1, c2⟩
    · exact .inr ⟨o, List.mem_append_left _ ho, c1, c2⟩
/-- all is back: the hole is whole again -/
theorem Line.whole {Wh : Int} {ss : List Pq} (h : Line Wh ss []) (h0 : 0 < Wh) : ss = [(0, Wh)] := by
  have cov : ∀ p, 0 ≤ p → p < Wh → ∃ q ∈ ss, q.1 ≤ p ∧ p < q.1 + q.2 := fun p a b => by
    rcases h.cover p a b with h | ⟨_, h, _⟩
    · exact h
    · cases h
  have same : ∀ a ∈ ss, ∀ b ∈ ss, a = b ∨ ApartQ a b := fun a ha b hb => pw_mem apart_symm h.sep ha hb
  obtain ⟨q, hq, c1, c2⟩ := cov 0 (Int.le_refl _) h0
  have iq := h.ins q hq
  have pq : q.1 < q.1 + q.2 := Int.lt_add_of_pos_right _ (h.pos q hq)
  have e2 : q.1 + q.2 = Wh := by
    by_cases hc : q.1 + q.2 < Wh
    · obtain ⟨g, hg, d1, d2⟩ := cov (q.1 + q.2) (Int.le_trans iq.1 (Int.le_of_lt pq)) hc
      rcases same q hq g hg with e | ap | ap
      · rw [← e] at d2; exact absurd d2 (Int.lt_irrefl _)
      · exact absurd d1 (Int.not_le.mpr ap)
      · exact absurd (Int.lt_trans (Int.lt_trans pq d2) ap) (Int.lt_irrefl _)
    · exact Int.le_antisymm iq.2 (Int.not_lt.mp hc)
  have all : ∀ g ∈ ss, g = q := fun g hg => by
    have ig := h.ins g hg
    have pg : g.1 < g.1 + g.2 := Int.lt_add_of_pos_right _ (h.pos g hg)
    rcases same g hg q hq with e | ap | ap
    · exact e
    · exact absurd (Int.lt_trans pg ap) (Int.not_lt.mpr (Int.le_trans c1 ig.1))
    · rw [e2] at ap
      exact absurd (Int.lt_trans ap pg) (Int.not_lt.mpr ig.2)
  have z1 : q.1 = 0 := Int.le_antisymm c1 iq.1
  have eq : q = (0, Wh) := Prod.ext z1 (by show q.2 = Wh; rw [← e2, z1, Int.zero_add])
  cases ss with
  | nil => cases hq
  | cons a t =>
    have ea := all a (.head _)
    cases t with
    | nil => rw [ea, eq]
    | cons b t =>
      have eb := all b (.tail _ (.head _))
      have z := (List.pairwise_cons.mp h.sep).1 b (.head _)
      rw [ea, eb] at z
      exact absurd (z.elim id id) (Int.lt_asymm pq)
theorem Line.one {Wh : Int} (h0 : 0 < Wh) : Line Wh [(0, Wh)] [] :=
  ⟨fun q hq => by rw [List.mem_singleton.mp hq]; exact h0, fun _ h => (nomatch h), fun q hq => by rw [List.mem_singleton.mp hq]; dsimp only; ktu_offL, fun _ h => (nomatch h), List.pairwise_singleton .., fun _ h => (nomatch h), List.Pairwise.nil,
    fun p a b => .inl ⟨(0, Wh), .head _, a, by dsimp only; ktu_offL⟩⟩
/-- the law's gaps stay the store's: a piece is given back -/
theorem qpass_perm {st ln : Int} {l l' : List Pq} (hp : l.Perm l') (hs : l.Pairwise ApartQ) (hl : ∀ q ∈ l, 0 < q.2) (hf : ∀ q ∈ l, OffQ q (st, ln)) (h0 : 0 < ln) :
    ((qpass st ln l').2.2 ++ [((qpass st ln l').1, (qpass st ln l').2.1)]).Perm ((qpass st ln l).2.2 ++ [((qpass st ln l).1, (qpass st ln l).2.1)]) := by
  have hs' : l'.Pairwise ApartQ := (hp.pairwise_iff (fun {a b} h => apart_symm a b h)).mp hs
  have mem : ∀ {q}, q ∈ l' → q ∈ l := fun h => hp.mem_iff.mpr h
  have mem' : ∀ {q}, q ∈ l → q ∈ l' := fun h => hp.mem_iff.mp h
  have a := qpass_ok hs hl hf h0
  have b := qpass_ok hs' (fun q hq => hl q (mem hq)) (fun q hq => hf q (mem hq)) h0
  have same : ∀ a ∈ l, ∀ b ∈ l, a = b ∨ ApartQ a b := fun a ha b hb => pw_mem apart_symm hs ha hb
  dsimp only at a b
  generalize qpass st ln l = p at a ⊢
  generalize qpass st ln l' = p' at b ⊢
  obtain ⟨s1, l1, k1⟩ := p
  obtain ⟨s2, l2, k2⟩ := p'
  dsimp only at a b ⊢
  obtain ⟨_, _, a3, a4, a5⟩ := a
  obtain ⟨_, _, b3, b4, b5⟩ := b
  have e1 : s2 = s1 := by
    rcases a4 with ⟨g, hg, x, y⟩ | ⟨x, y⟩ <;> rcases b4 with ⟨g', hg', x', y'⟩ | ⟨x', y'⟩
    · rcases same g hg g' (mem hg') with e | ap
      · rw [y, y', e]
      · exact absurd (x'.trans x.symm) (apart_ne ap (hl g hg) (hl g' (mem hg'))).2.2.2
    · exact absurd x (x' g (mem' hg))
    · exact absurd x' (x g' (mem hg'))
    · exact y'.trans y.symm
  have e2 : s2 + l2 = s1 + l1 := by
    rcases a5 with ⟨g, hg, x, y⟩ | ⟨x, y⟩ <;> rcases b5 with ⟨g', hg', x', y'⟩ | ⟨x', y'⟩
    · rcases same g hg g' (mem hg') with e | ap
      · rw [y, y', e]
      · exact absurd (x.trans x'.symm) (apart_ne ap (hl g hg) (hl g' (mem hg'))).2.2.1
    · exact absurd x (x' g (mem' hg))
    · exact absurd x' (x g' (mem hg'))
    · exact y'.trans y.symm
  have e3 : l2 = l1 := by rw [e1] at e2; exact Int.add_left_cancel e2
  subst e1 e3
  rw [a3, b3]
  exact (hp.symm.filter _).append_right _
/-- the law's gaps stay the store's: a piece is taken -/
theorem take_perm {vs ss : List Pq} {i : Nat} {x : Pq} {rem : List Pq} (hp : vs.Perm ss) (hs : ss.Pairwise ApartQ) (hl : ∀ q ∈ ss, 0 < q.2) (hi : ss[i]? = some x) :
    (vs.filter (fun q => !decide (q = x)) ++ rem).Perm (ss.eraseIdx i ++ rem) := by
  have h1 : ss.Perm (x :: ss.eraseIdx i) := perm_out hi
  have h2 := (hp.trans h1).filter (fun q => !decide (q = x))
  rw [List.filter_cons] at h2
  simp only [decide_true, Bool.not_true, Bool.false_eq_true, if_false] at h2
  have h3 : (ss.eraseIdx i).filter (fun q => !decide (q = x)) = ss.eraseIdx i := List.filter_eq_self.mpr fun q hq => by
    have z := (erase_off apart_symm hs hi q hq)
    have pq := hl q z.1
    have ne : q ≠ x := fun e => by
      have z2 := z.2
      rw [e] at z2
      rw [e] at pq
      exact absurd (z2.elim id id) (Int.lt_asymm (Int.lt_add_of_pos_right _ pq))
    simpa using ne
  rw [h3] at h2
  exact h2.append_right _
end Mine

namespace Mine
section
variable {prog : Program} {w : World} {A : Around} {E : Value → Shared → Prop} {s : Shared}
/-- two pairs of whole numbers, as tuples -/
theorem reads_pair {h : Heap} {a : Addr} {x y : Int} {tx ty : Tok} {n : Nat} (ho : h.get? a = some (seqObj "tuple" #[.int x tx, .int y ty] n)) : Reads h (.ref a) (.tuple [.int x, .int y]) [] :=
  reads_tuple_at ho rfl rfl (.cons (.int _ _) (.cons (.int _ _) .nil))
theorem eqv_pair (a b c d : Int) : PyData.eqv (.tuple [.int a, .int b]) (.tuple [.int c, .int d]) = decide ((a, b) = (c, d)) := by
  simp only [PyData.eqv, PyData.eqvAll, Bool.and_true]
  by_cases h : a = c <;> by_cases h' : b = d <;> simp [h, h']
theorem ne_pair {a b : Addr} {x y u v : Int} {tx ty tu tv : Tok} {n m : Nat} {Q : Value → Shared → Prop} (ha : s.heap.get? a = some (seqObj "tuple" #[.int x tx, .int y ty] n)) (hb : s.heap.get? b = some (seqObj "tuple" #[.int u tu, .int v tv] m)) (hu : A.units + 64 < cLine)
    (h : Q (.bool (!decide ((x, y) = (u, v)))) s) : wpAny (model prog w) A (compareOp .NotEq (.ref a) (.ref b)) Q E s := by
  refine ne_dataH (reads_pair ha) (reads_pair hb) rfl rfl hu ?_
  rw [eqv_pair]
  exact h
/-- is a pair among the law's gaps? -/
theorem notin_prs {Gl D : Addr} {vs : List Pr} {n m : Nat} {u v : Int} {tu tv : Tok} {Q : Value → Shared → Prop} (hG : s.heap.get? Gl = some (listOf (prs vs).toArray n)) (hv : ∀ p ∈ vs, s.heap.get? p.a = some p.obj.2) (hD : s.heap.get? D = some (seqObj "tuple" #[.int u tu, .int v tv] m))
    (hne : ∀ p ∈ vs, p.a ≠ D) (hu : A.units + 10 < cLine) (h : Q (.bool (!decide ((u, v) ∈ vs.map fun p => (p.x, p.y)))) s) : wpAny (model prog w) A (compareOp .NotIn (.ref D) (.ref Gl)) Q E s := by
  have hobj : ∀ p ∈ vs, ∀ q ∈ vs, q.a = p.a → (q.x, q.y) = (p.x, p.y) := fun p hp q hq e => by
    have z := hv q hq
    rw [e, hv p hp] at z
    have z1 := Option.some.inj z
    have z2 : (#[Value.int p.x p.tx, .int p.y p.ty] : Array Value) = #[.int q.x q.tx, .int q.y q.ty] := congrArg (fun o : Obj => match o.data with | .seq vs _ => vs | _ => #[]) z1
    simp at z2
    rw [z2.1.1, z2.2.1]
  refine SeqAt.notIn_listAt (fun y => vs.any fun q => y == .ref q.a && decide ((q.x, q.y) = (u, v))) ⟨_, hG, rfl, n, rfl⟩ (fun y hy => ?_) ?_
  · obtain ⟨p, hp, rfl⟩ : ∃ p ∈ vs, Value.ref p.a = y := by simpa [prs] using hy
    have e : (vs.any fun q => Value.ref p.a == .ref q.a && decide ((q.x, q.y) = (u, v))) = decide ((p.x, p.y) = (u, v)) := by
      rw [Bool.eq_iff_iff, List.any_eq_true]
      simp only [Bool.and_eq_true, beq_iff_eq, decide_eq_true_eq]
      constructor
      · rintro ⟨q, hq, e1, e2⟩
        rw [← hobj p hp q hq (Value.ref.inj e1).symm]; exact e2
      · exact fun e => ⟨p, hp, rfl, e⟩
    rw [e]
    refine SeqAt.EqAt.of_refs (hne p hp) ?_
    have key := SeqAt.RcAt.tuples (A := A.in1) (s := s) (l := p.a) (b := D) (items := #[.int p.x p.tx, .int p.y p.ty]) (items2 := #[.int u tu, .int v tv]) (e := fun j => if j = 0 then p.x == u else p.y == v)
      ⟨_, hv p hp, rfl, p.n, rfl⟩ ⟨_, hD, rfl, m, rfl⟩ (by show A.units + 1 < cLine; ktu_offL) (fun j h1 h2 => ?_)
    · have e2 : ((List.range (min (#[Value.int p.x p.tx, .int p.y p.ty] : Array Value).size (#[Value.int u tu, .int v tv] : Array Value).size)).all (fun j => if j = 0 then p.x == u else p.y == v) && (#[Value.int p.x p.tx, .int p.y p.ty] : Array Value).size == (#[Value.int u tu, .int v tv] : Array Value).size) = decide ((p.x, p.y) = (u, v)) := by
        show (((List.range 2).all fun j => if j = 0 then p.x == u else p.y == v) && true) = _
        rw [Bool.eq_iff_iff]
        simp [List.range, List.range.loop]
      rw [e2] at key
      exact key
    · match j, h1, h2 with
      | 0, _, _ => exact SeqAt.EqAt.int_int _ _ _ _
      | 1, _, _ => exact SeqAt.EqAt.int_int _ _ _ _
      | j + 2, h1, _ => exact absurd h1 (by walk_at "sm")
  · have e : ((prs vs).toArray.any fun y => vs.any fun q => y == .ref q.a && decide ((q.x, q.y) = (u, v))) = decide ((u, v) ∈ vs.map fun p => (p.x, p.y)) := by
      rw [Bool.eq_iff_iff]
      simp only [prs, List.any_toArray, List.any_map, List.any_eq_true, Function.comp, Bool.and_eq_true, beq_iff_eq, decide_eq_true_eq, List.mem_map]
      constructor
      · rintro ⟨p, hp, q, hq, _, e⟩
        exact ⟨q, hq, e⟩
      · rintro ⟨q, hq, e⟩
        exact ⟨q, hq, q, hq, rfl, e⟩
    rw [e]
    exact h
/-- pop at a place -/
theorem pop_prs {l : Addr} {os : List Pr} {n j : Nat} {i : Int} {t : Tok} {p : Pr} {Q : Value → Shared → Prop} (hl : s.heap.get? l = some (listOf (prs os).toArray n)) (hi : i = (j : Int)) (hp : os[j]? = some p) (hsz : os.length < 1000)
    (h : ∀ h' n', Heap.SameBut l s.heap h' → h'.get? l = some (listOf (prs (os.eraseIdx j)).toArray n') → Q (.ref p.a) { s with heap := h' }) : wpAny (model prog w) A (call (.builtin "list.pop") [.ref l, .int i t]) Q E s := by
  have hj := (List.getElem?_eq_some_iff.mp hp).1
  have hsl : sizeLine = 2 ^ 24 := sizeLine_eq
  refine call_meets PySem.F.slot_list_pop ⟨_, hl, rfl⟩ PySem.F.entry_list_pop (PySem.F.args_list_pop_2 _ _) (MeetsSeq.list_pop_at l (prs os).toArray n i t j (.ref p.a) ?_ ?_ ?_ ?_) ⟨hl, ?_⟩
  · subst hi
    unfold Builtin.List.listFitsIndex
    simp
    ktu_offL
  · subst hi
    unfold seqIndex?
    have : ¬ ((j : Int) < 0) := by ktu_offL
    simp [this]
    ktu_offL
  · simp [prs, hp]
  · rw [sizeLine_eq]
    simp
    ktu_offL
  · have e : (prs os).toArray.eraseIdxIfInBounds j = (prs (os.eraseIdx j)).toArray := by
      apply Array.toList_inj.mp
      rw [Array.toList_eraseIdxIfInBounds, prs, prs, ← map_erase]
    refine h _ (if ((prs os).toArray.eraseIdxIfInBounds j).size == (prs os).toArray.size then n else n + 1) ⟨Heap.size_update .., fun b hb => Heap.get?_update_other _ _ (Ne.symm hb)⟩ ?_
    rw [← e]
    exact Heap.get?_update_self _ hl rfl
/-- rows of five whole numbers -/
noncomputable abbrev Row := Int × Int × Int × Int × Int
noncomputable def rowD (r : Row) : PyData := .tuple [.int r.1, .int r.2.1, .int r.2.2.1, .int r.2.2.2.1, .int r.2.2.2.2]
noncomputable def RowAt (h : Heap) (t : Addr) (r : Row) : Prop := ∃ k1 k2 k3 k4 k5 c, h.get? t = some (seqObj "tuple" #[.int r.1 k1, .int r.2.1 k2, .int r.2.2.1 k3, .int r.2.2.2.1 k4, .int r.2.2.2.2 k5] c)
theorem reads_rows {h : Heap} : ∀ {ts : List Addr} {rs : List Row}, ts.length = rs.length → (∀ (j : Nat) t r, ts[j]? = some t → rs[j]? = some r → RowAt h t r) → ReadsAll h (ts.map Value.ref) (rs.map rowD) []
  | [], [], _, _ => .nil
  | t :: ts, r :: rs, hl, hr => by
    obtain ⟨k1, k2, k3, k4, k5, c, e⟩ := hr 0 t r rfl rfl
    exact .cons (as := []) (bs := []) (reads_tuple_at e rfl rfl (.cons (.int _ _) (.cons (.int _ _) (.cons (.int _ _) (.cons (.int _ _) (.cons (.int _ _) .nil))))))
      (reads_rows (by simpa using hl) fun j t r h1 h2 => hr (j + 1) t r (by simpa using h1) (by simpa using h2))
  | [], _ :: _, hl, _ => by cases hl
  | _ :: _, [], hl, _ => by cases hl
theorem lay_rows : ∀ rs : List Row, PyData.canLayAll0 (rs.map rowD) = true
  | [] => rfl
  | r :: rs => by
    show (PyData.canLay0 (rowD r) && PyData.canLayAll0 (rs.map rowD)) = true
    rw [lay_rows rs]
    rfl
theorem depth_rows : ∀ rs : List Row, PyData.depthAll (rs.map rowD) ≤ 2
  | [] => by simp [PyData.depthAll]
  | r :: rs => by
    have := depth_rows rs
    exact Nat.max_le.mpr ⟨by simp only [rowD, PyData.depth, PyData.depthAll]; exact Nat.le_of_ble_eq_true rfl, this⟩
theorem eq_rows {R D : Addr} {ts us : List Addr} {rs : List Row} {n m : Nat} {Q : Value → Shared → Prop} (hR : s.heap.get? R = some (listOf (ts.map Value.ref).toArray n)) (hD : s.heap.get? D = some (listOf (us.map Value.ref).toArray m)) (h1 : ts.length = rs.length) (h2 : us.length = rs.length)
    (r1 : ∀ (j : Nat) t r, ts[j]? = some t → rs[j]? = some r → RowAt s.heap t r) (r2 : ∀ (j : Nat) t r, us[j]? = some t → rs[j]? = some r → RowAt s.heap t r) (hu : A.units + 64 < cLine) (h : Q (.bool true) s) :
    wpAny (model prog w) A (compareOp .Eq (.ref R) (.ref D)) Q E s := by
  have hs : SeqAt.shaped (.list (rs.map rowD)) = true := by
    unfold SeqAt.shaped
    rw [Bool.and_eq_true]
    refine ⟨lay_rows rs, decide_eq_true ?_⟩
    have := depth_rows rs
    simp only [PyData.depth]
    ktu_offL
  refine eq_dataH (reads_list_at hR rfl rfl (reads_rows h1 r1)) (reads_list_at hD rfl rfl (reads_rows h2 r2)) hs hs hu ?_
  rw [SeqAt.eqv_refl (.list (rs.map rowD)) (lay_rows rs)]
  exact h
end
end Mine

namespace Mine
open PyProof.Rows.TI (Frs SameUp gone)
/-- a row of what is due, as it stands -/
structure Du where
  a : Addr
  r : Row
  k1 : Tok
  k2 : Tok
  k3 : Tok
  k4 : Tok
  k5 : Tok
  c : Nat
noncomputable def Du.obj (u : Du) : Addr × Obj := (u.a, seqObj "tuple" #[.int u.r.1 u.k1, .int u.r.2.1 u.k2, .int u.r.2.2.1 u.k3, .int u.r.2.2.2.1 u.k4, .int u.r.2.2.2.2 u.k5] u.c)
noncomputable abbrev dus (ds : List Du) : List Value := ds.map fun u => .ref u.a
/-- all that the law has made -/
structure Sto where
  W : Addr
  dW : Addr
  lr : Addr
  sf : Addr
  ls : Addr
  Gl : Addr
  Ol : Addr
  Dl : Addr
  ax : Addr
  k : Nat → Tok
  tw : Tok
  th : Tok
  n : Nat
  np : Nat
  ng : Nat
  no : Nat
  nd : Nat
  nx : Nat
  secs : List Gp
  pieces : List Pc
  vs : List Pr
  os : List Pr
  ds : List Du
  items : List Value
noncomputable def Sto.heads (P : Params) (S : Sto) : List (Addr × Obj) :=
  [(S.W, instObj 480 S.dW), (S.dW, dictOf (wEs P S.k S.tw S.th S.lr S.sf S.ls) 8), (S.ls, listOf (refs S.secs).toArray S.n), (S.lr, listOf (pcs S.pieces).toArray S.np), (S.Gl, listOf (prs S.vs).toArray S.ng),
   (S.Ol, listOf (prs S.os).toArray S.no), (S.Dl, listOf (dus S.ds).toArray S.nd), (S.ax, listOf S.items.toArray S.nx)]
noncomputable def Sto.deep (P : Params) (S : Sto) : List (Addr × Obj) := S.secs.flatMap (Gp.objs P) ++ (S.pieces.flatMap (Pc.objs P) ++ (S.vs.map Pr.obj ++ (S.os.map Pr.obj ++ S.ds.map Du.obj)))
noncomputable def Sto.led (P : Params) (S : Sto) : List (Addr × Obj) := S.heads P ++ S.deep P
section
variable {P : Params} {S : Sto}
theorem Sto.mW : (S.W, instObj 480 S.dW) ∈ S.led P := List.mem_append_left _ (.head _)
theorem Sto.mdW : (S.dW, dictOf (wEs P S.k S.tw S.th S.lr S.sf S.ls) 8) ∈ S.led P := List.mem_append_left _ (.tail _ (.head _))
theorem Sto.mls : (S.ls, listOf (refs S.secs).toArray S.n) ∈ S.led P := List.mem_append_left _ (.tail _ (.tail _ (.head _)))
theorem Sto.mlr : (S.lr, listOf (pcs S.pieces).toArray S.np) ∈ S.led P := List.mem_append_left _ (.tail _ (.tail _ (.tail _ (.head _))))
theorem Sto.mGl : (S.Gl, listOf (prs S.vs).toArray S.ng) ∈ S.led P := List.mem_append_left _ (.tail _ (.tail _ (.tail _ (.tail _ (.head _)))))
theorem Sto.mOl : (S.Ol, listOf (prs S.os).toArray S.no) ∈ S.led P := List.mem_append_left _ (.tail _ (.tail _ (.tail _ (.tail _ (.tail _ (.head _))))))
theorem Sto.mDl : (S.Dl, listOf (dus S.ds).toArray S.nd) ∈ S.led P := List.mem_append_left _ (.tail _ (.tail _ (.tail _ (.tail _ (.tail _ (.tail _ (.head _)))))))
theorem Sto.max : (S.ax, listOf S.items.toArray S.nx) ∈ S.led P := List.mem_append_left _ (.tail _ (.tail _ (.tail _ (.tail _ (.tail _ (.tail _ (.tail _ (.head _))))))))
theorem Sto.msec {g : Gp} (h : g ∈ S.secs) {o : Addr × Obj} (ho : o ∈ g.objs P) : o ∈ S.led P := List.mem_append_right _ (List.mem_append_left _ (List.mem_flatMap.mpr ⟨g, h, ho⟩))
theorem Sto.msecs : ∀ o ∈ S.secs.flatMap (Gp.objs P), o ∈ S.led P := fun _ ho => List.mem_append_right _ (List.mem_append_left _ ho)
theorem Sto.mpcs : ∀ o ∈ S.pieces.flatMap (Pc.objs P), o ∈ S.led P := fun _ ho => List.mem_append_right _ (List.mem_append_right _ (List.mem_append_left _ ho))
theorem Sto.mvs {p : Pr} (h : p ∈ S.vs) : p.obj ∈ S.led P := List.mem_append_right _ (List.mem_append_right _ (List.mem_append_right _ (List.mem_append_left _ (List.mem_map_of_mem h))))
theorem Sto.mos {p : Pr} (h : p ∈ S.os) : p.obj ∈ S.led P := List.mem_append_right _ (List.mem_append_right _ (List.mem_append_right _ (List.mem_append_right _ (List.mem_append_left _ (List.mem_map_of_mem h)))))
theorem Sto.mds {u : Du} (h : u ∈ S.ds) : u.obj ∈ S.led P := List.mem_append_right _ (List.mem_append_right _ (List.mem_append_right _ (List.mem_append_right _ (List.mem_append_right _ (List.mem_map_of_mem h)))))
/-- a rule over all that stands -/
theorem Sto.all {R : Addr × Obj → Prop} (hW : R (S.W, instObj 480 S.dW)) (hdW : R (S.dW, dictOf (wEs P S.k S.tw S.th S.lr S.sf S.ls) 8)) (hls : R (S.ls, listOf (refs S.secs).toArray S.n)) (hlr : R (S.lr, listOf (pcs S.pieces).toArray S.np)) (hGl : R (S.Gl, listOf (prs S.vs).toArray S.ng))
    (hOl : R (S.Ol, listOf (prs S.os).toArray S.no)) (hDl : R (S.Dl, listOf (dus S.ds).toArray S.nd)) (hax : R (S.ax, listOf S.items.toArray S.nx)) (hsec : ∀ g ∈ S.secs, ∀ o ∈ g.objs P, R o) (hpc : ∀ g ∈ S.pieces, ∀ o ∈ g.objs P, R o) (hvs : ∀ p ∈ S.vs, R p.obj) (hos : ∀ p ∈ S.os, R p.obj) (hds : ∀ u ∈ S.ds, R u.obj) : ∀ q ∈ S.led P, R q := fun q hq => by
  rcases List.mem_append.mp hq with hq | hq
  · exact List.forall_mem_cons.mpr ⟨hW, List.forall_mem_cons.mpr ⟨hdW, List.forall_mem_cons.mpr ⟨hls, List.forall_mem_cons.mpr ⟨hlr, List.forall_mem_cons.mpr ⟨hGl, List.forall_mem_cons.mpr ⟨hOl, List.forall_mem_cons.mpr ⟨hDl, List.forall_mem_cons.mpr ⟨hax, List.forall_mem_nil _⟩⟩⟩⟩⟩⟩⟩⟩ q hq
  rcases List.mem_append.mp hq with hq | hq
  · obtain ⟨g, hg, ho⟩ := List.mem_flatMap.mp hq
    exact hsec g hg q ho
  rcases List.mem_append.mp hq with hq | hq
  · obtain ⟨g, hg, ho⟩ := List.mem_flatMap.mp hq
    exact hpc g hg q ho
  rcases List.mem_append.mp hq with hq | hq
  · obtain ⟨p, hp, rfl⟩ := List.mem_map.mp hq
    exact hvs p hp
  rcases List.mem_append.mp hq with hq | hq
  · obtain ⟨p, hp, rfl⟩ := List.mem_map.mp hq
    exact hos p hp
  · obtain ⟨p, hp, rfl⟩ := List.mem_map.mp hq
    exact hds p hp
end
theorem pair_all {R : Addr × Obj → Prop} {a b : Addr × Obj} (ha : R a) (hb : R b) : ∀ o ∈ [a, b], R o := List.forall_mem_cons.mpr ⟨ha, List.forall_mem_cons.mpr ⟨hb, fun _ h => (nomatch h)⟩⟩
/-- the kind of an object, as far as the law's own differ -/
noncomputable def knd (o : Obj) : Nat := match o.data with
  | .plain => match o.cls with | .ref c => c | _ => 1
  | .dict _ n => 1000 + n
  | .seq _ _ => 2
  | .fields _ => 3
  | .cell _ => 4
  | _ => 5
theorem ne_knd {h : Heap} {a b : Addr} {o o' : Obj} (ha : h.get? a = some o) (hb : h.get? b = some o') (hk : knd o ≠ knd o') : a ≠ b := fun e => by
  subst e
  rw [ha] at hb
  exact hk (congrArg knd (Option.some.inj hb))
theorem led_knd {P : Params} {S : Sto} : ∀ q ∈ S.led P, knd q.2 ≠ 3 ∧ knd q.2 ≠ 4 :=
  have l : ∀ (a : Addr) (xs : Array Value) (n : Nat), knd (a, listOf xs n).2 ≠ 3 ∧ knd (a, listOf xs n).2 ≠ 4 := fun _ _ _ => show (2 : Nat) ≠ 3 ∧ (2 : Nat) ≠ 4 by decide
  Sto.all (show (480 : Nat) ≠ 3 ∧ (480 : Nat) ≠ 4 by decide) (show (1008 : Nat) ≠ 3 ∧ (1008 : Nat) ≠ 4 by decide) (l _ _ _) (l _ _ _) (l _ _ _) (l _ _ _) (l _ _ _) (l _ _ _)
    (fun g _ => pair_all (show (203 : Nat) ≠ 3 ∧ (203 : Nat) ≠ 4 by decide) (show (1005 : Nat) ≠ 3 ∧ (1005 : Nat) ≠ 4 by decide)) (fun g _ => pair_all (show (203 : Nat) ≠ 3 ∧ (203 : Nat) ≠ 4 by decide) (show (1005 : Nat) ≠ 3 ∧ (1005 : Nat) ≠ 4 by decide))
    (fun _ _ => show (2 : Nat) ≠ 3 ∧ (2 : Nat) ≠ 4 by decide) (fun _ _ => show (2 : Nat) ≠ 3 ∧ (2 : Nat) ≠ 4 by decide) (fun _ _ => show (2 : Nat) ≠ 3 ∧ (2 : Nat) ≠ 4 by decide)
theorem tl_knd {ps : Array Value} {cs : List (Addr × Obj)} (x : TabOK ps cs) : ∀ q ∈ tl ps cs [], knd q.2 = 3 := fun q hq => by
  rcases List.mem_cons.mp hq with rfl | hq
  · rfl
  · rw [List.append_nil] at hq
    obtain ⟨_, vs, e⟩ := x.2.1 q hq
    unfold knd
    rw [e]

/-- the law's state, as it stands -/
structure LS (P : Params) (G₀ : Heap) (L : Addr) (S : Sto) (ps : Array Value) (cs : List (Addr × Obj)) (c1 c2 c3 : Option Value) (ex : List (Addr × Obj)) (h : Heap) : Prop where
  N : News G₀ L h (S.led P)
  T : News G₀ L h (tl ps cs [])
  C : ∃ o1 o2 o3 : Obj, o1.data = .cell c1 ∧ o2.data = .cell c2 ∧ o3.data = .cell c3 ∧ News G₀ L h [(L + 1 + 1 + 1, o3), (L + 1 + 1, o2), (L + 1, o1)]
  X : News G₀ L h ex
  xf : ∀ q ∈ ex, knd q.2 = 3
  xt : ∀ q ∈ ex, ∀ p ∈ tl ps cs [], q.1 ≠ p.1
  nd : [S.ls, S.lr, S.Gl, S.Ol, S.Dl, S.ax].Nodup
  tab : TabOK ps cs
section
variable {P : Params} {G₀ h h' : Heap} {L : Addr} {S : Sto} {ps : Array Value} {cs ex : List (Addr × Obj)} {c1 c2 c3 : Option Value}
noncomputable abbrev lsT (P : Params) (S : Sto) (ps : Array Value) (cs ex : List (Addr × Obj)) : List (Addr × Obj) := S.led P ++ (tl ps cs [] ++ ex)
theorem LS.all (H : LS P G₀ L S ps cs c1 c2 c3 ex h) : News G₀ L h (lsT P S ps cs ex) := fun q hq => by
  rcases List.mem_append.mp hq with hq | hq
  · exact H.N q hq
  rcases List.mem_append.mp hq with hq | hq
  · exact H.T q hq
  · exact H.X q hq
theorem LS.noCell (H : LS P G₀ L S ps cs c1 c2 c3 ex h) : ∀ q ∈ lsT P S ps cs ex, knd q.2 ≠ 4 := fun q hq => by
  rcases List.mem_append.mp hq with hq | hq
  · exact (led_knd q hq).2
  rcases List.mem_append.mp hq with hq | hq
  · rw [tl_knd H.tab q hq]; decide
  · rw [H.xf q hq]; decide
theorem LS.offCell (H : LS P G₀ L S ps cs c1 c2 c3 ex h) {a : Addr} {o : Obj} {v : Option Value} (ha : h.get? a = some o) (ho : o.data = .cell v) : ∀ q ∈ lsT P S ps cs ex, q.1 ≠ a := fun q hq =>
  ne_knd (H.all q hq).1 ha (by
    have e : knd o = 4 := by unfold knd; rw [ho]
    rw [e]; exact H.noCell q hq)
/-- the state opened for a walk: the cells, then all else as one tail -/
inductive LSOpen (G₀ h : Heap) (L : Addr) (c1 c2 c3 : Option Value) (T₀ : List (Addr × Obj)) : Prop
  | mk (o1 o2 o3 : Obj) (T : List (Addr × Obj)) (hT : T = T₀) (d1 : o1.data = .cell c1) (d2 : o2.data = .cell c2) (d3 : o3.data = .cell c3) (N : News G₀ L h ((L + 1 + 1 + 1, o3) :: (L + 1 + 1, o2) :: (L + 1, o1) :: T))
    (t1 : ∀ q ∈ T, q.1 ≠ L + 1) (t2 : ∀ q ∈ T, q.1 ≠ L + 1 + 1) (t3 : ∀ q ∈ T, q.1 ≠ L + 1 + 1 + 1) : LSOpen G₀ h L c1 c2 c3 T₀
theorem LS.open (H : LS P G₀ L S ps cs c1 c2 c3 ex h) : LSOpen G₀ h L c1 c2 c3 (lsT P S ps cs ex) := by
  obtain ⟨o1, o2, o3, e1, e2, e3, NC⟩ := H.C
  refine ⟨o1, o2, o3, _, rfl, e1, e2, e3, fun q hq => ?_, H.offCell (NC _ (.tail _ (.tail _ (.head _)))).1 e1, H.offCell (NC _ (.tail _ (.head _))).1 e2, H.offCell (NC _ (.head _)).1 e3⟩
  rcases List.mem_cons.mp hq with rfl | hq
  · exact NC _ (.head _)
  rcases List.mem_cons.mp hq with rfl | hq
  · exact NC _ (.tail _ (.head _))
  rcases List.mem_cons.mp hq with rfl | hq
  · exact NC _ (.tail _ (.tail _ (.head _)))
  · exact H.all q hq
/-- closed again behind a walk -/
theorem LS.close (H : LS P G₀ L S ps cs c1 c2 c3 ex h) {o1 o2 o3 : Obj} {d1 d2 d3 : Option Value} {T news : List (Addr × Obj)} (hT : T = lsT P S ps cs ex) (N : News G₀ L h' news) (e1 : o1.data = .cell d1) (e2 : o2.data = .cell d2) (e3 : o3.data = .cell d3)
    (m1 : (L + 1, o1) ∈ news) (m2 : (L + 1 + 1, o2) ∈ news) (m3 : (L + 1 + 1 + 1, o3) ∈ news) (mT : ∀ q ∈ T, q ∈ news) : LS P G₀ L S ps cs d1 d2 d3 ex h' where
  N q hq := N q (mT q (hT ▸ List.mem_append_left _ hq))
  T q hq := N q (mT q (hT ▸ List.mem_append_right _ (List.mem_append_left _ hq)))
  C := ⟨o1, o2, o3, e1, e2, e3, List.forall_mem_cons.mpr ⟨N _ m3, List.forall_mem_cons.mpr ⟨N _ m2, List.forall_mem_cons.mpr ⟨N _ m1, fun _ h => (nomatch h)⟩⟩⟩⟩
  X q hq := N q (mT q (hT ▸ List.mem_append_right _ (List.mem_append_right _ hq)))
  xf := H.xf
  xt := H.xt
  nd := H.nd
  tab := H.tab
theorem LS.off_tl (H : LS P G₀ L S ps cs c1 c2 c3 ex h) : ∀ q ∈ S.led P, ∀ p ∈ tl ps cs [], q.1 ≠ p.1 := fun q hq p hp => ne_knd (H.N q hq).1 (H.T p hp).1 (by rw [tl_knd H.tab p hp]; exact (led_knd q hq).1)
end
end Mine

namespace Mine
open PyProof.Rows.TI (Frs SameUp gone)
section
variable {P : Params} {G₀ h h' : Heap} {L : Addr} {S S' : Sto} {ps ps' : Array Value} {cs cs' ex : List (Addr × Obj)} {c1 c2 c3 : Option Value} {D : List Addr}
theorem LS.t360 (H : LS P G₀ L S ps cs c1 c2 c3 ex h) : h.get? 360 = some (tabObj ps) := (H.T _ (.head _)).1
theorem LS.stay (H : LS P G₀ L S ps cs c1 c2 c3 ex h) (k : Keep (D ++ [L, 360]) h h') {q : Addr × Obj} (hq : q ∈ S.led P) (hd : q.1 ∉ D) : h'.get? q.1 = some q.2 ∧ q.1 ≠ L ∧ G₀.get? q.1 = none := by
  refine ⟨k _ _ (fun hm => ?_) (H.N q hq).1, (H.N q hq).2⟩
  rcases List.mem_append.mp hm with hm | hm
  · exact hd hm
  rcases List.mem_cons.mp hm with e | hm
  · exact (H.N q hq).2.1 e
  · exact ne_knd (H.N q hq).1 H.t360 (led_knd q hq).1 (List.mem_singleton.mp hm)
/-- off what is turned, by the kind -/
theorem off_D {a : Addr} {o : Obj} (ha : h.get? a = some o) (hD : ∀ d ∈ D, ∃ o', h.get? d = some o' ∧ knd o' ≠ knd o) : a ∉ D := fun hm => by
  obtain ⟨o', e, hk⟩ := hD a hm
  rw [ha] at e
  exact hk (congrArg knd (Option.some.inj e)).symm
theorem LS.upd (H : LS P G₀ L S ps cs c1 c2 c3 ex h) (k : Keep (D ++ [L, 360]) h h') (hD : ∀ d ∈ D, ∃ o, h.get? d = some o ∧ knd o ≠ 3 ∧ knd o ≠ 4) (T' : News G₀ L h' (tl ps' cs' [])) (tab' : TabOK ps' cs')
    (back : ∀ q ∈ tl ps' cs' [], (∃ p ∈ tl ps cs [], q.1 = p.1) ∨ h.get? q.1 = none) (N' : News G₀ L h' (S'.led P)) (nd' : [S'.ls, S'.lr, S'.Gl, S'.Ol, S'.Dl, S'.ax].Nodup) : LS P G₀ L S' ps' cs' c1 c2 c3 ex h' := by
  have off : ∀ a o, h.get? a = some o → (knd o = 3 ∨ knd o = 4) → a ∉ D := fun a o e hk => off_D e fun d hd => by
    obtain ⟨o', e', h3, h4⟩ := hD d hd
    exact ⟨o', e', by rcases hk with hk | hk <;> rw [hk] <;> assumption⟩
  refine ⟨N', T', ?_, fun q hq => ⟨k _ _ (fun hm => ?_) (H.X q hq).1, (H.X q hq).2⟩, H.xf, fun q hq p hp e => ?_, nd', tab'⟩
  · obtain ⟨o1, o2, o3, e1, e2, e3, NC⟩ := H.C
    have one : ∀ q ∈ [(L + 1 + 1 + 1, o3), (L + 1 + 1, o2), (L + 1, o1)], knd q.2 = 4 → h'.get? q.1 = some q.2 := fun q hq hk => k _ _ (fun hm => by
      rcases List.mem_append.mp hm with hm | hm
      · exact off _ _ (NC q hq).1 (.inr hk) hm
      rcases List.mem_cons.mp hm with e | hm
      · exact (NC q hq).2.1 e
      · exact ne_knd (NC q hq).1 H.t360 (by rw [hk]; exact (by decide : (4 : Nat) ≠ 3)) (List.mem_singleton.mp hm)) (NC q hq).1
    have k4 : ∀ {o : Obj} {v : Option Value}, o.data = .cell v → knd o = 4 := fun e => by unfold knd; rw [e]
    refine ⟨o1, o2, o3, e1, e2, e3, List.forall_mem_cons.mpr ⟨⟨one _ (.head _) (k4 e3), (NC _ (.head _)).2⟩, List.forall_mem_cons.mpr ⟨⟨one _ (.tail _ (.head _)) (k4 e2), (NC _ (.tail _ (.head _))).2⟩, List.forall_mem_cons.mpr ⟨⟨one _ (.tail _ (.tail _ (.head _))) (k4 e1), (NC _ (.tail _ (.tail _ (.head _)))).2⟩, List.forall_mem_nil _⟩⟩⟩⟩
  · rcases List.mem_append.mp hm with hm | hm
    · exact off _ _ (H.X q hq).1 (.inl (H.xf q hq)) hm
    rcases List.mem_cons.mp hm with e | hm
    · exact (H.X q hq).2.1 e
    · exact H.xt q hq _ (.head _) (List.mem_singleton.mp hm)
  · rcases back p hp with ⟨p', hp', e'⟩ | hn
    · exact H.xt q hq p' hp' (e.trans e')
    · have z := (H.X q hq).1
      rw [e, hn] at z; cases z
/-- the tail stays where only objects of the law turn -/
theorem LS.tlK (H : LS P G₀ L S ps cs c1 c2 c3 ex h) (k : Keep D h h') (hD : ∀ d ∈ D, ∃ o, h.get? d = some o ∧ knd o ≠ 3 ∧ knd o ≠ 4) : News G₀ L h' (tl ps cs []) := fun q hq =>
  ⟨k _ _ (off_D (H.T q hq).1 fun d hd => by
    obtain ⟨o', e', h3, _⟩ := hD d hd
    exact ⟨o', e', by rw [tl_knd H.tab q hq]; exact h3⟩) (H.T q hq).1, (H.T q hq).2⟩
theorem LS.backK : ∀ q ∈ tl ps cs [], (∃ p ∈ tl ps cs [], q.1 = p.1) ∨ h.get? q.1 = none := fun q hq => .inl ⟨q, hq, rfl⟩
theorem LS.frK {m : Str → Option Value} (_ : LS P G₀ L S ps cs c1 c2 c3 ex h) (F : Fr G₀ L h m) (k : Keep D h h') (hD : ∀ d ∈ D, d ≠ L ∧ G₀.get? d = none) : Fr G₀ L h' m := k.fr F (fun hm => (hD _ hm).1 rfl) fun d hd => (hD d hd).2
theorem LS.keep0 (H : LS P G₀ L S ps cs c1 c2 c3 ex h) (k : Keep [] h h') : LS P G₀ L S ps cs c1 c2 c3 ex h' :=
  H.upd (D := []) (k.mono fun _ h => nomatch h) (List.forall_mem_nil _) (H.tlK k fun _ h => nomatch h) H.tab LS.backK (fun q hq => ⟨k _ _ (fun h => nomatch h) (H.N q hq).1, (H.N q hq).2⟩) H.nd
end
section
variable {w : World} {G₀ : Heap} {nd nu dp un : Nat} {f : Addr} {args : List Value} {conc more : List (Addr × Obj)} {D : List Addr} {Post : Heap → Value → Heap → Prop} {env : Env} {gd : Option (List Code)} {s : Shared} {E Q : Value → Shared → Prop} {m : Str → Option Value} {L : Addr} {S : Sto} {ps : Array Value} {cs ex : List (Addr × Obj)} {c1 c2 c3 : Option Value}
/-- calling a function of the second kind out of the law -/
theorem LS.callD (C : CII w G₀ nd nu f args conc D Post) (F : Fr G₀ L s.heap m) (H : LS w.params G₀ L S ps cs c1 c2 c3 ex s.heap) (M : News G₀ L s.heap more) (hM : ∀ q ∈ more, ∀ p ∈ tl ps cs [], q.1 ≠ p.1) (hsub : ∀ q ∈ conc, q ∈ S.led w.params) (hD : ∀ d ∈ D, ∃ q ∈ S.led w.params, q.1 = d)
    (hd : dp + nd < recursionLimit) (hu : un + nu < cLine) (hA : AllBare s.gens) (henv : env.frame = some L) (hke : env.scope.kind ≠ .module)
    (h : ∀ v h' tk gs ps' cs', Fr G₀ L h' m → Keep (D ++ [L, 360]) s.heap h' → News G₀ L h' (tl ps' cs' []) → TabOK ps' cs' → (∀ q ∈ tl ps' cs' [], (∃ p ∈ tl ps cs [], q.1 = p.1) ∨ s.heap.get? q.1 = none) → (∀ q ∈ more, q.1 ∉ D → h'.get? q.1 = some q.2 ∧ q.1 ≠ L ∧ G₀.get? q.1 = none) →
      (∀ q ∈ more, ∀ p ∈ tl ps' cs' [], q.1 ≠ p.1) → AllBare gs → Post s.heap v h' → Q v { s with heap := h', toks := tk, gens := gs }) :
    wpAny (model PR w) (AT dp (some [env]) gd un) (call (.ref f) args) Q E s := by
  refine call_II (frs := []) (lits := S.led w.params ++ more) C F (fun q hq => ?_) hd hu (fun _ _ e => e) (fun q hq => ⟨(H.N q (hsub q hq)).1, (H.N q (hsub q hq)).2.2⟩) H.tab (by trivial) hA henv hke (fun q hq => ⟨(H.N q (hsub q hq)).2.1, H.off_tl q (hsub q hq)⟩) (fun d hd => ?_) (fun q hq => ?_)
    (fun v h' tk gs ps' cs' frs' F' N' hl T' Fs' SU A' hcs hsub' back hp k => ?_)
  · rcases List.mem_append.mp hq with hq | hq
    · rcases List.mem_append.mp hq with hq | hq
      · exact H.N q hq
      · exact M q hq
    · exact H.T q hq
  · obtain ⟨q, hq, e⟩ := hD d hd
    exact ⟨q, List.mem_append_left _ hq, e⟩
  · rcases List.mem_append.mp hq with hq | hq
    · exact H.off_tl q hq
    · exact hM q hq
  · cases frs' with
    | cons _ _ => exact False.elim SU
    | nil =>
      refine h v h' tk gs ps' cs' F' k N' T' back (fun q hq hd => hl q (List.mem_append_right _ hq) hd) (fun q hq p hp e => ?_) A' hp
      rcases back p hp with ⟨p', hp', e'⟩ | hn
      · exact hM q hq p' hp' (e.trans e')
      · have z := (M q hq).1
        rw [e, hn] at z; cases z
theorem LS.call0 (C : CII w G₀ nd nu f args conc [] Post) (F : Fr G₀ L s.heap m) (H : LS w.params G₀ L S ps cs c1 c2 c3 ex s.heap) (M : News G₀ L s.heap more) (hM : ∀ q ∈ more, ∀ p ∈ tl ps cs [], q.1 ≠ p.1) (hsub : ∀ q ∈ conc, q ∈ S.led w.params)
    (hd : dp + nd < recursionLimit) (hu : un + nu < cLine) (hA : AllBare s.gens) (henv : env.frame = some L) (hke : env.scope.kind ≠ .module)
    (h : ∀ v h' tk gs ps' cs', Fr G₀ L h' m → LS w.params G₀ L S ps' cs' c1 c2 c3 ex h' → News G₀ L h' more → (∀ q ∈ more, ∀ p ∈ tl ps' cs' [], q.1 ≠ p.1) → Keep [L, 360] s.heap h' → AllBare gs → Post s.heap v h' → Q v { s with heap := h', toks := tk, gens := gs }) :
    wpAny (model PR w) (AT dp (some [env]) gd un) (call (.ref f) args) Q E s :=
  LS.callD C F H M hM hsub (List.forall_mem_nil _) hd hu hA henv hke fun v h' tk gs ps' cs' F' k T' tab back hmo hmt A' hp =>
    h v h' tk gs ps' cs' F' (H.upd (D := []) k (List.forall_mem_nil _) T' tab back (fun q hq => H.stay (D := []) k hq fun h => nomatch h) H.nd) (fun q hq => hmo q hq fun h => nomatch h) hmt k A' hp
end
end Mine

namespace Mine
open PyProof.Rows.TI (Frs SameUp gone)
/-- what stays the same all through the law -/
structure LC where
  X : Int
  Y : Int
  Wh : Int
  B : Int
  M : Int
  tx : Tok
  ty : Tok
  tw : Tok
  tb : Tok
  up : Bool
  how : Value
  sc : Value
structure LF (c : LC) : Prop where
  hB : 0 < c.B
  hW : 12 ≤ c.Wh
  hM : Mul c.M
  hBM : c.B ≤ c.M
  hWM : c.Wh < c.M
/-- the law's plain facts of the state behind i deeds -/
structure LP (c : LC) (S : Sto) (i : Nat) : Prop where
  ok : ∀ q ∈ S.secs, q.ok c.up c.X c.Y c.B
  line : Line c.Wh (S.secs.map gpOf) (S.os.map prOf)
  perm : (S.vs.map prOf).Perm (S.secs.map gpOf)
  len : S.secs.length + S.os.length ≤ 1 + i
  pl : S.pieces.length ≤ i
  dl : S.ds.length = S.pieces.length
  due : ∀ (j : Nat) p u, S.pieces[j]? = some p → S.ds[j]? = some u → u.r = (p.r.x, p.r.y, p.r.w, p.r.h, (j : Int)) ∧ ∃ t, p.r.rid = .int j t
theorem line_le {c : LC} {S : Sto} (h : Line c.Wh (S.secs.map gpOf) (S.os.map prOf)) : ∀ q ∈ S.secs, q.ln ≤ c.Wh := fun q hq => by
  have := h.ins (gpOf q) (List.mem_map_of_mem hq)
  dsimp only at this
  ktu_offL
theorem ne_tup {h : Heap} {a l : Addr} {o o' : Obj} (ha : h.get? a = some o) (hc : o.cls = .type "tuple") (hl : h.get? l = some o') (hc' : o'.cls = .type "list") : a ≠ l := ne_cls ha hl (by rw [hc, hc']; decide)
section
variable {P : Params} {G₀ h h' : Heap} {L : Addr} {S S' : Sto} {ps ps' : Array Value} {cs cs' ex : List (Addr × Obj)} {c1 c2 c3 : Option Value} {D : List Addr}
/-- off what is turned: an object of a rectangle -/
theorem LS.rcOff (H : LS P G₀ L S ps cs c1 c2 c3 ex h) {q : Addr × Obj} (hq : h.get? q.1 = some q.2) (hk : knd q.2 = 203 ∨ knd q.2 = 1005) : @Ne Nat q.1 S.W ∧ @Ne Nat q.1 S.dW ∧ @Ne Nat q.1 S.ls ∧ @Ne Nat q.1 S.lr ∧ @Ne Nat q.1 S.Gl ∧ @Ne Nat q.1 S.Ol ∧ @Ne Nat q.1 S.Dl := by
  have one : ∀ {p : Addr × Obj}, p ∈ S.led P → knd p.2 ≠ 203 → knd p.2 ≠ 1005 → q.1 ≠ p.1 := fun hp h1 h2 => ne_knd hq (H.N _ hp).1 (by rcases hk with e | e <;> rw [e] <;> exact Ne.symm ‹_›)
  have l : ∀ (a : Addr) (xs : Array Value) (n : Nat), knd (a, listOf xs n).2 ≠ 203 ∧ knd (a, listOf xs n).2 ≠ 1005 := fun _ _ _ => show (2 : Nat) ≠ 203 ∧ (2 : Nat) ≠ 1005 by decide
  exact ⟨one Sto.mW (show (480 : Nat) ≠ 203 by decide) (show (480 : Nat) ≠ 1005 by decide), one Sto.mdW (show (1008 : Nat) ≠ 203 by decide) (show (1008 : Nat) ≠ 1005 by decide), one Sto.mls (l _ _ _).1 (l _ _ _).2, one Sto.mlr (l _ _ _).1 (l _ _ _).2, one Sto.mGl (l _ _ _).1 (l _ _ _).2, one Sto.mOl (l _ _ _).1 (l _ _ _).2, one Sto.mDl (l _ _ _).1 (l _ _ _).2⟩
theorem gp_knd {g : Gp} : ∀ o ∈ g.objs P, knd o.2 = 203 ∨ knd o.2 = 1005 := pair_all (.inl rfl) (.inr rfl)
theorem pc_knd {g : Pc} : ∀ o ∈ g.objs P, knd o.2 = 203 ∨ knd o.2 = 1005 := pair_all (.inl rfl) (.inr rfl)
theorem not_mem3 {a x y z : Addr} (h1 : @Ne Nat a x) (h2 : @Ne Nat a y) (h3 : @Ne Nat a z) : a ∉ [x, y, z] := fun hm => by
  rcases List.mem_cons.mp hm with e | hm
  · exact h1 e
  rcases List.mem_cons.mp hm with e | hm
  · exact h2 e
  · exact h3 (List.mem_singleton.mp hm)
theorem not_mem4 {a x y z u : Addr} (h0 : @Ne Nat a u) (h1 : @Ne Nat a x) (h2 : @Ne Nat a y) (h3 : @Ne Nat a z) : a ∉ [u, x, y, z] := fun hm => by
  rcases List.mem_cons.mp hm with e | hm
  · exact h0 e
  · exact not_mem3 h1 h2 h3 hm
theorem not_mem2 {a x y : Addr} (h1 : @Ne Nat a x) (h2 : @Ne Nat a y) : a ∉ [x, y] := fun hm => by
  rcases List.mem_cons.mp hm with e | hm
  · exact h1 e
  · exact h2 (List.mem_singleton.mp hm)
theorem LS.sec3 (H : LS P G₀ L S ps cs c1 c2 c3 ex h) : ∀ q ∈ S.secs, ∀ o ∈ q.objs P, o.1 ∉ [S.W, S.dW, S.ls] := fun q hq o ho => by
  obtain ⟨a, b, c, _⟩ := H.rcOff (H.N o (Sto.msec hq ho)).1 (gp_knd o ho)
  exact not_mem3 a b c
theorem LS.W_dW (H : LS P G₀ L S ps cs c1 c2 c3 ex h) : @Ne Nat S.W S.dW := ne_knd (H.N _ Sto.mW).1 (H.N _ Sto.mdW).1 (show (480 : Nat) ≠ 1008 by decide)
theorem LS.W_l (H : LS P G₀ L S ps cs c1 c2 c3 ex h) {l : Addr} {xs : Array Value} {n : Nat} (hl : h.get? l = some (listOf xs n)) : @Ne Nat S.W l := ne_knd (H.N _ Sto.mW).1 hl (show (480 : Nat) ≠ 2 by decide)
theorem LS.dW_l (H : LS P G₀ L S ps cs c1 c2 c3 ex h) {l : Addr} {xs : Array Value} {n : Nat} (hl : h.get? l = some (listOf xs n)) : @Ne Nat S.dW l := ne_knd (H.N _ Sto.mdW).1 hl (show (1008 : Nat) ≠ 2 by decide)
end
section
variable {w : World} {mean : ExcName → Option Value} {mg mb : Str → Option Value} {loose : List Str} {G₀ : Heap} {dp un : Nat} {more : List (Addr × Obj)} {env : Env} {gd : Option (List Code)} {s : Shared} {E Q : Value → Shared → Prop} {m : Str → Option Value} {L : Addr} {S : Sto} {ps : Array Value} {cs ex : List (Addr × Obj)} {c1 c2 c3 : Option Value} {c : LC}
theorem told_law (G : Gnd w mean mg mb loose G₀) (CH : CodeHd G₀ 364 360) (K : LF c) (F : Fr G₀ L s.heap m) (H : LS w.params G₀ L S ps cs c1 c2 c3 ex s.heap) (M : News G₀ L s.heap more) (hM : ∀ q ∈ more, ∀ p ∈ tl ps cs [], q.1 ≠ p.1)
    (ok : ∀ q ∈ S.secs, q.ok c.up c.X c.Y c.B) (line : Line c.Wh (S.secs.map gpOf) (S.os.map prOf)) (hsz : S.secs.length < 100) {len : Int} {t : Tok} (hl0 : 0 < len) (hlM : len ≤ c.M)
    (hd : dp + 80 < recursionLimit) (hu : un + 800 < cLine) (hA : AllBare s.gens) (henv : env.frame = some L) (hke : env.scope.kind ≠ .module)
    (h : ∀ v h' tk gs ps' cs', Fr G₀ L h' m → LS w.params G₀ L S ps' cs' c1 c2 c3 ex h' → News G₀ L h' more → (∀ q ∈ more, ∀ p ∈ tl ps' cs' [], q.1 ≠ p.1) → AllBare gs → Told c.B len (S.secs.map Gp.ln) v → Q v { s with heap := h', toks := tk, gens := gs }) :
    wpAny (model PR w) (AT dp (some [env]) gd un) (call (.ref 496) [.ref S.W, .bool c.up, .int c.B c.tb, .int len t]) Q E s := by
  refine LS.call0 (told_c G CH S.W S.dW S.lr S.sf S.ls S.k S.tw S.th S.n S.secs c.up c.X c.Y c.B len c.M c.tb t ok K.hB hl0 K.hM K.hBM hlM (fun q hq => ?_) (by rw [sizeLine_eq]; ktu_offL) H.sec3) F H M hM (fun q hq => ?_) hd hu hA henv hke
    fun v h' tk gs ps' cs' F' H' M' hM' _ A' hp => h v h' tk gs ps' cs' F' H' M' hM' A' hp
  · have := line_le line q hq
    have := K.hWM
    ktu_offL
  · rcases List.mem_append.mp hq with hq | hq
    · exact List.forall_mem_cons.mpr ⟨Sto.mW, List.forall_mem_cons.mpr ⟨Sto.mdW, List.forall_mem_cons.mpr ⟨Sto.mls, List.forall_mem_nil _⟩⟩⟩ q hq
    · exact Sto.msecs q hq
theorem right_law (G : Gnd w mean mg mb loose G₀) (CH : CodeHd G₀ 364 360) (K : LF c) (F : Fr G₀ L s.heap m) (H : LS w.params G₀ L S ps cs c1 c2 c3 ex s.heap)
    (ok : ∀ q ∈ S.secs, q.ok c.up c.X c.Y c.B) (hle : ∀ q ∈ S.secs, q.ln ≤ c.Wh) (hsz : S.secs.length < 100) (perm : (S.vs.map prOf).Perm (S.secs.map gpOf))
    (hd : dp + 90 < recursionLimit) (hu : un + 900 < cLine) (hA : AllBare s.gens) (henv : env.frame = some L) (hke : env.scope.kind ≠ .module)
    (h : ∀ h' tk gs ps' cs', Fr G₀ L h' m → LS w.params G₀ L S ps' cs' c1 c2 c3 ex h' → AllBare gs → Q (.bool true) { s with heap := h', toks := tk, gens := gs }) :
    wpAny (model PR w) (AT dp (some [env]) gd un) (call (.ref 501) [.ref S.W, .bool c.up, .int c.B c.tb, .ref S.Gl]) Q E s := by
  have hp2 : (S.vs.map Pr.y).Perm (S.secs.map Gp.ln) := by
    have := perm.map Prod.snd
    simpa [List.map_map, Function.comp_def] using this
  refine LS.call0 (more := []) (right_c G CH S.W S.dW S.lr S.sf S.ls S.Gl S.k S.tw S.th S.n S.ng S.secs S.vs c.up c.X c.Y c.B c.M c.tb ok K.hB K.hM K.hBM (fun q hq => ?_) (by rw [sizeLine_eq]; ktu_offL) (by have := K.hW; have := K.hWM; ktu_offL) H.sec3 (fun q hq o ho => ?_) hp2) F H (List.forall_mem_nil _) (List.forall_mem_nil _) (fun q hq => ?_) hd hu hA henv hke
    fun v h' tk gs ps' cs' F' H' _ _ _ A' hp => hp ▸ h h' tk gs ps' cs' F' H' A'
  · have := hle q hq
    have := K.hWM
    ktu_offL
  · have z := H.rcOff (H.N o (Sto.msec hq ho)).1 (gp_knd o ho)
    exact ⟨z.2.2.2.2.1, fun p hp => ne_knd (H.N o (Sto.msec hq ho)).1 (H.N p.obj (Sto.mvs hp)).1 (by
      rcases gp_knd o ho with e | e <;> rw [e]
      · exact (show (203 : Nat) ≠ 2 by decide)
      · exact (show (1005 : Nat) ≠ 2 by decide))⟩
  · rcases List.mem_append.mp hq with hq | hq
    · rcases List.mem_append.mp hq with hq | hq
      · exact List.forall_mem_cons.mpr ⟨Sto.mW, List.forall_mem_cons.mpr ⟨Sto.mdW, List.forall_mem_cons.mpr ⟨Sto.mls, List.forall_mem_nil _⟩⟩⟩ q hq
      · rcases List.mem_cons.mp hq with rfl | hq
        · exact Sto.mGl
        · obtain ⟨p, hp, rfl⟩ := List.mem_map.mp hq
          exact Sto.mvs hp
    · exact Sto.msecs q hq
end
end Mine

namespace Mine
open PyProof.Rows.TI (Frs SameUp gone)
section
variable {P : Params} {G₀ h h' : Heap} {L : Addr} {S S' : Sto} {ps ps' : Array Value} {cs cs' ex : List (Addr × Obj)} {c1 c2 c3 : Option Value} {D : List Addr}
structure Six (a b c d e f : Addr) : Prop where
  a1 : @Ne Nat a b
  a2 : @Ne Nat a c
  a3 : @Ne Nat a d
  a4 : @Ne Nat a e
  a5 : @Ne Nat a f
  b1 : @Ne Nat b c
  b2 : @Ne Nat b d
  b3 : @Ne Nat b e
  b4 : @Ne Nat b f
  d1 : @Ne Nat c d
  d2 : @Ne Nat c e
  d3 : @Ne Nat c f
  e1 : @Ne Nat d e
  e2 : @Ne Nat d f
  f1 : @Ne Nat e f
theorem six {a b c d e f : Addr} (h : [a, b, c, d, e, f].Nodup) : Six a b c d e f := by
  simp only [List.nodup_cons, List.mem_cons, List.not_mem_nil, or_false, not_or, List.nodup_nil, and_true] at h
  obtain ⟨⟨a1, a2, a3, a4, a5⟩, ⟨b1, b2, b3, b4⟩, ⟨d1, d2, d3⟩, ⟨e1, e2⟩, f1, _⟩ := h
  exact ⟨a1, a2, a3, a4, a5, b1, b2, b3, b4, d1, d2, d3, e1, e2, f1⟩
theorem nodup6 {a b c d e f : Addr} (h1 : @Ne Nat a b) (h2 : @Ne Nat a c) (h3 : @Ne Nat a d) (h4 : @Ne Nat a e) (h5 : @Ne Nat a f) (h : [b, c, d, e, f].Nodup) : [a, b, c, d, e, f].Nodup := by
  refine List.nodup_cons.mpr ⟨fun hm => ?_, h⟩
  rcases List.mem_cons.mp hm with x | hm
  · exact h1 x
  · exact absurd hm (fun hm => by
      rcases List.mem_cons.mp hm with x | hm
      · exact h2 x
      · exact not_mem3 h3 h4 h5 hm)
/-- the lists stay apart when the store's own is another or fresh -/
theorem LS.nd_ls (H : LS P G₀ L S ps cs c1 c2 c3 ex h) {ls' : Addr} (h' : ls' = S.ls ∨ h.get? ls' = none) : [ls', S.lr, S.Gl, S.Ol, S.Dl, S.ax].Nodup := by
  rcases h' with rfl | hn
  · exact H.nd
  have ne : ∀ {q : Addr × Obj}, q ∈ S.led P → @Ne Nat ls' q.1 := fun {q} hq e => by
    have e' : ls' = q.1 := e
    rw [e', (H.N q hq).1] at hn; cases hn
  exact nodup6 (ne Sto.mlr) (ne Sto.mGl) (ne Sto.mOl) (ne Sto.mDl) (ne Sto.max) (List.nodup_cons.mp H.nd).2
theorem LS.nd_Gl (H : LS P G₀ L S ps cs c1 c2 c3 ex h) {R : Addr} (hn : h.get? R = none) : [S.ls, S.lr, R, S.Ol, S.Dl, S.ax].Nodup := by
  have ne : ∀ {q : Addr × Obj}, q ∈ S.led P → @Ne Nat R q.1 := fun {q} hq e => by
    have e' : R = q.1 := e
    rw [e', (H.N q hq).1] at hn; cases hn
  obtain ⟨a1, a2, a3, a4, a5, b1, b2, b3, b4, d1, d2, d3, e1, e2, f1⟩ := six H.nd
  have ne' : ∀ {q : Addr × Obj}, q ∈ S.led P → @Ne Nat q.1 R := fun hq e => ne hq e.symm
  refine nodup6 a1 (ne' Sto.mls) a3 a4 a5 (List.nodup_cons.mpr ⟨not_mem4 (ne' Sto.mlr) b2 b3 b4, List.nodup_cons.mpr ⟨not_mem3 (ne Sto.mOl) (ne Sto.mDl) (ne Sto.max), ?_⟩⟩)
  exact List.nodup_cons.mpr ⟨not_mem2 e1 e2, List.nodup_cons.mpr ⟨fun hm => f1 (List.mem_singleton.mp hm), List.nodup_cons.mpr ⟨List.not_mem_nil, List.nodup_nil⟩⟩⟩
theorem LS.lists_ne (H : LS P G₀ L S ps cs c1 c2 c3 ex h) {p : Addr × Obj} (hp : h.get? p.1 = some p.2) (hc : p.2.cls = .type "tuple") : @Ne Nat p.1 S.ls ∧ @Ne Nat p.1 S.lr ∧ @Ne Nat p.1 S.Gl ∧ @Ne Nat p.1 S.Ol ∧ @Ne Nat p.1 S.Dl ∧ @Ne Nat p.1 S.dW :=
  ⟨ne_tup hp hc (H.N _ Sto.mls).1 rfl, ne_tup hp hc (H.N _ Sto.mlr).1 rfl, ne_tup hp hc (H.N _ Sto.mGl).1 rfl, ne_tup hp hc (H.N _ Sto.mOl).1 rfl, ne_tup hp hc (H.N _ Sto.mDl).1 rfl, ne_cls hp (H.N _ Sto.mdW).1 (by rw [hc]; show Value.type "tuple" ≠ Value.type "dict"; decide)⟩
end
section
variable {w : World} {mean : ExcName → Option Value} {mg mb : Str → Option Value} {loose : List Str} {G₀ : Heap} {dp un : Nat} {fr : Option (List Env)} {gd : Option (List Code)} {s : Shared} {E Q : Value → Shared → Prop} {m : Str → Option Value} {L : Addr} {S : Sto} {ps : Array Value} {cs ex : List (Addr × Obj)} {c1 c2 c3 : Option Value} {c : LC}
theorem give_law (G : Gnd w mean mg mb loose G₀) (F : Fr G₀ L s.heap m) (H : LS w.params G₀ L S ps cs c1 c2 c3 ex s.heap) (hB : 0 < c.B) {st ln : Int} (ok : ∀ q ∈ S.secs, q.ok c.up c.X c.Y c.B) (sep : (S.secs.map gpOf).Pairwise ApartQ) (free : ∀ q ∈ S.secs.map gpOf, OffQ q (st, ln)) (hln : 0 < ln) (hsz : S.secs.length < 100) {Tp : Addr} {nt : Nat} {tx ty ts t : Tok}
    (hT : s.heap.get? Tp = some (seqObj "tuple" #[.int c.X tx, .int c.Y ty] nt)) (hT0 : G₀.get? Tp = none) (hd : dp + 40 < recursionLimit) (hu : un + 400 < cLine)
    (h : ∀ h' tk ls' n' g', Fr G₀ L h' m → LS w.params G₀ L { S with ls := ls', n := n', secs := (pass st ln S.secs).2.2 ++ [g'] } ps cs c1 c2 c3 ex h' → g'.ok c.up c.X c.Y c.B → (∀ q ∈ (pass st ln S.secs).2.2, q ∈ S.secs) →
      ((pass st ln S.secs).2.2 ++ [g']).map gpOf = (qpass st ln (S.secs.map gpOf)).2.2 ++ [((qpass st ln (S.secs.map gpOf)).1, (qpass st ln (S.secs.map gpOf)).2.1)] → (pass st ln S.secs).2.2.length ≤ S.secs.length → Q .none { s with heap := h', toks := tk }) :
    wpAny (model PR w) (AT dp fr gd un) (call (.ref 508) [.ref S.W, .bool c.up, .ref Tp, .int c.B c.tb, .int st ts, .int ln t]) Q E s := by
  have hsep : Sep Gp.st Gp.ln S.secs := (List.pairwise_map.mp sep)
  have hfree : Free Gp.st Gp.ln st ln S.secs := fun g hg => free (gpOf g) (List.mem_map_of_mem hg)
  have hpos : PosL Gp.ln S.secs := fun q hq => (ok q hq).2
  have gok := gpass_ok Gp.st Gp.ln S.secs st ln hsep hpos hfree hln
  have hnT : @Ne Nat Tp S.W ∧ @Ne Nat Tp S.dW ∧ @Ne Nat Tp S.ls := ⟨ne_cls hT (H.N _ Sto.mW).1 (by intro e; cases e), ne_cls hT (H.N _ Sto.mdW).1 (by show Value.type "tuple" ≠ Value.type "dict"; decide), ne_tup hT rfl (H.N _ Sto.mls).1 rfl⟩
  have hlT : ∀ q ∈ S.secs, ∀ o ∈ q.objs w.params, @Ne Nat o.1 Tp := fun q hq o ho => ne_knd (H.N o (Sto.msec hq ho)).1 hT (by
    rcases gp_knd o ho with e | e <;> rw [e]
    · exact (show (203 : Nat) ≠ 2 by decide)
    · exact (show (1005 : Nat) ≠ 2 by decide))
  refine wpAny_mono (give_c G S.W S.dW S.lr S.sf S.ls Tp S.k S.tw S.th S.n nt S.secs c.up c.X c.Y c.B st ln tx ty c.tb ts t ok hB hln hsep hfree (by rw [sizeLine_eq]; ktu_offL) H.W_dW (H.W_l (H.N _ Sto.mls).1) (H.dW_l (H.N _ Sto.mls).1) (not_mem3 hnT.1 hnT.2.1 hnT.2.2) (fun q hq o ho => ?_) dp fr gd un s E hd hu F.keep ?_) (fun v s' hv => ?_) fun _ _ x => x
  · have z := H.rcOff (H.N o (Sto.msec hq ho)).1 (gp_knd o ho)
    exact not_mem4 z.1 z.2.1 z.2.2.1 (hlT q hq o ho)
  · intro q hq
    rcases List.mem_append.mp hq with hq | hq
    · rcases List.mem_cons.mp hq with rfl | hq
      · exact ⟨hT, hT0⟩
      · have z := H.N q (List.forall_mem_cons.mpr ⟨Sto.mW, List.forall_mem_cons.mpr ⟨Sto.mdW, List.forall_mem_cons.mpr ⟨Sto.mls, List.forall_mem_nil _⟩⟩⟩ q hq)
        exact ⟨z.1, z.2.2⟩
    · have z := H.N q (Sto.msecs q hq)
      exact ⟨z.1, z.2.2⟩
  obtain ⟨h', tk', rfl, kp, rfl, a, d, hna, hnd, had, ls', n', r', t', e1, e2, e3, e4, e5, e6, e7⟩ := hv
  have hDk : ∀ d ∈ [S.dW, S.ls], ∃ o, s.heap.get? d = some o ∧ knd o ≠ 3 ∧ knd o ≠ 4 := List.forall_mem_cons.mpr ⟨⟨_, (H.N _ Sto.mdW).1, led_knd _ (Sto.mdW (P := w.params))⟩, List.forall_mem_cons.mpr ⟨⟨_, (H.N _ Sto.mls).1, led_knd _ (Sto.mls (P := w.params))⟩, List.forall_mem_nil _⟩⟩
  have hDo : ∀ d ∈ [S.dW, S.ls], d ≠ L ∧ G₀.get? d = none := List.forall_mem_cons.mpr ⟨(H.N _ Sto.mdW).2, List.forall_mem_cons.mpr ⟨(H.N _ Sto.mls).2, List.forall_mem_nil _⟩⟩
  have kp2 : Keep ([S.dW, S.ls] ++ [L, 360]) s.heap h' := kp.mono fun d hd => List.mem_append_left _ hd
  have hsub : ∀ q ∈ (pass st ln S.secs).2.2, q ∈ S.secs := fun q hq => by
    rw [pass_eq, gok.2.2.1] at hq
    exact (List.mem_filter.mp hq).1
  have hmap := gpass_map Gp.st Gp.ln st ln S.secs
  obtain ⟨l1, l2, l3, l4, l5, l6, l7, l8, l9, l10, l11, l12, l13, l14, l15⟩ := six H.nd
  have st' : ∀ {q : Addr × Obj}, q ∈ S.led w.params → @Ne Nat q.1 S.dW → @Ne Nat q.1 S.ls → h'.get? q.1 = some q.2 ∧ q.1 ≠ L ∧ G₀.get? q.1 = none := fun hq n1 n2 => H.stay kp2 hq (not_mem2 n1 n2)
  have lst : ∀ {l : Addr} {xs : Array Value} {n : Nat}, (l, listOf xs n) ∈ S.led w.params → @Ne Nat l S.ls → h'.get? l = some (listOf xs n) ∧ l ≠ L ∧ G₀.get? l = none := fun hq n2 => st' hq (H.dW_l (H.N _ hq).1).symm n2
  have tup : ∀ {q : Addr × Obj}, q ∈ S.led w.params → q.2.cls = .type "tuple" → h'.get? q.1 = some q.2 ∧ q.1 ≠ L ∧ G₀.get? q.1 = none := fun hq hc => by
    obtain ⟨z1, _, _, _, _, z6⟩ := H.lists_ne (H.N _ hq).1 hc
    exact st' hq z6 z1
  refine h h' tk' ls' n' ⟨a, d, r', (pass st ln S.secs).1, (pass st ln S.secs).2.1⟩ (H.frK F kp hDo) (H.upd kp2 hDk (H.tlK kp hDk) H.tab LS.backK ?_ (H.nd_ls e2)) ⟨e4, gok.1⟩ hsub ?_ (by rw [pass_eq, gok.2.2.1]; exact List.length_filter_le ..)
  · refine Sto.all (st' Sto.mW H.W_dW (H.W_l (H.N _ Sto.mls).1)) ⟨e1, (H.N _ Sto.mdW).2⟩ ⟨e3, ?_⟩ (lst Sto.mlr l1.symm) (lst Sto.mGl l2.symm) (lst Sto.mOl l3.symm) (lst Sto.mDl l4.symm) (lst Sto.max l5.symm) (fun g hg => ?_) (fun g hg o ho => ?_) (fun p hp => tup (Sto.mvs hp) rfl) (fun p hp => tup (Sto.mos hp) rfl) (fun p hp => tup (Sto.mds hp) rfl)
    · rcases e2 with rfl | hn
      · exact (H.N _ Sto.mls).2
      · exact new_off F hn
    · rcases List.mem_append.mp hg with hg | hg
      · intro o ho
        have z := H.rcOff (H.N o (Sto.msec (hsub g hg) ho)).1 (gp_knd o ho)
        exact st' (Sto.msec (hsub g hg) ho) z.2.1 z.2.2.1
      · rw [List.mem_singleton.mp hg]
        exact pair_all ⟨e6, new_off F hna⟩ ⟨e7, new_off F hnd⟩
    · have hm := Sto.mpcs (P := w.params) (S := S) o (List.mem_flatMap.mpr ⟨g, hg, ho⟩)
      have z := H.rcOff (H.N o hm).1 (pc_knd o ho)
      exact st' hm z.2.1 z.2.2.1
  · have hmap' : qpass st ln (S.secs.map gpOf) = _ := hmap
    rw [hmap', List.map_append]
    rfl
theorem joined_law (G : Gnd w mean mg mb loose G₀) (F : Fr G₀ L s.heap m) (H : LS w.params G₀ L S ps cs c1 c2 c3 ex s.heap) {st ln : Int} {ts t : Tok} (hsz : S.vs.length < 60) (hd : dp + 20 < recursionLimit) (hu : un + 200 < cLine)
    (h : ∀ h' tk R vs' n', Fr G₀ L h' m → LS w.params G₀ L { S with Gl := R, ng := n', vs := vs' } ps cs c1 c2 c3 ex h' → (vs'.map prOf).Perm ((qpass st ln (S.vs.map prOf)).2.2 ++ [((qpass st ln (S.vs.map prOf)).1, (qpass st ln (S.vs.map prOf)).2.1)]) → Q (.ref R) { s with heap := h', toks := tk }) :
    wpAny (model PR w) (AT dp fr gd un) (call (.ref 489) [.ref S.Gl, .int st ts, .int ln t]) Q E s := by
  refine wpAny_mono (joined_c G S.Gl S.vs S.ng st ln ts t hsz dp fr gd un s E hd hu F.keep (fun q hq => ?_)) (fun v s' hv => ?_) fun _ _ x => x
  · rcases List.mem_cons.mp hq with rfl | hq
    · exact ⟨(H.N _ Sto.mGl).1, (H.N _ Sto.mGl).2.2⟩
    · obtain ⟨p, hp, rfl⟩ := List.mem_map.mp hq
      exact ⟨(H.N _ (Sto.mvs hp)).1, (H.N _ (Sto.mvs hp)).2.2⟩
  obtain ⟨h', tk', rfl, kp, R, vs', n', rfl, e1, e2, e3, e4⟩ := hv
  have kk : ∀ b o, s.heap.get? b = some o → h'.get? b = some o := fun b o e => kp b o (fun h => nomatch h) e
  have H' := H.keep0 kp
  refine h h' tk' R vs' n' (kp.fr F (fun h => nomatch h) (List.forall_mem_nil _)) ?_ ?_
  · refine H.upd (D := []) (kp.mono fun _ h => nomatch h) (List.forall_mem_nil _) (H.tlK kp fun _ h => nomatch h) H.tab LS.backK ?_ (H.nd_Gl e1)
    have ot : ∀ {q : Addr × Obj}, q ∈ S.led w.params → h'.get? q.1 = some q.2 ∧ q.1 ≠ L ∧ G₀.get? q.1 = none := fun hq => H'.N _ hq
    exact Sto.all (ot Sto.mW) (ot Sto.mdW) (ot Sto.mls) (ot Sto.mlr) ⟨e2, new_off F e1⟩ (ot Sto.mOl) (ot Sto.mDl) (ot Sto.max) (fun g hg o ho => ot (Sto.msec (S := S) hg ho)) (fun g hg o ho => ot (Sto.mpcs (S := S) o (List.mem_flatMap.mpr ⟨g, hg, ho⟩))) (fun p hp => ⟨(e3 p hp).1, new_off F (e3 p hp).2⟩) (fun p hp => ot (Sto.mos (S := S) hp)) (fun p hp => ot (Sto.mds (S := S) hp))
  · have hmap : qpass st ln (S.vs.map prOf) = _ := gpass_map Pr.x Pr.y st ln S.vs
    rw [hmap]
    exact e4
/-- what add_rect leaves of a gap -/
noncomputable def remOf (st ln len : Int) : List Pq := if len < ln then [(st + len, ln - len)] else []
theorem add_law (G : Gnd w mean mg mb loose G₀) (CH : CodeHd G₀ 364 360) (K : LF c) {env : Env} {more : List (Addr × Obj)} (F : Fr G₀ L s.heap m) (H : LS w.params G₀ L S ps cs c1 c2 c3 ex s.heap) (M : News G₀ L s.heap more) (hM : ∀ q ∈ more, ∀ p ∈ tl ps cs [], q.1 ≠ p.1) (hMD : ∀ q ∈ more, q.1 ∉ [S.dW, S.ls, S.lr])
    (ok : ∀ q ∈ S.secs, q.ok c.up c.X c.Y c.B) (line : Line c.Wh (S.secs.map gpOf) (S.os.map prOf)) (hsz : S.secs.length < 100) (hpz : S.pieces.length < 100) {wd hg len ri : Int} {t1 t2 t3 : Tok} (hdim : Dim c.up c.B len wd hg) (hl0 : 0 < len) (hlM : len ≤ c.M)
    (hd : dp + 80 < recursionLimit) (hu : un + 800 < cLine) (hA : AllBare s.gens) (henv : env.frame = some L) (hke : env.scope.kind ≠ .module)
    (hN : ∀ h' tk gs ps' cs', Fr G₀ L h' m → LS w.params G₀ L S ps' cs' c1 c2 c3 ex h' → News G₀ L h' more → AllBare gs → (∀ q ∈ S.secs, q.ln < len) → Q .none { s with heap := h', toks := tk, gens := gs })
    (hS : ∀ h' tk gs ps' cs' ra rd r ls' n' np' i gp rem, Fr G₀ L h' m → LS w.params G₀ L { S with ls := ls', n := n', np := np', secs := S.secs.eraseIdx i ++ rem, pieces := S.pieces ++ [⟨ra, rd, r⟩] } ps' cs' c1 c2 c3 ex h' → News G₀ L h' more → AllBare gs → S.secs[i]? = some gp → len ≤ gp.ln → (∀ q ∈ S.secs, len ≤ q.ln → gp.ln ≤ q.ln) →
      On c.up c.X c.Y c.B gp.st len r → r.rid = .int ri t3 → (∀ q ∈ rem, q.ok c.up c.X c.Y c.B) → rem.map gpOf = remOf gp.st gp.ln len → rem.length ≤ 1 → Q (.ref ra) { s with heap := h', toks := tk, gens := gs }) :
    wpAny (model PR w) (AT dp (some [env]) gd un) (call (.ref 373) [.ref S.W, .int wd t1, .int hg t2, .int ri t3]) Q E s := by
  have hsep : Sep Gp.st Gp.ln S.secs := List.pairwise_map.mp line.sep
  obtain ⟨l1, l2, l3, l4, l5, l6, l7, l8, l9, l10, l11, l12, l13, l14, l15⟩ := six H.nd
  have hDk : ∀ d ∈ [S.dW, S.ls, S.lr], ∃ o, s.heap.get? d = some o ∧ knd o ≠ 3 ∧ knd o ≠ 4 := List.forall_mem_cons.mpr ⟨⟨_, (H.N _ Sto.mdW).1, led_knd _ (Sto.mdW (P := w.params))⟩, List.forall_mem_cons.mpr ⟨⟨_, (H.N _ Sto.mls).1, led_knd _ (Sto.mls (P := w.params))⟩, List.forall_mem_cons.mpr ⟨⟨_, (H.N _ Sto.mlr).1, led_knd _ (Sto.mlr (P := w.params))⟩, List.forall_mem_nil _⟩⟩⟩
  refine LS.callD (add_c G CH S.W S.dW S.lr S.sf S.ls S.k S.tw S.th S.n S.np S.secs (pcs S.pieces) c.up c.X c.Y c.B len c.M wd hg ri t1 t2 t3 hdim ok K.hB hl0 K.hM K.hBM hlM (fun q hq => ?_) hsep (by rw [sizeLine_eq]; ktu_offL) (by rw [sizeLine_eq, List.length_map]; ktu_offL) H.W_dW (H.W_l (H.N _ Sto.mls).1) (H.W_l (H.N _ Sto.mlr).1) (H.dW_l (H.N _ Sto.mls).1) (H.dW_l (H.N _ Sto.mlr).1) l1 (fun q hq o ho => ?_)) F H M hM (fun q hq => ?_)
    (List.forall_mem_cons.mpr ⟨⟨_, Sto.mdW, rfl⟩, List.forall_mem_cons.mpr ⟨⟨_, Sto.mls, rfl⟩, List.forall_mem_cons.mpr ⟨⟨_, Sto.mlr, rfl⟩, List.forall_mem_nil _⟩⟩⟩) hd hu hA henv hke (fun v h' tk gs ps' cs' F' kp T' tab back hmo _ A' hp => ?_)
  · have := line_le line q hq
    have := K.hWM
    ktu_offL
  · have z := H.rcOff (H.N o (Sto.msec hq ho)).1 (gp_knd o ho)
    exact not_mem4 z.1 z.2.1 z.2.2.1 z.2.2.2.1
  · rcases List.mem_append.mp hq with hq | hq
    · exact List.forall_mem_cons.mpr ⟨Sto.mW, List.forall_mem_cons.mpr ⟨Sto.mdW, List.forall_mem_cons.mpr ⟨Sto.mls, List.forall_mem_cons.mpr ⟨Sto.mlr, List.forall_mem_nil _⟩⟩⟩⟩ q hq
    · exact Sto.msecs q hq
  have st' : ∀ {q : Addr × Obj}, q ∈ S.led w.params → @Ne Nat q.1 S.dW → @Ne Nat q.1 S.ls → @Ne Nat q.1 S.lr → h'.get? q.1 = some q.2 ∧ q.1 ≠ L ∧ G₀.get? q.1 = none := fun hq n1 n2 n3 => H.stay kp hq (not_mem3 n1 n2 n3)
  have lst : ∀ {l : Addr} {xs : Array Value} {n : Nat}, (l, listOf xs n) ∈ S.led w.params → @Ne Nat l S.ls → @Ne Nat l S.lr → h'.get? l = some (listOf xs n) ∧ l ≠ L ∧ G₀.get? l = none := fun hq n2 n3 => st' hq (H.dW_l (H.N _ hq).1).symm n2 n3
  have tup : ∀ {q : Addr × Obj}, q ∈ S.led w.params → q.2.cls = .type "tuple" → h'.get? q.1 = some q.2 ∧ q.1 ≠ L ∧ G₀.get? q.1 = none := fun hq hc => by
    obtain ⟨z1, z2, _, _, _, z6⟩ := H.lists_ne (H.N _ hq).1 hc
    exact st' hq z6 z1 z2
  have rc : ∀ {q : Addr × Obj}, q ∈ S.led w.params → (knd q.2 = 203 ∨ knd q.2 = 1005) → h'.get? q.1 = some q.2 ∧ q.1 ≠ L ∧ G₀.get? q.1 = none := fun hq hk => by
    have z := H.rcOff (H.N _ hq).1 hk
    exact st' hq z.2.1 z.2.2.1 z.2.2.2.1
  have hW := st' Sto.mW H.W_dW (H.W_l (H.N _ Sto.mls).1) (H.W_l (H.N _ Sto.mlr).1)
  have mo := fun q hq => hmo q hq (hMD q hq)
  have pc : ∀ g ∈ S.pieces, ∀ o ∈ g.objs w.params, h'.get? o.1 = some o.2 ∧ o.1 ≠ L ∧ G₀.get? o.1 = none := fun g hg o ho => rc (Sto.mpcs (P := w.params) (S := S) o (List.mem_flatMap.mpr ⟨g, hg, ho⟩)) (pc_knd o ho)
  have sc : ∀ g ∈ S.secs, ∀ o ∈ g.objs w.params, h'.get? o.1 = some o.2 ∧ o.1 ≠ L ∧ G₀.get? o.1 = none := fun g hg o ho => rc (Sto.msec (P := w.params) (S := S) hg ho) (gp_knd o ho)
  rcases hp with ⟨rfl, hno, e1, e2, e3⟩ | ⟨i, gp, ra, rd, r, ls', n', np', secs', hi, hle, hmin, rfl, na, nd, nad, ea, ed, on, hrid, elr, edW, els, e2, hcase⟩
  · exact hN h' tk gs ps' cs' F' (H.upd kp hDk T' tab back (Sto.all hW ⟨e1, (H.N _ Sto.mdW).2⟩ ⟨e2, (H.N _ Sto.mls).2⟩ ⟨e3, (H.N _ Sto.mlr).2⟩ (lst Sto.mGl l2.symm l6.symm) (lst Sto.mOl l3.symm l7.symm) (lst Sto.mDl l4.symm l8.symm) (lst Sto.max l5.symm l9.symm) sc pc (fun p hp => tup (Sto.mvs hp) rfl) (fun p hp => tup (Sto.mos hp) rfl) (fun p hp => tup (Sto.mds hp) rfl)) H.nd) mo A' hno
  · have key : ∀ rem : List Gp, secs' = S.secs.eraseIdx i ++ rem → (∀ q ∈ rem, ∀ o ∈ q.objs w.params, h'.get? o.1 = some o.2 ∧ o.1 ≠ L ∧ G₀.get? o.1 = none) → (∀ q ∈ rem, q.ok c.up c.X c.Y c.B) → rem.map gpOf = remOf gp.st gp.ln len → rem.length ≤ 1 → Q (.ref ra) { s with heap := h', toks := tk, gens := gs } := fun rem hs ho hk hr hl => by
      subst hs
      refine hS h' tk gs ps' cs' ra rd r ls' n' np' i gp rem F' (H.upd kp hDk T' tab back (Sto.all hW ⟨edW, (H.N _ Sto.mdW).2⟩ ⟨e2, ?_⟩ ⟨?_, (H.N _ Sto.mlr).2⟩ (lst Sto.mGl l2.symm l6.symm) (lst Sto.mOl l3.symm l7.symm) (lst Sto.mDl l4.symm l8.symm) (lst Sto.max l5.symm l9.symm) (fun g hg => ?_) (fun g hg => ?_) (fun p hp => tup (Sto.mvs (S := S) hp) rfl) (fun p hp => tup (Sto.mos (S := S) hp) rfl) (fun p hp => tup (Sto.mds (S := S) hp) rfl)) (H.nd_ls els)) mo A' hi hle hmin on hrid hk hr hl
      · rcases els with rfl | hn
        · exact (H.N _ Sto.mls).2
        · exact new_off F hn
      · rw [elr]
        simp [pcs]
      · rcases List.mem_append.mp hg with hg | hg
        · exact sc g (List.mem_of_mem_eraseIdx hg)
        · exact ho g hg
      · rcases List.mem_append.mp hg with hg | hg
        · exact pc g hg
        · rw [List.mem_singleton.mp hg]
          exact pair_all ⟨ea, new_off F na⟩ ⟨ed, new_off F nd⟩
    rcases hcase with ⟨hc, hs⟩ | ⟨hc, a, d, r', hs, na', nd', nad', ea', ed', on', _⟩
    · refine key [] (by rw [hs, List.append_nil]) (List.forall_mem_nil _) (List.forall_mem_nil _) ?_ (Nat.zero_le _)
      unfold remOf
      rw [if_neg (by ktu_offL)]
      rfl
    · refine key [_] hs (fun q hq => ?_) (fun q hq => ?_) ?_ (Nat.le_refl _)
      · rw [List.mem_singleton.mp hq]
        exact pair_all ⟨ea', new_off F na'⟩ ⟨ed', new_off F nd'⟩
      · rw [List.mem_singleton.mp hq]
        refine ⟨on', ?_⟩
        show 0 < gp.ln - len
        ktu_offL
      · unfold remOf
        rw [if_pos hc]
        rfl
end
end Mine

namespace Mine
open PyProof.Rows.TI (Frs SameUp gone)
/-- parts of the program's text, by their place -/
noncomputable def sX : Stmt → (List Stmt × List Stmt) × Scope
  | .FunctionDef _ _ b _ _ _ s _ _ _ => ((b, []), s)
  | .For _ _ b _ _ => ((b, []), ⟨.module, [], false, false, []⟩)
  | .If _ b e _ => ((b, e), ⟨.module, [], false, false, []⟩)
  | .While _ b _ _ => ((b, []), ⟨.module, [], false, false, []⟩)
  | _ => (([], []), ⟨.module, [], false, false, []⟩)
noncomputable def sB (s : Stmt) : List Stmt := (sX s).1.1
noncomputable def sE (s : Stmt) : List Stmt := (sX s).1.2
noncomputable def sS (s : Stmt) : Scope := (sX s).2
noncomputable def stm (l : List Stmt) (i : Nat) : Stmt := l.getD i (.Pass ⟨0, 0, 0, 0⟩)
noncomputable def lawDef : Stmt := stm PySem.Challenge.pw_ay0033_01.main.body 17
noncomputable def lawScope : Scope := sS lawDef
noncomputable def lawBody : List Stmt := sB lawDef
noncomputable def forBody : List Stmt := sB (stm lawBody 5)
noncomputable def thenB : List Stmt := sB (stm forBody 0)
noncomputable def elseB : List Stmt := sE (stm forBody 0)
/-- the law's names -/
noncomputable def lm (c : LC) (W Ol Dl : Addr) (gl nu ho to wv hv pc : Option Value) : Str → Option Value := fun z =>
  if z = Str.ofString "piece" then pc else if z = Str.ofString "h" then hv else if z = Str.ofString "w" then wv else if z = Str.ofString "told" then to else if z = Str.ofString "holding" then ho else if z = Str.ofString "number" then nu else if z = Str.ofString "gaps" then gl else
  [(Str.ofString "due", Value.ref Dl), (Str.ofString "out", .ref Ol), (Str.ofString "store", .ref W), (Str.ofString "broad", .int c.B c.tb), (Str.ofString "upright", .bool c.up), (Str.ofString "whole", .int c.Wh c.tw), (Str.ofString "how", c.how), (Str.ofString "y", .int c.Y c.ty), (Str.ofString "x", .int c.X c.tx), (Str.ofString "script", c.sc)].lookup z
theorem lm_gl {c : LC} {W Ol Dl : Addr} {gl nu ho to wv hv pc v : Option Value} : (fun z => if z = Str.ofString "gaps" then v else lm c W Ol Dl gl nu ho to wv hv pc z) = lm c W Ol Dl v nu ho to wv hv pc := by
  funext z
  by_cases e : z = Str.ofString "gaps"
  · subst e
    rfl
  · unfold lm
    simp only [e, if_false]
theorem lm_nu {c : LC} {W Ol Dl : Addr} {gl nu ho to wv hv pc v : Option Value} : (fun z => if z = Str.ofString "number" then v else lm c W Ol Dl gl nu ho to wv hv pc z) = lm c W Ol Dl gl v ho to wv hv pc := by
  funext z
  by_cases e : z = Str.ofString "number"
  · subst e
    rfl
  · unfold lm
    simp only [e, if_false]
theorem lm_ho {c : LC} {W Ol Dl : Addr} {gl nu ho to wv hv pc v : Option Value} : (fun z => if z = Str.ofString "holding" then v else lm c W Ol Dl gl nu ho to wv hv pc z) = lm c W Ol Dl gl nu v to wv hv pc := by
  funext z
  by_cases e : z = Str.ofString "holding"
  · subst e
    rfl
  · unfold lm
    simp only [e, if_false]
theorem lm_to {c : LC} {W Ol Dl : Addr} {gl nu ho to wv hv pc v : Option Value} : (fun z => if z = Str.ofString "told" then v else lm c W Ol Dl gl nu ho to wv hv pc z) = lm c W Ol Dl gl nu ho v wv hv pc := by
  funext z
  by_cases e : z = Str.ofString "told"
  · subst e
    rfl
  · unfold lm
    simp only [e, if_false]
theorem lm_pc {c : LC} {W Ol Dl : Addr} {gl nu ho to wv hv pc v : Option Value} : (fun z => if z = Str.ofString "piece" then v else lm c W Ol Dl gl nu ho to wv hv pc z) = lm c W Ol Dl gl nu ho to wv hv v := by
  funext z
  by_cases e : z = Str.ofString "piece"
  · subst e
    rfl
  · unfold lm
    simp only [e, if_false]
section
variable {w : World} {mean : ExcName → Option Value} {mg mb : Str → Option Value} {loose : List Str} {G₀ : Heap} {dp un : Nat} {gd : Option (List Code)} {s : Shared} {E : Value → Shared → Prop} {Q : Flow → Shared → Prop} {L fa : Addr} {cd : Value} {S : Sto} {ps : Array Value} {cs ex : List (Addr × Obj)} {c1 c2 c3 : Option Value} {c : LC} {sc : Scope} {gl ho to wv hv pc : Option Value}
theorem e1_step (G : Gnd w mean mg mb loose G₀) (K : LF c) (hsc : sc = lawScope) {num : Int} {tn : Tok} (F : Fr G₀ L s.heap (lm c S.W S.Ol S.Dl gl (some (.int num tn)) ho to wv hv pc)) (H : LS w.params G₀ L S ps cs c1 c2 c3 ex s.heap)
    (h : ∀ h' tk len t, 0 < len → len ≤ c.Wh → Fr G₀ L h' (lm c S.W S.Ol S.Dl gl (some (.int num tn)) ho to wv hv pc) → LS w.params G₀ L S ps cs c1 (some (.int len t)) c3 ex h' → Q .next { s with heap := h', toks := tk }) :
    wpAny (model PR w) (AT dp (some [envOfC (Str.ofString "law") sc L fa cd]) gd un) (exec (stm elseB 0) (envOfC (Str.ofString "law") sc L fa cd)) Q E s := by
  obtain ⟨KX, T⟩ := G
  obtain ⟨o1, o2, o3, Tl, hT, d1, d2, d3, N, t1, t2, t3⟩ := H.open
  conv in (stm elseB 0) => whnf
  conv at hsc => rhs; whnf
  subst hsc
  have hf : c.Wh.fdiv 3 = c.Wh / 3 := Int.fdiv_eq_ediv_of_nonneg _ (by decide)
  have hW := K.hW
  have h3 : 0 ≤ c.Wh / 3 ∧ 1 + c.Wh / 3 ≤ c.Wh := by ktu_offL
  k_steps
  (with_reducible rename News _ _ _ _ => N1)
  (with_reducible rename Fr _ _ _ _ => F1)
  have hb : 0 ≤ (if num < 0 then -num else num).fmod (1 + c.Wh.fdiv 3) ∧ (if num < 0 then -num else num).fmod (1 + c.Wh.fdiv 3) < 1 + c.Wh / 3 := by
    rw [hf, Int.fmod_eq_emod_of_nonneg _ (by ktu_offL)]
    exact ⟨Int.emod_nonneg _ (by ktu_offL), Int.emod_lt_of_pos _ (by ktu_offL)⟩
  (with_reducible rename (_ = Data.cell (some _)) => dd)
  exact h _ _ (1 + (if num < 0 then -num else num).fmod (1 + c.Wh.fdiv 3)) _ (by ktu_offL) (by ktu_offL) F1 (H.close hT N1 d1 dd d3 (.tail _ (.tail _ (.head _))) (.tail _ (.head _)) (.head _) fun q hq => .tail _ (.tail _ (.tail _ hq)))
end
end Mine

namespace Mine
open PyProof.Rows.TI (Frs SameUp gone)
section
variable {w : World} {mean : ExcName → Option Value} {mg mb : Str → Option Value} {loose : List Str} {G₀ : Heap} {dp un : Nat} {gd : Option (List Code)} {s : Shared} {E : Value → Shared → Prop} {Q : Flow → Shared → Prop} {L fa : Addr} {cd : Value} {S : Sto} {ps : Array Value} {cs ex : List (Addr × Obj)} {c1 c2 c3 : Option Value} {c : LC} {sc : Scope} {gl nu ho to wv hv pc : Option Value}
noncomputable abbrev hldV (S : Sto) (len : Int) : List Value := (S.vs.filter fun p => decide (len ≤ p.y)).map fun p => .int p.y p.ty
theorem e2_step (G : Gnd w mean mg mb loose G₀) (hsc : sc = lawScope) {len : Int} {tln : Tok} (F : Fr G₀ L s.heap (lm c S.W S.Ol S.Dl (some (.ref S.Gl)) nu ho to wv hv pc)) (H : LS w.params G₀ L S ps cs c1 (some (.int len tln)) c3 ex s.heap) (hsz : S.vs.length < 100)
    (h : ∀ h' tk D n, Fr G₀ L h' (lm c S.W S.Ol S.Dl (some (.ref S.Gl)) nu (some (.ref D)) to wv hv pc) → LS w.params G₀ L S ps cs c1 (some (.int len tln)) c3 ex h' → News G₀ L h' [(D, listOf (hldV S len).toArray n)] → (∀ q ∈ lsT w.params S ps cs ex, q.1 ≠ D) → Q .next { s with heap := h', toks := tk }) :
    wpAny (model PR w) (AT dp (some [envOfC (Str.ofString "law") sc L fa cd]) gd un) (exec (stm elseB 1) (envOfC (Str.ofString "law") sc L fa cd)) Q E s := by
  have zC : Mine.Stop "comp" := ⟨trivial⟩
  obtain ⟨KX, T⟩ := G
  obtain ⟨o1, o2, o3, Tl, hT, d1, d2, d3, N, t1, t2, t3⟩ := H.open
  conv in (stm elseB 1) => whnf
  conv at hsc => rhs; whnf
  subst hsc
  have inT : ∀ q ∈ lsT w.params S ps cs ex, q ∈ (L + 1 + 1 + 1, o3) :: (L + 1 + 1, o2) :: (L + 1, o1) :: Tl := fun q hq => .tail _ (.tail _ (.tail _ (hT ▸ hq)))
  refine comp_prs_as (vs := S.vs) (Gl := S.Gl) (ng := S.ng) (fun p m' => m' (Str.ofString "many") = some (.int p.y p.ty) ∧ _) (fun p => decide (len ≤ p.y)) (fun p => .int p.y p.ty) (.inl ⟨_, _, _, rfl⟩) rfl rfl (by decide) rfl (by decide) F N (inT _ (List.mem_append_left _ Sto.mGl)) (fun p hp => inT _ (List.mem_append_left _ (Sto.mvs hp))) (by rw [sizeLine_eq]; ktu_offL) (fun Q' hQ' => ?_) (asg_pair rfl (fun _ => rfl) (fun _ => rfl) (fun _ => rfl)) (fun C p h tk m' E' hp hB F N => ?_) (fun C p h tk m' E' hp hk hB F N => ?_) rfl rfl rfl rfl (fun D h₂ tk₂ nD F₂ N₂ hlt₂ => ?_)
  · k_steps
    exact hQ' _
  · obtain ⟨hB1, _⟩ := hB
    refine wpAny_tests_one ?_
    k_steps
    exact ⟨_, _, rfl, fun _ _ e => e⟩
  · exact nameC_L F hB.1 ⟨rfl, _, _, rfl, fun _ _ e => e⟩ rfl rfl
  · rw [lm_ho] at F₂
    exact h h₂ tk₂ D nD F₂ (H.close hT N₂ d1 d2 d3 (.tail _ (.tail _ (.tail _ (.head _)))) (.tail _ (.tail _ (.head _))) (.tail _ (.head _)) fun q hq => .tail _ (.tail _ (.tail _ (.tail _ hq)))) (fun q hq => N₂ q (List.forall_mem_cons.mpr ⟨.head _, List.forall_mem_nil _⟩ q hq)) fun q hq => Nat.ne_of_lt (hlt₂ q (inT q hq))
end
end Mine

namespace Mine
open PyProof.Rows.TI (Frs SameUp gone)
section
variable {w : World} {mean : ExcName → Option Value} {mg mb : Str → Option Value} {loose : List Str} {G₀ : Heap} {dp un : Nat} {gd : Option (List Code)} {s : Shared} {E : Value → Shared → Prop} {Q : Flow → Shared → Prop} {L fa : Addr} {cd : Value} {S : Sto} {ps : Array Value} {cs ex more : List (Addr × Obj)} {c1 c2 c3 : Option Value} {c : LC} {sc : Scope} {gl nu ho to wv hv pc : Option Value}
theorem LS.moreOff {P : Params} {h : Heap} (H : LS P G₀ L S ps cs c1 c2 c3 ex h) (M : News G₀ L h more) (hk : ∀ q ∈ more, knd q.2 ≠ 3) : ∀ q ∈ more, ∀ p ∈ tl ps cs [], q.1 ≠ p.1 := fun q hq p hp => ne_knd (M q hq).1 (H.T p hp).1 (by rw [tl_knd H.tab p hp]; exact hk q hq)
/-- the state opened with more beside it -/
theorem LS.openM {P : Params} {h : Heap} (H : LS P G₀ L S ps cs c1 c2 c3 ex h) (M : News G₀ L h more) (hk : ∀ q ∈ more, knd q.2 ≠ 4) : LSOpen G₀ h L c1 c2 c3 (more ++ lsT P S ps cs ex) := by
  obtain ⟨o1, o2, o3, T, rfl, d1, d2, d3, N, t1, t2, t3⟩ := H.open
  have off : ∀ {a : Addr} {o : Obj} {v : Option Value}, h.get? a = some o → o.data = .cell v → ∀ q ∈ more, q.1 ≠ a := fun {a o v} ha ho q hq => ne_knd (M q hq).1 ha (by
    have e : knd o = 4 := by unfold knd; rw [ho]
    rw [e]; exact hk q hq)
  have c3' := (N _ (.head _)).1
  have c2' := (N _ (.tail _ (.head _))).1
  have c1' := (N _ (.tail _ (.tail _ (.head _)))).1
  refine ⟨o1, o2, o3, _, rfl, d1, d2, d3, List.forall_mem_cons.mpr ⟨N _ (.head _), List.forall_mem_cons.mpr ⟨N _ (.tail _ (.head _)), List.forall_mem_cons.mpr ⟨N _ (.tail _ (.tail _ (.head _))), fun q hq => ?_⟩⟩⟩, fun q hq => ?_, fun q hq => ?_, fun q hq => ?_⟩ <;> rcases List.mem_append.mp hq with hq | hq
  · exact M q hq
  · exact N q (.tail _ (.tail _ (.tail _ hq)))
  · exact off c1' d1 q hq
  · exact t1 q hq
  · exact off c2' d2 q hq
  · exact t2 q hq
  · exact off c3' d3 q hq
  · exact t3 q hq
theorem LS.closeM {P : Params} {h h' : Heap} (H : LS P G₀ L S ps cs c1 c2 c3 ex h) {o1 o2 o3 : Obj} {v1 v2 v3 : Option Value} {T news : List (Addr × Obj)} (hT : T = more ++ lsT P S ps cs ex) (N : News G₀ L h' news) (e1 : o1.data = .cell v1) (e2 : o2.data = .cell v2) (e3 : o3.data = .cell v3)
    (m1 : (L + 1, o1) ∈ news) (m2 : (L + 1 + 1, o2) ∈ news) (m3 : (L + 1 + 1 + 1, o3) ∈ news) (mT : ∀ q ∈ T, q ∈ news) : LS P G₀ L S ps cs v1 v2 v3 ex h' ∧ News G₀ L h' more :=
  ⟨H.close (T := lsT P S ps cs ex) rfl N e1 e2 e3 m1 m2 m3 fun q hq => mT q (hT ▸ List.mem_append_right _ hq), fun q hq => N q (mT q (hT ▸ List.mem_append_left _ hq))⟩
theorem e3_step (G : Gnd w mean mg mb loose G₀) (CH : CodeHd G₀ 364 360) (K : LF c) (hsc : sc = lawScope) {len : Int} {tln : Tok} (F : Fr G₀ L s.heap (lm c S.W S.Ol S.Dl gl nu ho to wv hv pc)) (H : LS w.params G₀ L S ps cs c1 (some (.int len tln)) c3 ex s.heap) (M : News G₀ L s.heap more) (hk : ∀ q ∈ more, knd q.2 ≠ 3) (hk4 : ∀ q ∈ more, knd q.2 ≠ 4)
    (ok : ∀ q ∈ S.secs, q.ok c.up c.X c.Y c.B) (line : Line c.Wh (S.secs.map gpOf) (S.os.map prOf)) (hsz : S.secs.length < 100) (hl0 : 0 < len) (hlM : len ≤ c.M) (hd : dp + 100 < recursionLimit) (hu : un + 1000 < cLine) (hA : AllBare s.gens)
    (h : ∀ v h' tk gs ps' cs', Fr G₀ L h' (lm c S.W S.Ol S.Dl gl nu ho (some v) wv hv pc) → LS w.params G₀ L S ps' cs' c1 (some (.int len tln)) c3 ex h' → News G₀ L h' more → AllBare gs → Told c.B len (S.secs.map Gp.ln) v → Q .next { s with heap := h', toks := tk, gens := gs }) :
    wpAny (model PR w) (AT dp (some [envOfC (Str.ofString "law") sc L fa cd]) gd un) (exec (stm elseB 2) (envOfC (Str.ofString "law") sc L fa cd)) Q E s := by
  have zS0 : Mine.Stop "call ref" := ⟨trivial⟩
  have GT := G
  obtain ⟨KX, T⟩ := G
  obtain ⟨o1, o2, o3, Tl, hT, d1, d2, d3, N, t1, t2, t3⟩ := H.open
  conv in (stm elseB 2) => whnf
  conv at hsc => rhs; whnf
  subst hsc
  k_steps
  refine Halt.mk ?_
  refine told_law (dp := dp) (un := un) GT CH K F H M (H.moreOff M hk) ok line hsz hl0 hlM (by ktu_offL) (by ktu_offL) hA rfl (by intro e; cases e) fun v h' tk gs ps' cs' F' H' M' _ A' hp => ?_
  clear F N H M t1 t2 t3
  obtain ⟨o1, o2, o3, Tl, hT, d1, d2, d3, N, t1, t2, t3⟩ := H'.openM M' hk4
  clear M'
  k_steps
  (with_reducible rename News _ _ _ _ => N1)
  (with_reducible rename Fr _ _ _ _ => F1)
  rw [lm_to] at F1
  obtain ⟨HH, MM⟩ := H'.closeM hT N1 d1 d2 d3 (.tail _ (.tail _ (.head _))) (.tail _ (.head _)) (.head _) fun q hq => .tail _ (.tail _ (.tail _ hq))
  exact h v _ _ _ _ _ F1 HH MM A' hp
end
end Mine

namespace Mine
open PyProof.Rows.TI (Frs SameUp gone)
section
variable {w : World} {mean : ExcName → Option Value} {mg mb : Str → Option Value} {loose : List Str} {G₀ : Heap} {dp un : Nat} {gd : Option (List Code)} {s : Shared} {E : Value → Shared → Prop} {Q : Flow → Shared → Prop} {L fa : Addr} {cd : Value} {S : Sto} {ps : Array Value} {cs ex more : List (Addr × Obj)} {c1 c2 c3 : Option Value} {c : LC} {sc : Scope} {gl nu ho to wv hv pc : Option Value}
theorem lm_wh {c : LC} {W Ol Dl : Addr} {gl nu ho to wv hv pc u v : Option Value} : (fun z => if z = Str.ofString "h" then v else if z = Str.ofString "w" then u else lm c W Ol Dl gl nu ho to wv hv pc z) = lm c W Ol Dl gl nu ho to u v pc := by
  funext z
  by_cases e : z = Str.ofString "h"
  · subst e
    rfl
  by_cases e2 : z = Str.ofString "w"
  · subst e2
    rfl
  · unfold lm
    simp only [e, e2, if_false]
theorem e4_step (G : Gnd w mean mg mb loose G₀) (hsc : sc = lawScope) {len : Int} {tln : Tok} (F : Fr G₀ L s.heap (lm c S.W S.Ol S.Dl gl nu ho to wv hv pc)) (H : LS w.params G₀ L S ps cs c1 (some (.int len tln)) c3 ex s.heap) (M : News G₀ L s.heap more) (hk4 : ∀ q ∈ more, knd q.2 ≠ 4)
    (h : ∀ h' tk wd hg t1 t2, Dim c.up c.B len wd hg → Fr G₀ L h' (lm c S.W S.Ol S.Dl gl nu ho to (some (.int wd t1)) (some (.int hg t2)) pc) → LS w.params G₀ L S ps cs c1 (some (.int len tln)) c3 ex h' → News G₀ L h' more → Q .next { s with heap := h', toks := tk }) :
    wpAny (model PR w) (AT dp (some [envOfC (Str.ofString "law") sc L fa cd]) gd un) (exec (stm elseB 3) (envOfC (Str.ofString "law") sc L fa cd)) Q E s := by
  have zS0 : Mine.Stop "call ref" := ⟨trivial⟩
  have zS1 : Mine.Stop "call builtin:len" := ⟨trivial⟩
  obtain ⟨KX, T⟩ := G
  obtain ⟨o1, o2, o3, Tl, hT, d1, d2, d3, N, t1, t2, t3⟩ := H.openM M hk4
  conv in (stm elseB 3) => whnf
  conv at hsc => rhs; whnf
  subst hsc
  clear M
  k_steps
  all_goals
    (with_reducible rename News _ _ _ _ => N1)
    (with_reducible rename Fr _ _ _ _ => F1)
    (with_reducible rename (c.up = _) => hup)
    rw [lm_wh] at F1
    obtain ⟨HH, MM⟩ := H.closeM hT N1 d1 d2 d3 (.tail _ (.tail _ (.tail _ (.head _)))) (.tail _ (.tail _ (.head _))) (.tail _ (.head _)) fun q hq => .tail _ (.tail _ (.tail _ (.tail _ hq)))
    refine h _ _ _ _ _ _ ?_ F1 HH MM
    rw [hup]
    exact ⟨rfl, rfl⟩
theorem e5_step (G : Gnd w mean mg mb loose G₀) (CH : CodeHd G₀ 364 360) (K : LF c) (hsc : sc = lawScope) {len wd hg : Int} {tln t1 t2 : Tok} (F : Fr G₀ L s.heap (lm c S.W S.Ol S.Dl gl nu ho to (some (.int wd t1)) (some (.int hg t2)) pc)) (H : LS w.params G₀ L S ps cs c1 (some (.int len tln)) c3 ex s.heap) (M : News G₀ L s.heap more) (hk : ∀ q ∈ more, knd q.2 ≠ 3) (hk4 : ∀ q ∈ more, knd q.2 ≠ 4) (hMD : ∀ q ∈ more, q.1 ∉ [S.dW, S.ls, S.lr])
    (ok : ∀ q ∈ S.secs, q.ok c.up c.X c.Y c.B) (line : Line c.Wh (S.secs.map gpOf) (S.os.map prOf)) (hsz : S.secs.length < 100) (hpz : S.pieces.length < 100) (hdz : S.ds.length = S.pieces.length) (hdim : Dim c.up c.B len wd hg) (hl0 : 0 < len) (hlM : len ≤ c.M) (hd : dp + 100 < recursionLimit) (hu : un + 1000 < cLine) (hA : AllBare s.gens)
    (hN : ∀ h' tk gs ps' cs', Fr G₀ L h' (lm c S.W S.Ol S.Dl gl nu ho to (some (.int wd t1)) (some (.int hg t2)) (some .none)) → LS w.params G₀ L S ps' cs' c1 (some (.int len tln)) c3 ex h' → News G₀ L h' more → AllBare gs → (∀ q ∈ S.secs, q.ln < len) → Q .next { s with heap := h', toks := tk, gens := gs })
    (hS : ∀ h' tk gs ps' cs' ra rd r ls' n' np' i gp rem t3, Fr G₀ L h' (lm c S.W S.Ol S.Dl gl nu ho to (some (.int wd t1)) (some (.int hg t2)) (some (.ref ra))) → LS w.params G₀ L { S with ls := ls', n := n', np := np', secs := S.secs.eraseIdx i ++ rem, pieces := S.pieces ++ [⟨ra, rd, r⟩] } ps' cs' c1 (some (.int len tln)) c3 ex h' → News G₀ L h' more → AllBare gs → S.secs[i]? = some gp → len ≤ gp.ln → (∀ q ∈ S.secs, len ≤ q.ln → gp.ln ≤ q.ln) →
      On c.up c.X c.Y c.B gp.st len r → r.rid = .int (S.pieces.length : Int) t3 → (∀ q ∈ rem, q.ok c.up c.X c.Y c.B) → rem.map gpOf = remOf gp.st gp.ln len → rem.length ≤ 1 → Q .next { s with heap := h', toks := tk, gens := gs }) :
    wpAny (model PR w) (AT dp (some [envOfC (Str.ofString "law") sc L fa cd]) gd un) (exec (stm elseB 4) (envOfC (Str.ofString "law") sc L fa cd)) Q E s := by
  have zS0 : Mine.Stop "call ref" := ⟨trivial⟩
  have zS1 : Mine.Stop "call builtin:len" := ⟨trivial⟩
  have GT := G
  obtain ⟨KX, T⟩ := G
  obtain ⟨o1, o2, o3, Tl, hT, d1, d2, d3, N, t1, t2, t3⟩ := H.openM M hk4
  have N2 : News G₀ L s.heap ((S.W, instObj 480 S.dW) :: (S.dW, dictOf (wEs w.params S.k S.tw S.th S.lr S.sf S.ls) 8) :: (L + 1 + 1 + 1, o3) :: (L + 1 + 1, o2) :: (L + 1, o1) :: Tl) := List.forall_mem_cons.mpr ⟨H.N _ Sto.mW, List.forall_mem_cons.mpr ⟨H.N _ Sto.mdW, N⟩⟩
  clear N
  conv in (stm elseB 4) => whnf
  conv at hsc => rhs; whnf
  subst hsc
  k_steps
  refine Halt.mk ?_
  refine len_list (items := (dus S.ds).toArray) ⟨_, (H.N _ Sto.mDl).1, rfl, S.nd, rfl⟩ (by simp; ktu_offL) ?_
  k_steps
  refine Halt.mk ?_
  have e : ((dus S.ds).toArray.size : Int) = (S.pieces.length : Int) := by simp [hdz]
  clear N2 t1 t2 t3
  refine add_law (s := { s with toks := s.toks + 1 + 1 }) (dp := dp) (un := un) GT CH K F H M (H.moreOff M hk) hMD ok line hsz hpz hdim hl0 hlM (by ktu_offL) (by ktu_offL) hA rfl ?hke (fun h' tk gs ps' cs' F' H' M' A' hno => ?_) (fun h' tk gs ps' cs' ra rd r ls' n' np' i gp rem F' H' M' A' g1 g2 g3 g4 g5 g6 g7 g8 => ?_)
  case hke => intro e; cases e
  · clear F H M
    obtain ⟨o1, o2, o3, Tl, hT, d1, d2, d3, N, t1, t2, t3⟩ := H'.openM M' hk4
    clear M'
    k_steps
    (with_reducible rename News _ _ _ _ => N1)
    (with_reducible rename Fr _ _ _ _ => F1)
    rw [lm_pc] at F1
    obtain ⟨HH, MM⟩ := H'.closeM hT N1 d1 d2 d3 (.tail _ (.tail _ (.head _))) (.tail _ (.head _)) (.head _) fun q hq => .tail _ (.tail _ (.tail _ hq))
    exact hN _ _ _ _ _ F1 HH MM A' hno
  · clear F H M
    obtain ⟨o1, o2, o3, Tl, hT, d1, d2, d3, N, t1, t2, t3⟩ := H'.openM M' hk4
    clear M'
    k_steps
    (with_reducible rename News _ _ _ _ => N1)
    (with_reducible rename Fr _ _ _ _ => F1)
    rw [lm_pc] at F1
    obtain ⟨HH, MM⟩ := H'.closeM hT N1 d1 d2 d3 (.tail _ (.tail _ (.head _))) (.tail _ (.head _)) (.head _) fun q hq => .tail _ (.tail _ (.tail _ hq))
    exact hS _ _ _ _ _ ra rd r ls' n' np' i gp rem _ F1 HH MM A' g1 g2 g3 g4 (g5.trans (by rw [e])) g6 g7 g8
end
end Mine

namespace Mine
open PyProof.Rows.TI (Frs SameUp gone)
noncomputable def takeB : List Stmt := sB (stm elseB 5)
section
variable {w : World} {mean : ExcName → Option Value} {mg mb : Str → Option Value} {loose : List Str} {G₀ : Heap} {dp un : Nat} {gd : Option (List Code)} {s : Shared} {E : Value → Shared → Prop} {Q : Flow → Shared → Prop} {L fa : Addr} {cd : Value} {S : Sto} {ps : Array Value} {cs ex more : List (Addr × Obj)} {c1 c2 c3 : Option Value} {c : LC} {sc : Scope} {gl nu ho to wv hv pc : Option Value}
theorem s0_step (G : Gnd w mean mg mb loose G₀) (hsc : sc = lawScope) {D : Addr} {n : Nat} {vals : List Value} {zs : List Int} (F : Fr G₀ L s.heap (lm c S.W S.Ol S.Dl gl nu (some (.ref D)) to wv hv pc)) (H : LS w.params G₀ L S ps cs c1 c2 c3 ex s.heap) (M : News G₀ L s.heap [(D, listOf vals.toArray n)]) (hi : IntsAre vals zs) (h0 : 0 < zs.length)
    (h : ∀ h' tk b t, b ∈ zs → (∀ y ∈ zs, b ≤ y) → Fr G₀ L h' (lm c S.W S.Ol S.Dl gl nu (some (.ref D)) to wv hv pc) → LS w.params G₀ L S ps cs c1 c2 (some (.int b t)) ex h' → Q .next { s with heap := h', toks := tk }) :
    wpAny (model PR w) (AT dp (some [envOfC (Str.ofString "law") sc L fa cd]) gd un) (exec (stm takeB 0) (envOfC (Str.ofString "law") sc L fa cd)) Q E s := by
  have zS0 : Mine.Stop "call builtin:min" := ⟨trivial⟩
  have zS1 : Mine.Stop "compareOp NotIn" := ⟨trivial⟩
  obtain ⟨KX, T⟩ := G
  obtain ⟨o1, o2, o3, Tl, hT, d1, d2, d3, N, t1, t2, t3⟩ := H.openM M (List.forall_mem_cons.mpr ⟨show (2 : Nat) ≠ 4 by decide, List.forall_mem_nil _⟩)
  conv in (stm takeB 0) => whnf
  conv at hsc => rhs; whnf
  subst hsc
  have hD := (M _ (.head _)).1
  clear M
  k_steps
  refine Halt.mk ?_
  refine kso_min F N (vs := vals) ⟨_, hD, rfl, n, rfl⟩ hi h0 rfl (fun h12 m12 t12 tk12 F12 N12 hm12 hx12 => ?_)
  clear N F
  k_steps
  (with_reducible rename News _ _ _ _ => N1)
  (with_reducible rename Fr _ _ _ _ => F1)
  (with_reducible rename (_ = Data.cell (some (Value.int m12 _))) => dd)
  obtain ⟨HH, MM⟩ := H.closeM hT N1 d1 d2 dd (.tail _ (.tail _ (.head _))) (.tail _ (.head _)) (.head _) fun q hq => .tail _ (.tail _ (.tail _ hq))
  exact h _ _ _ _ hm12 hx12 F1 HH
theorem s1_step (G : Gnd w mean mg mb loose G₀) (hsc : sc = lawScope) {ra : Addr} {len b : Int} {tl' tb tt : Tok} (F : Fr G₀ L s.heap (lm c S.W S.Ol S.Dl gl nu ho (some (.int (c.B * (b - len)) tt)) wv hv (some (.ref ra)))) (H : LS w.params G₀ L S ps cs c1 (some (.int len tl')) (some (.int b tb)) ex s.heap) (hm : IntMulOk c.B (b - len))
    (h : ∀ h' tk, Fr G₀ L h' (lm c S.W S.Ol S.Dl gl nu ho (some (.int (c.B * (b - len)) tt)) wv hv (some (.ref ra))) → LS w.params G₀ L S ps cs c1 (some (.int len tl')) (some (.int b tb)) ex h' → Q .next { s with heap := h', toks := tk }) :
    wpAny (model PR w) (AT dp (some [envOfC (Str.ofString "law") sc L fa cd]) gd un) (exec (stm takeB 1) (envOfC (Str.ofString "law") sc L fa cd)) Q E s := by
  have zS0 : Mine.Stop "call builtin:min" := ⟨trivial⟩
  have zS1 : Mine.Stop "compareOp NotIn" := ⟨trivial⟩
  obtain ⟨KX, T⟩ := G
  obtain ⟨o1, o2, o3, Tl, hT, d1, d2, d3, N, t1, t2, t3⟩ := H.open
  conv in (stm takeB 1) => whnf
  conv at hsc => rhs; whnf
  subst hsc
  k_steps
  exact h _ _ F H
theorem s2_step (G : Gnd w mean mg mb loose G₀) (hsc : sc = lawScope) {ra rd : Addr} {r : Rc} {st len : Int} (hp : (⟨ra, rd, r⟩ : Pc) ∈ S.pieces) (hr : On c.up c.X c.Y c.B st len r) (F : Fr G₀ L s.heap (lm c S.W S.Ol S.Dl gl nu ho to wv hv (some (.ref ra)))) (H : LS w.params G₀ L S ps cs c1 c2 c3 ex s.heap)
    (h : ∀ h' tk t, Fr G₀ L h' (lm c S.W S.Ol S.Dl gl nu ho to wv hv (some (.ref ra))) → LS w.params G₀ L S ps cs (some (.int st t)) c2 c3 ex h' → Q .next { s with heap := h', toks := tk }) :
    wpAny (model PR w) (AT dp (some [envOfC (Str.ofString "law") sc L fa cd]) gd un) (exec (stm takeB 2) (envOfC (Str.ofString "law") sc L fa cd)) Q E s := by
  have zS0 : Mine.Stop "call builtin:min" := ⟨trivial⟩
  have zS1 : Mine.Stop "compareOp NotIn" := ⟨trivial⟩
  obtain ⟨KX, T⟩ := G
  obtain ⟨o1, o2, o3, Tl, hT, d1, d2, d3, N, t1, t2, t3⟩ := H.open
  have hra := H.N (ra, instObj 203 rd) (Sto.mpcs _ (List.mem_flatMap.mpr ⟨_, hp, .head _⟩))
  have hrd := H.N (rd, dictOf (rcEs w.params r) 5) (Sto.mpcs _ (List.mem_flatMap.mpr ⟨_, hp, .tail _ (.head _)⟩))
  have n1 : @Ne Nat ra (L + 1) := ne_knd hra.1 (N _ (.tail _ (.tail _ (.head _)))).1 (by unfold knd; rw [d1]; exact (show (203 : Nat) ≠ 4 by decide))
  have n2 : @Ne Nat rd (L + 1) := ne_knd hrd.1 (N _ (.tail _ (.tail _ (.head _)))).1 (by unfold knd; rw [d1]; exact (show (1005 : Nat) ≠ 4 by decide))
  have N2 : News G₀ L s.heap ((ra, instObj 203 rd) :: (rd, dictOf (rcEs w.params r) 5) :: (L + 1 + 1 + 1, o3) :: (L + 1 + 1, o2) :: (L + 1, o1) :: Tl) := List.forall_mem_cons.mpr ⟨hra, List.forall_mem_cons.mpr ⟨hrd, N⟩⟩
  clear N
  conv in (stm takeB 2) => whnf
  conv at hsc => rhs; whnf
  subst hsc
  k_steps
  all_goals
    (with_reducible rename News _ _ _ _ => N1)
    (with_reducible rename Fr _ _ _ _ => F1)
    (with_reducible rename (c.up = _) => hup)
    (with_reducible rename (_ = Data.cell (some (Value.int _ _))) => dd)
    rw [hup] at hr
  · have e : r.y - c.Y = st := by have := hr.2.1; ktu_offL
    rw [e] at dd
    exact h _ _ _ F1 (H.close hT N1 dd d2 d3 (.tail _ (.tail _ (.tail _ (.tail _ (.head _))))) (.tail _ (.tail _ (.tail _ (.head _)))) (.tail _ (.tail _ (.head _))) fun q hq => .tail _ (.tail _ (.tail _ (.tail _ (.tail _ hq)))))
  · have e : r.x - c.X = st := by have := hr.1; ktu_offL
    rw [e] at dd
    exact h _ _ _ F1 (H.close hT N1 dd d2 d3 (.tail _ (.tail _ (.tail _ (.tail _ (.head _))))) (.tail _ (.tail _ (.tail _ (.head _)))) (.tail _ (.tail _ (.head _))) fun q hq => .tail _ (.tail _ (.tail _ (.tail _ (.tail _ hq)))))
theorem s3_step (G : Gnd w mean mg mb loose G₀) (hsc : sc = lawScope) {st b : Int} {ts tb : Tok} (F : Fr G₀ L s.heap (lm c S.W S.Ol S.Dl (some (.ref S.Gl)) nu ho to wv hv pc)) (H : LS w.params G₀ L S ps cs (some (.int st ts)) c2 (some (.int b tb)) ex s.heap) (hin : (st, b) ∈ S.vs.map fun p => (p.x, p.y)) (hu : un + 100 < cLine)
    (h : ∀ h' tk, Fr G₀ L h' (lm c S.W S.Ol S.Dl (some (.ref S.Gl)) nu ho to wv hv pc) → LS w.params G₀ L S ps cs (some (.int st ts)) c2 (some (.int b tb)) ex h' → Q .next { s with heap := h', toks := tk }) :
    wpAny (model PR w) (AT dp (some [envOfC (Str.ofString "law") sc L fa cd]) gd un) (exec (stm takeB 3) (envOfC (Str.ofString "law") sc L fa cd)) Q E s := by
  have zS0 : Mine.Stop "call builtin:min" := ⟨trivial⟩
  have zS1 : Mine.Stop "compareOp NotIn" := ⟨trivial⟩
  obtain ⟨KX, T⟩ := G
  obtain ⟨o1, o2, o3, Tl, hT, d1, d2, d3, N, t1, t2, t3⟩ := H.open
  conv in (stm takeB 3) => whnf
  conv at hsc => rhs; whnf
  subst hsc
  k_steps
  refine Halt.mk ?_
  (with_reducible rename News _ _ _ _ => N1)
  (with_reducible rename Fr _ _ _ _ => F1)
  (with_reducible rename (@LT.lt Nat _ (L + 1 + 1 + 1) _ ∧ _) => l1)
  have mT : ∀ q ∈ S.led w.params, q ∈ Tl := fun q hq => hT ▸ List.mem_append_left _ hq
  have oT : ∀ q ∈ S.led w.params, _ := fun q hq => (N1 q (.tail _ (.tail _ (.tail _ (.tail _ (mT q hq)))))).1
  refine notin_prs (vs := S.vs) (n := S.ng) (oT _ Sto.mGl) (fun p hp => oT _ (Sto.mvs hp)) (N1 _ (.head _)).1 (fun p hp => Nat.ne_of_lt (allLt_mem l1.2.2.2 _ (mT _ (Sto.mvs hp)))) (by show un + 10 < cLine; ktu_offL) ?_
  rw [decide_eq_true hin]
  rw [Bool.not_true]
  have HH := H.close hT N1 d1 d2 d3 (.tail _ (.tail _ (.tail _ (.head _)))) (.tail _ (.tail _ (.head _))) (.tail _ (.head _)) fun q hq => .tail _ (.tail _ (.tail _ (.tail _ hq)))
  k_steps
  exact h _ _ F1 HH
end
end Mine

namespace Mine
open PyProof.Rows.TI (Frs SameUp gone)
section
variable {P : Params} {G₀ h : Heap} {L : Addr} {S : Sto} {ps : Array Value} {cs ex : List (Addr × Obj)} {c1 c2 c3 : Option Value}
theorem LS.setGl (H : LS P G₀ L S ps cs c1 c2 c3 ex h) {R : Addr} {n' : Nat} {vs' : List Pr} (hR : h.get? R = some (listOf (prs vs').toArray n') ∧ R ≠ L ∧ G₀.get? R = none) (hv : ∀ p ∈ vs', h.get? p.a = some p.obj.2 ∧ p.a ≠ L ∧ G₀.get? p.a = none) (hne : ∀ q ∈ S.led P, @Ne Nat q.1 R) :
    LS P G₀ L { S with Gl := R, ng := n', vs := vs' } ps cs c1 c2 c3 ex h where
  N := Sto.all (H.N _ Sto.mW) (H.N _ Sto.mdW) (H.N _ Sto.mls) (H.N _ Sto.mlr) hR (H.N _ Sto.mOl) (H.N _ Sto.mDl) (H.N _ Sto.max) (fun g hg o ho => H.N _ (Sto.msec (S := S) hg ho)) (fun g hg o ho => H.N _ (Sto.mpcs (S := S) o (List.mem_flatMap.mpr ⟨g, hg, ho⟩))) hv (fun p hp => H.N _ (Sto.mos (S := S) hp)) (fun p hp => H.N _ (Sto.mds (S := S) hp))
  T := H.T
  C := H.C
  X := H.X
  xf := H.xf
  xt := H.xt
  nd := by
    obtain ⟨a1, a2, a3, a4, a5, b1, b2, b3, b4, d1, d2, d3, e1, e2, f1⟩ := six H.nd
    refine nodup6 a1 (hne _ Sto.mls) a3 a4 a5 (List.nodup_cons.mpr ⟨not_mem4 (hne _ Sto.mlr) b2 b3 b4, List.nodup_cons.mpr ⟨not_mem3 (hne _ Sto.mOl).symm (hne _ Sto.mDl).symm (hne _ Sto.max).symm, ?_⟩⟩)
    exact List.nodup_cons.mpr ⟨not_mem2 e1 e2, List.nodup_cons.mpr ⟨fun hm => f1 (List.mem_singleton.mp hm), List.nodup_cons.mpr ⟨List.not_mem_nil, List.nodup_nil⟩⟩⟩
  tab := H.tab
end
section
variable {w : World} {mean : ExcName → Option Value} {mg mb : Str → Option Value} {loose : List Str} {G₀ : Heap} {dp un : Nat} {gd : Option (List Code)} {L fa C : Addr} {cd : Value} {m' : Str → Option Value} {led : List (Addr × Obj)} {E : Value → Shared → Prop} {s : Shared} {sc : Scope}
/-- the element's test, [gap for gap in gaps if gap != (start, best)] -/
theorem s4_test (_KX : (Mine.hd.heap_1 w.params).In G₀) (hsc : sc = lawScope) {scope : Scope} (hcs : scope = { kind := .function, names := [(Str.ofString ".0", .local), (Str.ofString "gap", .local), (Str.ofString "start", .free), (Str.ofString "best", .free)], isGenerator := false, isCoroutine := false }) {p : Pr} {st b : Int} {ts tb : Tok} {o1 o2 o3 : Obj} {p1 p2 p3 p4 p5 : Pos} {Tl : List (Addr × Obj)}
    (d1 : o1.data = .cell (some (.int st ts))) (d3 : o3.data = .cell (some (.int b tb))) (F : Fr G₀ C s.heap m') (N : News G₀ C s.heap ((L + 1 + 1 + 1, o3) :: (L + 1 + 1, o2) :: (L + 1, o1) :: Tl)) (hB : m' (Str.ofString "gap") = some (.ref p.a)) (hp : p.obj ∈ Tl) (hu : un + 200 < cLine) :
    wpAny (model PR w) (AT dp (some [envOfC (Str.ofString "law") sc L fa cd]) gd un) (isTrue (Expr.Compare (Expr.Name (Str.ofString "gap") p1) [CmpOp.NotEq] [Expr.Tuple [Expr.Name (Str.ofString "start") p2, Expr.Name (Str.ofString "best") p3] 0 p4] p5) (compEnvC scope [(Str.ofString "start", L + 1), (Str.ofString "best", L + 1 + 1 + 1)] C (envOfC (Str.ofString "law") sc L fa cd))
        (eval (Expr.Compare (Expr.Name (Str.ofString "gap") p1) [CmpOp.NotEq] [Expr.Tuple [Expr.Name (Str.ofString "start") p2, Expr.Name (Str.ofString "best") p3] 0 p4] p5) (compEnvC scope [(Str.ofString "start", L + 1), (Str.ofString "best", L + 1 + 1 + 1)] C (envOfC (Str.ofString "law") sc L fa cd))))
      (fun ok s'' => ok = (!decide ((p.x, p.y) = (st, b))) ∧ Keeps s s'') E s := by
  have zC : Mine.Stop "comp" := ⟨trivial⟩
  have zS0 : Mine.Stop "eval ListComp" := ⟨trivial⟩
  have zS1 : Mine.Stop "compareOp NotEq ref ref" := ⟨trivial⟩
  have zS2 : Mine.Stop "binaryOp Add ref ref" := ⟨trivial⟩
  have zS3 : Mine.Stop "call builtin:sorted" := ⟨trivial⟩
  have zS4 : Mine.Stop "newTuple" := ⟨trivial⟩
  subst hcs
  conv at hsc => rhs; whnf
  subst hsc
  k_steps
  refine Halt.mk ?_
  refine wpAny_newTuple ?_ (by rw [sizeLine_eq]; exact Nat.le_of_ble_eq_true rfl)
  k_steps
  refine Halt.mk ?_
  refine ne_pair (n := p.n) (m := 0) (Heap.get?_push_of_some _ (N p.obj (.tail _ (.tail _ (.tail _ hp)))).1) (Heap.get?_push_size _ rfl) (by show un + 64 < cLine; ktu_offL) ?_
  k_steps
  all_goals exact ⟨_, _, rfl, fun bb o e => Heap.get?_push_of_some _ e⟩
end
section
variable {w : World} {mean : ExcName → Option Value} {mg mb : Str → Option Value} {loose : List Str} {G₀ : Heap} {dp un : Nat} {gd : Option (List Code)} {s : Shared} {E : Value → Shared → Prop} {Q : Flow → Shared → Prop} {L fa : Addr} {cd : Value} {S : Sto} {ps : Array Value} {cs ex more : List (Addr × Obj)} {c1 c2 c3 : Option Value} {c : LC} {sc : Scope} {gl nu ho to wv hv pc : Option Value}
theorem s4_step (G : Gnd w mean mg mb loose G₀) (hsc : sc = lawScope) {st len b : Int} {ts tl' tb : Tok} (F : Fr G₀ L s.heap (lm c S.W S.Ol S.Dl (some (.ref S.Gl)) nu ho to wv hv pc)) (H : LS w.params G₀ L S ps cs (some (.int st ts)) (some (.int len tl')) (some (.int b tb)) ex s.heap) (hsz : S.vs.length < 50) (hu : un + 200 < cLine)
    (h : ∀ h' tk R vs' n', Fr G₀ L h' (lm c S.W S.Ol S.Dl (some (.ref R)) nu ho to wv hv pc) → LS w.params G₀ L { S with Gl := R, ng := n', vs := vs' } ps cs (some (.int st ts)) (some (.int len tl')) (some (.int b tb)) ex h' → (vs'.map prOf).Perm ((S.vs.map prOf).filter (fun q => !decide (q = (st, b))) ++ remOf st b len) → Q .next { s with heap := h', toks := tk }) :
    wpAny (model PR w) (AT dp (some [envOfC (Str.ofString "law") sc L fa cd]) gd un) (exec (stm takeB 4) (envOfC (Str.ofString "law") sc L fa cd)) Q E s := by
  have zC : Mine.Stop "comp" := ⟨trivial⟩
  have zS0 : Mine.Stop "eval ListComp" := ⟨trivial⟩
  have zS1 : Mine.Stop "compareOp NotEq ref ref" := ⟨trivial⟩
  have zS2 : Mine.Stop "binaryOp Add ref ref" := ⟨trivial⟩
  have zS3 : Mine.Stop "call builtin:sorted" := ⟨trivial⟩
  obtain ⟨KX, T⟩ := G
  obtain ⟨o1, o2, o3, Tl, hT, d1, d2, d3, N, t1, t2, t3⟩ := H.open
  conv in (stm takeB 4) => whnf
  conv at hsc => rhs; whnf
  subst hsc
  have mT : ∀ q ∈ S.led w.params, q ∈ Tl := fun q hq => hT ▸ List.mem_append_left _ hq
  have hfl : (S.vs.filter fun p => !decide ((p.x, p.y) = (st, b))).length ≤ S.vs.length := List.length_filter_le ..
  have inT : ∀ q ∈ S.led w.params, q ∈ (L + 1 + 1 + 1, o3) :: (L + 1 + 1, o2) :: (L + 1, o1) :: Tl := fun q hq => .tail _ (.tail _ (.tail _ (mT q hq)))
  k_steps
  refine Halt.mk ?_
  refine comp_prs (vs := S.vs) (Gl := S.Gl) (ng := S.ng) (fun p m' => m' (Str.ofString "gap") = some (.ref p.a)) (fun p => !decide ((p.x, p.y) = (st, b))) (fun p => .ref p.a) (.inr fun _ _ => rfl) rfl rfl (by decide) rfl (by decide) F N (inT _ Sto.mGl) (fun p hp => inT _ (Sto.mvs hp)) (by rw [sizeLine_eq]; ktu_offL) (fun Q' hQ' => ?_) (asg_name (fun _ => rfl) (fun _ => rfl)) (fun C p h tk m' E' hp hB F N => ?_) (fun C p h tk m' E' hp hk hB F N => ?_) (fun D h₂ tk₂ nD F₂ N₂ hlt₂ => ?_)
  · k_steps
    exact hQ' _
  · refine wpAny_tests_one ?_
    exact s4_test (o1 := o1) (o2 := o2) (o3 := o3) (Tl := Tl) KX rfl rfl d1 d3 F N hB (mT _ (Sto.mvs hp)) hu
  · exact nameC_L F hB ⟨rfl, _, _, rfl, fun _ _ e => e⟩ rfl rfl
  · clear F N t1 t2 t3
    k_steps
    all_goals
      refine Halt.mk ?_
      (with_reducible rename News _ _ _ _ => N1)
      (with_reducible rename Fr _ _ _ _ => F1)
    · refine add_lists (vs := prs (S.vs.filter fun p => !decide ((p.x, p.y) = (st, b)))) (ws := [.ref _]) F1 N1 ⟨_, (N1 _ (.tail _ (.tail _ (.head _)))).1, rfl, nD, rfl⟩ ⟨_, (N1 _ (.head _)).1, rfl, 0, rfl⟩ (fun h3 F3 N3 => ?_) (by simp only [prs, List.length_map, List.length_cons, List.length_nil, sizeLine_eq]; ktu_offL)
      clear F1 N1
      k_steps
      refine Halt.mk ?_
      refine sorted_snoc (os := S.vs.filter fun p => !decide ((p.x, p.y) = (st, b))) F3 N3 (fun p hp => .tail _ (inT _ (Sto.mvs (List.mem_filter.mp hp).1))) (by ktu_offL) (by show un + 10 < cLine; ktu_offL) (fun D R vs' n' h4 tk4 hperm F4 N4 hlt4 hDD => ?_)
      have hne : ∀ q ∈ S.led w.params, @Ne Nat q.1 R := fun q hq => Nat.ne_of_lt (hlt4 q (.tail _ (.tail _ (.tail _ (.tail _ (inT q hq))))))
      clear F3 N3
      k_steps
      (with_reducible rename News _ _ _ _ => N5)
      (with_reducible rename Fr _ _ _ _ => F5)
      rw [lm_gl] at F5
      have HH := H.close hT N5 d1 d2 d3 (.tail _ (.tail _ (.tail _ (.tail _ (.tail _ (.tail _ (.tail _ (.head _)))))))) (.tail _ (.tail _ (.tail _ (.tail _ (.tail _ (.tail _ (.head _))))))) (.tail _ (.tail _ (.tail _ (.tail _ (.tail _ (.head _)))))) fun q hq => .tail _ (.tail _ (.tail _ (.tail _ (.tail _ (.tail _ (.tail _ (.tail _ hq)))))))
      refine h _ _ R vs' n' F5 (HH.setGl (N5 _ (.head _)) (fun p hp => ?_) hne) ?_
      · rcases List.mem_append.mp (hperm.mem_iff.mp hp) with hp | hp
        · exact N5 _ (.tail _ (.tail _ (.tail _ (.tail _ (.tail _ (inT _ (Sto.mvs (List.mem_filter.mp hp).1)))))))
        · rw [List.mem_singleton.mp hp]
          exact N5 _ (.tail _ (.tail _ (.tail _ (.head _))))
      · have z := hperm.map prOf
        rw [List.map_append] at z
        have e1 : ((S.vs.filter fun p => !decide ((p.x, p.y) = (st, b))).map prOf) = (S.vs.map prOf).filter (fun q => !decide (q = (st, b))) := by
          rw [List.filter_map]; rfl
        have e2 : remOf st b len = [(st + len, b - len)] := if_pos (by assumption)
        rw [e1] at z
        rw [e2]
        exact z
    · refine add_lists (vs := prs (S.vs.filter fun p => !decide ((p.x, p.y) = (st, b)))) (ws := []) F1 N1 ⟨_, (N1 _ (.tail _ (.head _))).1, rfl, nD, rfl⟩ ⟨_, (N1 _ (.head _)).1, rfl, 0, rfl⟩ (fun h3 F3 N3 => ?_) (by simp only [prs, List.length_map, List.length_nil, sizeLine_eq]; ktu_offL)
      clear F1 N1
      k_steps
      refine Halt.mk ?_
      refine sorted_pairs (vs := S.vs.filter fun p => !decide ((p.x, p.y) = (st, b))) F3 N3 ⟨_, (N3 _ (.head _)).1, rfl, 0, by rw [List.append_nil]⟩ (fun p hp => .tail _ (.tail _ (.tail _ (inT _ (Sto.mvs (List.mem_filter.mp hp).1))))) (by ktu_offL) (by show un + 10 < cLine; ktu_offL) (fun R vs' n' h4 tk4 hperm F4 N4 hlt4 => ?_)
      have hne : ∀ q ∈ S.led w.params, @Ne Nat q.1 R := fun q hq => Nat.ne_of_lt (hlt4 q (.tail _ (.tail _ (.tail _ (inT q hq)))))
      clear F3 N3
      k_steps
      (with_reducible rename News _ _ _ _ => N5)
      (with_reducible rename Fr _ _ _ _ => F5)
      rw [lm_gl] at F5
      have HH := H.close hT N5 d1 d2 d3 (.tail _ (.tail _ (.tail _ (.tail _ (.tail _ (.tail _ (.head _))))))) (.tail _ (.tail _ (.tail _ (.tail _ (.tail _ (.head _)))))) (.tail _ (.tail _ (.tail _ (.tail _ (.head _))))) fun q hq => .tail _ (.tail _ (.tail _ (.tail _ (.tail _ (.tail _ (.tail _ hq))))))
      refine h _ _ R vs' n' F5 (HH.setGl (N5 _ (.head _)) (fun p hp => ?_) hne) ?_
      · exact N5 _ (.tail _ (.tail _ (.tail _ (.tail _ (inT _ (Sto.mvs (List.mem_filter.mp (hperm.mem_iff.mp hp)).1))))))
      · have z := hperm.map prOf
        have e1 : ((S.vs.filter fun p => !decide ((p.x, p.y) = (st, b))).map prOf) = (S.vs.map prOf).filter (fun q => !decide (q = (st, b))) := by
          rw [List.filter_map]; rfl
        have e2 : remOf st b len = [] := if_neg (by assumption)
        rw [e1] at z
        rw [e2, List.append_nil]
        exact z
end
end Mine

namespace Mine
open PyProof.Rows.TI (Frs SameUp gone)
theorem Fr.same {g h h' : Heap} {L a : Addr} {m : Str → Option Value} (F : Fr g L h m) (hs : Heap.SameBut a h h') (ha : a ≠ L ∧ g.get? a = none) : Fr g L h' m :=
  ⟨F.ns.sameBut hs ha.1.symm, fun b o e => (hs.2 b (get_ne e ha.2)).trans (F.keep b o e), F.above⟩
section
variable {P : Params} {G₀ h h' : Heap} {L : Addr} {S : Sto} {ps : Array Value} {cs ex : List (Addr × Obj)} {c1 c2 c3 : Option Value}
/-- one list of the law's own turns: all else stays -/
theorem LS.stayL (H : LS P G₀ L S ps cs c1 c2 c3 ex h) {l : Addr} {xs : Array Value} {n : Nat} (hl : h.get? l = some (listOf xs n)) (hs : Heap.SameBut l h h') : (∀ q ∈ S.led P, q.2.cls ≠ .type "list" → h'.get? q.1 = some q.2 ∧ q.1 ≠ L ∧ G₀.get? q.1 = none) ∧ (∀ q ∈ S.led P, @Ne Nat q.1 l → h'.get? q.1 = some q.2 ∧ q.1 ≠ L ∧ G₀.get? q.1 = none) := by
  have key : ∀ q ∈ S.led P, @Ne Nat q.1 l → h'.get? q.1 = some q.2 ∧ q.1 ≠ L ∧ G₀.get? q.1 = none := fun q hq hne => ⟨(hs.2 _ hne).trans (H.N q hq).1, (H.N q hq).2⟩
  exact ⟨fun q hq hc => key q hq (ne_cls (H.N q hq).1 hl hc), key⟩
theorem gp_cls {g : Gp} : ∀ o ∈ g.objs P, o.2.cls ≠ .type "list" := pair_all (by intro e; cases e) (show Value.type "dict" ≠ Value.type "list" by decide)
theorem pc_cls {g : Pc} : ∀ o ∈ g.objs P, o.2.cls ≠ .type "list" := pair_all (by intro e; cases e) (show Value.type "dict" ≠ Value.type "list" by decide)
theorem LS.setOl (H : LS P G₀ L S ps cs c1 c2 c3 ex h) {os' : List Pr} {n' : Nat} (hs : Heap.SameBut S.Ol h h') (hO : h'.get? S.Ol = some (listOf (prs os').toArray n')) (hv : ∀ p ∈ os', h.get? p.a = some p.obj.2 ∧ p.a ≠ L ∧ G₀.get? p.a = none) :
    LS P G₀ L { S with os := os', no := n' } ps cs c1 c2 c3 ex h' := by
  obtain ⟨a, b⟩ := H.stayL (H.N _ Sto.mOl).1 hs
  obtain ⟨l1, l2, l3, l4, l5, l6, l7, l8, l9, l10, l11, l12, l13, l14, l15⟩ := six H.nd
  have kp : Keep [S.Ol] h h' := fun b o hb e => (hs.2 b (fun q => hb (q ▸ .head _))).trans e
  have hD : ∀ d ∈ [S.Ol], ∃ o, h.get? d = some o ∧ knd o ≠ 3 ∧ knd o ≠ 4 := List.forall_mem_cons.mpr ⟨⟨_, (H.N _ Sto.mOl).1, led_knd _ (Sto.mOl (P := P))⟩, List.forall_mem_nil _⟩
  refine H.upd (D := [S.Ol]) (kp.mono fun d hd => List.mem_append_left _ hd) hD (H.tlK kp hD) H.tab LS.backK ?_ H.nd
  exact Sto.all (a _ Sto.mW (by intro e; cases e)) (a _ Sto.mdW (show Value.type "dict" ≠ Value.type "list" by decide)) (b _ Sto.mls l3) (b _ Sto.mlr l7) (b _ Sto.mGl l10) ⟨hO, (H.N _ Sto.mOl).2⟩ (b _ Sto.mDl l13.symm) (b _ Sto.max l14.symm)
    (fun g hg o ho => a _ (Sto.msec (S := S) hg ho) (gp_cls o ho)) (fun g hg o ho => a _ (Sto.mpcs (S := S) o (List.mem_flatMap.mpr ⟨g, hg, ho⟩)) (pc_cls o ho)) (fun p hp => a _ (Sto.mvs (S := S) hp) (show Value.type "tuple" ≠ Value.type "list" by decide))
    (fun p hp => ⟨(hs.2 _ (ne_tup (hv p hp).1 rfl (H.N _ Sto.mOl).1 rfl)).trans (hv p hp).1, (hv p hp).2⟩) (fun p hp => a _ (Sto.mds (S := S) hp) (show Value.type "tuple" ≠ Value.type "list" by decide))
theorem LS.setDl (H : LS P G₀ L S ps cs c1 c2 c3 ex h) {ds' : List Du} {n' : Nat} (hs : Heap.SameBut S.Dl h h') (hO : h'.get? S.Dl = some (listOf (dus ds').toArray n')) (hv : ∀ p ∈ ds', h.get? p.a = some p.obj.2 ∧ p.a ≠ L ∧ G₀.get? p.a = none) :
    LS P G₀ L { S with ds := ds', nd := n' } ps cs c1 c2 c3 ex h' := by
  obtain ⟨a, b⟩ := H.stayL (H.N _ Sto.mDl).1 hs
  obtain ⟨l1, l2, l3, l4, l5, l6, l7, l8, l9, l10, l11, l12, l13, l14, l15⟩ := six H.nd
  have kp : Keep [S.Dl] h h' := fun b o hb e => (hs.2 b (fun q => hb (q ▸ .head _))).trans e
  have hD : ∀ d ∈ [S.Dl], ∃ o, h.get? d = some o ∧ knd o ≠ 3 ∧ knd o ≠ 4 := List.forall_mem_cons.mpr ⟨⟨_, (H.N _ Sto.mDl).1, led_knd _ (Sto.mDl (P := P))⟩, List.forall_mem_nil _⟩
  refine H.upd (D := [S.Dl]) (kp.mono fun d hd => List.mem_append_left _ hd) hD (H.tlK kp hD) H.tab LS.backK ?_ H.nd
  exact Sto.all (a _ Sto.mW (by intro e; cases e)) (a _ Sto.mdW (show Value.type "dict" ≠ Value.type "list" by decide)) (b _ Sto.mls l4) (b _ Sto.mlr l8) (b _ Sto.mGl l11) (b _ Sto.mOl l13) ⟨hO, (H.N _ Sto.mDl).2⟩ (b _ Sto.max l15.symm)
    (fun g hg o ho => a _ (Sto.msec (S := S) hg ho) (gp_cls o ho)) (fun g hg o ho => a _ (Sto.mpcs (S := S) o (List.mem_flatMap.mpr ⟨g, hg, ho⟩)) (pc_cls o ho)) (fun p hp => a _ (Sto.mvs (S := S) hp) (show Value.type "tuple" ≠ Value.type "list" by decide))
    (fun p hp => a _ (Sto.mos (S := S) hp) (show Value.type "tuple" ≠ Value.type "list" by decide)) (fun p hp => ⟨(hs.2 _ (ne_tup (hv p hp).1 rfl (H.N _ Sto.mDl).1 rfl)).trans (hv p hp).1, (hv p hp).2⟩)
end
section
variable {w : World} {mean : ExcName → Option Value} {mg mb : Str → Option Value} {loose : List Str} {G₀ : Heap} {dp un : Nat} {gd : Option (List Code)} {s : Shared} {E : Value → Shared → Prop} {Q : Flow → Shared → Prop} {L fa : Addr} {cd : Value} {S : Sto} {ps : Array Value} {cs ex more : List (Addr × Obj)} {c1 c2 c3 : Option Value} {c : LC} {sc : Scope} {gl nu ho to wv hv pc : Option Value}
theorem s5_step (G : Gnd w mean mg mb loose G₀) (hsc : sc = lawScope) {st len : Int} {ts tl' : Tok} (F : Fr G₀ L s.heap (lm c S.W S.Ol S.Dl gl nu ho to wv hv pc)) (H : LS w.params G₀ L S ps cs (some (.int st ts)) (some (.int len tl')) c3 ex s.heap) (hsz : S.os.length < 100)
    (h : ∀ h' tk D n', Fr G₀ L h' (lm c S.W S.Ol S.Dl gl nu ho to wv hv pc) → LS w.params G₀ L { S with os := S.os ++ [⟨D, st, len, ts, tl', 0⟩], no := n' } ps cs (some (.int st ts)) (some (.int len tl')) c3 ex h' → Q .next { s with heap := h', toks := tk }) :
    wpAny (model PR w) (AT dp (some [envOfC (Str.ofString "law") sc L fa cd]) gd un) (exec (stm takeB 5) (envOfC (Str.ofString "law") sc L fa cd)) Q E s := by
  have zS0 : Mine.Stop "call builtin:list.append" := ⟨trivial⟩
  have zS1 : Mine.Stop "call builtin:len" := ⟨trivial⟩
  obtain ⟨KX, T⟩ := G
  obtain ⟨o1, o2, o3, Tl, hT, d1, d2, d3, N, t1, t2, t3⟩ := H.open
  have N2 : News G₀ L s.heap ((S.Ol, listOf (prs S.os).toArray S.no) :: (L + 1 + 1 + 1, o3) :: (L + 1 + 1, o2) :: (L + 1, o1) :: Tl) := List.forall_mem_cons.mpr ⟨H.N _ Sto.mOl, N⟩
  clear N
  conv in (stm takeB 5) => whnf
  conv at hsc => rhs; whnf
  subst hsc
  k_steps
  refine Halt.mk ?_
  (with_reducible rename News _ _ _ _ => N1)
  (with_reducible rename Fr _ _ _ _ => F1)
  have HH := H.close hT N1 d1 d2 d3 (.tail _ (.tail _ (.tail _ (.tail _ (.head _))))) (.tail _ (.tail _ (.tail _ (.head _)))) (.tail _ (.tail _ (.head _))) fun q hq => .tail _ (.tail _ (.tail _ (.tail _ (.tail _ hq))))
  have hD := N1 _ (.head _)
  clear N1
  refine wpAny_list_append_plain (items := (prs S.os).toArray) ⟨S.no, (HH.N _ Sto.mOl).1⟩ (fun h₅ hp₅ hs₅ => ?_) (by rw [sizeLine_eq]; simp; ktu_offL)
  obtain ⟨n', hp₅⟩ := hp₅
  have F5 := Fr.same F1 hs₅ (HH.N _ Sto.mOl).2
  have H5 := HH.setOl (os' := S.os ++ [⟨_, st, len, ts, tl', 0⟩]) (n' := n') hs₅ (by rw [hp₅]; simp [prs]; rfl) (fun p hp => by
    rcases List.mem_append.mp hp with hp | hp
    · exact HH.N _ (Sto.mos hp)
    · rw [List.mem_singleton.mp hp]
      exact hD)
  clear F1 HH hD
  obtain ⟨o1, o2, o3, Tl, hT, d1, d2, d3, N, t1, t2, t3⟩ := H5.open
  k_steps
  exact h _ _ _ _ F5 H5
theorem s6_step (G : Gnd w mean mg mb loose G₀) (hsc : sc = lawScope) {st wd hg : Int} {ts t1 t2 : Tok} (F : Fr G₀ L s.heap (lm c S.W S.Ol S.Dl gl nu ho to (some (.int wd t1)) (some (.int hg t2)) pc)) (H : LS w.params G₀ L S ps cs (some (.int st ts)) c2 c3 ex s.heap) (hsz : S.ds.length < 100)
    (h : ∀ h' tk u n', u.r = (if c.up = true then (c.X, c.Y + st, wd, hg, (S.ds.length : Int)) else (c.X + st, c.Y, wd, hg, (S.ds.length : Int))) → Fr G₀ L h' (lm c S.W S.Ol S.Dl gl nu ho to (some (.int wd t1)) (some (.int hg t2)) pc) → LS w.params G₀ L { S with ds := S.ds ++ [u], nd := n' } ps cs (some (.int st ts)) c2 c3 ex h' → Q .next { s with heap := h', toks := tk }) :
    wpAny (model PR w) (AT dp (some [envOfC (Str.ofString "law") sc L fa cd]) gd un) (exec (stm takeB 6) (envOfC (Str.ofString "law") sc L fa cd)) Q E s := by
  have zS0 : Mine.Stop "call builtin:list.append" := ⟨trivial⟩
  have zS1 : Mine.Stop "call builtin:len" := ⟨trivial⟩
  obtain ⟨KX, T⟩ := G
  obtain ⟨o1, o2, o3, Tl, hT, d1, d2, d3, N, t1, t2, t3⟩ := H.open
  have N2 : News G₀ L s.heap ((S.Dl, listOf (dus S.ds).toArray S.nd) :: (L + 1 + 1 + 1, o3) :: (L + 1 + 1, o2) :: (L + 1, o1) :: Tl) := List.forall_mem_cons.mpr ⟨H.N _ Sto.mDl, N⟩
  clear N
  conv in (stm takeB 6) => whnf
  conv at hsc => rhs; whnf
  subst hsc
  have es : (((dus S.ds).toArray.size : Nat) : Int) = (S.ds.length : Int) := by simp
  k_steps
  all_goals
    refine Halt.mk ?_
    refine len_list (items := (dus S.ds).toArray) ⟨_, (H.N _ Sto.mDl).1, rfl, S.nd, rfl⟩ (by simp; ktu_offL) ?_
    rw [es]
    k_steps
    refine Halt.mk ?_
    (with_reducible rename News _ _ _ _ => N1)
    (with_reducible rename Fr _ _ _ _ => F1)
    (with_reducible rename (c.up = _) => hup)
    have HH := H.close hT N1 d1 d2 d3 (.tail _ (.tail _ (.tail _ (.tail _ (.head _))))) (.tail _ (.tail _ (.tail _ (.head _)))) (.tail _ (.tail _ (.head _))) fun q hq => .tail _ (.tail _ (.tail _ (.tail _ (.tail _ hq))))
    have hD := N1 _ (.head _)
    clear N1
    refine wpAny_list_append_plain (items := (dus S.ds).toArray) ⟨S.nd, (HH.N _ Sto.mDl).1⟩ (fun h₅ hp₅ hs₅ => ?_) (by rw [sizeLine_eq]; simp; ktu_offL)
    obtain ⟨n', hp₅⟩ := hp₅
    have F5 := Fr.same F1 hs₅ (HH.N _ Sto.mDl).2
  · have H5 := HH.setDl (ds' := S.ds ++ [⟨_, (c.X, c.Y + st, wd, hg, (S.ds.length : Int)), _, _, _, _, _, 0⟩]) (n' := n') hs₅ (by rw [hp₅]; simp [dus]; rfl) (fun p hp => by
      rcases List.mem_append.mp hp with hp | hp
      · exact HH.N _ (Sto.mds hp)
      · rw [List.mem_singleton.mp hp]
        exact hD)
    clear F1 HH hD
    obtain ⟨o1, o2, o3, Tl, hT, d1, d2, d3, N, t1, t2, t3⟩ := H5.open
    k_steps
    exact h _ _ _ _ (by rw [if_pos hup]) F5 H5
  · have H5 := HH.setDl (ds' := S.ds ++ [⟨_, (c.X + st, c.Y, wd, hg, (S.ds.length : Int)), _, _, _, _, _, 0⟩]) (n' := n') hs₅ (by rw [hp₅]; simp [dus]; rfl) (fun p hp => by
      rcases List.mem_append.mp hp with hp | hp
      · exact HH.N _ (Sto.mds hp)
      · rw [List.mem_singleton.mp hp]
        exact hD)
    clear F1 HH hD
    obtain ⟨o1, o2, o3, Tl, hT, d1, d2, d3, N, t1, t2, t3⟩ := H5.open
    k_steps
    exact h _ _ _ _ (by rw [if_neg (by rw [hup]; decide)]) F5 H5
end
end Mine

namespace Mine
open PyProof.Rows.TI (Frs SameUp gone)
section
variable {w : World} {mean : ExcName → Option Value} {mg mb : Str → Option Value} {loose : List Str} {G₀ : Heap} {dp un : Nat} {gd : Option (List Code)} {s : Shared} {E : Value → Shared → Prop} {Q : Flow → Shared → Prop} {L fa : Addr} {cd : Value} {S : Sto} {ps : Array Value} {cs ex more : List (Addr × Obj)} {c1 c2 c3 : Option Value} {c : LC} {sc : Scope} {gl nu ho to wv hv pc : Option Value}
theorem e6_take (G : Gnd w mean mg mb loose G₀) (hsc : sc = lawScope) {D : Addr} {n : Nat} {vals : List Value} (F : Fr G₀ L s.heap (lm c S.W S.Ol S.Dl gl nu (some (.ref D)) to wv hv pc)) (H : LS w.params G₀ L S ps cs c1 c2 c3 ex s.heap) (M : News G₀ L s.heap [(D, listOf vals.toArray n)]) (hv0 : vals ≠ []) (hsz : vals.length < 100)
    (h : ∀ tk, wpAny (model PR w) (AT dp (some [envOfC (Str.ofString "law") sc L fa cd]) gd un) (execs takeB (envOfC (Str.ofString "law") sc L fa cd)) Q E { s with toks := tk }) :
    wpAny (model PR w) (AT dp (some [envOfC (Str.ofString "law") sc L fa cd]) gd un) (exec (stm elseB 5) (envOfC (Str.ofString "law") sc L fa cd)) Q E s := by
  have zS0 : Mine.Stop "execs cons" := ⟨trivial⟩
  obtain ⟨KX, T⟩ := G
  obtain ⟨o1, o2, o3, Tl, hT, d1, d2, d3, N, t1, t2, t3⟩ := H.openM M (List.forall_mem_cons.mpr ⟨show (2 : Nat) ≠ 4 by decide, List.forall_mem_nil _⟩)
  conv in (stm elseB 5) => whnf
  conv at hsc => rhs; whnf
  subst hsc
  have zL : Mine.Stop "truthy ref" := ⟨trivial⟩
  k_steps
  refine Halt.mk ?_
  refine truthy_vals M (.head _) (by rw [sizeLine_eq]; ktu_offL) ?_
  rw [show vals.isEmpty = false from by cases vals with | nil => exact absurd rfl hv0 | cons _ _ => rfl]
  rw [Bool.not_false]
  k_steps
  refine Halt.mk ?_
  exact h _
theorem e6_none (G : Gnd w mean mg mb loose G₀) (hsc : sc = lawScope) {D : Addr} {n : Nat} (F : Fr G₀ L s.heap (lm c S.W S.Ol S.Dl gl nu (some (.ref D)) (some .none) wv hv (some .none))) (H : LS w.params G₀ L S ps cs c1 c2 c3 ex s.heap) (M : News G₀ L s.heap [(D, listOf ([] : List Value).toArray n)])
    (h : ∀ h' tk, Fr G₀ L h' (lm c S.W S.Ol S.Dl gl nu (some (.ref D)) (some .none) wv hv (some .none)) → LS w.params G₀ L S ps cs c1 c2 c3 ex h' → Q .next { s with heap := h', toks := tk }) :
    wpAny (model PR w) (AT dp (some [envOfC (Str.ofString "law") sc L fa cd]) gd un) (exec (stm elseB 5) (envOfC (Str.ofString "law") sc L fa cd)) Q E s := by
  have zS0 : Mine.Stop "execs cons" := ⟨trivial⟩
  obtain ⟨KX, T⟩ := G
  obtain ⟨o1, o2, o3, Tl, hT, d1, d2, d3, N, t1, t2, t3⟩ := H.openM M (List.forall_mem_cons.mpr ⟨show (2 : Nat) ≠ 4 by decide, List.forall_mem_nil _⟩)
  conv in (stm elseB 5) => whnf
  conv at hsc => rhs; whnf
  subst hsc
  k_steps
  refine Halt.mk ?_
  refine wpAny_execs_cons ?_
  k_steps
  exact h _ _ F H
end
section
variable {w : World} {mean : ExcName → Option Value} {mg mb : Str → Option Value} {loose : List Str} {G₀ : Heap} {dp un : Nat} {gd : Option (List Code)} {s : Shared} {E : Value → Shared → Prop} {Q : Flow → Shared → Prop} {L fa : Addr} {cd : Value} {S : Sto} {ps : Array Value} {cs ex more : List (Addr × Obj)} {c1 c2 c3 : Option Value} {c : LC} {sc : Scope} {gl nu ho to wv hv pc : Option Value}
theorem y_mem {c : LC} {S : Sto} {i : Nat} (hP : LP c S i) {y : Int} : y ∈ S.vs.map Pr.y ↔ y ∈ S.secs.map Gp.ln := by
  have hp2 : (S.vs.map Pr.y).Perm (S.secs.map Gp.ln) := by
    have := hP.perm.map Prod.snd
    simpa [List.map_map, Function.comp_def] using this
  exact hp2.mem_iff
theorem hld_ints (S : Sto) (len : Int) : IntsAre (hldV S len) ((S.vs.filter fun p => decide (len ≤ p.y)).map Pr.y) := ints_prs _
/-- the plain facts behind a piece that was taken -/
theorem LP.take {i j : Nat} (K : LF c) (hP : LP c S i) {gp : Gp} {len : Int} {ra rd : Addr} {r : Rc} {rem : List Gp} {S' : Sto} {u : Du} {t3 : Tok} {D : Addr} {ts tl' : Tok} (l0 : 0 < len) (g1 : S.secs[j]? = some gp) (g2 : len ≤ gp.ln) (g4 : On c.up c.X c.Y c.B gp.st len r) (g5 : r.rid = .int (S.pieces.length : Int) t3) (g6 : ∀ q ∈ rem, q.ok c.up c.X c.Y c.B) (g7 : rem.map gpOf = remOf gp.st gp.ln len) (g8 : rem.length ≤ 1)
    (e1 : S'.secs = S.secs.eraseIdx j ++ rem) (e2 : S'.pieces = S.pieces ++ [⟨ra, rd, r⟩]) (e3 : S'.os = S.os ++ [⟨D, gp.st, len, ts, tl', 0⟩]) (e4 : S'.ds = S.ds ++ [u]) (e5 : u.r = (r.x, r.y, r.w, r.h, (S.ds.length : Int))) (e6 : (S'.vs.map prOf).Perm ((S.vs.map prOf).filter (fun q => !decide (q = (gp.st, gp.ln))) ++ remOf gp.st gp.ln len)) : LP c S' (i + 1) := by
  have g1' : (S.secs.map gpOf)[j]? = some (gp.st, gp.ln) := by rw [List.getElem?_map, g1]; rfl
  have hm : (S.secs.eraseIdx j ++ rem).map gpOf = (S.secs.map gpOf).eraseIdx j ++ remOf gp.st gp.ln len := by rw [List.map_append, g7, map_erase]
  have hjl := (List.getElem?_eq_some_iff.mp g1).1
  have hel : (S.secs.eraseIdx j).length = S.secs.length - 1 := List.length_eraseIdx_of_lt hjl
  refine ⟨?_, ?_, ?_, ?_, ?_, ?_, ?_⟩
  · rw [e1]
    intro q hq
    rcases List.mem_append.mp hq with hq | hq
    · exact hP.ok q (List.mem_of_mem_eraseIdx hq)
    · exact g6 q hq
  · rw [e1, e3, hm, List.map_append]
    exact hP.line.take g1' l0 g2
  · rw [e1, hm]
    exact e6.trans (take_perm hP.perm hP.line.sep hP.line.pos g1')
  · rw [e1, e3]
    have := hP.len
    simp only [List.length_append, List.length_cons, List.length_nil, hel]
    exact lenA this (Nat.lt_of_le_of_lt (Nat.zero_le _) hjl) g8
  · rw [e2]
    have := hP.pl
    simp only [List.length_append, List.length_cons, List.length_nil]
    ktu_offL
  · rw [e2, e4]
    have := hP.dl
    simp only [List.length_append, List.length_cons, List.length_nil]
    ktu_offL
  · rw [e2, e4]
    intro k p v hp hv
    rcases Nat.lt_or_ge k S.pieces.length with hk | hk
    · rw [List.getElem?_append_left hk] at hp
      rw [List.getElem?_append_left (by rw [hP.dl]; exact hk)] at hv
      exact hP.due k p v hp hv
    · have hk' : k = S.pieces.length := by
        have := (List.getElem?_eq_some_iff.mp hp).1
        simp only [List.length_append, List.length_cons, List.length_nil] at this
        ktu_offL
      subst hk'
      rw [List.getElem?_append_right (Nat.le_refl _)] at hp
      rw [← hP.dl, List.getElem?_append_right (Nat.le_refl _)] at hv
      simp only [Nat.sub_self, List.getElem?_cons_zero, Option.some.injEq] at hp hv
      subst hp hv
      rw [e5, hP.dl]
      exact ⟨rfl, t3, g5⟩
theorem take_step (G : Gnd w mean mg mb loose G₀) (CH : CodeHd G₀ 364 360) (K : LF c) (hsc : sc = lawScope) {num : Int} {tn : Tok} {i : Nat} (F : Fr G₀ L s.heap (lm c S.W S.Ol S.Dl (some (.ref S.Gl)) (some (.int num tn)) ho to wv hv pc)) (H : LS w.params G₀ L S ps cs c1 c2 c3 ex s.heap) (hP : LP c S i) (hi : i < 40)
    (hd : dp + 100 < recursionLimit) (hu : un + 1000 < cLine) (hA : AllBare s.gens)
    (h : ∀ h' tk gs S' ps' cs' d1 d2 d3 ho' to' wv' hv' pc', S'.W = S.W → S'.Ol = S.Ol → S'.Dl = S.Dl → S'.ax = S.ax → S'.items = S.items → S'.nx = S.nx → Fr G₀ L h' (lm c S'.W S'.Ol S'.Dl (some (.ref S'.Gl)) (some (.int num tn)) ho' to' wv' hv' pc') → LS w.params G₀ L S' ps' cs' d1 d2 d3 ex h' → LP c S' (i + 1) → AllBare gs → Q .next { s with heap := h', toks := tk, gens := gs }) :
    wpAny (model PR w) (AT dp (some [envOfC (Str.ofString "law") sc L fa cd]) gd un) (execs elseB (envOfC (Str.ofString "law") sc L fa cd)) Q E s := by
  have hlen := hP.len
  have hvl : S.vs.length = S.secs.length := by simpa using hP.perm.length_eq
  have hWM := K.hWM
  have k2 : ∀ {D : Addr} {xs : Array Value} {n : Nat} {p : Nat}, (2 : Nat) ≠ p → ∀ q ∈ [(D, listOf xs n)], knd q.2 ≠ p := fun h => List.forall_mem_cons.mpr ⟨h, List.forall_mem_nil _⟩
  show wpAny _ _ (execs [stm elseB 0, stm elseB 1, stm elseB 2, stm elseB 3, stm elseB 4, stm elseB 5] _) _ _ _
  refine wpAny_execs_cons ?_
  refine e1_step G K hsc F H fun h1 tk1 len t1 l0 lW F1 H1 => ?_
  refine wpAny_execs_cons ?_
  refine e2_step G hsc F1 H1 (by ktu_offL) fun h2 tk2 D n F2 H2 M2 o2 => ?_
  refine wpAny_execs_cons ?_
  refine e3_step G CH K hsc F2 H2 M2 (k2 (by decide)) (k2 (by decide)) hP.ok hP.line (by ktu_offL) l0 (by ktu_offL) hd hu hA fun v h3 tk3 gs3 ps3 cs3 F3 H3 M3 A3 hT => ?_
  refine wpAny_execs_cons ?_
  refine e4_step G hsc F3 H3 M3 (k2 (by decide)) fun h4 tk4 wd hg t4 t5 hdim F4 H4 M4 => ?_
  refine wpAny_execs_cons ?_
  have hoD : ∀ q ∈ S.led w.params, q.1 ≠ D := fun q hq => o2 q (List.mem_append_left _ hq)
  refine e5_step G CH K hsc F4 H4 M4 (k2 (by decide)) (k2 (by decide)) (List.forall_mem_cons.mpr ⟨not_mem3 (hoD _ Sto.mdW).symm (hoD _ Sto.mls).symm (hoD _ Sto.mlr).symm, List.forall_mem_nil _⟩) hP.ok hP.line (by ktu_offL) (by have := hP.pl; ktu_offL) hP.dl hdim l0 (by ktu_offL) hd hu A3 (fun h5 tk5 gs5 ps5 cs5 F5 H5 M5 A5 hno => ?_) (fun h5 tk5 gs5 ps5 cs5 ra rd r ls' n' np' j gp rem t3 F5 H5 M5 A5 g1 g2 g3 g4 g5 g6 g7 g8 => ?_)
  · have hv : v = .none := by
      rcases hT with ⟨m, t, hm, hl, _⟩ | ⟨e, _⟩
      · obtain ⟨q, hq, rfl⟩ := List.mem_map.mp hm
        have := hno q hq
        ktu_offL
      · exact e
    rw [hv] at F5
    have he : hldV S len = [] := by
      have : (S.vs.filter fun p => decide (len ≤ p.y)) = [] := List.filter_eq_nil_iff.mpr fun p hp => by
        obtain ⟨q, hq, e⟩ := List.mem_map.mp ((y_mem hP).mp (List.mem_map_of_mem hp))
        have := hno q hq
        simp only [decide_eq_true_eq]
        ktu_offL
      unfold hldV
      rw [this]
      rfl
    rw [he] at M5
    refine wpAny_execs_cons ?_
    refine e6_none G hsc F5 H5 M5 fun h6 tk6 F6 H6 => ?_
    refine wpAny_execs_nil ?_
    exact h _ _ _ S _ _ _ _ _ _ _ _ _ _ rfl rfl rfl rfl rfl rfl F6 H6 ⟨hP.ok, hP.line, hP.perm, by have := hP.len; ktu_offL, by have := hP.pl; ktu_offL, hP.dl, hP.due⟩ A5
  · have hgp : gp ∈ S.secs := List.mem_of_getElem? g1
    have hgm : gp.ln ∈ S.secs.map Gp.ln := List.mem_map_of_mem hgp
    obtain ⟨t, hv⟩ : ∃ t, v = .int (c.B * (gp.ln - len)) t := by
      rcases hT with ⟨m, t, hm, hl, hmin, e⟩ | ⟨_, hno⟩
      · obtain ⟨q, hq, rfl⟩ := List.mem_map.mp hm
        have a := g3 q hq hl
        have b := hmin _ hgm g2
        exact ⟨t, by rw [e, show q.ln = gp.ln by ktu_offL]⟩
      · have := hno _ hgm
        ktu_offL
    rw [hv] at F5
    have hyf : ∀ y, y ∈ (S.vs.filter fun p => decide (len ≤ p.y)).map Pr.y ↔ y ∈ S.secs.map Gp.ln ∧ len ≤ y := fun y => by
      rw [← y_mem hP]
      constructor
      · intro hy
        obtain ⟨p, hp, rfl⟩ := List.mem_map.mp hy
        obtain ⟨a, b⟩ := List.mem_filter.mp hp
        exact ⟨List.mem_map_of_mem a, of_decide_eq_true b⟩
      · rintro ⟨hy, hl⟩
        obtain ⟨p, hp, rfl⟩ := List.mem_map.mp hy
        exact List.mem_map_of_mem (List.mem_filter.mpr ⟨hp, decide_eq_true hl⟩)
    have hgf := (hyf _).mpr ⟨hgm, g2⟩
    have hfl : (S.vs.filter fun p => decide (len ≤ p.y)).length ≤ S.vs.length := List.length_filter_le ..
    have hpos : 0 < ((S.vs.filter fun p => decide (len ≤ p.y)).map Pr.y).length := List.length_pos_of_mem hgf
    refine wpAny_execs_cons ?_
    refine e6_take (S := { S with ls := ls', n := n', np := np', secs := S.secs.eraseIdx j ++ rem, pieces := S.pieces ++ [⟨ra, rd, r⟩] }) G hsc F5 H5 M5 (fun e => ?_) (by unfold hldV; rw [List.length_map]; ktu_offL) fun tk6 => ?_
    · have : (hldV S len).length = 0 := by rw [e]; rfl
      unfold hldV at this
      rw [List.length_map] at this hpos
      ktu_offL
    show wpAny _ _ (execs [stm takeB 0, stm takeB 1, stm takeB 2, stm takeB 3, stm takeB 4, stm takeB 5, stm takeB 6] _) _ _ _
    refine wpAny_execs_cons ?_
    refine s0_step (S := { S with ls := ls', n := n', np := np', secs := S.secs.eraseIdx j ++ rem, pieces := S.pieces ++ [⟨ra, rd, r⟩] }) G hsc F5 H5 M5 (hld_ints S len) hpos fun h7 tk7 b t7 hb1 hb2 F7 H7 => ?_
    have hb : b = gp.ln := by
      obtain ⟨hb1, hb3⟩ := (hyf b).mp hb1
      obtain ⟨q, hq, rfl⟩ := List.mem_map.mp hb1
      have a := g3 q hq hb3
      have := hb2 _ hgf
      ktu_offL
    rw [hb] at H7
    have hle := line_le hP.line gp hgp
    refine wpAny_execs_cons ?_
    refine s1_step (S := { S with ls := ls', n := n', np := np', secs := S.secs.eraseIdx j ++ rem, pieces := S.pieces ++ [⟨ra, rd, r⟩] }) G hsc F7 H7 (K.hM _ _ (Int.le_of_lt K.hB) K.hBM (by ktu_offL) (by ktu_offL)) fun h8 tk8 F8 H8 => ?_
    refine wpAny_execs_cons ?_
    refine s2_step G hsc (List.mem_append_right _ (.head _)) g4 F8 H8 fun h9 tk9 t9 F9 H9 => ?_
    refine wpAny_execs_cons ?_
    refine s3_step (S := { S with ls := ls', n := n', np := np', secs := S.secs.eraseIdx j ++ rem, pieces := S.pieces ++ [⟨ra, rd, r⟩] }) G hsc F9 H9 ?_ (by ktu_offL) fun h10 tk10 F10 H10 => ?_
    · show (gp.st, gp.ln) ∈ S.vs.map prOf
      exact hP.perm.mem_iff.mpr (List.mem_map_of_mem (f := gpOf) hgp)
    refine wpAny_execs_cons ?_
    refine s4_step (S := { S with ls := ls', n := n', np := np', secs := S.secs.eraseIdx j ++ rem, pieces := S.pieces ++ [⟨ra, rd, r⟩] }) G hsc F10 H10 (show S.vs.length < 50 by ktu_offL) (by ktu_offL) fun h11 tk11 R vs' n11 F11 H11 hperm => ?_
    refine wpAny_execs_cons ?_
    refine s5_step (S := { S with ls := ls', n := n', np := np', secs := S.secs.eraseIdx j ++ rem, pieces := S.pieces ++ [⟨ra, rd, r⟩], Gl := R, ng := n11, vs := vs' }) G hsc F11 H11 (show S.os.length < 100 by ktu_offL) fun h12 tk12 D12 n12 F12 H12 => ?_
    refine wpAny_execs_cons ?_
    refine s6_step (S := { S with ls := ls', n := n', np := np', secs := S.secs.eraseIdx j ++ rem, pieces := S.pieces ++ [⟨ra, rd, r⟩], Gl := R, ng := n11, vs := vs', os := S.os ++ [⟨D12, gp.st, len, t9, t1, 0⟩], no := n12 }) G hsc F12 H12 (show S.ds.length < 100 by have := hP.pl; have := hP.dl; ktu_offL) fun h13 tk13 u n13 hu13 F13 H13 => ?_
    refine wpAny_execs_nil ?_
    refine wpAny_execs_nil ?_
    refine h _ _ _ { S with ls := ls', n := n', np := np', secs := S.secs.eraseIdx j ++ rem, pieces := S.pieces ++ [⟨ra, rd, r⟩], Gl := R, ng := n11, vs := vs', os := S.os ++ [⟨D12, gp.st, len, t9, t1, 0⟩], no := n12, ds := S.ds ++ [u], nd := n13 } _ _ _ _ _ _ _ _ _ _ ?_ ?_ ?_ ?_ ?_ ?_ F13 H13 (LP.take K hP l0 g1 g2 g4 g5 g6 g7 g8 rfl rfl rfl rfl ?_ hperm) A5
    iterate 6 rfl
    rw [hu13]
    cases hup : c.up with
    | true =>
      rw [hup] at g4 hdim
      obtain ⟨a1, a2, a3, a4⟩ := g4
      obtain ⟨z1, z2⟩ := hdim
      rw [if_pos rfl, a1, a2, a3, a4, z1, z2]
    | false =>
      rw [hup] at g4 hdim
      obtain ⟨a1, a2, a3, a4⟩ := g4
      obtain ⟨z1, z2⟩ := hdim
      rw [if_neg (by decide), a1, a2, a3, a4, z1, z2]
end
end Mine

namespace Mine
open PyProof.Rows.TI (Frs SameUp gone)
section
variable {w : World} {mean : ExcName → Option Value} {mg mb : Str → Option Value} {loose : List Str} {G₀ : Heap} {dp un : Nat} {gd : Option (List Code)} {s : Shared} {E : Value → Shared → Prop} {Q : Flow → Shared → Prop} {L fa : Addr} {cd : Value} {S : Sto} {ps : Array Value} {cs ex more : List (Addr × Obj)} {c1 c2 c3 : Option Value} {c : LC} {sc : Scope} {gl nu ho to wv hv pc : Option Value}
theorem g0_step (G : Gnd w mean mg mb loose G₀) (hsc : sc = lawScope) {num : Int} {tn : Tok} (F : Fr G₀ L s.heap (lm c S.W S.Ol S.Dl gl (some (.int num tn)) ho to wv hv pc)) (H : LS w.params G₀ L S ps cs c1 c2 c3 ex s.heap) (h0 : 0 < S.os.length) (hsz : S.os.length < 100)
    (h : ∀ h' tk j n' p, S.os[j]? = some p → Fr G₀ L h' (lm c S.W S.Ol S.Dl gl (some (.int num tn)) ho to wv hv pc) → LS w.params G₀ L { S with os := S.os.eraseIdx j, no := n' } ps cs (some (.int p.x p.tx)) (some (.int p.y p.ty)) c3 ex h' → Q .next { s with heap := h', toks := tk }) :
    wpAny (model PR w) (AT dp (some [envOfC (Str.ofString "law") sc L fa cd]) gd un) (exec (stm thenB 0) (envOfC (Str.ofString "law") sc L fa cd)) Q E s := by
  have zS0 : Mine.Stop "call ref" := ⟨trivial⟩
  have zS1 : Mine.Stop "call builtin:len" := ⟨trivial⟩
  have zS2 : Mine.Stop "call builtin:list.pop" := ⟨trivial⟩
  obtain ⟨KX, T⟩ := G
  obtain ⟨o1, o2, o3, Tl, hT, d1, d2, d3, N, t1, t2, t3⟩ := H.open
  have N2 : News G₀ L s.heap ((S.Ol, listOf (prs S.os).toArray S.no) :: (L + 1 + 1 + 1, o3) :: (L + 1 + 1, o2) :: (L + 1, o1) :: Tl) := List.forall_mem_cons.mpr ⟨H.N _ Sto.mOl, N⟩
  clear N
  conv in (stm thenB 0) => whnf
  conv at hsc => rhs; whnf
  subst hsc
  have es : (((prs S.os).toArray.size : Nat) : Int) = (S.os.length : Int) := by simp
  have hz : (S.os.length : Int) ≠ 0 := by ktu_offL
  k_steps
  refine Halt.mk ?_
  refine len_list (items := (prs S.os).toArray) ⟨_, (H.N _ Sto.mOl).1, rfl, S.no, rfl⟩ (by simp; ktu_offL) ?_
  rw [es]
  k_steps
  refine Halt.mk ?_
  obtain ⟨j, hj, hjl⟩ : ∃ j : Nat, (-num).fmod (S.os.length : Int) = (j : Int) ∧ j < S.os.length := by
    rw [Int.fmod_eq_emod_of_nonneg _ (by ktu_offL)]
    refine ⟨((-num) % (S.os.length : Int)).toNat, ?_, ?_⟩
    · have := Int.emod_nonneg (-num) hz
      ktu_offL
    · have := Int.emod_nonneg (-num) hz
      have := Int.emod_lt_of_pos (-num) (show (0 : Int) < S.os.length by ktu_offL)
      ktu_offL
  have hp : S.os[j]? = some S.os[j] := List.getElem?_eq_getElem hjl
  generalize S.os[j] = p at hp
  have hpm := List.mem_of_getElem? hp
  refine pop_prs (os := S.os) (H.N _ Sto.mOl).1 hj hp (by ktu_offL) (fun h₅ n' hs₅ hl₅ => ?_)
  have hpo := H.N _ (Sto.mos hpm)
  have hp5 : h₅.get? p.a = some (seqObj "tuple" #[.int p.x p.tx, .int p.y p.ty] p.n) ∧ p.a ≠ L ∧ G₀.get? p.a = none := ⟨(hs₅.2 _ (ne_tup hpo.1 rfl (H.N _ Sto.mOl).1 rfl)).trans hpo.1, hpo.2⟩
  have F5 := Fr.same F hs₅ (H.N _ Sto.mOl).2
  have H5 := H.setOl (os' := S.os.eraseIdx j) (n' := n') hs₅ hl₅ (fun q hq => H.N _ (Sto.mos (List.mem_of_mem_eraseIdx hq)))
  clear F N2 hs₅ hl₅ t1 t2 t3 hT
  obtain ⟨o1, o2, o3, Tl, hT, d1, d2, d3, N, t1, t2, t3⟩ := H5.open
  have nc : ∀ {a : Addr} {o : Obj} {v : Option Value}, h₅.get? a = some o → o.data = .cell v → @Ne Nat p.a a := fun {a o v} ha ho => ne_knd hp5.1 ha (by
    have e : knd o = 4 := by unfold knd; rw [ho]
    rw [e]; exact (show (2 : Nat) ≠ 4 by decide))
  have n1 := nc (N _ (.tail _ (.tail _ (.head _)))).1 d1
  have n2 := nc (N _ (.tail _ (.head _))).1 d2
  have N2 : News G₀ L h₅ ((p.a, seqObj "tuple" #[.int p.x p.tx, .int p.y p.ty] p.n) :: (L + 1 + 1 + 1, o3) :: (L + 1 + 1, o2) :: (L + 1, o1) :: Tl) := List.forall_mem_cons.mpr ⟨hp5, N⟩
  clear N nc
  k_steps
  (with_reducible rename News _ _ _ _ => N1)
  (with_reducible rename Fr _ _ _ _ => F1)
  (with_reducible rename (_ = Data.cell (some (Value.int p.x _))) => e1)
  (with_reducible rename (_ = Data.cell (some (Value.int p.y _))) => e2)
  have HH := H5.close hT N1 e1 e2 d3 (.tail _ (.tail _ (.tail _ (.head _)))) (.tail _ (.tail _ (.head _))) (.tail _ (.head _)) fun q hq => .tail _ (.tail _ (.tail _ (.tail _ hq)))
  exact h _ _ j n' p hp F1 HH
theorem g1_gen {p1 p2 p3 p4 p5 p6 p7 p8 p9 p10 p11 : Pos} (G : Gnd w mean mg mb loose G₀) (hsc : sc = lawScope) (hB : 0 < c.B) {st ln : Int} {ts tl' : Tok} (F : Fr G₀ L s.heap (lm c S.W S.Ol S.Dl gl nu ho to wv hv pc)) (H : LS w.params G₀ L S ps cs (some (.int st ts)) (some (.int ln tl')) c3 ex s.heap)
    (ok : ∀ q ∈ S.secs, q.ok c.up c.X c.Y c.B) (sep : (S.secs.map gpOf).Pairwise ApartQ) (free : ∀ q ∈ S.secs.map gpOf, OffQ q (st, ln)) (hln : 0 < ln) (hsz : S.secs.length < 100) (hd : dp + 100 < recursionLimit) (hu : un + 1000 < cLine)
    (h : ∀ h' tk ls' n' g', Fr G₀ L h' (lm c S.W S.Ol S.Dl gl nu ho to wv hv pc) → LS w.params G₀ L { S with ls := ls', n := n', secs := (pass st ln S.secs).2.2 ++ [g'] } ps cs (some (.int st ts)) (some (.int ln tl')) c3 ex h' → g'.ok c.up c.X c.Y c.B → (∀ q ∈ (pass st ln S.secs).2.2, q ∈ S.secs) →
      ((pass st ln S.secs).2.2 ++ [g']).map gpOf = (qpass st ln (S.secs.map gpOf)).2.2 ++ [((qpass st ln (S.secs.map gpOf)).1, (qpass st ln (S.secs.map gpOf)).2.1)] → (pass st ln S.secs).2.2.length ≤ S.secs.length → Q .next { s with heap := h', toks := tk }) :
    wpAny (model PR w) (AT dp (some [envOfC (Str.ofString "law") sc L fa cd]) gd un) (exec (Stmt.Expr (Expr.Call (Expr.Name (Str.ofString "_law_give") p1) [Expr.Name (Str.ofString "store") p2, Expr.Name (Str.ofString "upright") p3, Expr.Tuple [Expr.Name (Str.ofString "x") p4, Expr.Name (Str.ofString "y") p5] 0 p6, Expr.Name (Str.ofString "broad") p7, Expr.Name (Str.ofString "start") p8, Expr.Name (Str.ofString "length") p9] [] p10) p11) (envOfC (Str.ofString "law") sc L fa cd)) Q E s := by
  have zS0 : Mine.Stop "call ref" := ⟨trivial⟩
  have zS1 : Mine.Stop "call builtin:len" := ⟨trivial⟩
  have zS2 : Mine.Stop "call builtin:list.pop" := ⟨trivial⟩
  have GT := G
  obtain ⟨KX, T⟩ := G
  obtain ⟨o1, o2, o3, Tl, hT, d1, d2, d3, N, t1, t2, t3⟩ := H.open
  conv at hsc => rhs; whnf
  subst hsc
  k_steps
  refine Halt.mk ?_
  (with_reducible rename News _ _ _ _ => N1)
  (with_reducible rename Fr _ _ _ _ => F1)
  have HH := H.close hT N1 d1 d2 d3 (.tail _ (.tail _ (.tail _ (.head _)))) (.tail _ (.tail _ (.head _))) (.tail _ (.head _)) fun q hq => .tail _ (.tail _ (.tail _ (.tail _ hq)))
  have hD := N1 _ (.head _)
  clear N1
  refine give_law (c := c) GT F1 HH hB ok sep free hln hsz hD.1 hD.2.2 (by ktu_offL) (by ktu_offL) fun h' tk ls' n' g' F' H' a1 a2 a3 a4 => ?_
  clear F1 HH
  obtain ⟨o1, o2, o3, Tl, hT, d1, d2, d3, N, t1, t2, t3⟩ := H'.open
  k_steps
  exact h _ _ ls' n' g' F' H' a1 a2 a3 a4
theorem g1_step (G : Gnd w mean mg mb loose G₀) (hsc : sc = lawScope) (hB : 0 < c.B) {st ln : Int} {ts tl' : Tok} (F : Fr G₀ L s.heap (lm c S.W S.Ol S.Dl gl nu ho to wv hv pc)) (H : LS w.params G₀ L S ps cs (some (.int st ts)) (some (.int ln tl')) c3 ex s.heap)
    (ok : ∀ q ∈ S.secs, q.ok c.up c.X c.Y c.B) (sep : (S.secs.map gpOf).Pairwise ApartQ) (free : ∀ q ∈ S.secs.map gpOf, OffQ q (st, ln)) (hln : 0 < ln) (hsz : S.secs.length < 100) (hd : dp + 100 < recursionLimit) (hu : un + 1000 < cLine)
    (h : ∀ h' tk ls' n' g', Fr G₀ L h' (lm c S.W S.Ol S.Dl gl nu ho to wv hv pc) → LS w.params G₀ L { S with ls := ls', n := n', secs := (pass st ln S.secs).2.2 ++ [g'] } ps cs (some (.int st ts)) (some (.int ln tl')) c3 ex h' → g'.ok c.up c.X c.Y c.B → (∀ q ∈ (pass st ln S.secs).2.2, q ∈ S.secs) →
      ((pass st ln S.secs).2.2 ++ [g']).map gpOf = (qpass st ln (S.secs.map gpOf)).2.2 ++ [((qpass st ln (S.secs.map gpOf)).1, (qpass st ln (S.secs.map gpOf)).2.1)] → (pass st ln S.secs).2.2.length ≤ S.secs.length → Q .next { s with heap := h', toks := tk }) :
    wpAny (model PR w) (AT dp (some [envOfC (Str.ofString "law") sc L fa cd]) gd un) (exec (stm thenB 1) (envOfC (Str.ofString "law") sc L fa cd)) Q E s := by
  conv in (stm thenB 1) => whnf
  exact g1_gen G hsc hB F H ok sep free hln hsz hd hu h
theorem g2_step (G : Gnd w mean mg mb loose G₀) (hsc : sc = lawScope) {st ln : Int} {ts tl' : Tok} (F : Fr G₀ L s.heap (lm c S.W S.Ol S.Dl (some (.ref S.Gl)) nu ho to wv hv pc)) (H : LS w.params G₀ L S ps cs (some (.int st ts)) (some (.int ln tl')) c3 ex s.heap) (hsz : S.vs.length < 60) (hd : dp + 100 < recursionLimit) (hu : un + 1000 < cLine)
    (h : ∀ h' tk R vs' n', Fr G₀ L h' (lm c S.W S.Ol S.Dl (some (.ref R)) nu ho to wv hv pc) → LS w.params G₀ L { S with Gl := R, ng := n', vs := vs' } ps cs (some (.int st ts)) (some (.int ln tl')) c3 ex h' → (vs'.map prOf).Perm ((qpass st ln (S.vs.map prOf)).2.2 ++ [((qpass st ln (S.vs.map prOf)).1, (qpass st ln (S.vs.map prOf)).2.1)]) → Q .next { s with heap := h', toks := tk }) :
    wpAny (model PR w) (AT dp (some [envOfC (Str.ofString "law") sc L fa cd]) gd un) (exec (stm thenB 2) (envOfC (Str.ofString "law") sc L fa cd)) Q E s := by
  have zS0 : Mine.Stop "call ref" := ⟨trivial⟩
  have zS1 : Mine.Stop "call builtin:len" := ⟨trivial⟩
  have zS2 : Mine.Stop "call builtin:list.pop" := ⟨trivial⟩
  have GT := G
  obtain ⟨KX, T⟩ := G
  obtain ⟨o1, o2, o3, Tl, hT, d1, d2, d3, N, t1, t2, t3⟩ := H.open
  conv in (stm thenB 2) => whnf
  conv at hsc => rhs; whnf
  subst hsc
  k_steps
  refine Halt.mk ?_
  refine joined_law GT F H hsz (by ktu_offL) (by ktu_offL) fun h' tk R vs' n' F' H' hp => ?_
  clear F N
  obtain ⟨o1, o2, o3, Tl, hT, d1, d2, d3, N, t1, t2, t3⟩ := H'.open
  k_steps
  (with_reducible rename News _ _ _ _ => N1)
  (with_reducible rename Fr _ _ _ _ => F1)
  rw [lm_gl] at F1
  exact h _ _ R vs' n' F1 (H'.close hT N1 d1 d2 d3 (.tail _ (.tail _ (.head _))) (.tail _ (.head _)) (.head _) fun q hq => .tail _ (.tail _ (.tail _ hq))) hp
end
end Mine

namespace Mine
open PyProof.Rows.TI (Frs SameUp gone)
section
variable {w : World} {mean : ExcName → Option Value} {mg mb : Str → Option Value} {loose : List Str} {G₀ : Heap} {dp un : Nat} {gd : Option (List Code)} {s : Shared} {E : Value → Shared → Prop} {Q : Flow → Shared → Prop} {L fa : Addr} {cd : Value} {S : Sto} {ps : Array Value} {cs ex more : List (Addr × Obj)} {c1 c2 c3 : Option Value} {c : LC} {sc : Scope} {gl nu ho to wv hv pc : Option Value}
theorem give_step (G : Gnd w mean mg mb loose G₀) (K : LF c) (hsc : sc = lawScope) {num : Int} {tn : Tok} {i : Nat} (F : Fr G₀ L s.heap (lm c S.W S.Ol S.Dl (some (.ref S.Gl)) (some (.int num tn)) ho to wv hv pc)) (H : LS w.params G₀ L S ps cs c1 c2 c3 ex s.heap) (hP : LP c S i) (hi : i < 40) (h0 : 0 < S.os.length)
    (hd : dp + 100 < recursionLimit) (hu : un + 1000 < cLine)
    (h : ∀ h' tk S' d1 d2 d3, S'.W = S.W → S'.Ol = S.Ol → S'.Dl = S.Dl → S'.ax = S.ax → S'.items = S.items → S'.nx = S.nx → Fr G₀ L h' (lm c S'.W S'.Ol S'.Dl (some (.ref S'.Gl)) (some (.int num tn)) ho to wv hv pc) → LS w.params G₀ L S' ps cs d1 d2 d3 ex h' → LP c S' (i + 1) → Q .next { s with heap := h', toks := tk }) :
    wpAny (model PR w) (AT dp (some [envOfC (Str.ofString "law") sc L fa cd]) gd un) (execs thenB (envOfC (Str.ofString "law") sc L fa cd)) Q E s := by
  have hlen := hP.len
  have hvl : S.vs.length = S.secs.length := by simpa using hP.perm.length_eq
  show wpAny _ _ (execs [stm thenB 0, stm thenB 1, stm thenB 2] _) _ _ _
  refine wpAny_execs_cons ?_
  refine g0_step G hsc F H h0 (by ktu_offL) fun h1 tk1 j n1 p hp F1 H1 => ?_
  have hpq : (S.os.map prOf)[j]? = some (p.x, p.y) := by rw [List.getElem?_map, hp]; rfl
  have hpm : (p.x, p.y) ∈ S.os.map prOf := List.mem_of_getElem? hpq
  have l0 : 0 < p.y := hP.line.posO _ hpm
  have free : ∀ q ∈ S.secs.map gpOf, OffQ q (p.x, p.y) := fun q hq => hP.line.free _ hpm q hq
  refine wpAny_execs_cons ?_
  refine g1_step (S := { S with os := S.os.eraseIdx j, no := n1 }) G hsc K.hB F1 H1 hP.ok hP.line.sep free l0 (show S.secs.length < 100 by ktu_offL) hd hu fun h2 tk2 ls' n2 g' F2 H2 a1 a2 a3 a4 => ?_
  refine wpAny_execs_cons ?_
  refine g2_step (S := { S with os := S.os.eraseIdx j, no := n1, ls := ls', n := n2, secs := (pass p.x p.y S.secs).2.2 ++ [g'] }) G hsc F2 H2 (show S.vs.length < 60 by ktu_offL) hd hu fun h3 tk3 R vs' n3 F3 H3 hperm => ?_
  refine wpAny_execs_nil ?_
  have hjl := (List.getElem?_eq_some_iff.mp hp).1
  have hel : (S.os.eraseIdx j).length = S.os.length - 1 := List.length_eraseIdx_of_lt hjl
  refine h _ _ { S with os := S.os.eraseIdx j, no := n1, ls := ls', n := n2, secs := (pass p.x p.y S.secs).2.2 ++ [g'], Gl := R, ng := n3, vs := vs' } _ _ _ rfl rfl rfl rfl rfl rfl F3 H3 ⟨fun q hq => ?_, ?_, ?_, ?_, ?_, hP.dl, hP.due⟩
  · rcases List.mem_append.mp hq with hq | hq
    · exact hP.ok q (a2 q hq)
    · rw [List.mem_singleton.mp hq]; exact a1
  · show Line c.Wh (((pass p.x p.y S.secs).2.2 ++ [g']).map gpOf) ((S.os.eraseIdx j).map prOf)
    rw [a3, ← map_erase]
    exact hP.line.give hpq
  · show (vs'.map prOf).Perm (((pass p.x p.y S.secs).2.2 ++ [g']).map gpOf)
    rw [a3]
    exact hperm.trans (qpass_perm hP.perm.symm hP.line.sep hP.line.pos free l0)
  · show ((pass p.x p.y S.secs).2.2 ++ [g']).length + (S.os.eraseIdx j).length ≤ 1 + (i + 1)
    have a4' : (pass p.x p.y S.secs).2.2.length ≤ S.secs.length := a4
    simp only [List.length_append, List.length_cons, List.length_nil, hel]
    exact Nat.le_succ_of_le (lenB hP.len h0 a4')
  · have := hP.pl
    show S.pieces.length ≤ i + 1
    ktu_offL
end
section
variable {w : World} {mean : ExcName → Option Value} {mg mb : Str → Option Value} {loose : List Str} {G₀ : Heap} {dp un : Nat} {gd : Option (List Code)} {s : Shared} {E : Value → Shared → Prop} {Q : Flow → Shared → Prop} {L fa : Addr} {cd : Value} {S : Sto} {ps : Array Value} {cs ex more : List (Addr × Obj)} {c1 c2 c3 : Option Value} {c : LC} {sc : Scope} {gl nu ho to wv hv pc : Option Value}
theorem deed_step (G : Gnd w mean mg mb loose G₀) (CH : CodeHd G₀ 364 360) (K : LF c) (hsc : sc = lawScope) {num : Int} {tn : Tok} {i : Nat} (F : Fr G₀ L s.heap (lm c S.W S.Ol S.Dl (some (.ref S.Gl)) (some (.int num tn)) ho to wv hv pc)) (H : LS w.params G₀ L S ps cs c1 c2 c3 ex s.heap) (hP : LP c S i) (hi : i < 40)
    (hd : dp + 100 < recursionLimit) (hu : un + 1000 < cLine) (hA : AllBare s.gens)
    (h : ∀ h' tk gs S' ps' cs' d1 d2 d3 ho' to' wv' hv' pc', S'.W = S.W → S'.Ol = S.Ol → S'.Dl = S.Dl → S'.ax = S.ax → S'.items = S.items → S'.nx = S.nx → Fr G₀ L h' (lm c S'.W S'.Ol S'.Dl (some (.ref S'.Gl)) (some (.int num tn)) ho' to' wv' hv' pc') → LS w.params G₀ L S' ps' cs' d1 d2 d3 ex h' → LP c S' (i + 1) → AllBare gs → Q .next { s with heap := h', toks := tk, gens := gs }) :
    wpAny (model PR w) (AT dp (some [envOfC (Str.ofString "law") sc L fa cd]) gd un) (exec (stm forBody 0) (envOfC (Str.ofString "law") sc L fa cd)) Q E s := by
  have zS0 : Mine.Stop "execs cons" := ⟨trivial⟩
  have zS1 : Mine.Stop "call ref" := ⟨trivial⟩
  have zS2 : Mine.Stop "truthy ref" := ⟨trivial⟩
  have GT := G
  have F₀ := F
  obtain ⟨KX, T⟩ := G
  obtain ⟨o1, o2, o3, Tl, hT, d1, d2, d3, N, t1, t2, t3⟩ := H.open
  conv in (stm forBody 0) => whnf
  have hsc' := hsc
  conv at hsc => rhs; whnf
  subst hsc
  k_steps
  · refine Halt.mk ?_
    refine truthy_vals (xs := prs S.os) H.N Sto.mOl (by have := hP.len; rw [sizeLine_eq, List.length_map]; ktu_offL) ?_
    by_cases hos : S.os = []
    · rw [show (prs S.os).isEmpty = true by rw [hos]; rfl, Bool.not_true]
      k_steps
      refine Halt.mk ?_
      exact take_step (s := ⟨s.heap, s.gens, s.drawn, _, s.os⟩) GT CH K hsc' F₀ H hP hi hd hu hA h
    · have h0 : 0 < S.os.length := List.length_pos_iff.mpr hos
      rw [show (prs S.os).isEmpty = false by cases e : S.os with | nil => exact absurd e hos | cons _ _ => rfl, Bool.not_false]
      k_steps
      refine Halt.mk ?_
      exact give_step (s := ⟨s.heap, s.gens, s.drawn, _, s.os⟩) GT K hsc' F₀ H hP hi h0 hd hu fun h' tk S' d1 d2 d3 a1 a2 a3 a4 a5 a6 F' H' hP' => h h' tk s.gens S' ps cs d1 d2 d3 ho to wv hv pc a1 a2 a3 a4 a5 a6 F' H' hP' hA
  · refine Halt.mk ?_
    exact take_step (s := ⟨s.heap, s.gens, s.drawn, _, s.os⟩) GT CH K hsc' F₀ H hP hi hd hu hA h
/-- the law looks at the store behind each deed -/
theorem look_step (G : Gnd w mean mg mb loose G₀) (CH : CodeHd G₀ 364 360) (K : LF c) (hsc : sc = lawScope) {i : Nat} (F : Fr G₀ L s.heap (lm c S.W S.Ol S.Dl (some (.ref S.Gl)) nu ho to wv hv pc)) (H : LS w.params G₀ L S ps cs c1 c2 c3 ex s.heap) (hP : LP c S i) (hi : i < 40)
    (hd : dp + 100 < recursionLimit) (hu : un + 1000 < cLine) (hA : AllBare s.gens)
    (h : ∀ h' tk gs ps' cs', Fr G₀ L h' (lm c S.W S.Ol S.Dl (some (.ref S.Gl)) nu ho to wv hv pc) → LS w.params G₀ L S ps' cs' c1 c2 c3 ex h' → AllBare gs → Q .next { s with heap := h', toks := tk, gens := gs }) :
    wpAny (model PR w) (AT dp (some [envOfC (Str.ofString "law") sc L fa cd]) gd un) (exec (stm forBody 1) (envOfC (Str.ofString "law") sc L fa cd)) Q E s := by
  have zS0 : Mine.Stop "execs cons" := ⟨trivial⟩
  have zS1 : Mine.Stop "call ref" := ⟨trivial⟩
  have zS2 : Mine.Stop "truthy ref" := ⟨trivial⟩
  have GT := G
  obtain ⟨KX, T⟩ := G
  obtain ⟨o1, o2, o3, Tl, hT, d1, d2, d3, N, t1, t2, t3⟩ := H.open
  conv in (stm forBody 1) => whnf
  conv at hsc => rhs; whnf
  subst hsc
  k_steps
  refine Halt.mk ?_
  refine right_law (dp := dp) (un := un) GT CH K F H hP.ok (line_le hP.line) (by have := hP.len; ktu_offL) hP.perm (by ktu_offL) (by ktu_offL) hA rfl (by intro e; cases e) fun h' tk gs ps' cs' F' H' A' => ?_
  clear F N
  obtain ⟨o1, o2, o3, Tl, hT, d1, d2, d3, N, t1, t2, t3⟩ := H'.open
  k_steps
  exact h _ _ _ _ _ F' H' A'
end
end Mine

namespace Mine
open PyProof.Rows.TI (Frs SameUp gone)
section
variable {P : Params} {G₀ h h' : Heap} {L I : Addr} {S : Sto} {ps : Array Value} {cs : List (Addr × Obj)} {c1 c2 c3 : Option Value} {oI oI' : Obj}
theorem LS.iterKeep (H : LS P G₀ L S ps cs c1 c2 c3 [(I, oI)] h) (hk : ∀ b o, b ≠ I → h.get? b = some o → h'.get? b = some o) : LS P G₀ L S ps cs c1 c2 c3 [] h' := by
  have hI := H.X _ (.head _)
  have kI := H.xf _ (.head _)
  refine ⟨fun q hq => ⟨hk _ _ (ne_knd (H.N q hq).1 hI.1 (by rw [kI]; exact (led_knd q hq).1)) (H.N q hq).1, (H.N q hq).2⟩, fun q hq => ⟨hk _ _ (fun e => H.xt _ (.head _) q hq e.symm) (H.T q hq).1, (H.T q hq).2⟩, ?_, fun _ h => (nomatch h), fun _ h => (nomatch h), fun _ h => (nomatch h), H.nd, H.tab⟩
  obtain ⟨o1, o2, o3, e1, e2, e3, NC⟩ := H.C
  have k4 : ∀ {o : Obj} {v : Option Value}, o.data = .cell v → knd o = 4 := fun e => by unfold knd; rw [e]
  have one : ∀ q ∈ [(L + 1 + 1 + 1, o3), (L + 1 + 1, o2), (L + 1, o1)], knd q.2 = 4 → h'.get? q.1 = some q.2 ∧ q.1 ≠ L ∧ G₀.get? q.1 = none := fun q hq hk4 => ⟨hk _ _ (ne_knd (NC q hq).1 hI.1 (by rw [hk4, kI]; decide)) (NC q hq).1, (NC q hq).2⟩
  exact ⟨o1, o2, o3, e1, e2, e3, List.forall_mem_cons.mpr ⟨one _ (.head _) (k4 e3), List.forall_mem_cons.mpr ⟨one _ (.tail _ (.head _)) (k4 e2), List.forall_mem_cons.mpr ⟨one _ (.tail _ (.tail _ (.head _))) (k4 e1), List.forall_mem_nil _⟩⟩⟩⟩
theorem LS.iterNew (H : LS P G₀ L S ps cs c1 c2 c3 [] h) (hI : h.get? I = some oI ∧ I ≠ L ∧ G₀.get? I = none) (kI : knd oI = 3) (ht : ∀ p ∈ tl ps cs [], I ≠ p.1) : LS P G₀ L S ps cs c1 c2 c3 [(I, oI)] h :=
  ⟨H.N, H.T, H.C, List.forall_mem_cons.mpr ⟨hI, List.forall_mem_nil _⟩, List.forall_mem_cons.mpr ⟨kI, List.forall_mem_nil _⟩, List.forall_mem_cons.mpr ⟨ht, List.forall_mem_nil _⟩, H.nd, H.tab⟩
end
section
variable {w : World} {mean : ExcName → Option Value} {mg mb : Str → Option Value} {loose : List Str} {G₀ : Heap} {dp un : Nat} {gd : Option (List Code)} {s : Shared} {R : Result → Shared → Prop} {L fa I : Addr} {cd : Value} {c : LC} {sc : Scope}
inductive LoopJ (P : Params) (G₀ : Heap) (L I : Addr) (c : LC) (ax : Addr) (items : List Value) (nx : Nat) (s : Shared) (i : Nat) (s' : Shared) : Prop
  | mk (h : Heap) (tk : Nat) (gs : Array GenState) (S : Sto) (ps : Array Value) (cs : List (Addr × Obj)) (d1 d2 d3 nu ho to wv hv pc : Option Value) (oI : Obj) (e : s' = { s with heap := h, toks := tk, gens := gs }) (e1 : S.ax = ax) (e2 : S.items = items) (e3 : S.nx = nx)
    (F : Fr G₀ L h (lm c S.W S.Ol S.Dl (some (.ref S.Gl)) nu ho to wv hv pc)) (H : LS P G₀ L S ps cs d1 d2 d3 [(I, oI)] h) (hP : LP c S i) (A : AllBare gs) (hit : h.IsListIter I ax i) : LoopJ P G₀ L I c ax items nx s i s'
theorem loop_step (G : Gnd w mean mg mb loose G₀) (CH : CodeHd G₀ 364 360) (K : LF c) (hsc : sc = lawScope) {np : Pos} {items : List Value} {zs : List Int} (hz : IntsAre items zs) (h10 : items.length ≤ 12) {ax : Addr} {nx : Nat} {S : Sto} {ps : Array Value} {cs : List (Addr × Obj)} {d1 d2 d3 nu ho to wv hv pc : Option Value} {oI : Obj}
    (e1 : S.ax = ax) (e2 : S.items = items) (e3 : S.nx = nx) (F : Fr G₀ L s.heap (lm c S.W S.Ol S.Dl (some (.ref S.Gl)) nu ho to wv hv pc)) (H : LS w.params G₀ L S ps cs d1 d2 d3 [(I, oI)] s.heap) (hP : LP c S 0) (hA : AllBare s.gens) (hit : s.heap.IsListIter I ax 0)
    (hd : dp + 100 < recursionLimit) (hu : un + 1000 < cLine)
    (h : ∀ h' tk gs S' ps' cs' d1 d2 d3 nu ho to wv hv pc, Fr G₀ L h' (lm c S'.W S'.Ol S'.Dl (some (.ref S'.Gl)) nu ho to wv hv pc) → LS w.params G₀ L S' ps' cs' d1 d2 d3 [] h' → LP c S' items.length → AllBare gs → R (.ok .next) { s with heap := h', toks := tk, gens := gs }) :
    codeAny (model PR w) (AT dp (some [envOfC (Str.ofString "law") sc L fa cd]) gd un) (.forLoop (.Name (Str.ofString "number") np) (.ref I) forBody [] (envOfC (Str.ofString "law") sc L fa cd)) R s := by
  have zS0 : Mine.Stop "execs cons" := ⟨trivial⟩
  refine for_list (items := items.toArray) (ax := ax) (LoopJ w.params G₀ L I c ax items nx s) rfl ?hJ ?hown ?turn ?done ?h0
  case hJ =>
    rintro i s' ⟨h, tk, gs, S, ps, cs, d1, d2, d3, nu, ho, to, wv, hv, pc, oI, rfl, e1, e2, e3, F, H, hP, A, hit⟩
    have z := (H.N _ Sto.max).1
    rw [e1, e2, e3] at z
    exact ⟨hit, _, z, rfl, nx, rfl⟩
  case hown =>
    intro i v s' Q' E' hv hit hq
    exact wpAny_of_eq (rfl : letOwnedTupleGo (.Name _ _) (.ref I) v = pure ()) hq
  case h0 => exact ⟨_, _, _, S, ps, cs, d1, d2, d3, nu, ho, to, wv, hv, pc, oI, rfl, e1, e2, e3, F, H, hP, hA, hit⟩
  case done =>
    rintro s' h₁ ⟨h', tk, gs, S, ps, cs, d1, d2, d3, nu, ho, to, wv, hv, pc, oI, rfl, e1, e2, e3, F, H, hP, A, hit⟩ hx
    have hI := H.X _ (.head _)
    refine wpAny_execs_nil ?_
    refine h h₁ tk gs S ps cs d1 d2 d3 nu ho to wv hv pc ⟨F.ns.at' fun o e => hx _ o hI.2.1.symm e, fun b o e => hx b o (get_ne e hI.2.2) (F.keep b o e), F.above⟩ (H.iterKeep fun b o hb e => hx b o hb e) ?_ A
    have : items.toArray.size = items.length := by simp
    rw [this] at hP
    exact hP
  case turn =>
    rintro i v s' h₁ hv ⟨h', tk, gs, S, ps, cs, d1, d2, d3, nu, ho, to, wv, hv', pc, oI, rfl, e1, e2, e3, F, H, hP, A, hit⟩ hit₁ hs₁
    have hv2 : items[i]? = some v := by simpa using hv
    have hil := (List.getElem?_eq_some_iff.mp hv2).1
    obtain ⟨a, t, rfl⟩ : ∃ a t, v = .int a t := by
      obtain ⟨a, t, e, _⟩ := hz.at i v hv2
      exact ⟨a, t, e⟩
    have hI := H.X _ (.head _)
    obtain ⟨oI', hoI', hIc, hId⟩ := id hit₁
    have F₁ : Fr G₀ L h₁ _ := ⟨F.ns.sameBut hs₁ hI.2.1.symm, fun b o e => hs₁.extBut b o (get_ne e hI.2.2) (F.keep b o e), F.above⟩
    have H₁ : LS w.params G₀ L S ps cs d1 d2 d3 [(I, oI')] h₁ := (H.iterKeep fun b o hb e => hs₁.extBut b o hb e).iterNew ⟨hoI', hI.2⟩ (by unfold knd; rw [hId]) (H.xt _ (.head _))
    clear F H hit hs₁ hI
    have GT := G
    obtain ⟨KX, T⟩ := G
    obtain ⟨o1, o2, o3, Tl, hT, q1, q2, q3, N, t1, t2, t3⟩ := H₁.open
    have hsc' := hsc
    conv at hsc => rhs; whnf
    subst hsc
    conv in forBody => whnf
    k_steps
    refine Halt.mk ?_
    (with_reducible rename News _ _ _ _ => N1)
    (with_reducible rename Fr _ _ _ _ => F1)
    rw [lm_nu] at F1
    have H1 := H₁.close hT N1 q1 q2 q3 (.tail _ (.tail _ (.head _))) (.tail _ (.head _)) (.head _) fun q hq => .tail _ (.tail _ (.tail _ hq))
    clear N1 hT t1 t2 t3 q1 q2 q3
    show wpAny _ _ (execs [stm forBody 0, stm forBody 1] _) _ _ _
    refine wpAny_execs_cons ?_
    refine deed_step (s := ⟨_, gs, s.drawn, _, s.os⟩) GT CH K hsc' F1 H1 hP (by ktu_offL) hd hu A fun h2 tk2 gs2 S2 ps2 cs2 d1 d2 d3 ho2 to2 wv2 hv2 pc2 _ _ _ b4 b5 b6 F2 H2 hP2 A2 => ?_
    refine wpAny_execs_cons ?_
    refine look_step (S := S2) GT CH K hsc' F2 H2 hP2 (by ktu_offL) hd hu A2 fun h3 tk3 gs3 ps3 cs3 F3 H3 A3 => ?_
    refine wpAny_execs_nil ?_
    exact ⟨_, _, _, S2, _, _, _, _, _, _, _, _, _, _, _, _, rfl, b4.trans e1, b5.trans e2, b6.trans e3, F3, H3, hP2, A3, ⟨oI', (H3.X _ (.head _)).1, hIc, hId⟩⟩
end
end Mine

namespace Mine
open PyProof.Rows.TI (Frs SameUp gone)
noncomputable def whileB : List Stmt := sB (stm lawBody 6)
section
variable {w : World} {mean : ExcName → Option Value} {mg mb : Str → Option Value} {loose : List Str} {G₀ : Heap} {dp un : Nat} {gd : Option (List Code)} {s : Shared} {E : Value → Shared → Prop} {Q : Flow → Shared → Prop} {L fa : Addr} {cd : Value} {S : Sto} {ps : Array Value} {cs ex more : List (Addr × Obj)} {c1 c2 c3 : Option Value} {c : LC} {sc : Scope} {gl nu ho to wv hv pc : Option Value}
theorem w0_step (G : Gnd w mean mg mb loose G₀) (hsc : sc = lawScope) (hW : 0 ≤ c.Wh) (F : Fr G₀ L s.heap (lm c S.W S.Ol S.Dl gl nu ho to wv hv pc)) (H : LS w.params G₀ L S ps cs c1 c2 c3 ex s.heap) (h0 : 0 < S.os.length) (hsz : S.os.length < 100)
    (h : ∀ h' tk j n' p, S.os[j]? = some p → Fr G₀ L h' (lm c S.W S.Ol S.Dl gl nu ho to wv hv pc) → LS w.params G₀ L { S with os := S.os.eraseIdx j, no := n' } ps cs (some (.int p.x p.tx)) (some (.int p.y p.ty)) c3 ex h' → Q .next { s with heap := h', toks := tk }) :
    wpAny (model PR w) (AT dp (some [envOfC (Str.ofString "law") sc L fa cd]) gd un) (exec (stm whileB 0) (envOfC (Str.ofString "law") sc L fa cd)) Q E s := by
  have zS0 : Mine.Stop "call builtin:len" := ⟨trivial⟩
  have zS1 : Mine.Stop "call builtin:list.pop" := ⟨trivial⟩
  obtain ⟨KX, T⟩ := G
  obtain ⟨o1, o2, o3, Tl, hT, d1, d2, d3, N, t1, t2, t3⟩ := H.open
  have N2 : News G₀ L s.heap ((S.Ol, listOf (prs S.os).toArray S.no) :: (L + 1 + 1 + 1, o3) :: (L + 1 + 1, o2) :: (L + 1, o1) :: Tl) := List.forall_mem_cons.mpr ⟨H.N _ Sto.mOl, N⟩
  clear N
  conv in (stm whileB 0) => whnf
  conv at hsc => rhs; whnf
  subst hsc
  have es : (((prs S.os).toArray.size : Nat) : Int) = (S.os.length : Int) := by simp
  have hz : (S.os.length : Int) ≠ 0 := by ktu_offL
  k_steps
  refine Halt.mk ?_
  refine len_list (items := (prs S.os).toArray) ⟨_, (H.N _ Sto.mOl).1, rfl, S.no, rfl⟩ (by simp; ktu_offL) ?_
  rw [es]
  k_steps
  refine Halt.mk ?_
  obtain ⟨j, hj, hjl⟩ : ∃ j : Nat, (c.Wh).fmod (S.os.length : Int) = (j : Int) ∧ j < S.os.length := by
    rw [Int.fmod_eq_emod_of_nonneg _ (by ktu_offL)]
    refine ⟨((c.Wh) % (S.os.length : Int)).toNat, ?_, ?_⟩
    · have := Int.emod_nonneg (c.Wh) hz
      ktu_offL
    · have := Int.emod_nonneg (c.Wh) hz
      have := Int.emod_lt_of_pos (c.Wh) (show (0 : Int) < S.os.length by ktu_offL)
      ktu_offL
  have hp : S.os[j]? = some S.os[j] := List.getElem?_eq_getElem hjl
  generalize S.os[j] = p at hp
  have hpm := List.mem_of_getElem? hp
  refine pop_prs (os := S.os) (H.N _ Sto.mOl).1 hj hp (by ktu_offL) (fun h₅ n' hs₅ hl₅ => ?_)
  have hpo := H.N _ (Sto.mos hpm)
  have hp5 : h₅.get? p.a = some (seqObj "tuple" #[.int p.x p.tx, .int p.y p.ty] p.n) ∧ p.a ≠ L ∧ G₀.get? p.a = none := ⟨(hs₅.2 _ (ne_tup hpo.1 rfl (H.N _ Sto.mOl).1 rfl)).trans hpo.1, hpo.2⟩
  have F5 := Fr.same F hs₅ (H.N _ Sto.mOl).2
  have H5 := H.setOl (os' := S.os.eraseIdx j) (n' := n') hs₅ hl₅ (fun q hq => H.N _ (Sto.mos (List.mem_of_mem_eraseIdx hq)))
  clear F N2 hs₅ hl₅ t1 t2 t3 hT
  obtain ⟨o1, o2, o3, Tl, hT, d1, d2, d3, N, t1, t2, t3⟩ := H5.open
  have nc : ∀ {a : Addr} {o : Obj} {v : Option Value}, h₅.get? a = some o → o.data = .cell v → @Ne Nat p.a a := fun {a o v} ha ho => ne_knd hp5.1 ha (by
    have e : knd o = 4 := by unfold knd; rw [ho]
    rw [e]; exact (show (2 : Nat) ≠ 4 by decide))
  have n1 := nc (N _ (.tail _ (.tail _ (.head _)))).1 d1
  have n2 := nc (N _ (.tail _ (.head _))).1 d2
  have N2 : News G₀ L h₅ ((p.a, seqObj "tuple" #[.int p.x p.tx, .int p.y p.ty] p.n) :: (L + 1 + 1 + 1, o3) :: (L + 1 + 1, o2) :: (L + 1, o1) :: Tl) := List.forall_mem_cons.mpr ⟨hp5, N⟩
  clear N nc
  k_steps
  (with_reducible rename News _ _ _ _ => N1)
  (with_reducible rename Fr _ _ _ _ => F1)
  (with_reducible rename (_ = Data.cell (some (Value.int p.x _))) => e1)
  (with_reducible rename (_ = Data.cell (some (Value.int p.y _))) => e2)
  have HH := H5.close hT N1 e1 e2 d3 (.tail _ (.tail _ (.tail _ (.head _)))) (.tail _ (.tail _ (.head _))) (.tail _ (.head _)) fun q hq => .tail _ (.tail _ (.tail _ (.tail _ hq)))
  exact h _ _ j n' p hp F1 HH
end
/-- the law's plain facts while all is given back -/
structure LW (c : LC) (S : Sto) : Prop where
  ok : ∀ q ∈ S.secs, q.ok c.up c.X c.Y c.B
  line : Line c.Wh (S.secs.map gpOf) (S.os.map prOf)
  len : S.secs.length + S.os.length ≤ 50
  pl : S.pieces.length ≤ 40
  dl : S.ds.length = S.pieces.length
  due : ∀ (j : Nat) p u, S.pieces[j]? = some p → S.ds[j]? = some u → u.r = (p.r.x, p.r.y, p.r.w, p.r.h, (j : Int)) ∧ ∃ t, p.r.rid = .int j t
section
variable {w : World} {mean : ExcName → Option Value} {mg mb : Str → Option Value} {loose : List Str} {G₀ : Heap} {dp un : Nat} {gd : Option (List Code)} {s : Shared} {E : Value → Shared → Prop} {Q : Flow → Shared → Prop} {L fa : Addr} {cd : Value} {S : Sto} {ps : Array Value} {cs ex more : List (Addr × Obj)} {c1 c2 c3 : Option Value} {c : LC} {sc : Scope} {gl nu ho to wv hv pc : Option Value}
theorem while_step (G : Gnd w mean mg mb loose G₀) (K : LF c) (hsc : sc = lawScope) (F : Fr G₀ L s.heap (lm c S.W S.Ol S.Dl gl nu ho to wv hv pc)) (H : LS w.params G₀ L S ps cs c1 c2 c3 ex s.heap) (hP : LW c S)
    (hd : dp + 100 < recursionLimit) (hu : un + 1000 < cLine)
    (h : ∀ h' tk S' d1 d2 d3, Fr G₀ L h' (lm c S'.W S'.Ol S'.Dl gl nu ho to wv hv pc) → LS w.params G₀ L S' ps cs d1 d2 d3 ex h' → LW c S' → S'.os = [] → Q .next { s with heap := h', toks := tk }) :
    wpAny (model PR w) (AT dp (some [envOfC (Str.ofString "law") sc L fa cd]) gd un) (exec (stm lawBody 6) (envOfC (Str.ofString "law") sc L fa cd)) Q E s := by
  have zS0 : Mine.Stop "execs cons" := ⟨trivial⟩
  have zS1 : Mine.Stop "truthy ref" := ⟨trivial⟩
  conv in (stm lawBody 6) => whnf
  refine wpAny_While (codeAny_whileLoop (fun n s' => ∃ h tk S d1 d2 d3, s' = { s with heap := h, toks := tk } ∧ n = S.os.length ∧ Fr G₀ L h (lm c S.W S.Ol S.Dl gl nu ho to wv hv pc) ∧ LS w.params G₀ L S ps cs d1 d2 d3 ex h ∧ LW c S) (fun n s' hI => ?_) S.os.length ⟨s.heap, s.toks, S, c1, c2, c3, rfl, rfl, F, H, hP⟩)
  obtain ⟨h', tk, S, d1, d2, d3, rfl, rfl, F, H, hP⟩ := hI
  have GT := G
  have F₀ := F
  obtain ⟨KX, T⟩ := G
  obtain ⟨o1, o2, o3, Tl, hT, q1, q2, q3, N, t1, t2, t3⟩ := H.open
  have hsc' := hsc
  conv at hsc => rhs; whnf
  subst hsc
  k_steps
  refine Halt.mk ?_
  have hlen := hP.len
  refine truthy_vals (xs := prs S.os) H.N Sto.mOl (by rw [sizeLine_eq, List.length_map]; ktu_offL) ?_
  by_cases hos : S.os = []
  · rw [show (prs S.os).isEmpty = true by rw [hos]; rfl, Bool.not_true]
    clear t1 t2 t3
    k_steps
    exact h _ _ S _ _ _ F₀ H hP hos
  · have h0 : 0 < S.os.length := List.length_pos_iff.mpr hos
    rw [show (prs S.os).isEmpty = false by cases e : S.os with | nil => exact absurd e hos | cons _ _ => rfl, Bool.not_false]
    clear t1 t2 t3
    k_steps
    refine Halt.mk ?_
    show wpAny _ _ (execs [stm whileB 0, stm whileB 1] _) _ _ _
    refine wpAny_execs_cons ?_
    refine w0_step (s := ⟨h', s.gens, s.drawn, _, s.os⟩) GT hsc' (by have := K.hW; ktu_offL) F₀ H h0 (by ktu_offL) fun h1 tk1 j n1 p hp F1 H1 => ?_
    have hpq : (S.os.map prOf)[j]? = some (p.x, p.y) := by rw [List.getElem?_map, hp]; rfl
    have hpm : (p.x, p.y) ∈ S.os.map prOf := List.mem_of_getElem? hpq
    have l0 : 0 < p.y := hP.line.posO _ hpm
    have free : ∀ q ∈ S.secs.map gpOf, OffQ q (p.x, p.y) := fun q hq => hP.line.free _ hpm q hq
    refine wpAny_execs_cons ?_
    conv in (stm whileB 1) => whnf
    refine g1_gen (S := { S with os := S.os.eraseIdx j, no := n1 }) GT hsc' K.hB F1 H1 hP.ok hP.line.sep free l0 (show S.secs.length < 100 by ktu_offL) hd hu fun h2 tk2 ls' n2 g' F2 H2 a1 a2 a3 a4 => ?_
    refine wpAny_execs_nil ?_
    have hjl := (List.getElem?_eq_some_iff.mp hp).1
    have hel : (S.os.eraseIdx j).length = S.os.length - 1 := List.length_eraseIdx_of_lt hjl
    refine ⟨(S.os.eraseIdx j).length, by ktu_offL, _, _, { S with os := S.os.eraseIdx j, no := n1, ls := ls', n := n2, secs := (pass p.x p.y S.secs).2.2 ++ [g'] }, _, _, _, rfl, rfl, F2, H2, ⟨fun q hq => ?_, ?_, ?_, hP.pl, hP.dl, hP.due⟩⟩
    · rcases List.mem_append.mp hq with hq | hq
      · exact hP.ok q (a2 q hq)
      · rw [List.mem_singleton.mp hq]; exact a1
    · show Line c.Wh (((pass p.x p.y S.secs).2.2 ++ [g']).map gpOf) ((S.os.eraseIdx j).map prOf)
      rw [a3, ← map_erase]
      exact hP.line.give hpq
    · show ((pass p.x p.y S.secs).2.2 ++ [g']).length + (S.os.eraseIdx j).length ≤ 50
      have a4' : (pass p.x p.y S.secs).2.2.length ≤ S.secs.length := a4
      simp only [List.length_append, List.length_cons, List.length_nil, hel]
      exact lenB hP.len h0 a4'
end
end Mine

namespace Mine
open PyProof.Rows.TI (Frs SameUp gone)
section
variable {w : World} {mean : ExcName → Option Value} {mg mb : Str → Option Value} {loose : List Str} {G₀ : Heap} {dp un : Nat} {gd : Option (List Code)} {s : Shared} {E : Value → Shared → Prop} {Q : Flow → Shared → Prop} {L fa : Addr} {cd : Value} {S : Sto} {ps : Array Value} {cs ex more : List (Addr × Obj)} {c1 c2 c3 : Option Value} {c : LC} {sc : Scope} {gl nu ho to wv hv pc : Option Value}
theorem f7_step (G : Gnd w mean mg mb loose G₀) (hsc : sc = lawScope) (F : Fr G₀ L s.heap (lm c S.W S.Ol S.Dl gl nu ho to wv hv pc)) (H : LS w.params G₀ L S ps cs c1 c2 c3 ex s.heap)
    (h : ∀ h' tk wd hg t1 t2, Dim c.up c.B c.Wh wd hg → Fr G₀ L h' (lm c S.W S.Ol S.Dl gl nu ho to (some (.int wd t1)) (some (.int hg t2)) pc) → LS w.params G₀ L S ps cs c1 c2 c3 ex h' → Q .next { s with heap := h', toks := tk }) :
    wpAny (model PR w) (AT dp (some [envOfC (Str.ofString "law") sc L fa cd]) gd un) (exec (stm lawBody 7) (envOfC (Str.ofString "law") sc L fa cd)) Q E s := by
  have zS0 : Mine.Stop "call ref" := ⟨trivial⟩
  have zS1 : Mine.Stop "call builtin:len" := ⟨trivial⟩
  have zS2 : Mine.Stop "call builtin:list.append" := ⟨trivial⟩
  obtain ⟨KX, T⟩ := G
  obtain ⟨o1, o2, o3, Tl, hT, d1, d2, d3, N, t1, t2, t3⟩ := H.open
  conv in (stm lawBody 7) => whnf
  conv at hsc => rhs; whnf
  subst hsc
  k_steps
  all_goals
    (with_reducible rename News _ _ _ _ => N1)
    (with_reducible rename Fr _ _ _ _ => F1)
    (with_reducible rename (c.up = _) => hup)
    rw [lm_wh] at F1
    have HH := H.close hT N1 d1 d2 d3 (.tail _ (.tail _ (.tail _ (.head _)))) (.tail _ (.tail _ (.head _))) (.tail _ (.head _)) fun q hq => .tail _ (.tail _ (.tail _ (.tail _ hq)))
    refine h _ _ _ _ _ _ ?_ F1 HH
    rw [hup]
    exact ⟨rfl, rfl⟩
theorem f8_step (G : Gnd w mean mg mb loose G₀) (CH : CodeHd G₀ 364 360) (K : LF c) (hsc : sc = lawScope) {wd hg : Int} {t1 t2 : Tok} (F : Fr G₀ L s.heap (lm c S.W S.Ol S.Dl gl nu ho to (some (.int wd t1)) (some (.int hg t2)) pc)) (H : LS w.params G₀ L S ps cs c1 c2 c3 ex s.heap) (hP : LW c S) (hos : S.os = []) (hdim : Dim c.up c.B c.Wh wd hg)
    (hd : dp + 100 < recursionLimit) (hu : un + 1000 < cLine) (hA : AllBare s.gens)
    (h : ∀ h' tk gs S' ps' cs' ra rd r, S'.secs = [] → S'.pieces = S.pieces ++ [⟨ra, rd, r⟩] → S'.ds = S.ds → On c.up c.X c.Y c.B 0 c.Wh r → (∃ t, r.rid = .int (S.pieces.length : Int) t) → Fr G₀ L h' (lm c S'.W S'.Ol S'.Dl gl nu ho to (some (.int wd t1)) (some (.int hg t2)) pc) → LS w.params G₀ L S' ps' cs' c1 c2 c3 ex h' → AllBare gs → Q .next { s with heap := h', toks := tk, gens := gs }) :
    wpAny (model PR w) (AT dp (some [envOfC (Str.ofString "law") sc L fa cd]) gd un) (exec (stm lawBody 8) (envOfC (Str.ofString "law") sc L fa cd)) Q E s := by
  have zS0 : Mine.Stop "call ref" := ⟨trivial⟩
  have zS1 : Mine.Stop "call builtin:len" := ⟨trivial⟩
  have zS2 : Mine.Stop "call builtin:list.append" := ⟨trivial⟩
  have GT := G
  obtain ⟨KX, T⟩ := G
  obtain ⟨o1, o2, o3, Tl, hT, d1, d2, d3, N, t1', t2', t3'⟩ := H.open
  have hsecs : S.secs.map gpOf = [(0, c.Wh)] := by
    have z := hP.line
    rw [hos] at z
    exact z.whole (by have := K.hW; ktu_offL)
  have mT : ∀ q ∈ S.led w.params, q ∈ Tl := fun q hq => hT ▸ List.mem_append_left _ hq
  conv in (stm lawBody 8) => whnf
  conv at hsc => rhs; whnf
  subst hsc
  k_steps
  refine Halt.mk ?_
  (with_reducible rename News _ _ _ _ => N1)
  (with_reducible rename Fr _ _ _ _ => F1)
  rename_i T1 _ _ Gl _ _
  (with_reducible rename (@LT.lt Nat _ T1 Gl ∧ _) => lG)
  have HH := H.close hT N1 d1 d2 d3 (.tail _ (.tail _ (.tail _ (.tail _ (.head _))))) (.tail _ (.tail _ (.tail _ (.head _)))) (.tail _ (.tail _ (.head _))) fun q hq => .tail _ (.tail _ (.tail _ (.tail _ (.tail _ hq))))
  have HG := HH.setGl (R := Gl) (n' := 0) (vs' := [⟨T1, 0, c.Wh, _, c.tw, 0⟩]) (N1 _ (.head _)) (fun p hp => by
    rw [List.mem_singleton.mp hp]
    exact N1 _ (.tail _ (.head _))) (fun q hq => Nat.ne_of_lt (allLt_mem lG.2.2.2.2 _ (mT q hq)))
  have hlen := hP.len
  obtain ⟨g0, hg0⟩ : ∃ g0, S.secs = [g0] := by
    cases e : S.secs with
    | nil => rw [e] at hsecs; cases hsecs
    | cons a l =>
      cases l with
      | nil => exact ⟨a, rfl⟩
      | cons b l => rw [e] at hsecs; simp at hsecs
  have hg1 : g0.st = 0 ∧ g0.ln = c.Wh := by
    rw [hg0] at hsecs
    simp only [List.map_cons, List.map_nil, List.cons.injEq, Prod.mk.injEq, and_true] at hsecs
    exact hsecs
  clear N1 HH lG mT t1' t2' t3' hT
  refine right_law (S := { S with Gl := Gl, ng := 0, vs := [⟨T1, 0, c.Wh, _, c.tw, 0⟩] }) (dp := dp) (un := un) GT CH K F1 HG hP.ok (line_le hP.line) (show S.secs.length < 100 by ktu_offL) ?hperm (by ktu_offL) (by ktu_offL) hA rfl ?hke fun h' tk gs ps' cs' F' H' A' => ?_
  case hke => intro e; cases e
  case hperm =>
    show ([⟨T1, 0, c.Wh, _, c.tw, 0⟩] : List Pr).map prOf |>.Perm (S.secs.map gpOf)
    rw [hsecs]
    exact List.Perm.refl _
  clear F1 HG
  obtain ⟨o1, o2, o3, Tl, hT, d1, d2, d3, N, t1', t2', t3'⟩ := H'.open
  have N2 : News G₀ L h' ((S.W, instObj 480 S.dW) :: (S.dW, dictOf (wEs w.params S.k S.tw S.th S.lr S.sf S.ls) 8) :: (L + 1 + 1 + 1, o3) :: (L + 1 + 1, o2) :: (L + 1, o1) :: Tl) := List.forall_mem_cons.mpr ⟨H'.N _ Sto.mW, List.forall_mem_cons.mpr ⟨H'.N _ Sto.mdW, N⟩⟩
  clear N
  k_steps
  refine Halt.mk ?_
  have es : (((dus S.ds).toArray.size : Nat) : Int) = (S.pieces.length : Int) := by simp [hP.dl]
  refine len_list (items := (dus S.ds).toArray) ⟨_, (H'.N _ Sto.mDl).1, rfl, S.nd, rfl⟩ (by have := hP.dl; have := hP.pl; simp; ktu_offL) ?_
  rw [es]
  k_steps
  refine Halt.mk ?_
  clear N2 t1' t2' t3' hT
  refine add_law (s := ⟨h', gs, s.drawn, _, s.os⟩) (len := c.Wh) (more := []) (dp := dp) (un := un) GT CH K F' H' (List.forall_mem_nil _) (List.forall_mem_nil _) (List.forall_mem_nil _) hP.ok hP.line (show S.secs.length < 100 by ktu_offL) (show S.pieces.length < 100 by have := hP.pl; ktu_offL) hdim (by have := K.hW; ktu_offL) (by have := K.hWM; ktu_offL) (by ktu_offL) (by ktu_offL) A' rfl ?hke (fun h5 tk5 gs5 ps5 cs5 F5 H5 _ A5 hno => ?_) (fun h5 tk5 gs5 ps5 cs5 ra rd r ls' n' np' i gp rem F5 H5 _ A5 g1 g2 g3 g4 g5 g6 g7 g8 => ?_)
  case hke => intro e; cases e
  · exfalso
    have : g0 ∈ S.secs := by rw [hg0]; exact .head _
    have := hno g0 this
    ktu_offL
  · have g1' : S.secs[i]? = some gp := g1
    rw [hg0] at g1'
    have hi : i = 0 := by
      have := (List.getElem?_eq_some_iff.mp g1').1
      simpa using this
    subst hi
    obtain rfl : g0 = gp := by simpa using g1'
    have hrem : rem = [] := by
      unfold remOf at g7
      rw [if_neg (by ktu_offL)] at g7
      exact List.map_eq_nil_iff.mp g7
    subst hrem
    clear F' H'
    obtain ⟨o1, o2, o3, Tl, hT, d1, d2, d3, N, t1', t2', t3'⟩ := H5.open
    k_steps
    refine h _ _ _ { S with Gl := Gl, ng := 0, vs := [⟨T1, 0, c.Wh, s.toks, c.tw, 0⟩], ls := ls', n := n', np := np', secs := S.secs.eraseIdx 0 ++ [], pieces := S.pieces ++ [⟨ra, rd, r⟩] } _ _ ra rd r ?_ ?_ ?_ ?_ ⟨_, g5⟩ F5 H5 A5
    · show S.secs.eraseIdx 0 ++ [] = []
      rw [hg0]
      rfl
    · rfl
    · rfl
    · rw [hg1.1] at g4
      exact g4
end
end Mine

namespace Mine
open PyProof.Rows.TI (Frs SameUp gone)
section
variable {w : World} {mean : ExcName → Option Value} {mg mb : Str → Option Value} {loose : List Str} {G₀ : Heap} {dp un : Nat} {gd : Option (List Code)} {s : Shared} {E : Value → Shared → Prop} {Q : Flow → Shared → Prop} {L fa : Addr} {cd : Value} {S : Sto} {ps : Array Value} {cs ex more : List (Addr × Obj)} {c1 c2 c3 : Option Value} {c : LC} {sc : Scope} {gl nu ho to wv hv pc : Option Value}
theorem f9_step (G : Gnd w mean mg mb loose G₀) (hsc : sc = lawScope) {wd hg : Int} {t1 t2 : Tok} (F : Fr G₀ L s.heap (lm c S.W S.Ol S.Dl gl nu ho to (some (.int wd t1)) (some (.int hg t2)) pc)) (H : LS w.params G₀ L S ps cs c1 c2 c3 ex s.heap) (hsz : S.ds.length < 100)
    (h : ∀ h' tk u n', u.r = (c.X, c.Y, wd, hg, (S.ds.length : Int)) → Fr G₀ L h' (lm c S.W S.Ol S.Dl gl nu ho to (some (.int wd t1)) (some (.int hg t2)) pc) → LS w.params G₀ L { S with ds := S.ds ++ [u], nd := n' } ps cs c1 c2 c3 ex h' → Q .next { s with heap := h', toks := tk }) :
    wpAny (model PR w) (AT dp (some [envOfC (Str.ofString "law") sc L fa cd]) gd un) (exec (stm lawBody 9) (envOfC (Str.ofString "law") sc L fa cd)) Q E s := by
  have zS0 : Mine.Stop "call ref" := ⟨trivial⟩
  have zS1 : Mine.Stop "call builtin:len" := ⟨trivial⟩
  have zS2 : Mine.Stop "call builtin:list.append" := ⟨trivial⟩
  have zS3 : Mine.Stop "compareOp Eq ref ref" := ⟨trivial⟩
  obtain ⟨KX, T⟩ := G
  obtain ⟨o1, o2, o3, Tl, hT, d1, d2, d3, N, t1, t2, t3⟩ := H.open
  have N2 : News G₀ L s.heap ((S.Dl, listOf (dus S.ds).toArray S.nd) :: (L + 1 + 1 + 1, o3) :: (L + 1 + 1, o2) :: (L + 1, o1) :: Tl) := List.forall_mem_cons.mpr ⟨H.N _ Sto.mDl, N⟩
  clear N
  conv in (stm lawBody 9) => whnf
  conv at hsc => rhs; whnf
  subst hsc
  have es : (((dus S.ds).toArray.size : Nat) : Int) = (S.ds.length : Int) := by simp
  k_steps
  refine Halt.mk ?_
  refine len_list (items := (dus S.ds).toArray) ⟨_, (H.N _ Sto.mDl).1, rfl, S.nd, rfl⟩ (by simp; ktu_offL) ?_
  rw [es]
  k_steps
  refine Halt.mk ?_
  (with_reducible rename News _ _ _ _ => N1)
  (with_reducible rename Fr _ _ _ _ => F1)
  have HH := H.close hT N1 d1 d2 d3 (.tail _ (.tail _ (.tail _ (.tail _ (.head _))))) (.tail _ (.tail _ (.tail _ (.head _)))) (.tail _ (.tail _ (.head _))) fun q hq => .tail _ (.tail _ (.tail _ (.tail _ (.tail _ hq))))
  have hD := N1 _ (.head _)
  clear N1
  refine wpAny_list_append_plain (items := (dus S.ds).toArray) ⟨S.nd, (HH.N _ Sto.mDl).1⟩ (fun h₅ hp₅ hs₅ => ?_) (by rw [sizeLine_eq]; simp; ktu_offL)
  obtain ⟨n', hp₅⟩ := hp₅
  have F5 := Fr.same F1 hs₅ (HH.N _ Sto.mDl).2
  have H5 := HH.setDl (ds' := S.ds ++ [⟨_, (c.X, c.Y, wd, hg, (S.ds.length : Int)), _, _, _, _, _, 0⟩]) (n' := n') hs₅ (by rw [hp₅]; simp [dus]; rfl) (fun p hp => by
    rcases List.mem_append.mp hp with hp | hp
    · exact HH.N _ (Sto.mds hp)
    · rw [List.mem_singleton.mp hp]
      exact hD)
  clear F1 HH hD
  obtain ⟨o1, o2, o3, Tl, hT, d1, d2, d3, N, t1, t2, t3⟩ := H5.open
  k_steps
  exact h _ _ _ _ rfl F5 H5
theorem f10_step (G : Gnd w mean mg mb loose G₀) (CH : CodeHd G₀ 364 360) (K : LF c) (hsc : sc = lawScope) (F : Fr G₀ L s.heap (lm c S.W S.Ol S.Dl gl nu ho to wv hv pc)) (H : LS w.params G₀ L S ps cs c1 c2 c3 ex s.heap) (h0 : S.secs = []) (hpl : S.pieces.length < 60) (hdl : S.ds.length = S.pieces.length)
    (due : ∀ (j : Nat) p u, S.pieces[j]? = some p → S.ds[j]? = some u → u.r = (p.r.x, p.r.y, p.r.w, p.r.h, (j : Int)) ∧ ∃ t, p.r.rid = .int j t)
    (hd : dp + 100 < recursionLimit) (hu : un + 1000 < cLine) (hA : AllBare s.gens)
    (h : ∀ h' tk gs m, Fr G₀ L h' m → GrownAt 360 h' → AllBare gs → Q (.ret (.bool true)) { s with heap := h', toks := tk, gens := gs }) :
    wpAny (model PR w) (AT dp (some [envOfC (Str.ofString "law") sc L fa cd]) gd un) (exec (stm lawBody 10) (envOfC (Str.ofString "law") sc L fa cd)) Q E s := by
  have zS0 : Mine.Stop "call ref" := ⟨trivial⟩
  have zS1 : Mine.Stop "call builtin:len" := ⟨trivial⟩
  have zS2 : Mine.Stop "call builtin:list.append" := ⟨trivial⟩
  have zS3 : Mine.Stop "compareOp Eq ref ref" := ⟨trivial⟩
  have GT := G
  obtain ⟨KX, T⟩ := G
  obtain ⟨o1, o2, o3, Tl, hT, d1, d2, d3, N, t1, t2, t3⟩ := H.open
  have N2 : News G₀ L s.heap ((S.W, instObj 480 S.dW) :: (S.dW, dictOf (wEs w.params S.k S.tw S.th S.lr S.sf S.ls) 8) :: (L + 1 + 1 + 1, o3) :: (L + 1 + 1, o2) :: (L + 1, o1) :: Tl) := List.forall_mem_cons.mpr ⟨H.N _ Sto.mW, List.forall_mem_cons.mpr ⟨H.N _ Sto.mdW, N⟩⟩
  clear N
  conv in (stm lawBody 10) => whnf
  conv at hsc => rhs; whnf
  subst hsc
  k_steps
  refine Halt.mk ?_
  clear N2 t1 t2 t3 hT
  refine wpAny_mono (rlist_c GT S.W S.dW S.lr S.sf S.ls S.k S.tw S.th S.np S.pieces (by ktu_offL) (fun q hq => ?_) (fun q hq o ho => ?_) (by ktu_offL) (by ktu_offL) F.keep (fun q hq => ?_) hA) (fun v s' hv => ?_) fun _ _ x => x
  · obtain ⟨j, hj⟩ := List.mem_iff_getElem?.mp hq
    have hjl := (List.getElem?_eq_some_iff.mp hj).1
    have hjd : j < S.ds.length := by ktu_offL
    obtain ⟨_, t, e⟩ := due j q S.ds[j] hj (List.getElem?_eq_getElem hjd)
    exact ⟨_, t, e⟩
  · have z := H.rcOff (H.N o (Sto.mpcs o (List.mem_flatMap.mpr ⟨q, hq, ho⟩))).1 (pc_knd o ho)
    exact not_mem3 z.1 z.2.1 z.2.2.2.1
  · have z : q ∈ S.led w.params := by
      rcases List.mem_append.mp hq with hq | hq
      · exact List.forall_mem_cons.mpr ⟨Sto.mW, List.forall_mem_cons.mpr ⟨Sto.mdW, List.forall_mem_cons.mpr ⟨Sto.mlr, List.forall_mem_nil _⟩⟩⟩ q hq
      · exact Sto.mpcs q hq
    exact ⟨(H.N q z).1, (H.N q z).2.2⟩
  obtain ⟨h₂, tk₂, gs₂, rfl, A₂, kk, R, nR, ts, rfl, hRn, hR, htl, hts⟩ := hv
  have kp : Keep [] s.heap h₂ := fun b o _ e => kk b o e
  have H2 := H.keep0 kp
  have F2 : Fr G₀ L h₂ _ := kp.fr F (fun h => nomatch h) (List.forall_mem_nil _)
  clear H F
  obtain ⟨o1, o2, o3, Tl, hT, d1, d2, d3, N, t1, t2, t3⟩ := H2.open
  k_steps
  refine Halt.mk ?_
  refine eq_rows (ts := ts) (us := S.ds.map Du.a) (rs := S.ds.map Du.r) hR (m := S.nd) ?_ ?_ (by rw [List.length_map, List.length_map]) ?_ ?_ (by show un + 64 < cLine; ktu_offL) ?_
  · have z := (H2.N _ Sto.mDl).1
    rw [List.map_map]
    exact z
  · rw [List.length_map, htl, hdl]
  · intro j t r ht hr
    obtain ⟨u, hu, rfl⟩ : ∃ u, S.ds[j]? = some u ∧ u.r = r := by
      rw [List.getElem?_map, Option.map_eq_some_iff] at hr
      exact hr
    have hjl := (List.getElem?_eq_some_iff.mp hu).1
    have hjp : j < S.pieces.length := by ktu_offL
    have hp : S.pieces[j]? = some S.pieces[j] := List.getElem?_eq_getElem hjp
    generalize S.pieces[j] = p at hp
    obtain ⟨e1, t', e2⟩ := due j p u hp hu
    obtain ⟨_, cc, e3⟩ := hts j p t hp ht
    rw [e2] at e3
    rw [e1]
    exact ⟨_, _, _, _, _, _, e3⟩
  · intro j t r ht hr
    obtain ⟨u, hu, rfl⟩ : ∃ u, S.ds[j]? = some u ∧ u.r = r := by
      rw [List.getElem?_map, Option.map_eq_some_iff] at hr
      exact hr
    rw [List.getElem?_map, hu] at ht
    obtain rfl : u.a = t := by simpa using ht
    exact ⟨_, _, _, _, _, _, (H2.N _ (Sto.mds (List.mem_of_getElem? hu))).1⟩
  k_steps
  refine Halt.mk ?_
  (with_reducible rename News _ _ _ _ => N1)
  (with_reducible rename Fr _ _ _ _ => F1)
  rename_i Gl _ _
  (with_reducible rename (@LT.lt Nat _ (L + 1 + 1 + 1) Gl ∧ _) => lG)
  have HH := H2.close hT N1 d1 d2 d3 (.tail _ (.tail _ (.tail _ (.head _)))) (.tail _ (.tail _ (.head _))) (.tail _ (.head _)) fun q hq => .tail _ (.tail _ (.tail _ (.tail _ hq)))
  have HG := HH.setGl (R := Gl) (n' := 0) (vs' := []) (N1 _ (.head _)) (List.forall_mem_nil _) (fun q hq => Nat.ne_of_lt (allLt_mem lG.2.2.2 _ (hT ▸ List.mem_append_left _ hq)))
  clear N1 HH t1 t2 t3
  refine right_law (S := { S with Gl := Gl, ng := 0, vs := [] }) (dp := dp) (un := un) GT CH K F1 HG (fun q hq => by rw [show S.secs = [] from h0] at hq; cases hq) (fun q hq => by rw [show S.secs = [] from h0] at hq; cases hq) (by rw [show S.secs = [] from h0]; decide) (by rw [show S.secs = [] from h0]; exact List.Perm.refl _) (by ktu_offL) (by ktu_offL) A₂ rfl ?hke fun h' tk gs ps' cs' F' H' A' => ?_
  case hke => intro e; cases e
  clear F1 HG
  obtain ⟨o1, o2, o3, Tl, hT, d1, d2, d3, N, t1, t2, t3⟩ := H'.open
  k_steps
  exact h _ _ _ _ F' ⟨_, (H'.T _ (.head _)).1⟩ A'
end
end Mine

namespace Mine
open PyProof.Rows.TI (Frs SameUp gone)
section
variable {P : Params} {G₀ h : Heap} {L : Addr} {S : Sto} {ps : Array Value} {cs ex : List (Addr × Obj)} {c1 c2 c3 : Option Value}
theorem LS.setAx (H : LS P G₀ L S ps cs c1 c2 c3 ex h) {R : Addr} {n' : Nat} {items : List Value} (hR : h.get? R = some (listOf items.toArray n') ∧ R ≠ L ∧ G₀.get? R = none) (hne : ∀ q ∈ S.led P, @Ne Nat q.1 R) :
    LS P G₀ L { S with ax := R, nx := n', items := items } ps cs c1 c2 c3 ex h where
  N := Sto.all (H.N _ Sto.mW) (H.N _ Sto.mdW) (H.N _ Sto.mls) (H.N _ Sto.mlr) (H.N _ Sto.mGl) (H.N _ Sto.mOl) (H.N _ Sto.mDl) hR (fun g hg o ho => H.N _ (Sto.msec (S := S) hg ho)) (fun g hg o ho => H.N _ (Sto.mpcs (S := S) o (List.mem_flatMap.mpr ⟨g, hg, ho⟩))) (fun p hp => H.N _ (Sto.mvs (S := S) hp)) (fun p hp => H.N _ (Sto.mos (S := S) hp)) (fun p hp => H.N _ (Sto.mds (S := S) hp))
  T := H.T
  C := H.C
  X := H.X
  xf := H.xf
  xt := H.xt
  nd := by
    obtain ⟨a1, a2, a3, a4, a5, b1, b2, b3, b4, d1, d2, d3, e1, e2, f1⟩ := six H.nd
    refine nodup6 a1 a2 a3 a4 (hne _ Sto.mls) (List.nodup_cons.mpr ⟨not_mem4 b1 b2 b3 (hne _ Sto.mlr), List.nodup_cons.mpr ⟨not_mem3 d1 d2 (hne _ Sto.mGl), ?_⟩⟩)
    exact List.nodup_cons.mpr ⟨not_mem2 e1 (hne _ Sto.mOl), List.nodup_cons.mpr ⟨fun hm => hne _ Sto.mDl (List.mem_singleton.mp hm), List.nodup_cons.mpr ⟨List.not_mem_nil, List.nodup_nil⟩⟩⟩
  tab := H.tab
end
section
variable {w : World} {mean : ExcName → Option Value} {mg mb : Str → Option Value} {loose : List Str} {G₀ : Heap} {dp un : Nat} {gd : Option (List Code)} {s : Shared} {E : Value → Shared → Prop} {Q : Flow → Shared → Prop} {L fa : Addr} {cd : Value} {S : Sto} {ps : Array Value} {cs ex more : List (Addr × Obj)} {c1 c2 c3 : Option Value} {c : LC} {sc : Scope} {gl nu ho to wv hv pc : Option Value}
theorem iter_tail {R : Result → Shared → Prop} (G : Gnd w mean mg mb loose G₀) (CH : CodeHd G₀ 364 360) (K : LF c) (hsc : sc = lawScope) {np : Pos} {items : List Value} {zs : List Int} {ax : Addr} {na : Nat} (hz : IntsAre items zs) (h12 : items.length ≤ 12) (F : Fr G₀ L s.heap (lm c S.W S.Ol S.Dl (some (.ref S.Gl)) nu ho to wv hv pc)) (H : LS w.params G₀ L S ps cs c1 c2 c3 [] s.heap)
    (hax : s.heap.get? ax = some (listOf items.toArray na) ∧ ax ≠ L ∧ G₀.get? ax = none) (hne : ∀ q ∈ S.led w.params, @Ne Nat q.1 ax) (hP : LP c S 0) (hd : dp + 100 < recursionLimit) (hu : un + 1000 < cLine) (hA : AllBare s.gens)
    (h : ∀ h' tk gs S' ps' cs' d1 d2 d3 nu ho to wv hv pc, Fr G₀ L h' (lm c S'.W S'.Ol S'.Dl (some (.ref S'.Gl)) nu ho to wv hv pc) → LS w.params G₀ L S' ps' cs' d1 d2 d3 [] h' → LP c S' items.length → AllBare gs → R (.ok .next) { s with heap := h', toks := tk, gens := gs }) :
    codeAny (model PR w) (AT dp (some [envOfC (Str.ofString "law") sc L fa cd]) gd un) (.forLoop (.Name (Str.ofString "number") np) (.ref s.heap.objs.size) forBody [] (envOfC (Str.ofString "law") sc L fa cd)) R { s with heap := s.heap.push { cls := .type "list_iterator", data := .fields #[.ref ax, .int 0 0] } } := by
  have kp : Keep [] s.heap (s.heap.push { cls := .type "list_iterator", data := .fields #[.ref ax, .int 0 0] }) := fun b o _ e => Heap.get?_push_of_some _ e
  have hLs := F.ns.lt
  have F1 := F.push { cls := .type "list_iterator", data := .fields #[.ref ax, .int 0 0] }
  have H1 := (H.keep0 kp).setAx (R := ax) (n' := na) (items := items) ⟨kp _ _ (fun h => nomatch h) hax.1, hax.2⟩ hne
  have H2 := H1.iterNew (I := s.heap.objs.size) (oI := { cls := .type "list_iterator", data := .fields #[.ref ax, .int 0 0] }) ⟨Heap.get?_push_size _ rfl, Nat.ne_of_gt hLs, Heap.get?_none_of_le (Nat.le_trans F.above (Nat.le_of_lt hLs))⟩ rfl (fun p hp => Nat.ne_of_gt (Heap.lt_size (H.T p hp).1))
  exact loop_step (s := { s with heap := s.heap.push { cls := .type "list_iterator", data := .fields #[.ref ax, .int 0 0] } }) (S := { S with ax := ax, nx := na, items := items }) G CH K hsc hz h12 rfl rfl rfl F1 H2 ⟨hP.ok, hP.line, hP.perm, hP.len, hP.pl, hP.dl, hP.due⟩ hA ⟨_, Heap.get?_push_size _ rfl, rfl, rfl⟩ hd hu h
theorem for_step (G : Gnd w mean mg mb loose G₀) (CH : CodeHd G₀ 364 360) (K : LF c) (hsc : sc = lawScope) {scr : Addr} {vs : List Value} {zs : List Int} (hcs : c.sc = .ref scr) (hscr : G₀.IsList scr vs.toArray) (hI : IntsAre vs zs) (h63 : zs.length ≤ 63) (F : Fr G₀ L s.heap (lm c S.W S.Ol S.Dl (some (.ref S.Gl)) nu ho to wv hv pc)) (H : LS w.params G₀ L S ps cs c1 c2 c3 [] s.heap) (hP : LP c S 0)
    (hd : dp + 100 < recursionLimit) (hu : un + 1000 < cLine) (hA : AllBare s.gens)
    (h : ∀ h' tk gs S' ps' cs' d1 d2 d3 nu ho to wv hv pc i, i ≤ 12 → Fr G₀ L h' (lm c S'.W S'.Ol S'.Dl (some (.ref S'.Gl)) nu ho to wv hv pc) → LS w.params G₀ L S' ps' cs' d1 d2 d3 [] h' → LP c S' i → AllBare gs → Q .next { s with heap := h', toks := tk, gens := gs }) :
    wpAny (model PR w) (AT dp (some [envOfC (Str.ofString "law") sc L fa cd]) gd un) (exec (stm lawBody 5) (envOfC (Str.ofString "law") sc L fa cd)) Q E s := by
  have zS0 : Mine.Stop "execs cons" := ⟨trivial⟩
  have GT := G
  obtain ⟨KX, T⟩ := G
  have F₀ : Fr G₀ L s.heap (lm { c with sc := .ref scr } S.W S.Ol S.Dl (some (.ref S.Gl)) nu ho to wv hv pc) := by rw [← hcs]; exact F
  clear F
  obtain ⟨o1, o2, o3, Tl, hT, d1, d2, d3, N, t1, t2, t3⟩ := H.open
  conv in (stm lawBody 5) => whnf
  have hsc' := hsc
  conv at hsc => rhs; whnf
  subst hsc
  refine wpAny_For ?_ (by intro _; rfl)
  k_steps
  all_goals
    (with_reducible rename News _ _ _ _ => N1)
    (with_reducible rename Fr _ _ _ _ => F1)
    rw [← hcs] at F1
  · (with_reducible rename IntsAre _ (List.take _ _) => hJ)
    (with_reducible rename (@LT.lt Nat _ (L + 1 + 1 + 1) _ ∧ _) => lG)
    have H1 := H.close hT N1 d1 d2 d3 (.tail _ (.tail _ (.tail _ (.head _)))) (.tail _ (.tail _ (.head _))) (.tail _ (.head _)) fun q hq => .tail _ (.tail _ (.tail _ (.tail _ hq)))
    have hl := hJ.length
    rw [List.length_take, List.length_drop] at hl
    refine wpAny_pyIter_list ⟨_, (N1 _ (.head _)).1, rfl, 0, rfl⟩ ?_
    have h12 : _ ≤ 12 := Nat.le_trans (Nat.le_of_eq hl) (Nat.le_trans (Nat.min_le_left _ _) (Nat.le_trans (Nat.sub_le_sub_right (Nat.min_le_left _ _) _) (Nat.le_of_ble_eq_true rfl)))
    exact iter_tail (s := ⟨_, s.gens, s.drawn, _, s.os⟩) GT CH K hsc' hJ h12 F1 H1 (N1 _ (.head _)) (fun q hq => Nat.ne_of_lt (allLt_mem lG.2.2.2 _ (hT ▸ List.mem_append_left _ hq))) hP hd hu hA fun h' tk gs S' ps' cs' d1 d2 d3 nu ho to wv hv pc F' H' hP' A' => h h' tk gs S' ps' cs' d1 d2 d3 nu ho to wv hv pc _ h12 F' H' hP' A'
  · (with_reducible rename IntsAre _ (List.take _ _) => hJ)
    rename_i ax _ _
    (with_reducible rename (_ ∧ @LT.lt Nat _ (L + 1 + 1 + 1) ax ∧ _) => lG)
    have H1 := H.close hT N1 d1 d2 d3 (.tail _ (.tail _ (.tail _ (.tail _ (.head _))))) (.tail _ (.tail _ (.tail _ (.head _)))) (.tail _ (.tail _ (.head _))) fun q hq => .tail _ (.tail _ (.tail _ (.tail _ (.tail _ hq))))
    refine wpAny_pyIter_list ⟨_, (N1 _ (.head _)).1, rfl, 0, rfl⟩ ?_
    exact iter_tail (s := ⟨_, s.gens, s.drawn, _, s.os⟩) (zs := [3, 1, 2, -1]) GT CH K hsc' (.cons _ _ (.cons _ _ (.cons _ _ (.cons _ _ .nil)))) (Nat.le_of_ble_eq_true rfl) F1 H1 (N1 _ (.head _)) (fun q hq => Nat.ne_of_lt (allLt_mem lG.2.2.2.2 _ (hT ▸ List.mem_append_left _ hq))) hP hd hu hA fun h' tk gs S' ps' cs' d1 d2 d3 nu ho to wv hv pc F' H' hP' A' => h h' tk gs S' ps' cs' d1 d2 d3 nu ho to wv hv pc _ (Nat.le_of_ble_eq_true rfl) F' H' hP' A'
/-- the law from its first deed on -/
theorem law_end (G : Gnd w mean mg mb loose G₀) (CH : CodeHd G₀ 364 360) (K : LF c) (hsc : sc = lawScope) {scr : Addr} {vs : List Value} {zs : List Int} (hcs : c.sc = .ref scr) (hscr : G₀.IsList scr vs.toArray) (hI : IntsAre vs zs) (h63 : zs.length ≤ 63) (F : Fr G₀ L s.heap (lm c S.W S.Ol S.Dl (some (.ref S.Gl)) nu ho to wv hv pc)) (H : LS w.params G₀ L S ps cs c1 c2 c3 [] s.heap) (hP : LP c S 0)
    (hd : dp + 100 < recursionLimit) (hu : un + 1000 < cLine) (hA : AllBare s.gens)
    (h : ∀ h' tk gs m, Fr G₀ L h' m → GrownAt 360 h' → AllBare gs → Q (.ret (.bool true)) { s with heap := h', toks := tk, gens := gs }) :
    wpAny (model PR w) (AT dp (some [envOfC (Str.ofString "law") sc L fa cd]) gd un) (execs (lawBody.drop 5) (envOfC (Str.ofString "law") sc L fa cd)) Q E s := by
  show wpAny _ _ (execs [stm lawBody 5, stm lawBody 6, stm lawBody 7, stm lawBody 8, stm lawBody 9, stm lawBody 10] _) _ _ _
  refine wpAny_execs_cons ?_
  refine for_step G CH K hsc hcs hscr hI h63 F H hP hd hu hA fun h1 tk1 gs1 S1 ps1 cs1 d1 d2 d3 nu ho to wv hv pc i hi F1 H1 hP1 A1 => ?_
  refine wpAny_execs_cons ?_
  refine while_step (S := S1) G K hsc F1 H1 ⟨hP1.ok, hP1.line, by have := hP1.len; ktu_offL, by have := hP1.pl; ktu_offL, hP1.dl, hP1.due⟩ hd hu fun h2 tk2 S2 e1 e2 e3 F2 H2 hP2 hos => ?_
  refine wpAny_execs_cons ?_
  refine f7_step (S := S2) G hsc F2 H2 fun h3 tk3 wd hg t1 t2 hdim F3 H3 => ?_
  refine wpAny_execs_cons ?_
  refine f8_step (S := S2) G CH K hsc F3 H3 hP2 hos hdim hd hu A1 fun h4 tk4 gs4 S4 ps4 cs4 ra rd r a1 a2 a3 a4 a5 F4 H4 A4 => ?_
  refine wpAny_execs_cons ?_
  have hdl := hP2.dl
  have hpl := hP2.pl
  refine f9_step (S := S4) G hsc F4 H4 (by rw [a3]; ktu_offL) fun h5 tk5 u n5 hu5 F5 H5 => ?_
  refine wpAny_execs_cons ?_
  refine f10_step (S := { S4 with ds := S4.ds ++ [u], nd := n5 }) G CH K hsc F5 H5 a1 ?_ ?_ ?_ hd hu A4 fun h6 tk6 gs6 m F6 t6 A6 => h _ _ _ m F6 t6 A6
  · show S4.pieces.length < 60
    rw [a2]
    simp only [List.length_append, List.length_cons, List.length_nil]
    ktu_offL
  · show (S4.ds ++ [u]).length = S4.pieces.length
    rw [a2, a3]
    simp only [List.length_append, List.length_cons, List.length_nil]
    ktu_offL
  · show ∀ (j : Nat) p v, S4.pieces[j]? = some p → (S4.ds ++ [u])[j]? = some v → _
    rw [a2, a3]
    intro k p v hp hv
    rcases Nat.lt_or_ge k S2.pieces.length with hk | hk
    · rw [List.getElem?_append_left hk] at hp
      rw [List.getElem?_append_left (by rw [hdl]; exact hk)] at hv
      exact hP2.due k p v hp hv
    · have hk' : k = S2.pieces.length := by
        have := (List.getElem?_eq_some_iff.mp hp).1
        simp only [List.length_append, List.length_cons, List.length_nil] at this
        ktu_offL
      subst hk'
      rw [List.getElem?_append_right (Nat.le_refl _)] at hp
      rw [← hdl, List.getElem?_append_right (Nat.le_refl _)] at hv
      simp only [Nat.sub_self, List.getElem?_cons_zero, Option.some.injEq] at hp hv
      subst hp hv
      refine ⟨?_, a5⟩
      rw [hu5, a3, hdl]
      cases hup : c.up with
      | true =>
        rw [hup] at a4 hdim
        obtain ⟨b1, b2, b3, b4⟩ := a4
        obtain ⟨rfl, rfl⟩ := hdim
        rw [Int.add_zero] at b2
        rw [b1, b2, b3, b4]
      | false =>
        rw [hup] at a4 hdim
        obtain ⟨b1, b2, b3, b4⟩ := a4
        obtain ⟨rfl, rfl⟩ := hdim
        rw [Int.add_zero] at b1
        rw [b1, b2, b3, b4]
end
end Mine

namespace Mine
open PyProof.Rows.TI (Frs SameUp gone)
noncomputable def lm3 (c : LC) (W : Addr) : Str → Option Value := fun z =>
  [(Str.ofString "store", Value.ref W), (Str.ofString "broad", .int c.B c.tb), (Str.ofString "upright", .bool c.up), (Str.ofString "whole", .int c.Wh c.tw), (Str.ofString "how", c.how), (Str.ofString "y", .int c.Y c.ty), (Str.ofString "x", .int c.X c.tx), (Str.ofString "script", c.sc)].lookup z
theorem lm_start {c : LC} {W Ol Dl : Addr} {gl : Option Value} : (fun z => if z = Str.ofString "gaps" then gl else if z = Str.ofString "out" then some (.ref Ol) else if z = Str.ofString "due" then some (.ref Dl) else lm3 c W z) = lm c W Ol Dl gl none none none none none none := by
  funext z
  by_cases e1 : z = Str.ofString "due"
  · subst e1; rfl
  by_cases e2 : z = Str.ofString "out"
  · subst e2; rfl
  by_cases e3 : z = Str.ofString "gaps"
  · subst e3; rfl
  by_cases e4 : z = Str.ofString "piece"
  · subst e4; rfl
  by_cases e5 : z = Str.ofString "h"
  · subst e5; rfl
  by_cases e6 : z = Str.ofString "w"
  · subst e6; rfl
  by_cases e7 : z = Str.ofString "told"
  · subst e7; rfl
  by_cases e8 : z = Str.ofString "holding"
  · subst e8; rfl
  by_cases e9 : z = Str.ofString "number"
  · subst e9; rfl
  · unfold lm lm3
    simp only [e1, e2, e3, e4, e5, e6, e7, e8, e9, if_false]
    refine Eq.symm ?_
    rw [List.lookup_cons, beq_eq_false_iff_ne.mpr e1]
    dsimp only
    rw [List.lookup_cons, beq_eq_false_iff_ne.mpr e2]
theorem lm3_of {g h : Heap} {L W : Addr} {base : Str → Option Value} {X Y Wh B M : Int} {tx ty tw tb : Tok} {up : Bool} {hw sc : Value} {v0 : Option Value} (F : Fr g L h (fun z => if z = Str.ofString "store" then some (.ref W) else if z = Str.ofString "upright" then some (.bool up) else if z = Str.ofString "broad" then some (.int B tb) else if z = Str.ofString "whole" then some (.int Wh tw) else if z = Str.ofString "whole" then v0 else if z = Str.ofString "how" then some hw else if z = Str.ofString "y" then some (.int Y ty) else if z = Str.ofString "x" then some (.int X tx) else base z))
    (hb : ∀ z, base z = if z = Str.ofString "script" then some sc else none) : Fr g L h (lm3 ⟨X, Y, Wh, B, M, tx, ty, tw, tb, up, hw, sc⟩ W) := by
  refine Fr.congr F fun z => ?_
  rw [hb z]
  by_cases e1 : z = Str.ofString "store"
  · subst e1; rfl
  by_cases e2 : z = Str.ofString "broad"
  · subst e2; rfl
  by_cases e3 : z = Str.ofString "upright"
  · subst e3; rfl
  by_cases e4 : z = Str.ofString "whole"
  · subst e4; rfl
  by_cases e5 : z = Str.ofString "how"
  · subst e5; rfl
  by_cases e6 : z = Str.ofString "y"
  · subst e6; rfl
  by_cases e7 : z = Str.ofString "x"
  · subst e7; rfl
  by_cases e8 : z = Str.ofString "script"
  · subst e8; rfl
  · unfold lm3
    simp only [List.lookup_cons, beq_eq_false_iff_ne.mpr e1, beq_eq_false_iff_ne.mpr e2, beq_eq_false_iff_ne.mpr e3, beq_eq_false_iff_ne.mpr e4, beq_eq_false_iff_ne.mpr e5, beq_eq_false_iff_ne.mpr e6, beq_eq_false_iff_ne.mpr e7, beq_eq_false_iff_ne.mpr e8, e1, e2, e3, e4, e5, e6, e7, e8, if_false, List.lookup_nil]
/-- what a walk must show at the law's end -/
structure PostR (R : Result → Shared → Prop) (h₁ : Heap) (os : OsState) (a P : Addr) : Prop where
  go : ∀ s' : Shared, (∃ L m, Fr (ghostOf h₁ [(a, P)]) L s'.heap m) → s'.os = os → AllBare s'.gens → GrownAt P s'.heap → R (.ok (.ret (.bool true))) s'
/-- the law's end: True, and only the table of code has grown -/
theorem post_bool {M : Model} {A : Around} {cd : Code} {s s₁ : Shared} {cw : ClaimW} {cl : Str → Option Addr} {mean : ExcName → Option Value} {args : List WData} {a P : Addr} (hT : TabsAt [(a, P)] s₁.heap) (hn : ∀ cls, cw.raises args cls = false) (hp : cw.post args (.bool true) args = true)
    (h : ∀ R, PostR R s₁.heap s₁.os a P → codeAny M A cd R s) : codeAny M A cd (GoodWG cw cl mean args s₁) s := by
  refine codeAny_mono (h (fun r s' => r = .ok (.ret (.bool true)) ∧ (∃ L m, Fr (ghostOf s₁.heap [(a, P)]) L s'.heap m) ∧ s'.os = s₁.os ∧ AllBare s'.gens ∧ GrownAt P s'.heap) ⟨fun _ a b c d => ⟨rfl, a, b, c, d⟩⟩) fun r s' hs => ?_
  obtain ⟨rfl, ⟨L, m, F⟩, hos, hg, ps, hP⟩ := hs
  obtain ⟨CH, tP⟩ := hT _ (.head _)
  have keep : ∀ b o, b ≠ P → s₁.heap.get? b = some o → s'.heap.get? b = some o := fun b o hb e => F.keep b o (ghost_ne e fun hm => hb (List.mem_singleton.mp hm))
  refine ⟨.inl ⟨_, _, [], rfl, hn, .bool true, hp, fun _ => ⟨List.nodup_nil, fun _ h => nomatch h⟩⟩, ⟨fun b o e => ?_, fun b o e => ?_⟩, hos, hg⟩
  · by_cases hb : b = P
    · subst hb
      rw [tP] at e
      cases e
      exact .inr (.inl ⟨(CH.tab tP).isCodeTable, rfl, #[], ps, rfl, by rw [hP, Array.empty_append]⟩)
    · exact .inl (keep b o hb e)
  · by_cases hb : b = P
    · exact ⟨_, hb ▸ hP⟩
    · exact ⟨o, keep b o hb e⟩
/-- how many bits the hole's sizes have -/
theorem nab {p M : Int} (h0 : 0 ≤ p) (h : p ≤ M) : p.natAbs ≤ M.natAbs := Int.ofNat_le.mp (by rw [Int.natAbs_of_nonneg h0, Int.natAbs_of_nonneg (Int.le_trans h0 h)]; exact h)
theorem lf_of {how wh : Int} (h1 : Builtin.Int.intBits how ≤ 1048576) (h2 : Builtin.Int.intBits wh ≤ 1048576) {X Y : Int} {tx ty tw tb : Tok} {up : Bool} {hw sc : Value} :
    LF ⟨X, Y, 12 + (if wh < 0 then -wh else wh), 1 + (if how < 0 then -how else how).fdiv 2, 1 + (if how < 0 then -how else how).fdiv 2 + (12 + (if wh < 0 then -wh else wh)) + 1, tx, ty, tw, tb, up, hw, sc⟩ := by
  have b1 : Builtin.Int.intBits (1 + (if how < 0 then -how else how).fdiv 2) ≤ 1048577 := intBits_add_le (m := 1048576) (n := 1048576) (by decide) (intBits_fdiv_le (intBits_ite_le (m := 1048576) (n := 1048576) (intBits_neg_le h1) h1))
  have b2 : Builtin.Int.intBits (12 + (if wh < 0 then -wh else wh)) ≤ 1048577 := intBits_add_le (m := 1048576) (n := 1048576) (by decide) (intBits_ite_le (m := 1048576) (n := 1048576) (intBits_neg_le h2) h2)
  have b3 := intBits_add_le b1 b2
  have b4 : Builtin.Int.intBits (1 + (if how < 0 then -how else how).fdiv 2 + (12 + (if wh < 0 then -wh else wh)) + 1) ≤ 1048579 := intBits_add_le (m := 1048578) (n := 1048578) b3 (by decide)
  have f0 : (if how < 0 then -how else how).fdiv 2 = (if how < 0 then -how else how) / 2 := Int.fdiv_eq_ediv_of_nonneg _ (by decide)
  have f1 : 0 ≤ (if how < 0 then -how else how) := by split <;> ktu_offL
  have f2 : 0 ≤ (if wh < 0 then -wh else wh) := by split <;> ktu_offL
  have f3 : 0 ≤ (if how < 0 then -how else how).fdiv 2 := by rw [f0]; ktu_offL
  generalize (if how < 0 then -how else how).fdiv 2 = bb at *
  generalize (if wh < 0 then -wh else wh) = ww at *
  refine ⟨?_, ?_, ?_, ?_, ?_⟩
  · show 0 < 1 + bb; ktu_offL
  · show 12 ≤ 12 + ww; ktu_offL
  · intro p q p0 p1 q0 q1
    exact IntMulOk.of_le (intBits_le_of_natAbs (nab p0 p1) b4) (intBits_le_of_natAbs (nab q0 q1) b4) (by decide)
  · show 1 + bb ≤ 1 + bb + (12 + ww) + 1; ktu_offL
  · show 12 + ww < 1 + bb + (12 + ww) + 1; ktu_offL
theorem bits_of4 {zs rest : List Int} {x y how wh : Int} (hL : (PyData.list (zs.map PyData.int)).layable0 = true) (e : List.take 4 zs ++ [0, 0, 0, 0] = x :: y :: how :: wh :: rest) : Builtin.Int.intBits how ≤ 1048576 ∧ Builtin.Int.intBits wh ≤ 1048576 := by
  have one : ∀ a, a ∈ List.take 4 zs ++ [0, 0, 0, 0] → Builtin.Int.intBits a ≤ 1048576 := fun a ha => by
    rcases List.mem_append.mp ha with ha | ha
    · exact intBits_le_of_item (List.mem_of_mem_take ha) hL
    · have : a = 0 := by simpa using ha
      subst this
      decide
  exact ⟨one _ (e ▸ .tail _ (.tail _ (.head _))), one _ (e ▸ .tail _ (.tail _ (.tail _ (.head _))))⟩
theorem news_drop5 {g h : Heap} {L : Addr} {a b d e f : Addr × Obj} {rest : List (Addr × Obj)} (N : News g L h (a :: b :: d :: e :: f :: rest)) : News g L h rest := fun q hq => N q (.tail _ (.tail _ (.tail _ (.tail _ (.tail _ hq)))))
theorem news_pick {g h : Heap} {L : Addr} {a0 a1 a2 a3 a4 a5 a6 a7 a8 a9 a10 a11 a12 : Addr × Obj} (N : News g L h [a0, a1, a2, a3, a4, a5, a6, a7, a8, a9, a10, a11, a12]) : News g L h [a0, a1, a2, a3, a5, a9, a10, a11, a12] :=
  List.forall_mem_cons.mpr ⟨N _ (.head _), List.forall_mem_cons.mpr ⟨N _ (.tail _ (.head _)), List.forall_mem_cons.mpr ⟨N _ (.tail _ (.tail _ (.head _))), List.forall_mem_cons.mpr ⟨N _ (.tail _ (.tail _ (.tail _ (.head _)))), List.forall_mem_cons.mpr ⟨N _ (.tail _ (.tail _ (.tail _ (.tail _ (.tail _ (.head _)))))), List.forall_mem_cons.mpr ⟨N _ (.tail _ (.tail _ (.tail _ (.tail _ (.tail _ (.tail _ (.tail _ (.tail _ (.tail _ (.head _)))))))))), List.forall_mem_cons.mpr ⟨N _ (.tail _ (.tail _ (.tail _ (.tail _ (.tail _ (.tail _ (.tail _ (.tail _ (.tail _ (.tail _ (.head _))))))))))), List.forall_mem_cons.mpr ⟨N _ (.tail _ (.tail _ (.tail _ (.tail _ (.tail _ (.tail _ (.tail _ (.tail _ (.tail _ (.tail _ (.tail _ (.head _)))))))))))), List.forall_mem_cons.mpr ⟨N _ (.tail _ (.tail _ (.tail _ (.tail _ (.tail _ (.tail _ (.tail _ (.tail _ (.tail _ (.tail _ (.tail _ (.tail _ (.head _))))))))))))), List.forall_mem_nil _⟩⟩⟩⟩⟩⟩⟩⟩⟩
section
variable {w : World} {mean : ExcName → Option Value} {mg mb : Str → Option Value} {loose : List Str} {G₀ : Heap} {dp un : Nat} {gd : Option (List Code)} {s : Shared} {E : Value → Shared → Prop} {Q : Flow → Shared → Prop} {L fa : Addr} {cd : Value} {c : LC} {sc : Scope}
theorem law_mid (G : Gnd w mean mg mb loose G₀) (CH : CodeHd G₀ 364 360) (K : LF c) (hsc : sc = lawScope) {scr : Addr} {vs : List Value} {zs : List Int} (hcs : c.sc = .ref scr) (hscr : G₀.IsList scr vs.toArray) (hI : IntsAre vs zs) (h63 : zs.length ≤ 63) {W dW lr sf ls ax : Addr} {k : Nat → Tok} {tw th : Tok} {n np nx : Nat} {items : List Value} {o1 o2 o3 : Obj} {c1 c2 c3 : Option Value}
    (F : Fr G₀ L s.heap (lm3 c W)) (N : News G₀ L s.heap [(W, instObj 480 dW), (dW, dictOf (wEs w.params k tw th lr sf ls) 8), (lr, listOf (pcs []).toArray np), (ls, listOf (refs []).toArray n), (ax, listOf items.toArray nx), (L + 1 + 1 + 1, o3), (L + 1 + 1, o2), (L + 1, o1), (360, tabObj #[])])
    (e1 : o1.data = .cell c1) (e2 : o2.data = .cell c2) (e3 : o3.data = .cell c3) (h1 : @Ne Nat ls lr) (h2 : @Ne Nat ls ax) (h3 : @Ne Nat lr ax)
    (hd : dp + 100 < recursionLimit) (hu : un + 1000 < cLine) (hA : AllBare s.gens)
    (h : ∀ h' tk gs m, Fr G₀ L h' m → GrownAt 360 h' → AllBare gs → Q (.ret (.bool true)) { s with heap := h', toks := tk, gens := gs }) :
    wpAny (model PR w) (AT dp (some [envOfC (Str.ofString "law") sc L fa cd]) gd un) (execs (lawBody.drop 3) (envOfC (Str.ofString "law") sc L fa cd)) Q E s := by
  have zS0 : Mine.Stop "call ref" := ⟨trivial⟩
  have zS1 : Mine.Stop "execs cons" := ⟨trivial⟩
  have GT := G
  obtain ⟨KX, T⟩ := G
  have hsc' := hsc
  conv at hsc => rhs; whnf
  subst hsc
  show wpAny _ _ (execs [stm lawBody 3, stm lawBody 4, stm lawBody 5, stm lawBody 6, stm lawBody 7, stm lawBody 8, stm lawBody 9, stm lawBody 10] _) _ _ _
  refine wpAny_execs_cons ?_
  conv in (stm lawBody 3) => whnf
  k_steps
  refine Halt.mk ?_
  (with_reducible rename News _ _ _ _ => N1)
  (with_reducible rename Fr _ _ _ _ => F1)
  rename_i Tp _ _
  (with_reducible rename (@LT.lt Nat _ W Tp ∧ _) => l1)
  have nW := N1 _ (.tail _ (.head _))
  have ndW := N1 _ (.tail _ (.tail _ (.head _)))
  have nlr := N1 _ (.tail _ (.tail _ (.tail _ (.head _))))
  have nls := N1 _ (.tail _ (.tail _ (.tail _ (.tail _ (.head _)))))
  have nax := N1 _ (.tail _ (.tail _ (.tail _ (.tail _ (.tail _ (.head _))))))
  have nc3 := N1 _ (.tail _ (.tail _ (.tail _ (.tail _ (.tail _ (.tail _ (.head _)))))))
  have nc2 := N1 _ (.tail _ (.tail _ (.tail _ (.tail _ (.tail _ (.tail _ (.tail _ (.head _))))))))
  have nc1 := N1 _ (.tail _ (.tail _ (.tail _ (.tail _ (.tail _ (.tail _ (.tail _ (.tail _ (.head _)))))))))
  have ntb := N1 _ (.tail _ (.tail _ (.tail _ (.tail _ (.tail _ (.tail _ (.tail _ (.tail _ (.tail _ (.head _))))))))))
  have k4 : ∀ {o : Obj} {v : Option Value}, o.data = .cell v → knd o = 4 := fun e => by unfold knd; rw [e]
  have hWd : @Ne Nat W dW := ne_knd nW.1 ndW.1 (show (480 : Nat) ≠ 1008 by decide)
  have hWl : @Ne Nat W ls := ne_knd nW.1 nls.1 (show (480 : Nat) ≠ 2 by decide)
  have hdl : @Ne Nat dW ls := ne_knd ndW.1 nls.1 (show (1008 : Nat) ≠ 2 by decide)
  have hW0 : 0 < c.Wh := by have := K.hW; ktu_offL
  have hTp := N1 _ (.head _)
  refine wpAny_mono (give_c GT W dW lr sf ls Tp k tw th n 0 [] c.up c.X c.Y c.B 0 c.Wh c.tx c.ty c.tb _ c.tw (List.forall_mem_nil _) K.hB hW0 List.Pairwise.nil (List.forall_mem_nil _) (by rw [sizeLine_eq]; decide) hWd hWl hdl (not_mem3 (Nat.ne_of_gt l1.1) (Nat.ne_of_gt l1.2.1) (Nat.ne_of_gt l1.2.2.2.1)) (List.forall_mem_nil _) dp _ _ un _ _ (by ktu_offL) (by ktu_offL) F1.keep (fun q hq => ?_)) (fun v s' hv => ?_) fun _ _ x => x
  · rw [List.flatMap_nil, List.append_nil] at hq
    rcases List.mem_cons.mp hq with rfl | hq
    · exact ⟨hTp.1, hTp.2.2⟩
    rcases List.mem_cons.mp hq with rfl | hq
    · exact ⟨nW.1, nW.2.2⟩
    rcases List.mem_cons.mp hq with rfl | hq
    · exact ⟨ndW.1, ndW.2.2⟩
    · rw [List.mem_singleton.mp hq]
      exact ⟨nls.1, nls.2.2⟩
  obtain ⟨hh2, tk2, rfl, kp, rfl, a, d, na, nd, nad, ls', n', r', t', g1, g2, g3, g4, g5, g6, g7⟩ := hv
  have F2 : Fr G₀ L hh2 (lm3 c W) := kp.fr F1 (not_mem2 ndW.2.1.symm nls.2.1.symm) (List.forall_mem_cons.mpr ⟨ndW.2.2, List.forall_mem_cons.mpr ⟨nls.2.2, List.forall_mem_nil _⟩⟩)
  have kd := fun (b : Addr) (o : Obj) e (k1 : knd o ≠ 1008) (k2 : knd o ≠ 2) => kp b o (not_mem2 (ne_knd e ndW.1 k1) (ne_knd e nls.1 k2)) e
  have kl := fun (b : Addr) (xs : Array Value) (m : Nat) e (hne : @Ne Nat b ls) => kp b (listOf xs m) (not_mem2 (ne_knd (o := listOf xs m) e ndW.1 (show (2 : Nat) ≠ 1008 by decide)) hne) e
  have N2 : News G₀ L hh2 [(a, instObj 203 d), (d, dictOf (rcEs w.params r') 5), (W, instObj 480 dW), (dW, dictOf (wEs w.params k tw th lr sf ls') 8), (lr, listOf (pcs []).toArray np), (ls', listOf (refs [⟨a, d, r', 0, c.Wh⟩]).toArray n'), (ax, listOf items.toArray nx), (L + 1 + 1 + 1, o3), (L + 1 + 1, o2), (L + 1, o1), (360, tabObj #[])] := by
    refine List.forall_mem_cons.mpr ⟨⟨g6, new_off F1 na⟩, List.forall_mem_cons.mpr ⟨⟨g7, new_off F1 nd⟩, List.forall_mem_cons.mpr ⟨⟨kd _ _ nW.1 (show (480 : Nat) ≠ 1008 by decide) (show (480 : Nat) ≠ 2 by decide), nW.2⟩, List.forall_mem_cons.mpr ⟨⟨g1, ndW.2⟩, List.forall_mem_cons.mpr ⟨⟨kl _ _ _ nlr.1 h1.symm, nlr.2⟩, List.forall_mem_cons.mpr ⟨⟨g3, ?_⟩, List.forall_mem_cons.mpr ⟨⟨kl _ _ _ nax.1 h2.symm, nax.2⟩, List.forall_mem_cons.mpr ⟨⟨kd _ _ nc3.1 (by rw [k4 e3]; decide) (by rw [k4 e3]; decide), nc3.2⟩, List.forall_mem_cons.mpr ⟨⟨kd _ _ nc2.1 (by rw [k4 e2]; decide) (by rw [k4 e2]; decide), nc2.2⟩, List.forall_mem_cons.mpr ⟨⟨kd _ _ nc1.1 (by rw [k4 e1]; decide) (by rw [k4 e1]; decide), nc1.2⟩, List.forall_mem_cons.mpr ⟨⟨kd _ _ ntb.1 (show (3 : Nat) ≠ 1008 by decide) (show (3 : Nat) ≠ 2 by decide), ntb.2⟩, List.forall_mem_nil _⟩⟩⟩⟩⟩⟩⟩⟩⟩⟩⟩
    exact g2.elim (fun e => e ▸ nls.2) (fun hn => new_off F1 hn)
  have hlsr : @Ne Nat ls' lr ∧ @Ne Nat ls' ax := g2.elim (fun e => e ▸ ⟨h1, h2⟩) (fun hn => ⟨(get_ne nlr.1 hn).symm, (get_ne nax.1 hn).symm⟩)
  clear kd kl N1 F1 nW ndW nlr nls nax nc3 nc2 nc1 ntb hTp l1
  k_steps
  refine Halt.mk ?_
  refine wpAny_execs_cons ?_
  conv in (stm lawBody 4) => whnf
  k_steps
  refine Halt.mk ?_
  (with_reducible rename News _ _ _ _ => N3)
  (with_reducible rename Fr _ _ _ _ => F3)
  rename_i T0 _ _ Gl _ _ Ol _ _ Dl _ _ D3 _ _ _ _ _ _
  rw [lm_start] at F3
  (with_reducible rename (@LT.lt Nat _ T0 Gl ∧ _) => lG)
  (with_reducible rename (@LT.lt Nat _ Gl Ol ∧ _) => lO)
  (with_reducible rename (@LT.lt Nat _ Ol Dl ∧ _) => lD)
  have n5 := news_drop5 N3
  refine law_end (s := ⟨_, s.gens, s.drawn, _, s.os⟩) (S := ⟨W, dW, lr, sf, ls', Gl, Ol, Dl, ax, k, tw, th, n', np, 0, 0, 0, nx, [⟨a, d, r', 0, c.Wh⟩], [], [⟨T0, 0, c.Wh, tk2, c.tw, 0⟩], [], [], items⟩) (ps := #[]) (cs := []) GT CH K hsc' hcs hscr hI h63 F3
    ⟨Sto.all (n5 _ (.tail _ (.tail _ (.head _)))) (n5 _ (.tail _ (.tail _ (.tail _ (.head _))))) (n5 _ (.tail _ (.tail _ (.tail _ (.tail _ (.tail _ (.head _))))))) (n5 _ (.tail _ (.tail _ (.tail _ (.tail _ (.head _)))))) (N3 _ (.tail _ (.tail _ (.tail _ (.head _))))) (N3 _ (.tail _ (.tail _ (.head _)))) (N3 _ (.tail _ (.head _))) (n5 _ (.tail _ (.tail _ (.tail _ (.tail _ (.tail _ (.tail _ (.head _))))))))
      (List.forall_mem_cons.mpr ⟨pair_all (n5 _ (.head _)) (n5 _ (.tail _ (.head _))), List.forall_mem_nil _⟩) (List.forall_mem_nil _) (List.forall_mem_cons.mpr ⟨N3 _ (.tail _ (.tail _ (.tail _ (.tail _ (.head _))))), List.forall_mem_nil _⟩) (List.forall_mem_nil _) (List.forall_mem_nil _),
    List.forall_mem_cons.mpr ⟨n5 _ (.tail _ (.tail _ (.tail _ (.tail _ (.tail _ (.tail _ (.tail _ (.tail _ (.tail _ (.tail _ (.head _))))))))))), List.forall_mem_nil _⟩, ⟨o1, o2, o3, e1, e2, e3, List.forall_mem_cons.mpr ⟨n5 _ (.tail _ (.tail _ (.tail _ (.tail _ (.tail _ (.tail _ (.tail _ (.head _)))))))), List.forall_mem_cons.mpr ⟨n5 _ (.tail _ (.tail _ (.tail _ (.tail _ (.tail _ (.tail _ (.tail _ (.tail _ (.head _))))))))), List.forall_mem_cons.mpr ⟨n5 _ (.tail _ (.tail _ (.tail _ (.tail _ (.tail _ (.tail _ (.tail _ (.tail _ (.tail _ (.head _)))))))))), List.forall_mem_nil _⟩⟩⟩⟩,
    List.forall_mem_nil _, List.forall_mem_nil _, List.forall_mem_nil _, ?_, TabOK.empty⟩ ⟨?_, Line.one hW0, List.Perm.refl _, Nat.le_refl _, Nat.le_refl _, rfl, fun _ _ _ hp => by cases hp⟩ hd hu hA h
  · exact nodup6 hlsr.1 (Nat.ne_of_lt lG.2.2.2.2.2.2.1) (Nat.ne_of_lt lO.2.2.2.2.2.2.2.1) (Nat.ne_of_lt lD.2.2.2.2.2.2.2.2.1) hlsr.2 (List.nodup_cons.mpr ⟨not_mem4 (Nat.ne_of_lt lG.2.2.2.2.2.1) (Nat.ne_of_lt lO.2.2.2.2.2.2.1) (Nat.ne_of_lt lD.2.2.2.2.2.2.2.1) h3, List.nodup_cons.mpr ⟨not_mem3 (Nat.ne_of_lt lO.1) (Nat.ne_of_lt lD.2.1) (Nat.ne_of_gt lG.2.2.2.2.2.2.2.1), List.nodup_cons.mpr ⟨not_mem2 (Nat.ne_of_lt lD.1) (Nat.ne_of_gt lO.2.2.2.2.2.2.2.2.1), List.nodup_cons.mpr ⟨fun hm => Nat.ne_of_gt lD.2.2.2.2.2.2.2.2.2.1 (List.mem_singleton.mp hm), List.nodup_cons.mpr ⟨List.not_mem_nil, List.nodup_nil⟩⟩⟩⟩⟩)
  · exact List.forall_mem_cons.mpr ⟨⟨g4, hW0⟩, List.forall_mem_nil _⟩
end
end Mine

namespace Mine
theorem post_true (w : List Int) : PySem.Challenge.rw_ay0033_01.row.claim.post [ofPy (PyData.list (List.map PyData.int w))] (WData.bool true) [ofPy (PyData.list (List.map PyData.int w))] = true :=
  postW_of (r := PySem.Challenge.rw_ay0033_01.row.toRowW) rfl (w_eq_bool (w_res rfl) w_lit) rfl
local macro_rules | `(tactic| walk_at "subscriptTail BinOp") => `(tactic| ((with_reducible rename IntsAre _ (_ ++ _) => zz1); refine Mine.Halt.go ?_))
local macro_rules | `(tactic| walk_at "execs cons") => `(tactic| (k_dflt (show wpAny _ _ (execs (lawBody.drop 3) _) _ _ _); refine Mine.Halt.go ?_))
local macro_rules | `(tactic| kn_posts) => `(tactic| (refine Mine.post_bool (by assumption) (fun _ => rfl) (Mine.post_true _) ?_; intro kR hkR))
theorem four_of (l : List Int) : ∃ x y how wh rest, List.take 4 l ++ [0, 0, 0, 0] = x :: y :: how :: wh :: rest ∧ rest.length ≤ 4 := by
  rcases l with _ | ⟨a, _ | ⟨b, _ | ⟨c, _ | ⟨d, l⟩⟩⟩⟩ <;> exact ⟨_, _, _, _, _, rfl, by simp⟩
inductive FourI (l : List Int) (vs : List Value) : Prop
  | mk (x y how wh : Int) (rest : List Int) (tx ty thow twh : Tok) (vs' : List Value) (e : List.take 4 l ++ [0, 0, 0, 0] = x :: y :: how :: wh :: rest) (hr : rest.length ≤ 4) (ev : vs = .int x tx :: .int y ty :: .int how thow :: .int wh twh :: vs') (hI : IntsAre vs' rest) : FourI l vs
theorem ints_four {l : List Int} {vs : List Value} (hI : IntsAre vs (List.take 4 l ++ [0, 0, 0, 0])) : FourI l vs := by
  obtain ⟨x, y, how, wh, rest, e4, hr4⟩ := four_of l
  rw [e4] at hI
  obtain _ | ⟨_, tx, hI⟩ := hI
  obtain _ | ⟨_, ty, hI⟩ := hI
  obtain _ | ⟨_, thow, hI⟩ := hI
  obtain _ | ⟨_, twh, hI⟩ := hI
  exact ⟨x, y, how, wh, rest, tx, ty, thow, twh, _, e4, hr4, rfl, hI⟩
theorem law_walk : PySem.Challenge.rw_ay0033_01.Holds := Mine.hd (by
  k_go0
  have zS0 : Mine.StopAt 480 := ⟨trivial⟩
  k_steps
  refine Halt.mk ?_
  (with_reducible rename IntsAre _ _ => hI)
  rename_i script _ _ _ _ _ _ _ _ _ _ _ _ _ _ _ _ _ _ _ _ _ _ _ _ _ _ _ _ _ _
  obtain ⟨x, y, how, wh, rest, tx, ty, thow, twh, vs', e4, hr4, rfl, hI2⟩ := ints_four hI
  have hr5 := hI2.length
  (with_reducible rename News _ _ _ _ => N1)
  (with_reducible rename Fr _ _ _ _ => F1)
  refine kba_turn (value' := Expr.Name (Str.ofString "_") ⟨0, 0, 0, 0⟩) (fun _ => rfl) ?_
  refine kms_slice_lit F1 N1 ⟨_, (N1 _ (.head _)).1, rfl, 0, rfl⟩ (by kmk_part) (by kmk_part) (zs := [.int x tx, .int y ty, .int how thow, .int wh twh]) rfl (fun D h' F2 N2 l2 => ?_) rfl (fun _ => rfl) ?_
  · clear F1 N1
    k_steps
    refine Halt.mk ?_
    (with_reducible rename News _ _ _ _ => N1)
    (with_reducible rename Fr _ _ _ _ => F1)
    (with_reducible rename Frag.In _ _ => KX)
    (with_reducible rename Top _ _ _ _ _ _ => T1)
    refine make_c (rest := _) ⟨KX, T1⟩ F1 N1 (fun _ _ e => e) (by decide) (by decide) (fun W dW h3 tk3 k3 tw3 th3 sf3 lr3 ls3 n3 F3 N3 q1 q2 q3 q4 => ?_)
    clear F1 N1
    k_steps
    refine Halt.mk ?_
    (with_reducible rename News _ _ _ _ => N1)
    (with_reducible rename Fr _ _ _ _ => F1)
    have N2 := news_pick N1
    have F2 := lm3_of (M := 1 + (if how < 0 then -how else how).fdiv 2 + (12 + (if wh < 0 then -wh else wh)) + 1) F1 (fun _ => rfl)
    obtain ⟨b1, b2⟩ := bits_of4 (by assumption) e4
    refine law_mid (dp := _) (un := _) ⟨KX, T1⟩ codeHd (lf_of b1 b2) rfl rfl lifted (by assumption) ?h63 F2 N2 (by assumption) (by assumption) (by assumption) (Nat.ne_of_gt q4) ?h2 ?h3 (by decide) (by decide) ?hA ?hQ
    case h63 => ktu_offL
    case h2 => exact Nat.ne_of_gt (Nat.lt_trans (allLt_mem q1 (D, _) (.tail _ (.head _))) (Nat.lt_trans q2 (Nat.lt_trans q3 q4)))
    case h3 => exact Nat.ne_of_gt (Nat.lt_trans (allLt_mem q1 (D, _) (.tail _ (.head _))) (Nat.lt_trans q2 q3))
    case hA => exact AllBare.of_eq (by assumption)
    case hQ =>
      intro h' tk gs m F' g' A'
      (with_reducible rename PostR _ _ _ _ _ => hR)
      exact hR.go _ ⟨_, m, F'⟩ rfl A' g'
  · simp
    rw [sizeLine_eq]
    ktu_offL)
end Mine

theorem PySem.Challenge.cw_ay0033_01_holds : PySem.Challenge.rw_ay0033_01.Holds :=
  Mine.law_walk
