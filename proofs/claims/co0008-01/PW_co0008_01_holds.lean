import PyProof.Rows.All
import Wide.All
import OpenK.AllK
import Wide.FinOn
import Lean
import PySem.Challenge.RW_co0008_01
open PySem PySem.W PyProof.Rows
set_option Elab.async false
set_option maxRecDepth 100000
set_option maxHeartbeats 8000000
section
open PySem PySem.W PyProof.Rows
set_option Elab.async false
set_option maxRecDepth 100000
set_option maxHeartbeats 8000000
namespace Mine
open_top hd for PySem.Challenge.rw_co0008_01
end Mine

end
section
theorem Mine.walk_off_B1 : True := by
  w_top off
  trivial
open PySem PySem.W PyProof.Rows PySem.Spec PySem.Calls
set_option Elab.async false
set_option maxRecDepth 100000
set_option maxHeartbeats 8000000
namespace Mine

abbrev frs (l : List Env) : List Addr := l.filterMap (·.frame)

section
variable {prog : Program} {w : World} {A₀ A : Around} {s : Shared} {base h₀ g₀ : Heap} {outer : List Env} {L : Addr} {m : Str → Option Value} {env : Env} {news : List (Addr × Obj)} {K : Frag} {p : Program} {loose : List Str} {mean : ExcName → Option Value} {mg mb : Str → Option Value}
  {R : Result → Shared → Prop}

theorem frs_mem {b : Addr} (hf : env.frame = some L) (hm : b ∈ frs (env :: outer)) : b = L ∨ b ∈ frs outer := by
  obtain ⟨e, he, hb⟩ := List.mem_filterMap.mp hm
  cases he with
  | head => exact .inl (Option.some.inj (hb.symm.trans hf))
  | tail _ he => exact .inr (List.mem_filterMap.mpr ⟨e, he, hb⟩)
theorem frs_head (hf : env.frame = some L) : L ∈ frs (env :: outer) := List.mem_filterMap.mpr ⟨env, .head _, hf⟩
theorem frs_tail {b : Addr} (hm : b ∈ frs outer) : b ∈ frs (env :: outer) := by
  obtain ⟨e, he, hb⟩ := List.mem_filterMap.mp hm
  exact List.mem_filterMap.mpr ⟨e, .tail _ he, hb⟩

theorem dicts_deeper {g : Heap} (hf : env.frame = some L) (D : KtsDicts (frs outer) h₀) (FG : Fr h₀ L g m) : KtsDicts (frs (env :: outer)) g := by
  intro b hb
  rcases frs_mem hf hb with rfl | hb
  · obtain ⟨o, es, ep, ho, hd, _⟩ := FG.ns
    exact ⟨o, es, ep, ho, hd⟩
  · obtain ⟨o, es, n, ho, hd⟩ := D b hb
    exact ⟨o, es, n, FG.keep b o ho, hd⟩

/-- what a callee's end gives back to the frame that called it -/
theorem leaveS_back {g : Heap} {v : Value} {s' : Shared} (B : Below A₀ base outer h₀) (hf : env.frame = some L) (X₀ : K.In base) (TB : Top p loose mean mg mb base) (D : KtsDicts (frs outer) h₀) (T0 : KtsTurn (frs outer) g₀ h₀)
    (FG : Fr h₀ L g m) (hl : LeaveS (frs (env :: outer)) A₀ base outer K p loose mean mg mb g₀ h₀ L m g R v s') : R (.ok (.ret v)) s' := by
  have nL₀ : h₀.get? L = none := kts_self FG
  rcases hl with ⟨L', m', news', F', N', k⟩ | ⟨g', L', m', news', T', F', N', k⟩
  · have up : g.UpToSlots s'.heap := Heap.UpToSlots.of_keeps F'.keep
    refine k ⟨up.ns FG.ns, fun b o e => F'.keep b o (FG.keep b o e), FG.above⟩ fun q hq => ⟨(N' q hq).1, fun z => ?_, ?_⟩
    · obtain ⟨o, _, _, ho, _⟩ := FG.ns
      have := (N' q hq).2.2
      rw [z, ho] at this
      cases this
    · cases z : h₀.get? q.1 with
      | none => rfl
      | some o =>
        have := (N' q hq).2.2
        rw [FG.keep _ _ z] at this
        cases this
  · have up : g.UpToSlots s'.heap := fun b o e _ => by
      obtain ⟨sl, hs⟩ := T'.up e
      exact ⟨sl, F'.keep _ _ hs⟩
    obtain ⟨T₁, S₁⟩ := kts_turn_at (h := s'.heap) (fs := frs outer) (g := h₀)
      (fun b hb => by
        obtain ⟨_, o, ho, _⟩ := B.frames.mem hb
        exact ⟨o, ho⟩)
      (fun b o e nm => F'.keep b o (T'.other b o (FG.keep b o e) (fun hm => by
        rcases frs_mem hf hm with z | z
        · rw [z, nL₀] at e
          cases e
        · exact nm z)))
      (fun b o e _ => by
        obtain ⟨sl, hs⟩ := T'.up (FG.keep b o e)
        exact ⟨sl, F'.keep _ _ hs⟩)
    have B₃ : Below A₀ base outer (ktsHeap s'.heap (frs outer) h₀) := ⟨B.stack, fun b o e => T₁.other b o (B.stays b o e) (fun hm => by
      rw [(B.frames.mem hm).1] at e
      cases e), B.frames.of_keeps fun b o e _ => by
      obtain ⟨sl, hs⟩ := T₁.up e
      exact ⟨_, hs, rfl⟩⟩
    refine k _ (T0.trans T₁) ⟨up.ns FG.ns, S₁, by rw [T₁.size]; exact FG.above⟩ (fun q hq => ⟨(N' q hq).1, fun z => ?_, ?_⟩) B₃ (X₀.keeps B₃.stays) (TB.keeps B₃.stays) (D.turn T₁)
    · obtain ⟨o, _, _, ho, _⟩ := FG.ns
      obtain ⟨sl, hs⟩ := T'.up ho
      have := (N' q hq).2.2
      rw [z, hs] at this
      cases this
    · refine T₁.none_ _ ?_
      cases z : h₀.get? q.1 with
      | none => rfl
      | some o =>
        obtain ⟨sl, hs⟩ := T'.up (FG.keep _ _ z)
        have := (N' q hq).2.2
        rw [hs] at this
        cases this
end

section
variable {prog : Program} {w : World} {A₀ A : Around} {s : Shared} {base h₀ g₀ : Heap} {outer : List Env} {L : Addr} {m : Str → Option Value} {env : Env} {news : List (Addr × Obj)} {K : Frag} {p : Program} {loose : List Str} {mean : ExcName → Option Value} {mg mb : Str → Option Value}
  {R : Result → Shared → Prop} {name qual : Str} {params : Arguments} {body : List Stmt} {scope : Scope} {dV kV doc pm cdv ct oc : Value} {an od : Option Addr} {osl : Array (Option Value)} {f : Addr} {args : Args} {binds : List (Str × Value)}

/-- a call of a def whose names are locals; what is handed back may have turned the frames below -/
theorem enterS (B : Below A₀ base outer h₀) (F : Fr h₀ L s.heap m) (X₀ : K.In h₀) (N : News h₀ L s.heap news) (T : Top p loose mean mg mb h₀) (XB : K.In base) (TB : Top p loose mean mg mb base) (D : KtsDicts (frs outer) h₀)
    (T0 : KtsTurn (frs outer) g₀ h₀) (hA : A.frames = some (env :: outer)) (hf : env.frame = some L) (hke : env.scope.kind = .function)
    (ho : K.lookup f = some ⟨oc, od, .func (fnOf name qual params body scope dV kV doc pm an cdv ct), osl⟩) (hcd : codeIn K cdv qual = true) (hroom : A.depth < recursionLimit)
    (hbind : BindsTo s (fnOf name qual params body scope dV kV doc pm an cdv ct) args binds) (hloc : ∀ y ∈ binds, scope.names.lookup y.1 = some .local)
    (h : ∀ g L' h₁, Fr h₀ L g m → Fr g L' h₁ (fun y => binds.reverse.lookup y) → News g L' h₁ news → Below A base (env :: outer) g → K.In g → Top p loose mean mg mb g → KtsDicts (frs (env :: outer)) g → (∀ q ∈ news, q.1 < L') →
      wpAny (model prog w) (A.deeper (envOf qual scope L' f cdv)) (execs body (envOf qual scope L' f cdv))
        (fun fl s' => LeaveS (frs (env :: outer)) A₀ base outer K p loose mean mg mb g₀ h₀ L m g R (match fl with | .ret v => v | _ => .none) s')
        (fun e s' => wpAny (model prog w) (A.deeper (envOf qual scope L' f cdv)) (leaving (envOf qual scope L' f cdv) e) (fun _ s'' => R (.error e) s'') (fun e' s'' => R (.error e') s'') s')
        { s with heap := h₁, toks := s.toks + binds.length })
    (hco : scope.isCoroutine = false) (hgen : scope.isGenerator = false) (hk : scope.kind = .function)
    (hcell : ∀ x ∈ scope.names, x.2 ≠ .cell) : codeAny (model prog w) A (.call (.ref f) args) R s := by
  obtain ⟨FG, BG, st, _⟩ := groundX (R := R) B F N hA hf hke
  refine codeAny_call_def (fd := fnOf name qual params body scope dV kV doc pm an cdv ct) (body := body) (binds := binds) hroom ((X₀.keeps F.keep) _ _ ho) rfl (T.nolimit.keeps F.keep) (codeRec_of (X₀.keeps F.keep) hcd) rfl hbind hcell hloc (fun h₁ hns hk₁ => ?_) hco hgen hk
  exact wpAny_mono (h _ s.heap.objs.size h₁ FG ⟨hns, fun b o e => hk₁ b o (of_hideAll _ e), Nat.le_of_eq (hideAll_size _ _)⟩
    (fun q hq => ⟨hk₁ _ _ (N q hq).1, Nat.ne_of_lt (Heap.lt_size (N q hq).1), hideAll_none _ (List.mem_map_of_mem hq)⟩) BG (X₀.keeps st) (T.keeps st) (dicts_deeper hf D FG) (fun q hq => Heap.lt_size (N q hq).1))
    (fun fl s' hl => leaveS_back B hf XB TB D T0 FG hl) fun _ _ y => y

/-- the same where the def has cells -/
theorem enterSC (B : Below A₀ base outer h₀) (F : Fr h₀ L s.heap m) (X₀ : K.In h₀) (N : News h₀ L s.heap news) (T : Top p loose mean mg mb h₀) (XB : K.In base) (TB : Top p loose mean mg mb base) (D : KtsDicts (frs outer) h₀)
    (T0 : KtsTurn (frs outer) g₀ h₀) (hA : A.frames = some (env :: outer)) (hf : env.frame = some L) (hke : env.scope.kind = .function)
    (ho : K.lookup f = some ⟨oc, od, .func (fnOf name qual params body scope dV kV doc pm an cdv ct), osl⟩) (hcd : codeIn K cdv qual = true) (hroom : A.depth < recursionLimit)
    (hbind : BindsTo s (fnOf name qual params body scope dV kV doc pm an cdv ct) args binds) (hkind : (binds.all fun y => scope.names.lookup y.1 == some .local || scope.names.lookup y.1 == some .cell) = true)
    (hnd : ((cellsFrom 0 scope.names []).map (·.1)).Nodup)
    (h : ∀ g L' h₁ tk cells, Fr h₀ L g m → Fr g L' h₁ (bindL (envOfC qual scope L' f cdv).kindOf binds fun _ => none) → News g L' h₁ (cells ++ news) →
      CellsAre (bindC (envOfC qual scope L' f cdv).kindOf binds fun _ => none) (cellsFrom (L' + 1) scope.names []) cells → Below A base (env :: outer) g → K.In g → Top p loose mean mg mb g → KtsDicts (frs (env :: outer)) g → (∀ q ∈ news, q.1 < L') →
      wpAny (model prog w) (A.deeper (envOfC qual scope L' f cdv)) (execs body (envOfC qual scope L' f cdv))
        (fun fl s' => LeaveS (frs (env :: outer)) A₀ base outer K p loose mean mg mb g₀ h₀ L m g R (match fl with | .ret v => v | _ => .none) s')
        (fun e s' => wpAny (model prog w) (A.deeper (envOfC qual scope L' f cdv)) (leaving (envOfC qual scope L' f cdv) e) (fun _ s'' => R (.error e) s'') (fun e' s'' => R (.error e') s'') s')
        { s with heap := h₁, toks := tk })
    (hco : scope.isCoroutine = false) (hgen : scope.isGenerator = false) (hk : scope.kind = .function) : codeAny (model prog w) A (.call (.ref f) args) R s := by
  obtain ⟨FG, BG, st, _⟩ := groundX (R := R) B F N hA hf hke
  have X := X₀.keeps F.keep
  refine codeAny_call_function hroom (X _ _ ho) rfl hco hgen rfl (codeRec_of X hcd) (hbind _ _ _ _ ?_)
  refine wpAny_newFunctionEnv_cells hk (kindsX hkind _) fun env' he s' x => ?_
  subst he
  refine ⟨(T.nolimit.keeps F.keep).keeps x.toInCall.keep, codeAny_func ?_⟩
  obtain ⟨h₁, tk, rfl, _⟩ := x.done
  have hk₁ := x.toInCall.keep
  obtain ⟨cells, NC, Y⟩ := Cl.news (h₀ := s.heap) (Nat.le_refl _) fun n c hm => ⟨x.cell n c (lookup_of_mem_nodup (cellsFrom_names scope.names 0 (s.heap.objs.size + 1) [] [] rfl ▸ hnd) hm), x.above n c hm⟩
  refine wpAny_mono (h _ s.heap.objs.size h₁ tk cells FG ⟨x.toInCall.ns, fun b o e => hk₁ b o (of_hideAll _ e), Nat.le_of_eq (hideAll_size _ _)⟩ (fun q hq => ?_) Y BG (X₀.keeps st) (T.keeps st) (dicts_deeper hf D FG) (fun q hq => Heap.lt_size (N q hq).1))
    (fun fl s' hl => leaveS_back B hf XB TB D T0 FG hl) fun _ _ y => y
  rcases List.mem_append.mp hq with hq | hq
  · refine ⟨(NC q hq).1, (NC q hq).2.1, ?_⟩
    cases z : (hideAll s.heap (news.map (·.1))).get? q.1 with
    | none => rfl
    | some o =>
      have := of_hideAll _ z
      rw [(NC q hq).2.2] at this
      cases this
  · exact ⟨hk₁ _ _ (N q hq).1, Nat.ne_of_lt (Heap.lt_size (N q hq).1), hideAll_none _ (List.mem_map_of_mem hq)⟩
end

section
variable {prog : Program} {w : World} {A₀ : Around} {E : Value → Shared → Prop} {s' : Shared} {base g g₀ G B : Heap} {outer : List Env} {L a e : Addr} {a0 : Value} {m : Str → Option Value} {cn : Str} {cs : Scope} {ccd : Value} {cl : List (Str × Addr)}
  {b₀ : Stmt} {suite : List Stmt} {pos np : Pos} {rest : List ExceptHandler} {Q : Flow → Shared → Prop} {news : List (Addr × Obj)} {KF : Frag}
  {p : Program} {loose : List Str} {mean : ExcName → Option Value} {mg mb : Str → Option Value} {x : Str} {X T' : String}

/-- a handler of a built-in class without a name takes what the frame holds -/
theorem catch_held (hheld : Heap.HeldW B (envX cn cs L a ccd cl :: outer) e (.type X) a0 L s'.heap) (hBG : ∀ b o, G.get? b = some o → b ∉ frs (envX cn cs L a ccd cl :: outer) → B.get? b = some o)
    (hl : ∀ q ∈ news, B.get? q.1 = some q.2 ∧ q.1 ≠ L ∧ g.get? q.1 = none) (hsm : G.UpToSlots s'.heap) (F : Fr g L G m) (K : Below A₀ base outer g) (XB : KF.In base) (TB : Top p loose mean mg mb base)
    (D : KtsDicts (frs outer) g) (T0 : KtsTurn (frs outer) g₀ g)
    (ex : nsIn KF mainGlobals x = some none) (hv : bootBuiltins x = some (.type T')) (hn' : x ≠ "__name__")
    (hexc : isSubtype (.type T') (.type "BaseException") = pure true) (hnt : isSubtype (.type ((Manifest.find? T').elim "type" fun y => y.metatype)) (.type "tuple") = pure false) (hsub : isSubtype (.type X) (.type T') = pure true)
    (k : ∀ h' g', KtsTurn (frs outer) g₀ g' → Fr g' L h' m → News g' L h' news → Below A₀ base outer g' → KF.In g' → Top p loose mean mg mb g' → KtsDicts (frs outer) g' →
      wpAny (model prog w) ((A₀.deeper (envX cn cs L a ccd cl)).mark (some (.ref e))) (execs (b₀ :: suite) (envX cn cs L a ccd cl)) Q E { s' with heap := h' })
    (hE : PassesOwnAt (model prog w) ((A₀.deeper (envX cn cs L a ccd cl)).mark (some (.ref e))) (A₀.deeper (envX cn cs L a ccd cl)) (envX cn cs L a ccd cl) E)
    (hk : cs.kind = .function) (hx : (envX cn cs L a ccd cl).kindOf x = some .globalImplicit) (hd : (x == ("__debug__" : Str)) = false) :
    wpAny (model prog w) (A₀.deeper (envX cn cs L a ccd cl)) (setFlight (.ref e) none) (fun _ s₃ =>
        wpAny (model prog w) (A₀.deeper (envX cn cs L a ccd cl)) (handleBy (.ref e) (envX cn cs L a ccd cl) (.ExceptHandler (some (.Name x np)) none (b₀ :: suite) pos :: rest)) Q E s₃) E s' := by
  refine wpAny_landsW hheld fun h₅ hfl₅ hsm₅ => ?_
  obtain ⟨g₅, _, F₅, K₅⟩ := kts_ground (name := cn) (scope := cs) (a := a) (cd := ccd) K F hBG hfl₅.1 (hsm.trans hsm₅)
  have P₅ : TopRead p loose mg mb g₅ := topRead_of (TB.keeps K₅.stays)
  obtain ⟨ob, hob, hobc⟩ := hfl₅.there
  refine wpAny_handleBy_builtin (X := X) (T := T') (b := true) hexc hnt hsub (nameX_B F₅ (XB.keeps K₅.stays) P₅ ex hv hn' ⟨rfl, ⟨ob, hob, hobc⟩, ?_⟩ hk hx hd)
  refine lands_againW hfl₅ fun h₆ hfl₆ hsm₆ => ?_
  obtain ⟨g₆, T₆, F₆, K₆⟩ := kts_ground (name := cn) (scope := cs) (a := a) (cd := ccd) K F hBG hfl₆.1 ((hsm.trans hsm₅).trans hsm₆)
  have Nl : News g₆ L h₆ news := fun q hq => ⟨hfl₆.1 _ _ (hl q hq).1, (hl q hq).2.1, T₆.none_ _ (hl q hq).2.2⟩
  exact wpAny_passesOwnAt hE (k h₆ g₆ (T0.trans T₆) F₆ Nl K₆ (XB.keeps K₆.stays) (TB.keeps K₆.stays) (D.turn T₆))

/-- what a callee has let fly, caught here -/
theorem catch_flown (R : RaisedSN base G (envX cn cs L a ccd cl :: outer) e (.type X) news s'.heap) (F : Fr g L G m) (K : Below A₀ base outer g) (hsm : G.UpToSlots s'.heap) (XB : KF.In base) (TB : Top p loose mean mg mb base)
    (D : KtsDicts (frs outer) g) (T0 : KtsTurn (frs outer) g₀ g)
    (ex : nsIn KF mainGlobals x = some none) (hv : bootBuiltins x = some (.type T')) (hn' : x ≠ "__name__")
    (hexc : isSubtype (.type T') (.type "BaseException") = pure true) (hnt : isSubtype (.type ((Manifest.find? T').elim "type" fun y => y.metatype)) (.type "tuple") = pure false) (hsub : isSubtype (.type X) (.type T') = pure true)
    (k : ∀ h' g', KtsTurn (frs outer) g₀ g' → Fr g' L h' m → News g' L h' news → Below A₀ base outer g' → KF.In g' → Top p loose mean mg mb g' → KtsDicts (frs outer) g' →
      wpAny (model prog w) ((A₀.deeper (envX cn cs L a ccd cl)).mark (some (.ref e))) (execs (b₀ :: suite) (envX cn cs L a ccd cl)) Q E { s' with heap := h' })
    (hE : PassesOwnAt (model prog w) ((A₀.deeper (envX cn cs L a ccd cl)).mark (some (.ref e))) (A₀.deeper (envX cn cs L a ccd cl)) (envX cn cs L a ccd cl) E)
    (hk : cs.kind = .function) (hx : (envX cn cs L a ccd cl).kindOf x = some .globalImplicit) (hd : (x == ("__debug__" : Str)) = false) :
    wpAny (model prog w) (A₀.deeper (envX cn cs L a ccd cl)) (noteFrame (.ref e) (envX cn cs L a ccd cl))
      (fun _ s₂ => wpAny (model prog w) (A₀.deeper (envX cn cs L a ccd cl)) (setFlight (.ref e) none) (fun _ s₃ =>
        wpAny (model prog w) (A₀.deeper (envX cn cs L a ccd cl)) (handleBy (.ref e) (envX cn cs L a ccd cl) (.ExceptHandler (some (.Name x np)) none (b₀ :: suite) pos :: rest)) Q E s₃) E s₂) E s' := by
  obtain ⟨B, a0, hB, hBG, hl, hfl⟩ := R
  have hL : B.get? L = none := by
    obtain ⟨_, ⟨L', _, hf, hn', _⟩, _⟩ := hfl.2.2.1
    obtain rfl : L = L' := Option.some.inj hf
    exact hn'
  refine wpAny_looks_onW (Around.frames_deeper K.stack) rfl hfl fun h₄ hheld₄ hsm₄ => ?_
  exact catch_held hheld₄ hBG (fun q hq => ⟨(hl q hq).1, (fun z => by have := (hl q hq).1; rw [z, hL] at this; cases this), kts_none F.keep (hl q hq).2.1⟩) (hsm.trans hsm₄) F K XB TB D T0 ex hv hn' hexc hnt hsub k hE hk hx hd

/-- what the frame's own built-in has raised, caught here -/
theorem catch_new (hx' : Heap.NewExc G s'.heap e X) (F : Fr g L G m) (N : News g L G news) (K : Below A₀ base outer g) (XB : KF.In base) (TB : Top p loose mean mg mb base)
    (D : KtsDicts (frs outer) g) (T0 : KtsTurn (frs outer) g₀ g)
    (ex : nsIn KF mainGlobals x = some none) (hv : bootBuiltins x = some (.type T')) (hn' : x ≠ "__name__")
    (hexc : isSubtype (.type T') (.type "BaseException") = pure true) (hnt : isSubtype (.type ((Manifest.find? T').elim "type" fun y => y.metatype)) (.type "tuple") = pure false) (hsub : isSubtype (.type X) (.type T') = pure true)
    (k : ∀ h' g', KtsTurn (frs outer) g₀ g' → Fr g' L h' m → News g' L h' news → Below A₀ base outer g' → KF.In g' → Top p loose mean mg mb g' → KtsDicts (frs outer) g' →
      wpAny (model prog w) ((A₀.deeper (envX cn cs L a ccd cl)).mark (some (.ref e))) (execs (b₀ :: suite) (envX cn cs L a ccd cl)) Q E { s' with heap := h' })
    (hE : PassesOwnAt (model prog w) ((A₀.deeper (envX cn cs L a ccd cl)).mark (some (.ref e))) (A₀.deeper (envX cn cs L a ccd cl)) (envX cn cs L a ccd cl) E)
    (hk : cs.kind = .function) (hx : (envX cn cs L a ccd cl).kindOf x = some .globalImplicit) (hd : (x == ("__debug__" : Str)) = false) :
    wpAny (model prog w) (A₀.deeper (envX cn cs L a ccd cl)) (noteFrame (.ref e) (envX cn cs L a ccd cl))
      (fun _ s₂ => wpAny (model prog w) (A₀.deeper (envX cn cs L a ccd cl)) (setFlight (.ref e) none) (fun _ s₃ =>
        wpAny (model prog w) (A₀.deeper (envX cn cs L a ccd cl)) (handleBy (.ref e) (envX cn cs L a ccd cl) (.ExceptHandler (some (.Name x np)) none (b₀ :: suite) pos :: rest)) Q E s₃) E s₂) E s' := by
  have K' : Below (A₀.deeper (envX cn cs L a ccd cl)) base (envX cn cs L a ccd cl :: outer) G := pushX K F rfl hk
  have hin : ∀ env ∈ (envX cn cs L a ccd cl :: outer), ∀ b, env.frame = some b → b ∈ frs (envX cn cs L a ccd cl :: outer) := fun env he b hb => List.mem_filterMap.mpr ⟨env, he, hb⟩
  obtain ⟨ob, tp, he, hcls, hd'⟩ := hx'.there
  have hen : (hideAll G (frs (envX cn cs L a ccd cl :: outer))).get? e = none := by
    cases q : (hideAll G (frs (envX cn cs L a ccd cl :: outer))).get? e with
    | none => rfl
    | some o => have := of_hideAll _ q; rw [hx'.new] at this; cases this
  have hff : s'.heap.FunFrames (hideAll G (frs (envX cn cs L a ccd cl :: outer))) (envX cn cs L a ccd cl :: outer) := (funFrames_hide K'.frames hin).of_keeps fun b o hb _ => ⟨o, hx'.keeps b o hb, rfl⟩
  unfold noteFrame
  simp only [show (envX cn cs L a ccd cl).frame = some L from rfl]
  refine wpAny_bind (wpAny_field he hd' (x := .none) rfl ?_)
  rw [if_neg (by decide)]
  refine wpAny_entryW (a0 := tp) (Around.frames_deeper K.stack) hff rfl he (fun b o hb => hx'.keeps b o (of_hideAll _ hb)) hen hd' (by show 1 < 6; decide) rfl fun h' hN => ?_
  obtain ⟨k1, k2, k3, k4⟩ := hN
  refine catch_held ⟨k1, hen, k2, by rw [← hcls]; exact k3⟩ (fun b o hb nm => hideAll_get _ hb nm) (fun q hq => ⟨hideAll_get _ (N q hq).1 fun hm => ?_, (N q hq).2.1, (N q hq).2.2⟩)
    ((Heap.UpToSlots.of_keeps hx'.keeps).trans k4) F K XB TB D T0 ex hv hn' hexc hnt hsub k hE hk hx hd
  rcases frs_mem (env := envX cn cs L a ccd cl) rfl hm with z | z
  · exact (N q hq).2.1 z
  · obtain ⟨_, o, ho, _⟩ := K.frames.mem z
    rw [(N q hq).2.2] at ho
    cases ho
end
end Mine

end
section
theorem Mine.walk_off_B2 : True := by
  w_top off
  trivial
open PySem PySem.W PyProof.Rows PySem.Spec PySem.Calls
set_option Elab.async false
set_option maxRecDepth 100000
set_option maxHeartbeats 8000000
namespace Mine

section
variable {M : Model} {A : Around} {E : Value → Shared → Prop} {s : Shared} {Q : Value → Shared → Prop} {x y : Addr} {ox oy : Obj}
/-- two objects at two places, the second no tuple, are not the same -/
theorem notSame_right {R : Bool → Shared → Prop} (hxy : x ≠ y) (hx : s.heap.get? x = some ox) (hy : s.heap.get? y = some oy) (hnt : oy.cls ≠ .type "tuple") (h : R false s) : wpAny M A (isSame (.ref x) (.ref y)) R E s := by
  show wpAny M A (if (x == y) = true then pure true else _) R E s
  rw [if_neg (by simpa using hxy)]
  refine wpAny_bind (wpAny_load hx (wpAny_bind (wpAny_load hy ?_)))
  split
  · rename_i _ h2 _ _; exact absurd h2 hnt
  · exact wpAny_pure h
theorem is_right (hxy : x ≠ y) (hx : s.heap.get? x = some ox) (hy : s.heap.get? y = some oy) (hnt : oy.cls ≠ .type "tuple") (h : Q (.bool false) s) : wpAny M A (compareOp .Is (.ref x) (.ref y)) Q E s := by
  show wpAny M A (do return .bool (← isSame (.ref x) (.ref y))) Q E s
  exact wpAny_bind (notSame_right hxy hx hy hnt (wpAny_pure h))
theorem isNot_right (hxy : x ≠ y) (hx : s.heap.get? x = some ox) (hy : s.heap.get? y = some oy) (hnt : oy.cls ≠ .type "tuple") (h : Q (.bool true) s) : wpAny M A (compareOp .IsNot (.ref x) (.ref y)) Q E s := by
  show wpAny M A (do return .bool (!(← isSame (.ref x) (.ref y)))) Q E s
  exact wpAny_bind (notSame_right hxy hx hy hnt (wpAny_pure h))
end

/-! a dict under written names, its entries a letter -/
theorem isStr_ne {v : Value} {a b : Str} (h : v.isStr a = true) (n : a ≠ b) : v.isStr b = false := by
  cases v <;> simp_all [Value.isStr]
theorem isStr_notRef' {e : DictEntry} {a : Str} (h : e.key.isStr a = true) : e.refKey = false := isStr_notRef e h
theorem getL_put {x : Str} {hs : Int} {tk : Tok} {v : Value} : ∀ es : List DictEntry, getL x (putL x hs (.str x tk) v es) = some (some v)
  | [] => by simp [putL, getL, Value.isStr]
  | e :: r => by
    by_cases h : e.key.isStr x = true
    · simp [putL, getL, h]
    · have ih := getL_put (x := x) (hs := hs) (tk := tk) (v := v) r
      have h' : e.key.isStr x = false := by simpa using h
      simp only [putL, h', Bool.false_eq_true, if_false]
      unfold getL at ih ⊢
      rw [List.find?_cons_of_neg (by simp [h'])]
      revert ih
      cases q : List.find? (fun e => e.key.isStr x) (putL x hs (.str x tk) v r) with
      | some e' => exact fun ih => ih
      | none =>
        intro ih
        simp only at ih
        split at ih <;> simp at ih
theorem find_put_ne {x y : Str} {hs : Int} {tk : Tok} {v : Value} (n : x ≠ y) : ∀ es : List DictEntry, List.find? (fun e => e.key.isStr y) (putL x hs (.str x tk) v es) = List.find? (fun e => e.key.isStr y) es
  | [] => by
    have : ((x == y) = true) = False := by simp [n]
    simp [putL, Value.isStr, this]
  | e :: r => by
    by_cases h : e.key.isStr x = true
    · have h2 := isStr_ne h n
      simp only [putL, h, if_true]
      rw [List.find?_cons_of_neg (by simp [h2]), List.find?_cons_of_neg (by simp [h2])]
    · have h' : e.key.isStr x = false := by simpa using h
      have ih := find_put_ne (x := x) (hs := hs) (tk := tk) (v := v) n r
      simp only [putL, h', Bool.false_eq_true, if_false]
      by_cases q : e.key.isStr y = true
      · rw [List.find?_cons_of_pos (by simpa using q), List.find?_cons_of_pos (by simpa using q)]
      · rw [List.find?_cons_of_neg (by simpa using q), List.find?_cons_of_neg (by simpa using q), ih]
theorem any_put {x : Str} {hs : Int} {tk : Tok} {v : Value} : ∀ es : List DictEntry, (putL x hs (.str x tk) v es).any (·.refKey) = es.any (·.refKey)
  | [] => by simp [putL, DictEntry.refKey]
  | e :: r => by
    by_cases h : e.key.isStr x = true
    · simp only [putL, h, if_true, List.any_cons]
      congr 1
    · have h' : e.key.isStr x = false := by simpa using h
      simp only [putL, h', Bool.false_eq_true, if_false, List.any_cons, any_put r]
theorem getL_put_ne {x y : Str} {hs : Int} {tk : Tok} {v : Value} {es : List DictEntry} (n : x ≠ y) : getL y (putL x hs (.str x tk) v es) = getL y es := by
  unfold getL
  rw [find_put_ne n, any_put]
theorem len_put_old {x : Str} {hs : Int} {k v o : Value} : ∀ es : List DictEntry, getL x es = some (some o) → (putL x hs k v es).length = es.length
  | [], h => by simp [getL] at h
  | e :: r, h => by
    by_cases q : e.key.isStr x = true
    · simp [putL, q]
    · have q' : e.key.isStr x = false := by simpa using q
      simp only [putL, q', Bool.false_eq_true, if_false, List.length_cons]
      rw [len_put_old r]
      unfold getL at h ⊢
      rw [List.find?_cons_of_neg (by simp [q'])] at h
      revert h
      cases z : List.find? (fun e => e.key.isStr x) r with
      | some e' => exact fun h => h
      | none =>
        intro h
        simp only at h
        split at h <;> simp at h
theorem len_put_le {x : Str} {hs : Int} {k v : Value} : ∀ es : List DictEntry, (putL x hs k v es).length ≤ es.length + 1
  | [] => by simp [putL]
  | e :: r => by
    by_cases q : e.key.isStr x = true
    · simp [putL, q]
    · have q' : e.key.isStr x = false := by simpa using q
      simp only [putL, q', Bool.false_eq_true, if_false, List.length_cons]
      have := len_put_le (x := x) (hs := hs) (k := k) (v := v) r
      omega

/-! what `map` is in the table -/
theorem slot_map_next : Slot "map" "__next__" "map.__next__" :=
  .of (owner := "map") (n := "__next__") (by rw [typeLookup_type, builtinLookup_eq_fast]; kernel_rfl) (by decide +kernel) (by decide +kernel) (by decide +kernel)
    (by first | exact .inl (by decide +kernel) | exact .inr (by decide +kernel)) (by rw [isSubtype_type]; kernel_rfl)
theorem slot_map_iter : Slot "map" "__iter__" "map.__iter__" :=
  .of (owner := "map") (n := "__iter__") (by rw [typeLookup_type, builtinLookup_eq_fast]; kernel_rfl) (by decide +kernel) (by decide +kernel) (by decide +kernel)
    (by first | exact .inl (by decide +kernel) | exact .inr (by decide +kernel)) (by rw [isSubtype_type]; kernel_rfl)
theorem slot_map_init : Slot "map" "__init__" "object.__init__" :=
  .of (owner := "object") (n := "__init__") (by rw [typeLookup_type, builtinLookup_eq_fast]; kernel_rfl) (by decide +kernel) (by decide +kernel) (by decide +kernel)
    (by first | exact .inl (by decide +kernel) | exact .inr (by decide +kernel)) (by rw [isSubtype_type]; kernel_rfl)
theorem entry_map_next : entryFor table "map.__next__" = some Builtin.«map.__next__» := by first | exact entryFor_of_fast (by kernel_rfl) | exact entryFor_of_tree (by kernel_rfl)
theorem entry_map_new : entryFor table "map.__new__" = some Builtin.«map.__new__» := by first | exact entryFor_of_fast (by kernel_rfl) | exact entryFor_of_tree (by kernel_rfl)
theorem entry_map_iter : entryFor table "map.__iter__" = some Builtin.«dict_keyiterator.__iter__» :=
  entryFor_alias (id' := "dict_keyiterator.__iter__") (by kernel_rfl) (by first | rfl | decide +kernel | (unfold String.splitOn; simp +decide [String.splitOnAux])) (by decide +kernel) (by kernel_rfl)
theorem owner_map : Manifest.owners.lookup (String.ofList ['p', 'a', 'm'].reverse) = some Manifest.sig_map := by kernel_rfl
theorem args_map_next (a : Value) : argsOk "map.__next__" ⟨[a], []⟩ := by
  first | (unfold argsOk; kernel_rfl) | (unfold argsOk; rw [signature?_of (id := "map.__next__") (n := ['_', '_', 't', 'x', 'e', 'n', '_', '_']) (o := ['p', 'a', 'm']) (by kernel_rfl) owner_map]; kernel_rfl)
theorem args_map_iter (a : Value) : argsOk "map.__iter__" ⟨[a], []⟩ := by
  first | (unfold argsOk; kernel_rfl) | (unfold argsOk; rw [signature?_of (id := "map.__iter__") (n := ['_', '_', 'r', 'e', 't', 'i', '_', '_']) (o := ['p', 'a', 'm']) (by kernel_rfl) owner_map]; kernel_rfl)
theorem mro_map : mroOf (.type "map") = pure [.type "map", .type "object"] := by rw [mroOf_type]; kernel_rfl
theorem lookup_map_new : typeLookup (.type "map") "__new__" = pure (some (.builtin "map.__new__")) := by rw [typeLookup_type, builtinLookup_eq_fast]; kernel_rfl
theorem sub_map : isSubtype (.type "map") (.type "map") = pure true := by rw [isSubtype_type]; kernel_rfl
theorem called_map : TypeCalled "map" "map.__new__" "object.__init__" :=
  ⟨by decide +kernel, by decide +kernel, ⟨_, _, mro_map⟩, madeBy_type mro_map lookup_map_new (by decide +kernel), by decide +kernel, sub_map, slot_map_init⟩
theorem typeCall_map (a b : Value) : checkTypeCall "map" ⟨[a, b], []⟩ = pure () := by kernel_rfl
theorem newCall_map (a b : Value) : checkBuiltinCall "map.__new__" ⟨[.type "map", a, b], []⟩ = pure () := by kernel_rfl
theorem no_len_map : typeLookup (.type "map") "__len__" = pure none := by rw [typeLookup_type, builtinLookup_eq_fast]; kernel_rfl
theorem no_hint_map : typeLookup (.type "map") "__length_hint__" = pure none := by rw [typeLookup_type, builtinLookup_eq_fast]; kernel_rfl

/-- a list's iterator, one that is through, a map -/
abbrev LI (l : Addr) (j : Nat) : Obj := { cls := .type "list_iterator", data := .fields #[.ref l, .int j 0] }
abbrev LE (j : Nat) : Obj := { cls := .type "list_iterator", data := .fields #[.none, .int j 0] }
abbrev MP (t f : Addr) : Obj := { cls := .type "map", data := .fields #[.ref t, .ref f] }
abbrev T1 (v : Value) : Obj := { cls := .type "tuple", data := .seq #[v] }

theorem LI_next (l : Addr) (j : Nat) : (LI l j).mapFields (·.setIfInBounds 1 (rawInt ((j : Int) + 1))) = LI l (j + 1) := by
  simp [Obj.mapFields, rawInt]
theorem LI_end (l : Addr) (j : Nat) : (LI l j).mapFields (·.setIfInBounds 0 .none) = LE j := by
  simp [Obj.mapFields]

section
variable {prog : Program} {w : World} {A : Around} {E : Value → Shared → Prop} {s : Shared} {i l mo t f : Addr} {j n : Nat} {vs : List Value} {v : Value}

theorem li_item {Q : Option Value → Shared → Prop} (hit : s.heap.get? i = some (LI l j)) (hl : s.heap.get? l = some (listOf vs.toArray n)) (hx : vs[j]? = some v)
    (hQ : ∀ h', h' = s.heap.update i (Obj.mapFields (·.setIfInBounds 1 (rawInt ((j : Int) + 1)))) → Q (some v) { s with heap := h' }) :
    wpAny (model prog w) A (callSpecial? (.ref i) (Str.ofString "__next__")) Q E s := by
  have hT : s.TypeIs (.ref i) "list_iterator" := ⟨_, hit, rfl⟩
  refine wpAny_callSpecial?_slot (name := Str.ofString "__next__") hT slot_listiter_next (wpAny_call_entry slot_listiter_next hT entry_listiter_next ?_ (args_listiter_next _))
  show wpAny _ _ (field (.ref i) 0 >>= _) _ _ s
  refine wpAny_bind (wpAny_field hit rfl (x := .ref l) rfl ?_)
  show wpAny _ _ (if (Value.ref l == Value.none) = true then _ else _) _ _ s
  rw [if_neg (show ¬ ((Value.ref l == Value.none) = true) from Bool.false_ne_true)]
  show wpAny _ _ (field (.ref i) 1 >>= _) _ _ s
  refine wpAny_bind (wpAny_field hit rfl (x := .int j 0) rfl ?_)
  show wpAny _ _ (seqItems? (.ref l) >>= _) _ _ s
  refine wpAny_bind (wpAny_seqItems hl rfl ?_)
  simp only [Int.toNat_natCast, List.getElem?_toArray, hx]
  exact wpAny_bind (wpAny_setField hit rfl (by simp) (wpAny_pure ⟨v, rfl, hQ _ rfl⟩))

/-- at the end: the iterator lets its list go, and StopIteration is made -/
theorem li_end {Q : Option Value → Shared → Prop} (hh : A.handled = none) (hit : s.heap.get? i = some (LI l j)) (hl : s.heap.get? l = some (listOf vs.toArray n)) (hx : vs[j]? = none)
    (hE : ∀ h₁ h' e, h₁ = s.heap.update i (Obj.mapFields (·.setIfInBounds 0 .none)) → Heap.NewExc h₁ h' e "StopIteration" → E (.ref e) { s with heap := h' }) :
    wpAny (model prog w) A (callSpecial? (.ref i) (Str.ofString "__next__")) Q E s := by
  have hT : s.TypeIs (.ref i) "list_iterator" := ⟨_, hit, rfl⟩
  refine wpAny_callSpecial?_slot (name := Str.ofString "__next__") hT slot_listiter_next (wpAny_call_entry slot_listiter_next hT entry_listiter_next ?_ (args_listiter_next _))
  show wpAny _ _ (field (.ref i) 0 >>= _) _ _ s
  refine wpAny_bind (wpAny_field hit rfl (x := .ref l) rfl ?_)
  show wpAny _ _ (if (Value.ref l == Value.none) = true then _ else _) _ _ s
  rw [if_neg (show ¬ ((Value.ref l == Value.none) = true) from Bool.false_ne_true)]
  show wpAny _ _ (field (.ref i) 1 >>= _) _ _ s
  refine wpAny_bind (wpAny_field hit rfl (x := .int j 0) rfl ?_)
  show wpAny _ _ (seqItems? (.ref l) >>= _) _ _ s
  refine wpAny_bind (wpAny_seqItems hl rfl ?_)
  simp only [Int.toNat_natCast, List.getElem?_toArray, hx]
  refine wpAny_bind (wpAny_rule (wpAny_bind (wpAny_setField hit rfl (by simp) ?_)))
  show wpAny _ _ (newExc (.type "StopIteration") [] >>= _) _ _ _
  refine wpAny_bind ?_
  simp only [newExc, newTuple]
  refine wpAny_bind (wpAny_newObj_type ?_ (by size_fits))
  refine wpAny_bind (m := firstArgMember _ _) (wpAny_of_eq (a := Value.none) (by first | rfl | (simp only [firstArgMember]; rfl)) ?_)
  refine wpAny_newObj_type ?_ (by size_fits)
  simp only [raiseNew]
  refine wpAny_bind (wpAny_handled ?_)
  rw [show A.in1.handled = none from hh]
  refine wpAny_bind (wpAny_pure (wpAny_throw ?_))
  refine hE _ _ _ rfl ⟨fun b o hb => Heap.get?_push_of_some _ (Heap.get?_push_of_some _ hb), Heap.get?_none_of_le (by simp), _, _, Heap.get?_push_size _ rfl, rfl, rfl⟩

/-- one that is through stays so -/
theorem le_end {Q : Option Value → Shared → Prop} (hh : A.handled = none) (hit : s.heap.get? i = some (LE j))
    (hE : ∀ h' e, Heap.NewExc s.heap h' e "StopIteration" → E (.ref e) { s with heap := h' }) :
    wpAny (model prog w) A (callSpecial? (.ref i) (Str.ofString "__next__")) Q E s := by
  have hT : s.TypeIs (.ref i) "list_iterator" := ⟨_, hit, rfl⟩
  refine wpAny_callSpecial?_slot (name := Str.ofString "__next__") hT slot_listiter_next (wpAny_call_entry slot_listiter_next hT entry_listiter_next ?_ (args_listiter_next _))
  show wpAny _ _ (field (.ref i) 0 >>= _) _ _ s
  refine wpAny_bind (wpAny_field hit rfl (x := .none) rfl ?_)
  show wpAny _ _ (if (Value.none == Value.none) = true then _ else _) _ _ s
  rw [if_pos (show (Value.none == Value.none) = true from rfl)]
  refine wpAny_bind (wpAny_rule ?_)
  refine wpAny_bind ?_
  show wpAny _ _ (newExc (.type "StopIteration") [] >>= _) _ _ _
  refine wpAny_bind ?_
  simp only [newExc, newTuple]
  refine wpAny_bind (wpAny_newObj_type ?_ (by size_fits))
  refine wpAny_bind (m := firstArgMember _ _) (wpAny_of_eq (a := Value.none) (by first | rfl | (simp only [firstArgMember]; rfl)) ?_)
  refine wpAny_newObj_type ?_ (by size_fits)
  simp only [raiseNew]
  refine wpAny_bind (wpAny_handled ?_)
  rw [show A.in1.handled = none from hh]
  refine wpAny_bind (wpAny_pure (wpAny_throw ?_))
  refine hE _ _ ⟨fun b o hb => Heap.get?_push_of_some _ (Heap.get?_push_of_some _ hb), Heap.get?_none_of_le (by simp), _, _, Heap.get?_push_size _ rfl, rfl, rfl⟩

/-- a map's next: its one iterator's, then the call -/
theorem map_next {Q : Option Value → Shared → Prop} (hm : s.heap.get? mo = some (MP t f)) (ht : s.heap.get? t = some (T1 (.ref i)))
    (h : wpAny (model prog w) A.in1 (callSpecial? (.ref i) (Str.ofString "__next__")) (fun r s₁ => ∃ v, r = some v ∧ s₁.heap.get? mo = some (MP t f) ∧
      wpAny (model prog w) A.in1 (call (.ref f) [v]) (fun r s₂ => Q (some r) s₂) E s₁) E s) :
    wpAny (model prog w) A (callSpecial? (.ref mo) (Str.ofString "__next__")) Q E s := by
  have hT : s.TypeIs (.ref mo) "map" := ⟨_, hm, rfl⟩
  refine wpAny_callSpecial?_slot (name := Str.ofString "__next__") hT slot_map_next (wpAny_call_entry slot_map_next hT entry_map_next ?_ (args_map_next _))
  show wpAny _ _ (field (.ref mo) 0 >>= _) _ _ s
  refine wpAny_bind (wpAny_field hm rfl (x := .ref t) rfl ?_)
  refine wpAny_bind (wpAny_seqItems ht rfl ?_)
  refine wpAny_bind ?_
  simp only [List.forIn_toArray, List.forIn_cons, List.forIn_nil]
  refine wpAny_bind ?_
  refine wpAny_bind (wpAny_holding ?_)
  unfold Builtin.SmallTypes.nextOf
  refine wpAny_bind (wpAny_mono h (fun r s₁ hr => ?_) fun _ _ z => z)
  obtain ⟨v, rfl, hm₁, hc⟩ := hr
  refine wpAny_pure (wpAny_pure (wpAny_pure ?_))
  refine wpAny_bind (wpAny_field hm₁ rfl (x := .ref f) rfl ?_)
  refine wpAny_bind (wpAny_holding ?_)
  refine wpAny_mono hc (fun r s₂ hr => ?_) fun _ _ z => z
  exact wpAny_bind (wpAny_letGo (wpAny_pure ⟨r, rfl, hr⟩))
end
end Mine

end
section
theorem Mine.walk_off_B3 : True := by
  w_top off
  trivial
open PySem PySem.W PyProof.Rows PySem.Spec PySem.Calls
set_option Elab.async false
set_option maxRecDepth 100000
set_option maxHeartbeats 8000000
namespace Mine
local macro_rules | `(tactic| walk_at "my fill") => `(tactic| (
  have hfill : (∀ P h, (hd.heap_39 P).In h → (hd.heap_39 P).In h) ∧ PySem.Challenge.rw_co0008_01.about = PySem.Challenge.rw_co0008_01.about := ⟨fun _ _ x => x, rfl⟩
  revert hfill; k_fill; intro hfill; clear hfill))
local macro_rules | `(tactic| walk_at "my enter") => `(tactic| (
  refine' code_def ?k1 ?k2 ?k3 ?k4 ?k5 ?kA ?kF ?kK ?k6 ?k7 ?k8 ?k9 ?kB ?_ ?c2 ?c3 ?c4 ?c5; (case kA => first | exact rfl | assumption); (case kF => first | exact rfl | assumption); (case kK => first | exact rfl | assumption); (case k1 => k_asm); (case k2 => k_asm); (case k3 => k_asm); (case k4 => k_asm); (case k5 => k_asm); (case k6 => k_is); (case k7 => k_is); (case k8 => first | assumption | k_room | (simp only [depth_under_make, depth_under_kw, depth_in1, depth_deeper, depth_caller]; omega)); (case k9 => first | exact BindsTo.of_eq rfl | exact binds_K (by k_in) rfl (by k_is) rfl rfl rfl | fail "enter: no rule for these arguments"); (case c5 => decide); (case kB => exact locs rfl); (case c2 => exact rfl); (case c3 => exact rfl); (case c4 => exact rfl); k_whole; intro g' L' h' FG' F' N' B' X' T'; (try dsimp only); (try k_fold)))

/-- what stands about a call: the frame it is made from, the top's facts -/
structure Cx (w : World) (A A₀ : Around) (env : Env) (outer : List Env) (base h₀ : Heap) (p : Program) (loose : List Str) (mean : ExcName → Option Value) (mg mb : Str → Option Value) (L : Addr) : Prop where
  B : Below A₀ base outer h₀
  X : (hd.heap_39 w.params).In h₀
  T : Top p loose mean mg mb h₀
  hA : A.frames = some (env :: outer)
  hf : env.frame = some L
  hk : env.scope.kind = .function
theorem Cx.in1 {w : World} {A A₀ : Around} {env : Env} {outer : List Env} {base h₀ : Heap} {p : Program} {loose : List Str} {mean : ExcName → Option Value} {mg mb : Str → Option Value} {L : Addr} (c : Cx w A A₀ env outer base h₀ p loose mean mg mb L) :
    Cx w A.in1 A₀ env outer base h₀ p loose mean mg mb L := ⟨c.B, c.X, c.T, c.hA, c.hf, c.hk⟩

/-- the one object of an iterator that turns; what it has still to give -/
def It1 (il : Addr) (rest : List (Addr × Obj)) (o : Obj) (rem : List Value) : Prop :=
  (∃ j n vs, o = LI il j ∧ (il, listOf (vs : List Value).toArray n) ∈ rest ∧ vs.drop j = rem) ∨ (∃ j, o = LE j ∧ rem = [])
/-- the iterator itself: that object, or a map over it -/
def ItV (rest : List (Addr × Obj)) (i : Addr) (v : Value) : Prop :=
  v = .ref i ∨ ∃ mo t, v = .ref mo ∧ (mo, MP t 384) ∈ rest ∧ (t, T1 (.ref i)) ∈ rest
theorem It1.mono {rest rest' : List (Addr × Obj)} {o : Obj} {rem : List Value} {il : Addr} (h : It1 il rest o rem) (s : ∀ q ∈ rest, q ∈ rest') : It1 il rest' o rem := by
  rcases h with ⟨j, n, vs, h1, h2, h3⟩ | h
  · exact .inl ⟨j, n, vs, h1, s _ h2, h3⟩
  · exact .inr h
theorem ItV.mono {rest rest' : List (Addr × Obj)} {i : Addr} {v : Value} (h : ItV rest i v) (s : ∀ q ∈ rest, q ∈ rest') : ItV rest' i v := by
  rcases h with h | ⟨mo, t, h1, h2, h3⟩
  · exact .inl h
  · exact .inr ⟨mo, t, h1, s _ h2, s _ h3⟩

section
variable {prog : Program} {w : World} {A A₀ : Around} {env : Env} {outer : List Env} {base h₀ : Heap} {p : Program} {loose : List Str} {mean : ExcName → Option Value} {mg mb : Str → Option Value} {L : Addr} {m : Str → Option Value} {news : List (Addr × Obj)} {s : Shared} {E : Value → Shared → Prop}

theorem ct_same {Q : Value → Shared → Prop} {v : Value} (C : Cx w A A₀ env outer base h₀ p loose mean mg mb L) (F : Fr h₀ L s.heap m) (N : News h₀ L s.heap news) (hdp : A.depth < recursionLimit)
   (ret : ∀ h' tk', Fr h₀ L h' m → News h₀ L h' news → Q v { s with heap := h', toks := tk' }) :
   wpAny (model prog w) A (call (.ref 384) [v]) Q E s := by
  obtain ⟨B, X, T, hA, hf, hk⟩ := C
  walk_at "my fill"
  refine wpAny_call ?_
  walk_at "my enter"
  k_steps
  exact ret _ _ (by assumption) (by assumption)

variable {pre post : List (Addr × Obj)} {i il : Addr} {o : Obj} {itv : Value}

theorem drop_cons {vs : List Value} {j : Nat} {x : Value} {r : List Value} (h : vs.drop j = x :: r) : vs[j]? = some x ∧ vs.drop (j + 1) = r := by
  constructor
  · have := congrArg List.head? h
    rw [List.head?_drop] at this
    simpa using this
  · have := congrArg List.tail h
    simpa [List.tail_drop] using this
theorem drop_nil {vs : List Value} {j : Nat} (h : vs.drop j = []) : vs[j]? = none := by
  have := congrArg List.head? h
  rw [List.head?_drop] at this
  simpa using this

/-- one more item: of the list's iterator -/
theorem it_item {Q : Option Value → Shared → Prop} {x : Value} {r : List Value} (F : Fr h₀ L s.heap m) (N : News h₀ L s.heap (pre ++ (i, o) :: post)) (h1 : ∀ q ∈ pre, q.1 ≠ i) (h2 : ∀ q ∈ post, q.1 ≠ i)
    (I : It1 il post o (x :: r)) (h : ∀ h' o', Fr h₀ L h' m → News h₀ L h' (pre ++ (i, o') :: post) → It1 il post o' r → Q (some x) { s with heap := h' }) :
    wpAny (model prog w) A (callSpecial? (.ref i) (Str.ofString "__next__")) Q E s := by
  rcases I with ⟨j, n, vs, rfl, hl, hd⟩ | ⟨_, _, hr⟩
  · obtain ⟨hx, hr⟩ := drop_cons hd
    refine li_item (N (i, LI il j) (by simp)).1 (N _ (List.mem_append_right _ (.tail _ hl))).1 hx fun h' e => ?_
    subst e
    obtain ⟨F', N'⟩ := news_upd F N h1 h2 (LI_next il j) rfl
    exact h _ _ F' N' (.inl ⟨j + 1, n, vs, rfl, hl, hr⟩)
  · cases hr
/-- no more: of the list's iterator -/
theorem it_end {Q : Option Value → Shared → Prop} (hh : A.handled = none) (F : Fr h₀ L s.heap m) (N : News h₀ L s.heap (pre ++ (i, o) :: post)) (h1 : ∀ q ∈ pre, q.1 ≠ i) (h2 : ∀ q ∈ post, q.1 ≠ i)
    (I : It1 il post o []) (h : ∀ h₁ h' e o', Fr h₀ L h₁ m → News h₀ L h₁ (pre ++ (i, o') :: post) → It1 il post o' [] → Heap.NewExc h₁ h' e "StopIteration" → E (.ref e) { s with heap := h' }) :
    wpAny (model prog w) A (callSpecial? (.ref i) (Str.ofString "__next__")) Q E s := by
  rcases I with ⟨j, n, vs, rfl, hl, hd⟩ | ⟨j, rfl, _⟩
  · refine li_end hh (N (i, LI il j) (by simp)).1 (N _ (List.mem_append_right _ (.tail _ hl))).1 (drop_nil hd) fun h₁ h' e q x => ?_
    subst q
    obtain ⟨F', N'⟩ := news_upd F N h1 h2 (LI_end il j) rfl
    exact h _ _ _ _ F' N' (.inr ⟨j, rfl, rfl⟩) x
  · exact le_end hh (N (i, LE j) (by simp)).1 fun h' e x => h _ _ _ _ F N (.inr ⟨j, rfl, rfl⟩) x

/-- the same of either iterator -/
theorem itv_item {Q : Option Value → Shared → Prop} {x : Value} {r : List Value} (C : Cx w A A₀ env outer base h₀ p loose mean mg mb L) (hdp : A.depth < recursionLimit) (F : Fr h₀ L s.heap m) (N : News h₀ L s.heap (pre ++ (i, o) :: post)) (h1 : ∀ q ∈ pre, q.1 ≠ i) (h2 : ∀ q ∈ post, q.1 ≠ i)
    (V : ItV post i itv) (I : It1 il post o (x :: r)) (h : ∀ h' tk' o', Fr h₀ L h' m → News h₀ L h' (pre ++ (i, o') :: post) → It1 il post o' r → Q (some x) { s with heap := h', toks := tk' }) :
    wpAny (model prog w) A (callSpecial? itv (Str.ofString "__next__")) Q E s := by
  rcases V with rfl | ⟨mo, t, rfl, hm, ht⟩
  · exact it_item F N h1 h2 I fun h' o' F' N' I' => h h' s.toks o' F' N' I'
  · refine map_next (N _ (List.mem_append_right _ (.tail _ hm))).1 (N _ (List.mem_append_right _ (.tail _ ht))).1 (it_item F N h1 h2 I fun h' o' F' N' I' => ?_)
    refine ⟨x, rfl, (N' _ (List.mem_append_right _ (.tail _ hm))).1, ?_⟩
    exact ct_same (s := { s with heap := h' }) C.in1 F' N' hdp fun h₂ tk₂ F₂ N₂ => h h₂ tk₂ o' F₂ N₂ I'
theorem itv_end {Q : Option Value → Shared → Prop} (hh : A.handled = none) (F : Fr h₀ L s.heap m) (N : News h₀ L s.heap (pre ++ (i, o) :: post)) (h1 : ∀ q ∈ pre, q.1 ≠ i) (h2 : ∀ q ∈ post, q.1 ≠ i)
    (V : ItV post i itv) (I : It1 il post o []) (h : ∀ h₁ h' e o', Fr h₀ L h₁ m → News h₀ L h₁ (pre ++ (i, o') :: post) → It1 il post o' [] → Heap.NewExc h₁ h' e "StopIteration" → E (.ref e) { s with heap := h' }) :
    wpAny (model prog w) A (callSpecial? itv (Str.ofString "__next__")) Q E s := by
  rcases V with rfl | ⟨mo, t, rfl, hm, ht⟩
  · exact it_end hh F N h1 h2 I h
  · exact map_next (N _ (List.mem_append_right _ (.tail _ hm))).1 (N _ (List.mem_append_right _ (.tail _ ht))).1 (it_end (A := A.in1) hh F N h1 h2 I h)

theorem itv_type (N : News h₀ L s.heap (pre ++ (i, o) :: post)) (V : ItV post i itv) {rem : List Value} (I : It1 il post o rem) : ∃ T g, s.TypeIs itv T ∧ typeLookup (.type T) "__next__" = pure (some g) := by
  rcases V with rfl | ⟨mo, t, rfl, hm, ht⟩
  · refine ⟨"list_iterator", _, ?_, slot_listiter_next.lookup⟩
    rcases I with ⟨j, n, vs, rfl, _⟩ | ⟨j, rfl, _⟩
    · exact ⟨_, (N (i, LI il j) (by simp)).1, rfl⟩
    · exact ⟨_, (N (i, LE j) (by simp)).1, rfl⟩
  · exact ⟨"map", _, ⟨_, (N _ (List.mem_append_right _ (.tail _ hm))).1, rfl⟩, slot_map_next.lookup⟩

/-- next(it) -/
theorem next1_item {Q : Value → Shared → Prop} {x : Value} {r : List Value} (C : Cx w A A₀ env outer base h₀ p loose mean mg mb L) (hdp : A.depth < recursionLimit) (F : Fr h₀ L s.heap m) (N : News h₀ L s.heap (pre ++ (i, o) :: post)) (h1 : ∀ q ∈ pre, q.1 ≠ i) (h2 : ∀ q ∈ post, q.1 ≠ i)
    (V : ItV post i itv) (I : It1 il post o (x :: r)) (h : ∀ h' tk' o', Fr h₀ L h' m → News h₀ L h' (pre ++ (i, o') :: post) → It1 il post o' r → Q x { s with heap := h', toks := tk' }) :
    wpAny (model prog w) A (call (.builtin "next") [itv]) Q E s := by
  obtain ⟨T, g, hT, hl⟩ := itv_type N V I
  refine call_function_entry (by decide +kernel) (by decide +kernel) kdk_entry_next (kdk_args_next _) ?_
  unfold Builtin.«next»
  refine wpAny_bind (m := someArgs "next" 1 2 _) (wpAny_of_eq (a := [itv]) (by first | rfl | kernel_rfl!) ?_)
  dsimp only
  refine wpAny_bind (wpAny_specialOf (name := Str.ofString "__next__") hT hl ?_)
  refine wpAny_ite_split (fun hab => absurd hab (by simp)) (fun _ => ?_)
  refine wpAny_bind (itv_item C.in1 hdp F N h1 h2 V I fun h' tk' o' F' N' I' => ?_)
  exact wpAny_pure ⟨_, rfl, h h' tk' o' F' N' I'⟩
theorem next1_end {Q : Value → Shared → Prop} (hh : A.handled = none) (F : Fr h₀ L s.heap m) (N : News h₀ L s.heap (pre ++ (i, o) :: post)) (h1 : ∀ q ∈ pre, q.1 ≠ i) (h2 : ∀ q ∈ post, q.1 ≠ i)
    (V : ItV post i itv) (I : It1 il post o []) (h : ∀ h₁ h' e o', Fr h₀ L h₁ m → News h₀ L h₁ (pre ++ (i, o') :: post) → It1 il post o' [] → Heap.NewExc h₁ h' e "StopIteration" → E (.ref e) { s with heap := h' }) :
    wpAny (model prog w) A (call (.builtin "next") [itv]) Q E s := by
  obtain ⟨T, g, hT, hl⟩ := itv_type N V I
  refine call_function_entry (by decide +kernel) (by decide +kernel) kdk_entry_next (kdk_args_next _) ?_
  unfold Builtin.«next»
  refine wpAny_bind (m := someArgs "next" 1 2 _) (wpAny_of_eq (a := [itv]) (by first | rfl | kernel_rfl!) ?_)
  dsimp only
  refine wpAny_bind (wpAny_specialOf (name := Str.ofString "__next__") hT hl ?_)
  refine wpAny_ite_split (fun hab => absurd hab (by simp)) (fun _ => ?_)
  exact wpAny_bind (itv_end (A := A.in1) hh F N h1 h2 V I h)

/-- next(it, other) -/
theorem next2_item {Q : Value → Shared → Prop} {x dflt : Value} {r : List Value} (C : Cx w A A₀ env outer base h₀ p loose mean mg mb L) (hdp : A.depth < recursionLimit) (F : Fr h₀ L s.heap m) (N : News h₀ L s.heap (pre ++ (i, o) :: post)) (h1 : ∀ q ∈ pre, q.1 ≠ i) (h2 : ∀ q ∈ post, q.1 ≠ i)
    (V : ItV post i itv) (I : It1 il post o (x :: r)) (h : ∀ h' tk' o', Fr h₀ L h' m → News h₀ L h' (pre ++ (i, o') :: post) → It1 il post o' r → Q x { s with heap := h', toks := tk' }) :
    wpAny (model prog w) A (call (.builtin "next") [itv, dflt]) Q E s := by
  obtain ⟨T, g, hT, hl⟩ := itv_type N V I
  refine call_function_entry (by decide +kernel) (by decide +kernel) kdk_entry_next (kdk_args_next2 _ _) ?_
  unfold Builtin.«next»
  refine wpAny_bind (m := someArgs "next" 1 2 _) (wpAny_of_eq (a := [itv, dflt]) (by first | rfl | kernel_rfl!) ?_)
  dsimp only
  refine wpAny_bind (wpAny_specialOf (name := Str.ofString "__next__") hT hl ?_)
  refine wpAny_ite_split (fun hab => absurd hab (by simp)) (fun _ => ?_)
  unfold pyNext
  refine wpAny_bind (wpAny_bind (wpAny_attempt (itv_item C.in1 hdp F N h1 h2 V I fun h' tk' o' F' N' I' => ?_)))
  exact wpAny_pure (wpAny_pure ⟨_, rfl, h h' tk' o' F' N' I'⟩)
theorem next2_end {Q : Value → Shared → Prop} {dflt : Value} (hh : A.handled = none) (F : Fr h₀ L s.heap m) (N : News h₀ L s.heap (pre ++ (i, o) :: post)) (h1 : ∀ q ∈ pre, q.1 ≠ i) (h2 : ∀ q ∈ post, q.1 ≠ i)
    (V : ItV post i itv) (I : It1 il post o []) (h : ∀ h' o', Fr h₀ L h' m → News h₀ L h' (pre ++ (i, o') :: post) → It1 il post o' [] → Q dflt { s with heap := h' }) :
    wpAny (model prog w) A (call (.builtin "next") [itv, dflt]) Q E s := by
  obtain ⟨T, g, hT, hl⟩ := itv_type N V I
  refine call_function_entry (by decide +kernel) (by decide +kernel) kdk_entry_next (kdk_args_next2 _ _) ?_
  unfold Builtin.«next»
  refine wpAny_bind (m := someArgs "next" 1 2 _) (wpAny_of_eq (a := [itv, dflt]) (by first | rfl | kernel_rfl!) ?_)
  dsimp only
  refine wpAny_bind (wpAny_specialOf (name := Str.ofString "__next__") hT hl ?_)
  refine wpAny_ite_split (fun hab => absurd hab (by simp)) (fun _ => ?_)
  unfold pyNext
  refine wpAny_bind (wpAny_bind (wpAny_attempt (itv_end (A := A.in1) hh F N h1 h2 V I fun h₁ h' e o' F' N' I' x => ?_)))
  obtain ⟨ob, t, hob, hc, _⟩ := x.there
  refine wpAny_bind (wpAny_isInstance (T := "StopIteration") (b := true) ⟨ob, hob, hc⟩ isSubtype_stop ?_)
  refine wpAny_pure (wpAny_pure ⟨_, rfl, h h' o' (F'.keeps x.keeps) (fun q hq => ⟨x.keeps _ _ (N' q hq).1, (N' q hq).2⟩) I'⟩)
end
end Mine

end
section
theorem Mine.walk_off_B4 : True := by
  w_top off
  trivial
open PySem PySem.W PyProof.Rows PySem.Spec PySem.Calls
set_option Elab.async false
set_option maxRecDepth 100000
set_option maxHeartbeats 8000000
namespace Mine

section
variable {prog : Program} {w : World} {A A₀ : Around} {env : Env} {outer : List Env} {base h₀ : Heap} {p : Program} {loose : List Str} {mean : ExcName → Option Value} {mg mb : Str → Option Value} {L : Addr} {m : Str → Option Value} {news : List (Addr × Obj)} {s : Shared} {E : Value → Shared → Prop}
variable {pre post : List (Addr × Obj)} {i il mo t f l S : Addr} {o : Obj} {itv : Value}

theorem pyIter_map {Q : Value → Shared → Prop} (hm : s.heap.get? mo = some (MP t f)) (h : Q (.ref mo) s) : wpAny (model prog w) A (pyIter (.ref mo)) Q E s := by
  have hT : s.TypeIs (.ref mo) "map" := ⟨_, hm, rfl⟩
  refine wpAny_pyIter_slot hT slot_map_iter (wpAny_call_entry slot_map_iter hT entry_map_iter ?_ (args_map_iter _))
  show wpAny _ _ (ret (.ref mo)) _ _ s
  exact wpAny_pure ⟨_, rfl, "map", _, hT, slot_map_next.lookup, h⟩

/-- iter(xs), of a list and of a map -/
theorem iter_list {Q : Value → Shared → Prop} {vs : List Value} {n : Nat} (F : Fr h₀ L s.heap m) (N : News h₀ L s.heap news) (hl : (l, listOf vs.toArray n) ∈ news)
    (h : ∀ i h', Fr h₀ L h' m → News h₀ L h' ((i, LI l 0) :: news) → (∀ q ∈ news, q.1 < i) → Q (.ref i) { s with heap := h' }) :
    wpAny (model prog w) A (call (.builtin "iter") [.ref l]) Q E s := by
  refine call_function_entry (by decide +kernel) (by decide +kernel) kdk_entry_iter (kdk_args_iter _) ?_
  unfold Builtin.«iter»
  refine wpAny_bind (m := someArgs "iter" 1 2 _) (wpAny_of_eq (a := [Value.ref l]) (by first | rfl | kernel_rfl!) ?_)
  show wpAny _ _ (pyIter (.ref l) >>= _) _ _ _
  refine wpAny_bind (wpAny_pyIter_list (N.isList hl) ?_)
  exact wpAny_pure ⟨_, rfl, h _ _ (F.push _) (News.push F N _ rfl) (fun q hq => Heap.lt_size (N q hq).1)⟩
theorem iter_map {Q : Value → Shared → Prop} (N : News h₀ L s.heap news) (hm : (mo, MP t f) ∈ news) (h : Q (.ref mo) s) :
    wpAny (model prog w) A (call (.builtin "iter") [.ref mo]) Q E s := by
  refine call_function_entry (by decide +kernel) (by decide +kernel) kdk_entry_iter (kdk_args_iter _) ?_
  unfold Builtin.«iter»
  refine wpAny_bind (m := someArgs "iter" 1 2 _) (wpAny_of_eq (a := [Value.ref mo]) (by first | rfl | kernel_rfl!) ?_)
  show wpAny _ _ (pyIter (.ref mo) >>= _) _ _ _
  exact wpAny_bind (pyIter_map (N _ hm).1 (wpAny_pure ⟨_, rfl, h⟩))

/-- map(f, xs) -/
theorem meets_map_new (f l : Addr) (xs : Array Value) :
    Meets (Builtin.«map.__new__» ⟨[.type "map", .ref f, .ref l], []⟩) (fun _ R s => s.heap.IsList l xs ∧
      R (.ok (.ret (.ref ((s.heap.push (LI l 0)).push (T1 (.ref s.heap.objs.size))).objs.size))) { s with heap := ((s.heap.push (LI l 0)).push (T1 (.ref s.heap.objs.size))).push (MP (s.heap.push (LI l 0)).objs.size f) }) :=
  .of_wp fun prog w A R s h => by
    obtain ⟨hp, g, d, tk, os⟩ := s; obtain ⟨hl1, h⟩ := h
    have hsub := sub_map
    have hL1 : Heap.IsList (Shared.heap ⟨hp, g, d, tk, os⟩) l xs := hl1
    wp_walk using wpAny_pyIter_list hL1
    exact ⟨_, rfl, h⟩
theorem call_map {Q : Value → Shared → Prop} {vs : List Value} {n : Nat} (F : Fr h₀ L s.heap m) (N : News h₀ L s.heap news) (hl : (l, listOf vs.toArray n) ∈ news)
    (h : ∀ i t mo h', Fr h₀ L h' m → News h₀ L h' ((mo, MP t f) :: (t, T1 (.ref i)) :: (i, LI l 0) :: news) → (∀ q ∈ news, q.1 < i) → i < t → t < mo → Q (.ref mo) { s with heap := h' }) :
    wpAny (model prog w) A (call (.type "map") [.ref f, .ref l]) Q E s := by
  refine callType_new called_map (by decide) (typeCall_map _ _) (newCall_map _ _) (fun obj => PySem.F.args_object_init_3 obj _ _) entry_map_new (meets_map_new f l vs.toArray) ⟨N.isList hl, ?_⟩
  have z1 : (s.heap.push (LI l 0)).objs.size = s.heap.objs.size + 1 := Heap.size_push ..
  have z2 : ((s.heap.push (LI l 0)).push (T1 (.ref s.heap.objs.size))).objs.size = s.heap.objs.size + 2 := by rw [Heap.size_push, z1]
  have F1 := F.push (LI l 0)
  have N1 := News.push F N (LI l 0) rfl
  have F2 := F1.push (T1 (.ref s.heap.objs.size))
  have N2 := News.push F1 N1 (T1 (.ref s.heap.objs.size)) rfl
  have F3 := F2.push (MP (s.heap.push (LI l 0)).objs.size f)
  have N3 := News.push F2 N2 (MP (s.heap.push (LI l 0)).objs.size f) rfl
  show _ ∧ _
  refine ⟨⟨_, Heap.get?_push_size _ rfl, rfl⟩, h _ _ _ _ F3 N3 (fun q hq => Heap.lt_size (N q hq).1) ?_ ?_⟩
  · rw [z1]; exact Nat.lt_succ_self _
  · rw [z1, z2]; exact Nat.lt_succ_self _

/-- a map has no length -/
theorem len_map {Q : Value → Shared → Prop} (hh : A.handled = none) (hm : s.heap.get? mo = some (MP t f)) (hE : ∀ h' tk e, Heap.NewExc s.heap h' e "TypeError" → E (.ref e) { s with heap := h', toks := tk }) :
    wpAny (model prog w) A (call (.builtin "len") [.ref mo]) Q E s := by
  have hT : s.TypeIs (.ref mo) "map" := ⟨_, hm, rfl⟩
  refine call_function_entry kind_len plain_len entry_len (args_len1 _) ?_
  unfold Builtin.«len»
  refine wpAny_bind (m := oneArg "len" _) (wpAny_of_eq (a := Value.ref mo) (by first | rfl | kernel_rfl!) ?_)
  refine wpAny_bind ?_
  unfold callSpecial?
  refine wpAny_bind (wpAny_specialOf hT no_len_map (wpAny_pure ?_))
  refine wpAny_bind (wpAny_rule ?_)
  refine wpAny_bind (wpAny_typeNameOf' hT (by decide) ?_)
  exact wpAny_raiseTypeError (A := A.in1) hh hE (by first | decide +kernel | size_fits)

/-- what the frame is busy with: nothing, or an exception without a context -/
def Hd (A : Around) (post : List (Addr × Obj)) : Prop := A.handled = none ∨ ∃ eh oe vs, A.handled = some (.ref eh) ∧ (eh, oe) ∈ post ∧ oe.data = .fields vs ∧ (vs : Array Value)[2]? = some .none
structure Exc1 (h h' : Heap) (e : Addr) (cls : String) : Prop where
  keeps : ∀ b o, h.get? b = some o → h'.get? b = some o
  there : ∃ ob, h'.get? e = some ob ∧ ob.cls = .type cls
theorem entry_unchain : entryFor table "proto.unchain" = some Builtin.«proto.unchain» := by first | exact entryFor_of_fast (by kernel_rfl) | exact entryFor_of_tree (by kernel_rfl)

theorem stop_raise {α : Type} {Q : α → Shared → Prop} {M : Model} (eM : M = model prog w) (hd : A.handled = none ∨ ∃ eh oe vs, A.handled = some (.ref eh) ∧ s.heap.get? eh = some oe ∧ oe.data = .fields vs ∧ (vs : Array Value)[2]? = some .none)
    (hE : ∀ h' e, Exc1 s.heap h' e "StopIteration" → E (.ref e) { s with heap := h' }) : wpAny M A (Builtin.SmallTypes.stopIteration : Sem α) Q E s := by
  subst eM
  show wpAny _ _ (newExc (.type "StopIteration") [] >>= _) _ _ _
  refine wpAny_bind ?_
  simp only [newExc, newTuple]
  refine wpAny_bind (wpAny_newObj_type ?_ (by size_fits))
  refine wpAny_bind (m := firstArgMember _ _) (wpAny_of_eq (a := Value.none) (by first | rfl | (simp only [firstArgMember]; rfl)) ?_)
  refine wpAny_newObj_type ?_ (by size_fits)
  simp only [raiseNew]
  refine wpAny_bind (wpAny_handled ?_)
  rcases hd with hd | ⟨eh, oe, vs, hd, he, hf, hv⟩
  · rw [hd]
    refine wpAny_bind (wpAny_pure (wpAny_throw ?_))
    exact hE _ _ ⟨fun b o hb => Heap.get?_push_of_some _ (Heap.get?_push_of_some _ hb), _, Heap.get?_push_size _ rfl, rfl⟩
  · rw [hd]
    have hlt : eh < (s.heap.push { cls := .type "tuple", data := .seq ([] : List Value).toArray }).objs.size := by
      rw [Heap.size_push]; exact Nat.lt_succ_of_lt (Heap.lt_size he)
    have hne : (Value.ref eh != Value.ref (s.heap.push { cls := .type "tuple", data := .seq ([] : List Value).toArray }).objs.size) = true := by
      simp only [bne_iff_ne, ne_eq, Value.ref.injEq]; exact Nat.ne_of_lt hlt
    dsimp only
    rw [if_pos hne]
    refine wpAny_bind (wpAny_holding (wpAny_runValue (codeAny_builtin entry_unchain ?_)))
    have he2 := Heap.get?_push_of_some { cls := .type "StopIteration", data := .fields #[.ref s.heap.objs.size, .none, .none, .none, .bool false, .none] } (Heap.get?_push_of_some { cls := .type "tuple", data := .seq ([] : List Value).toArray } he)
    show wpAny _ _ (field (.ref eh) 2 >>= _) _ _ _
    refine wpAny_bind (wpAny_field he2 hf hv ?_)
    rw [if_pos (show (Value.none == Value.none) = true from rfl)]
    refine wpAny_pure ?_
    refine wpAny_bind ?_
    show wpAny _ _ (setField (.ref _) 2 (.ref eh)) _ _ _
    refine wpAny_setField (Heap.get?_push_size _ rfl) rfl (by simp; omega) ?_
    refine wpAny_throw (hE _ _ ⟨fun b o hb => ?_, _, Heap.get?_update_self _ (Heap.get?_push_size _ rfl) rfl, rfl⟩)
    rw [Heap.get?_update_other _ _ (Ne.symm (Nat.ne_of_lt (by rw [Heap.size_push]; exact Nat.lt_succ_of_lt (Heap.lt_size hb))))]
    exact Heap.get?_push_of_some _ (Heap.get?_push_of_some _ hb)

/-- an iterator's end, whatever the frame is busy with -/
theorem it_endH {Q : Option Value → Shared → Prop} (hd : Hd A post) (F : Fr h₀ L s.heap m) (N : News h₀ L s.heap (pre ++ (i, o) :: post)) (h1 : ∀ q ∈ pre, q.1 ≠ i) (h2 : ∀ q ∈ post, q.1 ≠ i)
    (I : It1 il post o []) (h : ∀ h₁ h' e o', Fr h₀ L h₁ m → News h₀ L h₁ (pre ++ (i, o') :: post) → It1 il post o' [] → Exc1 h₁ h' e "StopIteration" → E (.ref e) { s with heap := h' }) :
    wpAny (model prog w) A (callSpecial? (.ref i) (Str.ofString "__next__")) Q E s := by
  have hdAt : ∀ {h₁ o'}, News h₀ L h₁ (pre ++ (i, o') :: post) → A.in1.handled = none ∨ ∃ eh oe vs, A.in1.handled = some (.ref eh) ∧ h₁.get? eh = some oe ∧ oe.data = .fields vs ∧ (vs : Array Value)[2]? = some .none := fun N' =>
    hd.imp (fun h => h) fun ⟨eh, oe, vs, a1, a2, a3, a4⟩ => ⟨eh, oe, vs, a1, (N' _ (List.mem_append_right _ (.tail _ a2))).1, a3, a4⟩
  rcases I with ⟨j, n, vs, rfl, hl, hdr⟩ | ⟨j, rfl, _⟩
  · have hit := (N (i, LI il j) (by simp)).1
    have hT : s.TypeIs (.ref i) "list_iterator" := ⟨_, hit, rfl⟩
    refine wpAny_callSpecial?_slot (name := Str.ofString "__next__") hT slot_listiter_next (wpAny_call_entry slot_listiter_next hT entry_listiter_next ?_ (args_listiter_next _))
    show wpAny _ _ (field (.ref i) 0 >>= _) _ _ s
    refine wpAny_bind (wpAny_field hit rfl (x := .ref il) rfl ?_)
    show wpAny _ _ (if (Value.ref il == Value.none) = true then _ else _) _ _ s
    rw [if_neg (show ¬ ((Value.ref il == Value.none) = true) from Bool.false_ne_true)]
    show wpAny _ _ (field (.ref i) 1 >>= _) _ _ s
    refine wpAny_bind (wpAny_field hit rfl (x := .int j 0) rfl ?_)
    show wpAny _ _ (seqItems? (.ref il) >>= _) _ _ s
    refine wpAny_bind (wpAny_seqItems (N _ (List.mem_append_right _ (.tail _ hl))).1 rfl ?_)
    simp only [Int.toNat_natCast, List.getElem?_toArray, drop_nil hdr]
    refine wpAny_bind (wpAny_rule (wpAny_bind (wpAny_setField hit rfl (by simp) ?_)))
    obtain ⟨F', N'⟩ := news_upd F N h1 h2 (LI_end il j) rfl
    exact stop_raise rfl (hdAt N') fun h' e x => h _ h' e _ F' N' (.inr ⟨j, rfl, rfl⟩) x
  · have hit := (N (i, LE j) (by simp)).1
    have hT : s.TypeIs (.ref i) "list_iterator" := ⟨_, hit, rfl⟩
    refine wpAny_callSpecial?_slot (name := Str.ofString "__next__") hT slot_listiter_next (wpAny_call_entry slot_listiter_next hT entry_listiter_next ?_ (args_listiter_next _))
    show wpAny _ _ (field (.ref i) 0 >>= _) _ _ s
    refine wpAny_bind (wpAny_field hit rfl (x := .none) rfl ?_)
    show wpAny _ _ (if (Value.none == Value.none) = true then _ else _) _ _ s
    rw [if_pos (show (Value.none == Value.none) = true from rfl)]
    refine wpAny_bind (wpAny_rule ?_)
    refine wpAny_bind ?_
    exact stop_raise rfl (hdAt N) fun h' e x => h _ h' e _ F N (.inr ⟨j, rfl, rfl⟩) x
theorem itv_endH {Q : Option Value → Shared → Prop} (hd : Hd A post) (F : Fr h₀ L s.heap m) (N : News h₀ L s.heap (pre ++ (i, o) :: post)) (h1 : ∀ q ∈ pre, q.1 ≠ i) (h2 : ∀ q ∈ post, q.1 ≠ i)
    (V : ItV post i itv) (I : It1 il post o []) (h : ∀ h₁ h' e o', Fr h₀ L h₁ m → News h₀ L h₁ (pre ++ (i, o') :: post) → It1 il post o' [] → Exc1 h₁ h' e "StopIteration" → E (.ref e) { s with heap := h' }) :
    wpAny (model prog w) A (callSpecial? itv (Str.ofString "__next__")) Q E s := by
  rcases V with rfl | ⟨mo, t, rfl, hm, ht⟩
  · exact it_endH hd F N h1 h2 I h
  · exact map_next (N _ (List.mem_append_right _ (.tail _ hm))).1 (N _ (List.mem_append_right _ (.tail _ ht))).1 (it_endH (A := A.in1) hd F N h1 h2 I h)

/-- the loop that fills a list out of a map -/
theorem ext_loop {R : Result → Shared → Prop} {res : Value} (hd : Hd A post) (C : Cx w A A₀ env outer base h₀ p loose mean mg mb L) (hdp : A.depth < recursionLimit) (V : ItV post i itv) (hS : ∀ q ∈ pre ++ (i, o) :: post, q.1 ≠ S) (h1 : ∀ q ∈ pre, q.1 ≠ i) (h2 : ∀ q ∈ post, q.1 ≠ i) :
    ∀ (rem : List Value) (s : Shared) (o' : Obj) (acc : List Value) (c : Nat), acc.length + rem.length ≤ sizeLine → Fr h₀ L s.heap m → News h₀ L s.heap ((S, listOf acc.toArray c) :: (pre ++ (i, o') :: post)) → It1 il post o' rem →
      (∀ h' tk' c' o₂, Fr h₀ L h' m → News h₀ L h' ((S, listOf (acc ++ rem).toArray c') :: (pre ++ (i, o₂) :: post)) → It1 il post o₂ [] → R (.ok (.ret res)) { s with heap := h', toks := tk' }) →
      codeAny (model prog w) A (.builtin "list.extend.loop" ⟨[.ref S, itv, res], []⟩) R s := by
  have hSi : i ≠ S := hS (i, o) (by simp)
  intro rem
  induction rem with
  | nil =>
    intro s o' acc c hz F N I hR
    refine codeAny_builtin PySem.F.entry_extend_loop ?_
    rw [Around.under_plainId PySem.F.plain_extend_loop _]
    show wpAny _ A.in1 (pyNext itv >>= _) _ _ s
    unfold pyNext
    have h1' : ∀ q ∈ (S, listOf acc.toArray c) :: pre, q.1 ≠ i := fun q hq => by
      rcases List.mem_cons.mp hq with rfl | hq
      · exact Ne.symm hSi
      · exact h1 q hq
    refine wpAny_bind (wpAny_bind (wpAny_attempt (itv_endH (A := A.in1) (pre := (S, listOf acc.toArray c) :: pre) hd F N h1' h2 V I fun h₁ h' e o₂ F' N' I' x => ?_)))
    obtain ⟨ob, hob, hc⟩ := x.there
    refine wpAny_bind (wpAny_isInstance (T := "StopIteration") (b := true) ⟨ob, hob, hc⟩ isSubtype_stop ?_)
    refine wpAny_pure ?_
    refine wpAny_pure (hR h' s.toks c o₂ (F'.keeps x.keeps) (fun q hq => ⟨x.keeps _ _ (N' q (by simpa using hq)).1, (N' q (by simpa using hq)).2⟩) I')
  | cons v rem ih =>
    intro s o' acc c hz F N I hR
    refine codeAny_builtin PySem.F.entry_extend_loop ?_
    rw [Around.under_plainId PySem.F.plain_extend_loop _]
    show wpAny _ A.in1 (pyNext itv >>= _) _ _ s
    unfold pyNext
    have h1' : ∀ q ∈ (S, listOf acc.toArray c) :: pre, q.1 ≠ i := fun q hq => by
      rcases List.mem_cons.mp hq with rfl | hq
      · exact Ne.symm hSi
      · exact h1 q hq
    refine wpAny_bind (wpAny_bind (wpAny_attempt (itv_item (pre := (S, listOf acc.toArray c) :: pre) C.in1 hdp F N h1' h2 V I fun h' tk' o₂ F' N' I' => wpAny_pure ?_)))
    show wpAny _ A.in1 (updateSeq S (·.push v) >>= _) _ _ _
    have hS' : ∀ q ∈ pre ++ (i, o₂) :: post, q.1 ≠ S := fun q hq => by
      rcases List.mem_append.mp hq with hq | hq
      · exact hS q (List.mem_append_left _ hq)
      · rcases List.mem_cons.mp hq with rfl | hq
        · exact hSi
        · exact hS q (List.mem_append_right _ (.tail _ hq))
    have N₂ : News h₀ L h' ([] ++ (S, listOf acc.toArray c) :: (pre ++ (i, o₂) :: post)) := N'
    have e : Obj.mapSeq (·.push v) (listOf acc.toArray c) = listOf (acc ++ [v]).toArray (c + 1) := by
      simp [Obj.mapSeq]
    obtain ⟨F₃, N₃⟩ := news_upd F' N₂ (fun q hq => (nomatch hq)) hS' e rfl
    have hlen : acc.length + (v :: rem).length ≤ sizeLine := hz
    rw [List.length_cons] at hlen
    refine wpAny_bind (wpAny_updateSeq (N₂ _ (.head _)).1 rfl (wpAny_pure ⟨plainId_quiet PySem.F.plain_extend_loop _, ih _ o₂ (acc ++ [v]) (c + 1) (by rw [List.length_append, List.length_singleton]; omega) F₃ N₃ I' fun h₄ tk₄ c₄ o₄ F₄ N₄ I₄ => ?_⟩) ?_ ?_)
    · refine hR h₄ tk₄ c₄ o₄ F₄ ?_ I₄
      rw [List.append_assoc, List.singleton_append] at N₄
      exact N₄
    · rw [List.size_toArray]; omega
    · show (acc.toArray.push v).size ≤ sizeLine + 1
      rw [Array.size_push, List.size_toArray]; omega

/-- list(m) of a map -/
theorem list_map {Q : Value → Shared → Prop} {rem : List Value} (hd : Hd A post) (C : Cx w A A₀ env outer base h₀ p loose mean mg mb L) (hdp : A.depth < recursionLimit) (F : Fr h₀ L s.heap m) (N : News h₀ L s.heap (pre ++ (i, o) :: post)) (h1 : ∀ q ∈ pre, q.1 ≠ i) (h2 : ∀ q ∈ post, q.1 ≠ i)
    (hm : (mo, MP t 384) ∈ post) (ht : (t, T1 (.ref i)) ∈ post) (I : It1 il post o rem) (hz : rem.length ≤ sizeLine)
    (h : ∀ S h' tk' c' o', Fr h₀ L h' m → News h₀ L h' ((S, listOf rem.toArray c') :: (pre ++ (i, o') :: post)) → It1 il post o' [] → (∀ q ∈ pre ++ (i, o) :: post, q.1 < S) → Q (.ref S) { s with heap := h', toks := tk' }) :
    wpAny (model prog w) A (call (.type "list") [.ref mo]) Q E s := by
  have V : ItV post i (.ref mo) := .inr ⟨mo, t, rfl, hm, ht⟩
  have lt : ∀ q ∈ pre ++ (i, o) :: post, q.1 < s.heap.objs.size := fun q hq => Heap.lt_size (N q hq).1
  have hS : ∀ q ∈ pre ++ (i, o) :: post, q.1 ≠ s.heap.objs.size := fun q hq => Nat.ne_of_lt (lt q hq)
  have hmi : mo ∈ [mo] := by simp
  have hmS : s.heap.objs.size ≠ mo := Ne.symm (hS (mo, MP t 384) (List.mem_append_right _ (.tail _ hm)))
  refine callType_codes (Q₁ := fun obj s₁ => obj = .ref s.heap.objs.size ∧ s₁ = { s with heap := s.heap.push { cls := .type "list", data := .seq #[] } }) PySem.F.called_list (PySem.F.typeCall_list_1 _) PySem.F.entry_list_init
    (code_list_new _ ⟨rfl, rfl⟩) fun obj s₁ h₁ => ?_
  obtain ⟨rfl, rfl⟩ := h₁
  have F₁ := F.push (listOf #[] 0)
  have N₁ : News h₀ L (s.heap.push (listOf #[] 0)) ([] ++ (s.heap.objs.size, listOf #[] 0) :: (pre ++ (i, o) :: post)) := News.push F N (listOf #[] 0) rfl
  refine ⟨⟨_, Heap.get?_push_size _ rfl, rfl⟩, PySem.F.args_list_init_2 _ _, ?_⟩
  generalize hSd : s.heap.objs.size = S at *
  show wpAny _ A.in1.in1 (do let old ← Builtin.List.listItems (.ref S); Builtin.List.listUpdate (.ref S) (fun _ => #[]); letGo old.toList.reverse; Builtin.List.listExtendWith (.ref S) (.ref mo) .none) _ _ _
  refine wpAny_bind ?_
  unfold Builtin.List.listItems
  refine wpAny_bind (wpAny_seqItems (N₁ _ (.head _)).1 rfl (wpAny_pure ?_))
  show wpAny _ A.in1.in1 (updateSeq S (fun _ => #[]) >>= fun _ => letGo (#[] : Array Value).toList.reverse >>= fun _ => Builtin.List.listExtendWith (.ref S) (.ref mo) .none) _ _ _
  obtain ⟨F₂, N₂⟩ := news_upd (f := Obj.mapSeq (fun _ => (#[] : Array Value))) F₁ N₁ (fun q hq => (nomatch hq)) hS (o' := listOf #[] 0) (by simp [Obj.mapSeq]) rfl
  refine wpAny_bind (wpAny_updateSeq (N₁ _ (.head _)).1 rfl ?_)
  refine wpAny_bind (wpAny_letGo ?_)
  have hm₂ := (N₂ (mo, MP t 384) (List.mem_append_right _ (.tail _ (List.mem_append_right _ (.tail _ hm))))).1
  unfold Builtin.List.listExtendWith
  refine wpAny_bind (wpAny_typeOf (T := "map") ⟨_, hm₂, rfl⟩ ?_)
  have e1 : Builtin.List.listSameRef (.ref S) (.ref mo) = false := by simp [Builtin.List.listSameRef, hmS]
  have e2 : (Value.type "map" == Value.type "list") = false := by decide
  have e3 : (Value.type "map" == Value.type "tuple") = false := by decide
  simp only [e1, e2, e3, Bool.or_false, Bool.false_eq_true, if_false]
  refine wpAny_bind (pyIter_map hm₂ ?_)
  refine wpAny_bind (wpAny_holding ?_)
  unfold Builtin.List.listLengthHint
  refine wpAny_bind (wpAny_specialOf (T := "map") ⟨_, hm₂, rfl⟩ no_len_map ?_)
  show wpAny _ A.in1.in1 (specialOf (Value.ref mo) (Str.ofString "__length_hint__") >>= _) _ _ _
  refine wpAny_bind (wpAny_specialOf (T := "map") ⟨_, hm₂, rfl⟩ no_hint_map ?_)
  refine wpAny_pure ?_
  show wpAny _ A.in1.in1 (rule "list.extend.makes-room" >>= fun _ => Builtin.List.listTouch (.ref S) >>= fun _ =>
    again (.builtin "list.extend.loop" ⟨[.ref S, .ref mo, .none], []⟩)) _ _ _
  refine wpAny_bind (wpAny_rule ?_)
  refine wpAny_bind ?_
  show wpAny _ A.in1.in1 (updateSeq S (·.push .none) >>= fun _ => updateSeq S (·.pop)) _ _ _
  obtain ⟨F₃, N₃⟩ := news_upd (f := Obj.mapSeq (·.push Value.none)) F₂ N₂ (fun q hq => (nomatch hq)) hS (o' := listOf #[.none] 1) (by simp [Obj.mapSeq]) rfl
  refine wpAny_bind (wpAny_updateSeq (N₂ _ (.head _)).1 rfl ?_)
  obtain ⟨F₄, N₄⟩ := news_upd (f := Obj.mapSeq (·.pop)) F₃ N₃ (fun q hq => (nomatch hq)) hS (o' := listOf #[] 2) (by simp [Obj.mapSeq]) rfl
  refine wpAny_updateSeq (hz := by seq_fits) (N₃ _ (.head _)).1 rfl ?_
  refine wpAny_pure ⟨plainId_quiet PySem.F.plain_extend_loop _, ext_loop (o := o) (A := A.in1) hd C.in1 hdp V hS h1 h2 rem _ o [] 2 (by simpa using hz) F₄ N₄ I fun h' tk' c' o₂ F' N' I' => ?_⟩
  exact ⟨rfl, h S h' tk' c' o₂ F' N' I' lt⟩
end
end Mine

end
section
theorem Mine.walk_off_B5a : True := by
  w_top off
  trivial
open PySem PySem.W PyProof.Rows PySem.Spec PySem.Calls
set_option Elab.async false
namespace Mine
theorem getL_isSome {x : Str} {es : List DictEntry} {o : Option Value} (h : getL x es = some o) : (getL x es).isSome = true := by rw [h]; rfl
theorem len_put_of {x : Str} {hs : Int} {k v : Value} {es : List DictEntry} {c : Nat} (h : es.length ≤ c) : (putL x hs k v es).length ≤ c + 1 := Nat.le_trans (len_put_le es) (Nat.succ_le_succ h)

/-- one where the name is not yet written -/
def ab (y : Str) (es : List DictEntry) : Nat := match getL y es with
  | some none => 1
  | _ => 0
theorem ab_same {y : Str} {hs : Int} {tk : Tok} {v : Value} {es : List DictEntry} : ab y (putL y hs (.str y tk) v es) = 0 := by unfold ab; rw [getL_put]
theorem ab_ne {x y : Str} {hs : Int} {tk : Tok} {v : Value} {es : List DictEntry} (n : x ≠ y) : ab y (putL x hs (.str x tk) v es) = ab y es := by unfold ab; rw [getL_put_ne n]
theorem len_ab {y : Str} {hs : Int} {k v : Value} {es : List DictEntry} (h : (getL y es).isSome = true) : (putL y hs k v es).length ≤ es.length + ab y es := by
  unfold ab
  cases q : getL y es with
  | none => rw [q] at h; cases h
  | some o => cases o with
    | none => exact len_put_le es
    | some v' => exact Nat.le_of_eq (len_put_old es q)
def room (es : List DictEntry) : Nat := es.length + (ab "index0" es + (ab "_before" es + (ab "_current" es + (ab "_length" es + (ab "_after" es + ab "_last_changed_value" es)))))

theorem room_index0 {hs : Int} {tk : Tok} {v : Value} {es : List DictEntry} (h : (getL "index0" es).isSome = true) : room (putL "index0" hs (.str "index0" tk) v es) ≤ room es := by
  have l := len_ab (hs := hs) (k := .str "index0" tk) (v := v) h
  unfold room
  rw [ab_same, ab_ne (by decide), ab_ne (by decide), ab_ne (by decide), ab_ne (by decide), ab_ne (by decide)]
  omega
theorem room_before {hs : Int} {tk : Tok} {v : Value} {es : List DictEntry} (h : (getL "_before" es).isSome = true) : room (putL "_before" hs (.str "_before" tk) v es) ≤ room es := by
  have l := len_ab (hs := hs) (k := .str "_before" tk) (v := v) h
  unfold room
  rw [ab_same, ab_ne (by decide), ab_ne (by decide), ab_ne (by decide), ab_ne (by decide), ab_ne (by decide)]
  omega
theorem room_current {hs : Int} {tk : Tok} {v : Value} {es : List DictEntry} (h : (getL "_current" es).isSome = true) : room (putL "_current" hs (.str "_current" tk) v es) ≤ room es := by
  have l := len_ab (hs := hs) (k := .str "_current" tk) (v := v) h
  unfold room
  rw [ab_same, ab_ne (by decide), ab_ne (by decide), ab_ne (by decide), ab_ne (by decide), ab_ne (by decide)]
  omega
theorem room_length {hs : Int} {tk : Tok} {v : Value} {es : List DictEntry} (h : (getL "_length" es).isSome = true) : room (putL "_length" hs (.str "_length" tk) v es) ≤ room es := by
  have l := len_ab (hs := hs) (k := .str "_length" tk) (v := v) h
  unfold room
  rw [ab_same, ab_ne (by decide), ab_ne (by decide), ab_ne (by decide), ab_ne (by decide), ab_ne (by decide)]
  omega
theorem room_after {hs : Int} {tk : Tok} {v : Value} {es : List DictEntry} (h : (getL "_after" es).isSome = true) : room (putL "_after" hs (.str "_after" tk) v es) ≤ room es := by
  have l := len_ab (hs := hs) (k := .str "_after" tk) (v := v) h
  unfold room
  rw [ab_same, ab_ne (by decide), ab_ne (by decide), ab_ne (by decide), ab_ne (by decide), ab_ne (by decide)]
  omega
theorem room_lcv {hs : Int} {tk : Tok} {v : Value} {es : List DictEntry} (h : (getL "_last_changed_value" es).isSome = true) : room (putL "_last_changed_value" hs (.str "_last_changed_value" tk) v es) ≤ room es := by
  have l := len_ab (hs := hs) (k := .str "_last_changed_value" tk) (v := v) h
  unfold room
  rw [ab_same, ab_ne (by decide), ab_ne (by decide), ab_ne (by decide), ab_ne (by decide), ab_ne (by decide)]
  omega
theorem room_iterator {hs : Int} {tk : Tok} {v o : Value} {es : List DictEntry} (h : getL "_iterator" es = some (some o)) : room (putL "_iterator" hs (.str "_iterator" tk) v es) ≤ room es := by
  have l := len_put_old (hs := hs) (k := .str "_iterator" tk) (v := v) es h
  unfold room
  rw [ab_ne (by decide), ab_ne (by decide), ab_ne (by decide), ab_ne (by decide), ab_ne (by decide), ab_ne (by decide)]
  omega
theorem len_room {es : List DictEntry} {c : Nat} (h : room es ≤ c) : es.length ≤ c := by unfold room at h; omega

/-- a tree: its label, the list of its kids, what it asks, whether the kids are handed on as a list -/
abbrev T4 (lab : Int) (t1 : Tok) (kl : Addr) (ask : Int) (t2 : Tok) (sz : Bool) : Obj := { cls := .type "tuple", data := .seq #[.int lab t1, .ref kl, .int ask t2, .bool sz] }
def Lab (rest : List (Addr × Obj)) (v : Value) (lab : Int) : Prop := ∃ a t1 kl ask t2 sz, v = .ref a ∧ (a, T4 lab t1 kl ask t2 sz) ∈ rest
inductive LabsIn (rest : List (Addr × Obj)) : List Value → List Int → Prop
  | nil : LabsIn rest [] []
  | cons {v : Value} {vs : List Value} {l : Int} {ls : List Int} : Lab rest v l → LabsIn rest vs ls → LabsIn rest (v :: vs) (l :: ls)
theorem Lab.mono {r r' : List (Addr × Obj)} {v : Value} {l : Int} (h : Lab r v l) (s : ∀ q ∈ r, q ∈ r') : Lab r' v l := by
  obtain ⟨a, t1, kl, ask, t2, sz, e, hm⟩ := h
  exact ⟨a, t1, kl, ask, t2, sz, e, s _ hm⟩
theorem LabsIn.mono {r r' : List (Addr × Obj)} {vs : List Value} {ls : List Int} (h : LabsIn r vs ls) (s : ∀ q ∈ r, q ∈ r') : LabsIn r' vs ls := by
  induction h with
  | nil => exact .nil
  | cons h _ ih => exact .cons (h.mono s) ih
theorem LabsIn.length {r : List (Addr × Obj)} {vs : List Value} {ls : List Int} (h : LabsIn r vs ls) : vs.length = ls.length := by
  induction h with
  | nil => rfl
  | cons _ _ ih => rw [List.length_cons, List.length_cons, ih]
theorem LabsIn.get {r : List (Addr × Obj)} {vs : List Value} {ls : List Int} (h : LabsIn r vs ls) {k : Nat} {v : Value} (e : vs[k]? = some v) : ∃ l, ls[k]? = some l ∧ Lab r v l := by
  induction h generalizing k with
  | nil => simp at e
  | cons h _ ih =>
    cases k with
    | zero => simp at e; subst e; exact ⟨_, rfl, h⟩
    | succ k => exact ih (by simpa using e)
theorem LabsIn.at {r : List (Addr × Obj)} {vs : List Value} {ls : List Int} (h : LabsIn r vs ls) {k : Nat} (e : k < vs.length) : ∃ v l, vs[k]? = some v ∧ ls[k]? = some l ∧ Lab r v l := by
  obtain ⟨l, h1, h2⟩ := h.get (List.getElem?_eq_getElem e)
  exact ⟨_, l, List.getElem?_eq_getElem e, h1, h2⟩

/-- what of a loop does not turn -/
structure Lp where
  x : Addr
  d : Addr
  rows : Value
  again : Value
  dep : Int
  vs : List Value
  ls : List Int
/-- what turns -/
structure LS where
  es : List DictEntry
  n : Nat
  i : Addr
  o : Obj
  itv : Value
  k : Nat
  pk : Bool
  lenC : Bool
  lcv : Option Int
  l : Addr

abbrev Led (P : Lp) (S : LS) (rest : List (Addr × Obj)) : List (Addr × Obj) := (P.d, dictOf S.es S.n) :: (S.i, S.o) :: rest

def fields : List Str := ["_iterable", "_iterator", "_undefined", "_recurse", "depth0", "index0", "_before", "_current", "_length", "_after", "_last_changed_value"]
theorem not_field {x y : Str} (h : fields.contains y = false) (k : fields.contains x = true) : x ≠ y := by
  intro e
  rw [e, h] at k
  cases k

structure LoopOk (P : Lp) (S : LS) (rest : List (Addr × Obj)) : Prop where
  inst : (P.x, instObj 255 P.d) ∈ rest
  off_d : ∀ q ∈ rest, q.1 ≠ P.d
  off_i : ∀ q ∈ rest, q.1 ≠ S.i
  i_d : @Ne Nat S.i P.d
  labs : LabsIn rest P.vs P.ls
  small : P.vs.length ≤ 1000
  kle : S.k ≤ P.vs.length
  iterable : getL "_iterable" S.es = some (some P.rows)
  iterator : getL "_iterator" S.es = some (some S.itv)
  undef : getL "_undefined" S.es = some (some (.ref 364))
  recurse : getL "_recurse" S.es = some (some P.again)
  depth0 : ∃ t, getL "depth0" S.es = some (some (.int P.dep t))
  index0 : (S.k = 0 ∧ getL "index0" S.es = some none) ∨ (S.k ≠ 0 ∧ ∃ t, getL "index0" S.es = some (some (.int ((S.k : Int) - 1) t)))
  current : (S.k = 0 ∧ getL "_current" S.es = some none) ∨ (S.k ≠ 0 ∧ ∃ v, P.vs[S.k - 1]? = some v ∧ getL "_current" S.es = some (some v))
  before : (S.k < 2 ∧ ∃ o, getL "_before" S.es = some o) ∨ (2 ≤ S.k ∧ ∃ v, P.vs[S.k - 2]? = some v ∧ getL "_before" S.es = some (some v))
  length : (S.lenC = false ∧ getL "_length" S.es = some none) ∨ (S.lenC = true ∧ ∃ t, getL "_length" S.es = some (some (.int P.vs.length t)))
  after : (S.pk = false ∧ getL "_after" S.es = some none) ∨ (S.pk = false ∧ getL "_after" S.es = some (some (.ref 92))) ∨ (S.pk = true ∧ ∃ v, P.vs[S.k]? = some v ∧ getL "_after" S.es = some (some v))
  lcv : (S.lcv = none ∧ getL "_last_changed_value" S.es = some none) ∨ (∃ a t tk, S.lcv = some a ∧ getL "_last_changed_value" S.es = some (some (.ref t)) ∧ (t, T1 (.int a tk)) ∈ rest)
  size : room S.es ≤ 11
  it1 : It1 S.l rest S.o (P.vs.drop (S.k + S.pk.toNat))
  itV : ItV rest S.i S.itv
  kind : (∃ l n, P.rows = .ref l ∧ (l, listOf P.vs.toArray n) ∈ rest) ∨ (∃ mo t, P.rows = .ref mo ∧ (mo, MP t 384) ∈ rest ∧ (S.lenC = false → S.itv = .ref mo ∧ (t, T1 (.ref S.i)) ∈ rest))
  none_ : ∀ y : Str, fields.contains y = false → getL y S.es = some none

/-- what a call may add -/
structure Ext (S S' : LS) (rest rest' : List (Addr × Obj)) : Prop where
  more : ∃ tl, rest' = tl ++ rest ∧ ∀ q ∈ tl, ∀ r ∈ rest, r.1 < q.1
  it : S'.i = S.i ∨ ∀ r ∈ rest, r.1 < S'.i
  li : S'.l = S.l ∨ ∀ r ∈ rest, r.1 < S'.l
theorem Ext.refl {S : LS} {rest : List (Addr × Obj)} : Ext S S rest rest := ⟨⟨[], rfl, fun _ h => nomatch h⟩, .inl rfl, .inl rfl⟩
theorem Ext.same {S S' : LS} {rest : List (Addr × Obj)} (h : S'.i = S.i) (hl : S'.l = S.l) : Ext S S' rest rest := ⟨⟨[], rfl, fun _ h => nomatch h⟩, .inl h, .inl hl⟩
theorem Ext.sub {S S' : LS} {rest rest' : List (Addr × Obj)} (h : Ext S S' rest rest') : ∀ q ∈ rest, q ∈ rest' := by
  obtain ⟨tl, e, _⟩ := h.more
  subst e
  exact fun q hq => List.mem_append_right _ hq
theorem Ext.trans {S S' S'' : LS} {rest rest' rest'' : List (Addr × Obj)} (h : Ext S S' rest rest') (k : Ext S' S'' rest' rest'') : Ext S S'' rest rest'' := by
  obtain ⟨tl, e, h1⟩ := h.more
  obtain ⟨tl', e', h2⟩ := k.more
  subst e
  subst e'
  refine ⟨⟨tl' ++ tl, (List.append_assoc ..).symm, fun q hq r hr => ?_⟩, ?_, ?_⟩
  · rcases List.mem_append.mp hq with hq | hq
    · exact h2 q hq r (List.mem_append_right _ hr)
    · exact h1 q hq r hr
  · rcases k.it with q | q
    · rcases h.it with z | z
      · exact .inl (q.trans z)
      · exact .inr fun r hr => by rw [q]; exact z r hr
    · exact .inr fun r hr => q r (List.mem_append_right _ hr)
  · rcases k.li with q | q
    · rcases h.li with z | z
      · exact .inl (q.trans z)
      · exact .inr fun r hr => by rw [q]; exact z r hr
    · exact .inr fun r hr => q r (List.mem_append_right _ hr)

section
variable {P : Lp} {S : LS} {rest : List (Addr × Obj)} (H : LoopOk P S rest)
include H
theorem LoopOk.len1000 : S.es.length ≤ 900 := Nat.le_trans (len_room H.size) (by decide)
theorem LoopOk.handed : handedIn S.itv = true := by
  rcases H.itV with h | ⟨mo, t, h, _⟩ <;> (rw [h]; rfl)
theorem LoopOk.someB : ∃ o, getL "_before" S.es = some o := by
  rcases H.before with ⟨_, h⟩ | ⟨_, v, _, h⟩
  · exact h
  · exact ⟨_, h⟩
theorem LoopOk.someA : ∃ o, getL "_after" S.es = some o := by
  rcases H.after with ⟨_, h⟩ | ⟨_, h⟩ | ⟨_, v, _, h⟩ <;> exact ⟨_, h⟩

/-- the look ahead is written -/
theorem LoopOk.setAfter {hs : Int} {tk : Tok} {a : Value} {n' : Nat} {o' : Obj} {pk' : Bool} (hc : (pk' = false ∧ a = .ref 92) ∨ (pk' = true ∧ P.vs[S.k]? = some a)) (hi : It1 S.l rest o' (P.vs.drop (S.k + pk'.toNat))) :
    LoopOk P { S with es := putL "_after" hs (.str "_after" tk) a S.es, n := n', o := o', pk := pk' } rest := by
  obtain ⟨oa, ha⟩ := H.someA
  refine ⟨H.inst, H.off_d, H.off_i, H.i_d, H.labs, H.small, H.kle, ?_, ?_, ?_, ?_, ?_, ?_, ?_, ?_, ?_, ?_, ?_, ?_, hi, H.itV, H.kind, fun y hy => (getL_put_ne (not_field hy (by decide))).trans (H.none_ y hy)⟩
  · exact (getL_put_ne (by decide)).trans H.iterable
  · exact (getL_put_ne (by decide)).trans H.iterator
  · exact (getL_put_ne (by decide)).trans H.undef
  · exact (getL_put_ne (by decide)).trans H.recurse
  · exact H.depth0.imp fun t h => (getL_put_ne (by decide)).trans h
  · exact H.index0.imp (fun h => ⟨h.1, (getL_put_ne (by decide)).trans h.2⟩) fun h => ⟨h.1, h.2.imp fun t h => (getL_put_ne (by decide)).trans h⟩
  · exact H.current.imp (fun h => ⟨h.1, (getL_put_ne (by decide)).trans h.2⟩) fun h => ⟨h.1, h.2.imp fun t h => ⟨h.1, (getL_put_ne (by decide)).trans h.2⟩⟩
  · exact H.before.imp (fun h => ⟨h.1, h.2.imp fun _ h => (getL_put_ne (by decide)).trans h⟩) fun h => ⟨h.1, h.2.imp fun t h => ⟨h.1, (getL_put_ne (by decide)).trans h.2⟩⟩
  · exact H.length.imp (fun h => ⟨h.1, (getL_put_ne (by decide)).trans h.2⟩) fun h => ⟨h.1, h.2.imp fun t h => (getL_put_ne (by decide)).trans h⟩
  · rcases hc with ⟨h1, h2⟩ | ⟨h1, h2⟩
    · exact .inr (.inl ⟨h1, by rw [h2]; exact getL_put _⟩)
    · exact .inr (.inr ⟨h1, a, h2, getL_put _⟩)
  · exact H.lcv.imp (fun h => ⟨h.1, (getL_put_ne (by decide)).trans h.2⟩) fun ⟨a, t, tk, h1, h2, h3⟩ => ⟨a, t, tk, h1, (getL_put_ne (by decide)).trans h2, h3⟩
  · exact Nat.le_trans (room_after (getL_isSome ha)) H.size

/-- the length is written -/
theorem LoopOk.setLength {hs : Int} {tk t : Tok} {n' : Nat}:
    LoopOk P { S with es := putL "_length" hs (.str "_length" tk) (.int P.vs.length t) S.es, n := n', lenC := true } rest := by
  have hl : (getL "_length" S.es).isSome = true := by
    rcases H.length with ⟨_, h⟩ | ⟨_, t, h⟩ <;> (rw [h]; rfl)
  refine ⟨H.inst, H.off_d, H.off_i, H.i_d, H.labs, H.small, H.kle, ?_, ?_, ?_, ?_, ?_, ?_, ?_, ?_, ?_, ?_, ?_, ?_, H.it1, H.itV, ?_, fun y hy => (getL_put_ne (not_field hy (by decide))).trans (H.none_ y hy)⟩
  · exact (getL_put_ne (by decide)).trans H.iterable
  · exact (getL_put_ne (by decide)).trans H.iterator
  · exact (getL_put_ne (by decide)).trans H.undef
  · exact (getL_put_ne (by decide)).trans H.recurse
  · exact H.depth0.imp fun t h => (getL_put_ne (by decide)).trans h
  · exact H.index0.imp (fun h => ⟨h.1, (getL_put_ne (by decide)).trans h.2⟩) fun h => ⟨h.1, h.2.imp fun t h => (getL_put_ne (by decide)).trans h⟩
  · exact H.current.imp (fun h => ⟨h.1, (getL_put_ne (by decide)).trans h.2⟩) fun h => ⟨h.1, h.2.imp fun t h => ⟨h.1, (getL_put_ne (by decide)).trans h.2⟩⟩
  · exact H.before.imp (fun h => ⟨h.1, h.2.imp fun _ h => (getL_put_ne (by decide)).trans h⟩) fun h => ⟨h.1, h.2.imp fun t h => ⟨h.1, (getL_put_ne (by decide)).trans h.2⟩⟩
  · exact .inr ⟨rfl, t, getL_put _⟩
  · exact H.after.imp (fun h => ⟨h.1, (getL_put_ne (by decide)).trans h.2⟩) fun h => h.imp (fun h => ⟨h.1, (getL_put_ne (by decide)).trans h.2⟩) fun h => ⟨h.1, h.2.imp fun t h => ⟨h.1, (getL_put_ne (by decide)).trans h.2⟩⟩
  · exact H.lcv.imp (fun h => ⟨h.1, (getL_put_ne (by decide)).trans h.2⟩) fun ⟨a, t, tk, h1, h2, h3⟩ => ⟨a, t, tk, h1, (getL_put_ne (by decide)).trans h2, h3⟩
  · exact Nat.le_trans (room_length hl) H.size
  · exact H.kind.imp (fun h => h) fun ⟨mo, t, h1, h2, _⟩ => ⟨mo, t, h1, h2, fun h => by cases h⟩

/-- the length is written, and a map's rest is laid out as a list -/
theorem LoopOk.setLengthMap {hs hs2 : Int} {tk tk2 t : Tok} {n' i' l' c' : Nat} (hi : ∀ r ∈ Led P S rest, r.1 < i') (hl' : ∀ r ∈ Led P S rest, r.1 < l') (hil : l' ≠ i') :
    LoopOk P { S with es := putL "_length" hs (.str "_length" tk) (.int P.vs.length t) (putL "_iterator" hs2 (.str "_iterator" tk2) (.ref i') S.es), n := n', i := i', o := LI l' 0, itv := .ref i', lenC := true, l := l' } ((l', listOf (P.vs.drop (S.k + S.pk.toNat)).toArray c') :: rest) := by
  have hl : (getL "_length" (putL "_iterator" hs2 (.str "_iterator" tk2) (.ref i') S.es)).isSome = true := by
    rw [getL_put_ne (by decide)]
    rcases H.length with ⟨_, h⟩ | ⟨_, t, h⟩ <;> (rw [h]; rfl)
  have sub : ∀ q ∈ rest, q ∈ (l', listOf (P.vs.drop (S.k + S.pk.toNat)).toArray c') :: rest := fun q hq => .tail _ hq
  have up : ∀ y : Str, y ≠ "_length" → y ≠ "_iterator" → getL y (putL "_length" hs (.str "_length" tk) (.int P.vs.length t) (putL "_iterator" hs2 (.str "_iterator" tk2) (.ref i') S.es)) = getL y S.es := fun y a1 a2 => by
    rw [getL_put_ne (Ne.symm a1), getL_put_ne (Ne.symm a2)]
  refine ⟨.tail _ H.inst, ?_, ?_, ?_, H.labs.mono sub, H.small, H.kle, ?_, ?_, ?_, ?_, ?_, ?_, ?_, ?_, ?_, ?_, ?_, ?_, ?_, .inl rfl, ?_, fun y hy => (up y (Ne.symm (not_field hy (by decide))) (Ne.symm (not_field hy (by decide)))).trans (H.none_ y hy)⟩
  · intro q hq
    rcases List.mem_cons.mp hq with rfl | hq
    · exact Nat.ne_of_gt (hl' (P.d, dictOf S.es S.n) (.head _))
    · exact H.off_d q hq
  · intro q hq
    rcases List.mem_cons.mp hq with rfl | hq
    · exact hil
    · exact Nat.ne_of_lt (hi q (.tail _ (.tail _ hq)))
  · exact Nat.ne_of_gt (hi (P.d, dictOf S.es S.n) (.head _))
  · exact (up _ (by decide) (by decide)).trans H.iterable
  · exact (getL_put_ne (by decide)).trans (getL_put _)
  · exact (up _ (by decide) (by decide)).trans H.undef
  · exact (up _ (by decide) (by decide)).trans H.recurse
  · exact H.depth0.imp fun t h => (up _ (by decide) (by decide)).trans h
  · exact H.index0.imp (fun h => ⟨h.1, (up _ (by decide) (by decide)).trans h.2⟩) fun h => ⟨h.1, h.2.imp fun t h => (up _ (by decide) (by decide)).trans h⟩
  · exact H.current.imp (fun h => ⟨h.1, (up _ (by decide) (by decide)).trans h.2⟩) fun h => ⟨h.1, h.2.imp fun t h => ⟨h.1, (up _ (by decide) (by decide)).trans h.2⟩⟩
  · exact H.before.imp (fun h => ⟨h.1, h.2.imp fun _ h => (up _ (by decide) (by decide)).trans h⟩) fun h => ⟨h.1, h.2.imp fun t h => ⟨h.1, (up _ (by decide) (by decide)).trans h.2⟩⟩
  · exact .inr ⟨rfl, t, getL_put _⟩
  · exact H.after.imp (fun h => ⟨h.1, (up _ (by decide) (by decide)).trans h.2⟩) fun h => h.imp (fun h => ⟨h.1, (up _ (by decide) (by decide)).trans h.2⟩) fun h => ⟨h.1, h.2.imp fun t h => ⟨h.1, (up _ (by decide) (by decide)).trans h.2⟩⟩
  · exact H.lcv.imp (fun h => ⟨h.1, (up _ (by decide) (by decide)).trans h.2⟩) fun ⟨a, t, tk, h1, h2, h3⟩ => ⟨a, t, tk, h1, (up _ (by decide) (by decide)).trans h2, sub _ h3⟩
  · exact Nat.le_trans (room_length hl) (Nat.le_trans (room_iterator H.iterator) H.size)
  · exact .inl ⟨0, c', _, rfl, .head _, by simp⟩
  · exact H.kind.imp (fun ⟨l, n, h1, h2⟩ => ⟨l, n, h1, sub _ h2⟩) fun ⟨mo, t, h1, h2, _⟩ => ⟨mo, t, h1, sub _ h2, fun h => by cases h⟩

/-- the value last asked after is written -/
theorem LoopOk.setLcv {hs : Int} {tk tk' : Tok} {a : Int} {t : Addr} {n' : Nat} (ht : ∀ r ∈ Led P S rest, r.1 < t) :
    LoopOk P { S with es := putL "_last_changed_value" hs (.str "_last_changed_value" tk) (.ref t) S.es, n := n', lcv := some a } ((t, T1 (.int a tk')) :: rest) := by
  have hl : (getL "_last_changed_value" S.es).isSome = true := by
    rcases H.lcv with ⟨_, h⟩ | ⟨_, _, _, _, h, _⟩ <;> (rw [h]; rfl)
  have sub : ∀ q ∈ rest, q ∈ (t, T1 (.int a tk')) :: rest := fun q hq => .tail _ hq
  refine ⟨.tail _ H.inst, ?_, ?_, H.i_d, H.labs.mono sub, H.small, H.kle, ?_, ?_, ?_, ?_, ?_, ?_, ?_, ?_, ?_, ?_, ?_, ?_, H.it1.mono sub, H.itV.mono sub, ?_, fun y hy => (getL_put_ne (not_field hy (by decide))).trans (H.none_ y hy)⟩
  · intro q hq
    rcases List.mem_cons.mp hq with rfl | hq
    · exact Nat.ne_of_gt (ht (P.d, dictOf S.es S.n) (.head _))
    · exact H.off_d q hq
  · intro q hq
    rcases List.mem_cons.mp hq with rfl | hq
    · exact Nat.ne_of_gt (ht (S.i, S.o) (.tail _ (.head _)))
    · exact H.off_i q hq
  · exact (getL_put_ne (by decide)).trans H.iterable
  · exact (getL_put_ne (by decide)).trans H.iterator
  · exact (getL_put_ne (by decide)).trans H.undef
  · exact (getL_put_ne (by decide)).trans H.recurse
  · exact H.depth0.imp fun t h => (getL_put_ne (by decide)).trans h
  · exact H.index0.imp (fun h => ⟨h.1, (getL_put_ne (by decide)).trans h.2⟩) fun h => ⟨h.1, h.2.imp fun t h => (getL_put_ne (by decide)).trans h⟩
  · exact H.current.imp (fun h => ⟨h.1, (getL_put_ne (by decide)).trans h.2⟩) fun h => ⟨h.1, h.2.imp fun t h => ⟨h.1, (getL_put_ne (by decide)).trans h.2⟩⟩
  · exact H.before.imp (fun h => ⟨h.1, h.2.imp fun _ h => (getL_put_ne (by decide)).trans h⟩) fun h => ⟨h.1, h.2.imp fun t h => ⟨h.1, (getL_put_ne (by decide)).trans h.2⟩⟩
  · exact H.length.imp (fun h => ⟨h.1, (getL_put_ne (by decide)).trans h.2⟩) fun h => ⟨h.1, h.2.imp fun t h => (getL_put_ne (by decide)).trans h⟩
  · exact H.after.imp (fun h => ⟨h.1, (getL_put_ne (by decide)).trans h.2⟩) fun h => h.imp (fun h => ⟨h.1, (getL_put_ne (by decide)).trans h.2⟩) fun h => ⟨h.1, h.2.imp fun t h => ⟨h.1, (getL_put_ne (by decide)).trans h.2⟩⟩
  · exact .inr ⟨a, t, tk', rfl, getL_put _, .head _⟩
  · exact Nat.le_trans (room_lcv hl) H.size
  · exact H.kind.imp (fun ⟨l, n, h1, h2⟩ => ⟨l, n, h1, sub _ h2⟩) fun ⟨mo, t, h1, h2, h3⟩ => ⟨mo, t, h1, sub _ h2, fun h => ⟨(h3 h).1, sub _ (h3 h).2⟩⟩

/-- one item is taken: the three that tell of it are written -/
theorem LoopOk.setNext {hs1 hs2 hs3 : Int} {tk1 tk2 tk3 t : Tok} {v b : Value} {n' : Nat} {o' : Obj} {es' : List DictEntry} (he : room es' ≤ 11)
    (same : ∀ y : Str, y ≠ "_after" → getL y es' = getL y S.es) (ha : getL "_after" es' = some none ∨ getL "_after" es' = some (some (.ref 92)))
    (hv : P.vs[S.k]? = some v) (hb : S.k ≠ 0 → P.vs[S.k - 1]? = some b) (hi : It1 S.l rest o' (P.vs.drop (S.k + 1))) :
    LoopOk P { S with es := putL "_current" hs3 (.str "_current" tk3) v (putL "_before" hs2 (.str "_before" tk2) b (putL "index0" hs1 (.str "index0" tk1) (.int S.k t) es')), n := n', o := o', k := S.k + 1, pk := false } rest := by
  obtain ⟨ob, hob⟩ := H.someB
  have h0 : (getL "index0" es').isSome = true := by
    rw [same _ (by decide)]
    rcases H.index0 with ⟨_, h⟩ | ⟨_, t, h⟩ <;> (rw [h]; rfl)
  have h2 : (getL "_current" es').isSome = true := by
    rw [same _ (by decide)]
    rcases H.current with ⟨_, h⟩ | ⟨_, t, _, h⟩ <;> (rw [h]; rfl)
  have up : ∀ y : Str, y ≠ "_after" → y ≠ "index0" → y ≠ "_before" → y ≠ "_current" →
      getL y (putL "_current" hs3 (.str "_current" tk3) v (putL "_before" hs2 (.str "_before" tk2) b (putL "index0" hs1 (.str "index0" tk1) (.int S.k t) es'))) = getL y S.es := fun y a1 a2 a3 a4 => by
    rw [getL_put_ne (Ne.symm a4), getL_put_ne (Ne.symm a3), getL_put_ne (Ne.symm a2), same y a1]
  have klt : S.k < P.vs.length := by
    rcases Nat.lt_or_ge S.k P.vs.length with h | h
    · exact h
    · rw [List.getElem?_eq_none h] at hv; cases hv
  refine ⟨H.inst, H.off_d, H.off_i, H.i_d, H.labs, H.small, klt, ?_, ?_, ?_, ?_, ?_, ?_, ?_, ?_, ?_, ?_, ?_, ?_, hi, H.itV, H.kind, fun y hy => (up y (Ne.symm (not_field hy (by decide))) (Ne.symm (not_field hy (by decide))) (Ne.symm (not_field hy (by decide))) (Ne.symm (not_field hy (by decide)))).trans (H.none_ y hy)⟩
  · exact (up _ (by decide) (by decide) (by decide) (by decide)).trans H.iterable
  · exact (up _ (by decide) (by decide) (by decide) (by decide)).trans H.iterator
  · exact (up _ (by decide) (by decide) (by decide) (by decide)).trans H.undef
  · exact (up _ (by decide) (by decide) (by decide) (by decide)).trans H.recurse
  · exact H.depth0.imp fun t h => (up _ (by decide) (by decide) (by decide) (by decide)).trans h
  · refine .inr ⟨Nat.succ_ne_zero _, t, ?_⟩
    rw [getL_put_ne (by decide), getL_put_ne (by decide), getL_put]
    simp
  · exact .inr ⟨Nat.succ_ne_zero _, v, by simpa using hv, getL_put _⟩
  · by_cases hk : S.k = 0
    · exact .inl ⟨by simp [hk], _, (getL_put_ne (by decide)).trans (getL_put _)⟩
    · exact .inr ⟨by show 2 ≤ S.k + 1; omega, b, by simpa using hb hk, (getL_put_ne (by decide)).trans (getL_put _)⟩
  · exact H.length.imp (fun h => ⟨h.1, (up _ (by decide) (by decide) (by decide) (by decide)).trans h.2⟩) fun h => ⟨h.1, h.2.imp fun t h => (up _ (by decide) (by decide) (by decide) (by decide)).trans h⟩
  · refine ha.imp (fun h => ⟨rfl, ?_⟩) fun h => .inl ⟨rfl, ?_⟩
    all_goals (rw [getL_put_ne (by decide), getL_put_ne (by decide), getL_put_ne (by decide)]; exact h)
  · exact H.lcv.imp (fun h => ⟨h.1, (up _ (by decide) (by decide) (by decide) (by decide)).trans h.2⟩) fun ⟨a, t, tk, h1, h2, h3⟩ => ⟨a, t, tk, h1, (up _ (by decide) (by decide) (by decide) (by decide)).trans h2, h3⟩
  · refine Nat.le_trans (room_current ?_) (Nat.le_trans (room_before ?_) (Nat.le_trans (room_index0 h0) he))
    · rw [getL_put_ne (by decide), getL_put_ne (by decide)]; exact h2
    · rw [getL_put_ne (by decide), same _ (by decide)]; exact getL_isSome hob
end

abbrev AR (dp un : Nat) (gd : Option (List Code)) (env : Env) (outer : List Env) : Around := { handled := none, depth := dp, frames := some (env :: outer), guards := gd, units := un }
theorem AR_depth {dp un : Nat} {gd : Option (List Code)} {env : Env} {outer : List Env} : (AR dp un gd env outer).depth = dp := rfl
theorem AR_units {dp un : Nat} {gd : Option (List Code)} {env : Env} {outer : List Env} : (AR dp un gd env outer).units = un := rfl
/-- what stands about a call -/
structure Cy (w : World) (A₀ : Around) (env : Env) (outer : List Env) (base h₀ : Heap) (p : Program) (loose : List Str) (mean : ExcName → Option Value) (mg mb : Str → Option Value) (L : Addr) : Prop where
  B : Below A₀ base outer h₀
  X : (hd.heap_39 w.params).In h₀
  T : Top p loose mean mg mb h₀
  hf : env.frame = some L
  hk : env.scope.kind = .function
theorem Cy.x {w : World} {A₀ : Around} {env : Env} {outer : List Env} {base h₀ : Heap} {p : Program} {loose : List Str} {mean : ExcName → Option Value} {mg mb : Str → Option Value} {L : Addr} {dp un : Nat} {gd : Option (List Code)}
    (c : Cy w A₀ env outer base h₀ p loose mean mg mb L) : Cx w (AR dp un gd env outer) A₀ env outer base h₀ p loose mean mg mb L := ⟨c.B, c.X, c.T, rfl, c.hf, c.hk⟩
end Mine

end
section
theorem Mine.walk_off_B5b : True := by
  w_top off
  trivial
open PySem PySem.W PyProof.Rows PySem.Spec PySem.Calls
namespace Mine
theorem allLt_ne {d : Addr} : ∀ {l : List (Addr × Obj)}, AllLt d l → ∀ q ∈ l, q.1 ≠ d
  | [], _, _, hq => nomatch hq
  | _ :: _, h, q, hq => by
    rcases List.mem_cons.mp hq with rfl | hq
    · exact Nat.ne_of_lt h.1
    · exact allLt_ne h.2 q hq
theorem allLt_le {d e : Addr} {l : List (Addr × Obj)} (h : AllLt d l) (k : @LE.le Nat _ d e) : ∀ q ∈ l, q.1 ≠ e := fun q hq => by
  have h1 : ∀ {l : List (Addr × Obj)}, AllLt d l → ∀ q ∈ l, q.1 < d := by
    intro l
    induction l with
    | nil => intro _ q hq; cases hq
    | cons p r ih =>
      intro h q hq
      rcases List.mem_cons.mp hq with rfl | hq
      · exact h.1
      · exact ih h.2 q hq
  exact Nat.ne_of_lt (Nat.lt_of_lt_of_le (h1 h q hq) k)
theorem News.sub' {h₀ h : Heap} {L : Addr} {l l' : List (Addr × Obj)} (N : News h₀ L h l) (s : ∀ q ∈ l', q ∈ l) : News h₀ L h l' := fun q hq => N q (s q hq)
theorem News.reorder3 {h₀ h : Heap} {L : Addr} {a b c : Addr × Obj} {r : List (Addr × Obj)} (N : News h₀ L h (a :: b :: c :: r)) : News h₀ L h (b :: c :: a :: r) := by
  refine News.sub' N fun q hq => ?_
  simp only [List.mem_cons] at hq ⊢
  rcases hq with h | h | h | h <;> simp only [h, true_or, or_true]
theorem led_lt {P : Lp} {S : LS} {rest : List (Addr × Obj)} {t : Addr} (h : @LT.lt Nat _ P.d t ∧ @LT.lt Nat _ S.i t ∧ AllLt t rest) : ∀ r ∈ Led P S rest, r.1 < t := by
  intro r hr
  rcases List.mem_cons.mp hr with rfl | hr
  · exact h.1
  · rcases List.mem_cons.mp hr with rfl | hr
    · exact h.2.1
    · have h1 : ∀ {l : List (Addr × Obj)}, AllLt t l → ∀ q ∈ l, q.1 < t := by
        intro l
        induction l with
        | nil => intro _ q hq; cases hq
        | cons p r ih =>
          intro h q hq
          rcases List.mem_cons.mp hq with rfl | hq
          · exact h.1
          · exact ih h.2 q hq
      exact h1 h.2.2 r hr
theorem allLt_mem {t : Addr} {rest : List (Addr × Obj)} (h : AllLt t rest) : ∀ q ∈ rest, q.1 < t := by
  induction rest with
  | nil => intro q hq; cases hq
  | cons p r ih =>
    intro q hq
    rcases List.mem_cons.mp hq with rfl | hq
    · exact h.1
    · exact ih h.2 q hq
theorem mark_depth (A : Around) (h : Option Value) : (A.mark h).depth = A.depth := rfl
end Mine

end
section
theorem Mine.walk_off_B5c : True := by
  w_top off
  trivial
open PySem PySem.W PyProof.Rows PySem.Spec PySem.Calls
set_option Elab.async false
set_option maxRecDepth 100000
set_option maxHeartbeats 8000000
namespace Mine
section
variable {prog : Program} {w : World} {A : Around} {E : Value → Shared → Prop} {s : Shared} {K : Frag} {x C t : Addr} {ox : Obj} {od : Option Obj} {name : Str} {id n : String} {b : Value} {Bi : Builtin}

/-- a special method that an object has of object -/
theorem own_slot {Q : Option Value → Shared → Prop} (X : K.In s.heap) (I : InstAt s.heap x ox C od) (S : Slot "object" name id) (hs : findIn K (.ref C) name = some (some (.builtin id))) (hk : builtinKind id = some .slot) (hsp : splitId id = some ("object", n))
    (ha : argsOk id ⟨[.ref x, b], []⟩) (hsub : subIn K (.ref C) (.type "object") = some true) (he : entryFor table id = some Bi)
    (h : wpAny (model prog w) A.in1 (Bi ⟨[.ref x, b], []⟩) (fun fin s' => ∃ v, fin = .done (.ret v) ∧ Q (some v) s') E s) :
    wpAny (model prog w) A (callSpecialIfBound? (.ref x) name [b]) Q E s := by
  simp only [callSpecialIfBound?, bindSpecialIfBound?]
  refine wpAny_holding (wpAny_bind (wpAny_bind (wpAny_bind (I.type.here ((looks_findIn X hs).here ?_)))))
  have call : wpAny (model prog w) A (call (.builtin id) ([.ref x] ++ [b]) >>= fun v => pure (some v)) Q E s := by
    refine wpAny_bind (wpAny_call (codeAny_call_builtin S.plain he ?_))
    simp only [checkBuiltinCall, hk, hsp]
    refine wpAny_bind ?_
    unfold isInstance
    refine wpAny_bind (I.type.here ((looks_subIn X hsub).here ?_))
    have fin : wpAny (model prog w) A.in1 (Bi ⟨[.ref x, b], []⟩) (fun fin s' => match fin with | .done f => (match (Except.ok f : Result) with | .ok (.ret v) => wpAny (model prog w) A (pure (some v)) Q E s' | .ok _ => False | .error e => E e s') | .again c' => c'.quiet = true ∧ codeAny (model prog w) A c' (fun r s' => match r with | .ok (.ret v) => wpAny (model prog w) A (pure (some v)) Q E s' | .ok _ => False | .error e => E e s') s') (fun e s' => E e s') s := by
      refine wpAny_mono h (fun fin s' h' => ?_) fun _ _ z => z
      obtain ⟨v, rfl, hv⟩ := h'
      exact wpAny_pure hv
    cases hsig : Manifest.signature? id with
    | none => exact wpAny_pure fin
    | some sig =>
      simp only [argsOk, hsig] at ha
      have h2 : Bind.checkArgs id sig ⟨[.ref x, b], []⟩ = pure () := ha
      show wpAny _ _ (Bind.checkArgs id sig ⟨[.ref x, b], []⟩) _ _ _
      rw [h2]
      exact wpAny_pure fin
  simp only [S.bind]
  refine wpAny_bind (wpAny_askSetting (wpAny_ite ?_))
  split
  · exact wpAny_bind (wpAny_pure (wpAny_pure call))
  · exact wpAny_tryCatch (wpAny_bind (wpAny_pure (wpAny_pure call)))

/-- an object without == of its own, and a tuple, are not equal -/
theorem inst_ne_tuple {Q : Value → Shared → Prop} {ot : Obj} (X : K.In s.heap) (I : InstAt s.heap x ox C od) (ht : s.heap.get? t = some ot) (hc : ot.cls = .type "tuple") (hxt : x ≠ t)
    (h1 : findIn K (.ref C) "__ne__" = some (some (.builtin "object.__ne__"))) (h2 : findIn K (.ref C) "__eq__" = some (some (.builtin "object.__eq__"))) (h3 : subIn K (.ref C) (.type "object") = some true)
    (h4 : subIn K (.type "tuple") (.ref C) = some false) (h5 : subIn K (.ref C) (.type "tuple") = some false) (hu : A.units + 4 < cLine) (hq : Q (.bool true) s) :
    wpAny (model prog w) A (compareOp .NotEq (.ref x) (.ref t)) Q E s := by
  have hnt : ox.cls ≠ .type "tuple" := by rw [I.cls]; intro e; cases e
  have hT : s.TypeIs (.ref t) "tuple" := ⟨_, ht, hc⟩
  have u0 : A.units < cLine := by omega
  have u1 : A.in1.units < cLine := by rw [units_in1]; omega
  have eq1 : ∀ {A' : Around} {Q' : Option Value → Shared → Prop}, Q' (some .notImplemented) s → wpAny (model prog w) A' (callSpecialIfBound? (.ref x) "__eq__" [.ref t]) Q' E s := fun hq' =>
    own_slot X I F.cmp_object.eq h2 F.cmpKind_eq F.cmpSplit_eq (F.cmpArgs_eq _ _) h3 F.cmpEntry_eq (objEq_entry_other hxt I.at_ ht hnt ⟨_, rfl, hq'⟩)
  have ne1 : ∀ {Q' : Option Value → Shared → Prop}, Q' none s → wpAny (model prog w) A (tryCompare (.ref x) "__ne__" (.ref t)) Q' E s := fun hq' => by
    simp only [tryCompare]
    refine wpAny_bind (own_slot X I F.cmp_object.ne h1 F.cmpKind_ne F.cmpSplit_ne (F.cmpArgs_ne _ _) h3 F.cmpEntry_ne ?_)
    unfold Builtin.«object.__ne__»
    repeat (first | with_reducible refine wpAny_cRoomFor u1 ?_ | with_reducible refine eq1 ?_ | wp_step)
    exact ⟨_, rfl, wpAny_pure hq'⟩
  have ne2 : ∀ {Q' : Option Value → Shared → Prop}, Q' none s → wpAny (model prog w) A (tryCompare (.ref t) "__ne__" (.ref x)) Q' E s := fun hq' => by
    simp only [tryCompare]
    refine wpAny_bind (wpAny_callSpecialIfBound?_slot hT F.slot_tuple_ne (wpAny_call_entry F.slot_tuple_ne hT F.entry_tuple_ne ?_ (F.args_tuple_ne_2 _ _)))
    unfold Builtin.«tuple.__ne__»
    refine wpAny_bind (m := isInstance (.ref x) (.type "tuple")) ?_
    unfold isInstance
    refine wpAny_bind (I.type.here ((looks_subIn X h5).here ?_))
    exact wpAny_pure ⟨_, rfl, wpAny_pure hq'⟩
  show wpAny (model prog w) A (richCompare .NotEq (.ref x) (.ref t)) Q E s
  simp only [richCompare, cmpInfo_NotEq, oneThing_ref]
  refine wpAny_holding (wpAny_bind (wpAny_cRoomFor u0 ?_))
  refine wpAny_bind (I.type.here (wpAny_bind (wpAny_typeOf hT ?_)))
  rw [if_pos (by simp)]
  refine wpAny_bind ((looks_subIn X h4).here ?_)
  simp only [Bool.false_eq_true, if_false]
  refine wpAny_bind (ne1 ?_)
  simp only [Bool.not_false, if_true]
  refine wpAny_bind (ne2 ?_)
  refine wpAny_bind (wpAny_rule ?_)
  exact wpAny_bind (wpAny_isSame_ref_other hxt I.at_ ht hnt (wpAny_pure hq))
end
end Mine

end
section
theorem Mine.walk_off_B5 : True := by
  w_top off
  trivial
open PySem PySem.W PyProof.Rows PySem.Spec PySem.Calls
set_option Elab.async false
set_option maxRecDepth 100000
set_option maxHeartbeats 8000000
namespace Mine
local macro_rules | `(tactic| walk_at "my fill") => `(tactic| (
  have hfill : (∀ P h, (hd.heap_39 P).In h → (hd.heap_39 P).In h) ∧ PySem.Challenge.rw_co0008_01.about = PySem.Challenge.rw_co0008_01.about := ⟨fun _ _ x => x, rfl⟩
  revert hfill; k_fill; intro hfill; clear hfill))
local macro_rules | `(tactic| walk_at "my room") => `(tactic| first | assumption | ((try simp only [depth_under_make, depth_under_kw, depth_in1, depth_deeper, depth_caller, AR_depth, mark_depth]); omega))
local macro_rules | `(tactic| walk_at "my units") => `(tactic| first | assumption | ((try simp only [units_in1, units_deeper, Around.mark_units, units_caller, AR_units]); omega))
local macro_rules | `(tactic| k_room) => `(tactic| walk_at "my room")
local macro_rules | `(tactic| k_units) => `(tactic| walk_at "my units")
local macro_rules | `(tactic| ke_room) => `(tactic| walk_at "my units")
local macro_rules | `(tactic| k_all) => `(tactic| first | assumption | exact allLt_le (by assumption) (by omega) | exact allLt_ne (by assumption) | exact allLt_ne (And.right (by assumption)) | exact allLt_ne (And.right (And.right (by assumption))) | exact allLt_ne (And.right (And.right (And.right (by assumption)))) | exact allLt_ne (And.right (And.right (And.right (And.right (by assumption))))))
local macro_rules | `(tactic| walk_at "my sub") => `(tactic| (refine News.sub' (by assumption) ?_; intro q hq; first | exact hq | exact .tail _ hq | exact .tail _ (.tail _ hq) | exact .tail _ (.tail _ (.tail _ hq)) | (simp only [List.mem_cons, List.mem_append] at hq ⊢; simp only [hq, or_true])))
local macro_rules | `(tactic| k_get) => `(tactic| first | with_reducible assumption | exact LoopOk.undef (by assumption) | exact LoopOk.recurse (by assumption) | exact LoopOk.iterable (by assumption) | exact LoopOk.iterator (by assumption) | exact getL_put _ | ((with_reducible refine (getL_put_ne ?hne).trans ?_); (case hne => decide); k_get))
local macro_rules | `(tactic| walk_at "my len") => `(tactic| ((repeat refine len_put_of ?_); omega))
local macro_rules | `(tactic| walk_at "my enter") => `(tactic| (
  refine' code_def ?k1 ?k2 ?k3 ?k4 ?k5 ?kA ?kF ?kK ?k6 ?k7 ?k8 ?k9 ?kB ?_ ?c2 ?c3 ?c4 ?c5; (case kA => first | exact rfl | assumption); (case kF => first | exact rfl | assumption); (case kK => first | exact rfl | assumption); (case k1 => k_asm); (case k2 => k_asm); (case k3 => k_asm); (case k4 => k_asm); (case k5 => k_asm); (case k6 => k_is); (case k7 => k_is); (case k8 => walk_at "my room"); (case k9 => first | exact BindsTo.of_eq rfl | exact binds_K (by k_in) rfl (by k_is) rfl rfl rfl | fail "enter: no rule for these arguments"); (case c5 => decide); (case kB => exact locs rfl); (case c2 => exact rfl); (case c3 => exact rfl); (case c4 => exact rfl); k_whole; intro g' L' h' FG' F' N' B' X' T'; (try dsimp only); (try k_fold)))
local macro_rules | `(tactic| walk_at "my prop") => `(tactic| (k_dflt (refine' get_prop ?k1 ?k2 ?k3 ?k4 ?k5 ?k6 ?k7 ?k8 ?k9 ?_; (case k1 => k_asm); (case k2 => k_asm); (case k3 => k_inst); (case k4 => k_is); (case k5 => k_is); (case k6 => k_is); (case k7 => k_is); (case k8 => k_is); (case k9 => k_is); k_whole); walk_at "my enter"))
local macro_rules | `(tactic| walk_at "setAttr ref") => `(tactic| (k_here; k_dflt (refine' set_dict ?k1 ?k2 ?k3 ?k4 ?k5 ?k6 ?k7 ?k8 ?k9 ?k10 ?k11 ?k12 ?k13 ?_; (case k1 => k_asm); (case k2 => k_asm); (case k3 => k_asm); (case k4 => k_inst); (case k5 => exact rfl); (case k6 => k_is); (case k7 => k_is); (case k8 => k_is); (case k9 => k_is); (case k10 => exact getL_isSome (by k_get)); (case k11 => exact rfl); (case k12 => k_upd); (case k13 => walk_at "my len"); k_whole; intro h' F' N'; (try k_sweep))))
local macro_rules | `(tactic| k_mem) => `(tactic| first | with_reducible assumption | exact List.Mem.head _ | (refine' List.mem_cons_of_mem _ ?_; k_mem) | (refine' List.mem_append_left _ ?_; k_mem) | (refine' List.mem_append_right _ ?_; k_mem))
local macro_rules | `(tactic| walk_at "compareOp IsNot ref ref") => `(tactic| (k_here; first | refine wpAny_isNot_ref_self ?_ | (k_dflt (refine' isNot_right ?n ?a ?b ?c ?_; (case n => kto_ne); (case a => kto_obj); (case b => kto_obj); (case c => kto_not); k_whole))))
local macro_rules | `(tactic| walk_at "compareOp Is ref ref") => `(tactic| (k_here; first | refine wpAny_is_ref_self ?_ | (k_dflt (refine' is_right ?n ?a ?b ?c ?_; (case n => kto_ne); (case a => kto_obj); (case b => kto_obj); (case c => kto_not); k_whole))))
local macro_rules | `(tactic| walk_at "my cx") => `(tactic| exact ⟨by k_asm, by k_asm, by k_asm, rfl, by first | rfl | assumption, by first | rfl | assumption⟩)
local macro_rules | `(tactic| walk_at "my cy") => `(tactic| exact ⟨by k_asm, by k_asm, by k_asm, by first | rfl | assumption, by first | rfl | assumption⟩)
local macro_rules | `(tactic| k_handed) => `(tactic| with_reducible assumption)
local macro_rules | `(tactic| walk_at "my rest") => `(tactic| (refine' kp_rest ?k1 ?k2 ?k3 ?k4 ?k5 ?kA ?kF ?kK ?k6 ?k7 ?k8 ?kV ?kP ?kG ?kB ?_ ?c2 ?c3 ?c4 ?c5; (case kA => exact rfl); (case kF => first | exact rfl | assumption); (case kK => first | exact rfl | assumption); (case k1 => k_asm); (case k2 => k_asm); (case k3 => k_asm); (case k4 => k_asm); (case k5 => k_asm); (case k6 => k_is); (case k7 => k_is); (case k8 => k_room); (case kV => kl_lit); (case kP => exact rfl); (case kG => exact fun _ => rfl); (case kB => exact fun _ => locs rfl); (case c5 => decide); (case c2 => exact rfl); (case c3 => exact rfl); (case c4 => exact rfl); k_whole; intro D' g' L' h' l1 FG' F' N' B' X' T'; (try k_lt l1); (try dsimp only); (try k_fold)))
local macro_rules | `(tactic| walk_at "compareOp NotEq ref ref") => `(tactic| (k_here; (with_reducible show wpAny _ _ (compareOp _ (Value.ref 92) (Value.ref _)) _ _ _); k_dflt (refine' inst_ne_tuple ?X ?I ?t ?c ?n ?h1 ?h2 ?h3 ?h4 ?h5 ?u ?_; (case X => k_in); (case I => refine' InstAt.of_K ?kx ?kl ?km; (case kx => k_in); (case kl => k_is); (case km => k_is)); (case t => exact kto_N (by k_asm) (by k_mem)); (case c => rfl); (case n => kto_ne); (case h1 => k_is); (case h2 => k_is); (case h3 => k_is); (case h4 => k_is); (case h5 => k_is); (case u => walk_at "my units"); k_whole)))
local macro_rules | `(tactic| walk_at "my enterS") => `(tactic| (
  refine' enterS ?k1 ?k2 ?k3 ?k4 ?k5 ?XB ?TB ?D ?T0 ?kA ?kF ?kK ?k6 ?k7 ?k8 ?k9 ?kB ?_ ?c2 ?c3 ?c4 ?c5; (case kA => exact rfl); (case kF => first | exact rfl | assumption); (case kK => first | exact rfl | assumption); (case k2 => k_asm); (case k1 => k_asm); (case k3 => k_asm); (case k4 => k_asm); (case k5 => k_asm); (case XB => assumption); (case TB => assumption); (case D => assumption); (case T0 => first | assumption | exact KtsTurn.refl); (case k6 => k_is); (case k7 => k_is); (case k8 => walk_at "my room"); (case k9 => first | exact BindsTo.of_eq rfl | exact binds_K (by k_in) rfl (by k_is) rfl rfl rfl | fail "enterS: no rule for these arguments"); (case c5 => decide); (case kB => exact locs rfl); (case c2 => exact rfl); (case c3 => exact rfl); (case c4 => exact rfl); k_whole; intro g' L' h' FG' F' N' B' X' T' D' lL'; (try dsimp only); (try k_fold)))
local macro_rules | `(tactic| walk_at "my propS") => `(tactic| (k_dflt (refine' get_prop ?k1 ?k2 ?k3 ?k4 ?k5 ?k6 ?k7 ?k8 ?k9 ?_; (case k1 => k_asm); (case k2 => k_asm); (case k3 => k_inst); (case k4 => k_is); (case k5 => k_is); (case k6 => k_is); (case k7 => k_is); (case k8 => k_is); (case k9 => k_is); k_whole); walk_at "my enterS"))
local macro_rules | `(tactic| walk_at "call builtin:iter") => `(tactic| (k_here; (with_reducible show wpAny _ _ (call (Value.builtin "iter") [Value.ref _]) _ _ _); k_dflt (first
  | (refine' iter_list ?F ?N ?m ?_; (case F => k_asm); (case N => k_asm); (case m => k_mem); k_whole; intro i' h' F' N' l1; (try k_lt l1); (try k_sweep))
  | (refine' iter_map ?N ?m ?_; (case N => k_asm); (case m => k_mem); k_whole))))
local macro_rules | `(tactic| walk_at "call builtin:len") => `(tactic| (k_here; (with_reducible show wpAny _ _ (call (Value.builtin "len") [Value.ref _]) _ _ _); k_dflt (refine' len_list ?l ?z ?_; (case l => exact News.isList (by k_asm) (by k_mem)); (case z => rw [List.size_toArray]; (try simp only [List.length_drop]); omega); (try rw [List.size_toArray]))))
local macro_rules | `(tactic| walk_at "my cz") => `(tactic| exact ⟨by k_asm, by k_asm, by k_asm, by first | rfl | assumption, by first | rfl | assumption, by assumption, by assumption, by assumption⟩)
local macro_rules | `(tactic| walk_at "my retcz") => `(tactic| exact ⟨by assumption, by assumption, by assumption, by assumption, by assumption, by assumption, by assumption, by assumption⟩)
local macro_rules | `(tactic| walk_at "my enterSC") => `(tactic| (refine' enterSC ?k1 ?k2 ?k3 ?k4 ?k5 ?XB ?TB ?D ?T0 ?kA ?kF ?kK ?k6 ?k7 ?k8 ?k9 ?kB ?kD ?_ ?c2 ?c3 ?c4; (case kA => exact rfl); (case kF => first | exact rfl | assumption); (case kK => first | exact rfl | assumption); (case k2 => k_asm); (case k1 => k_asm); (case k3 => k_asm); (case k4 => k_asm); (case k5 => k_asm); (case XB => assumption); (case TB => assumption); (case D => assumption); (case T0 => first | assumption | exact KtsTurn.refl); (case k6 => k_is); (case k7 => k_is); (case k8 => walk_at "my room"); (case k9 => assumption); (case kB => exact rfl); (case kD => decide +kernel); (case c2 => exact rfl); (case c3 => exact rfl); (case c4 => exact rfl); k_whole; intro g' L' h' tk' cells' FG' F' N' Y' B' X' T' D' lL'; k_cells Y'; (try simp only [List.cons_append, List.nil_append] at N'); (try dsimp only); (try k_fold)))
local macro_rules | `(tactic| walk_at "my next") => `(tactic| (k_dflt (first
  | (refine' next2_item (pre := [_]) ?C ?hd ?F ?N ?h1 ?h2 ?V ?I ?_; (case C => walk_at "my cx"); (case F => k_asm); (case N => k_asm); (case hd => walk_at "my room"); (case h1 => k_all); (case h2 => k_all); (case V => assumption); (case I => assumption); k_whole; intro h' tk' o' F' N' I'; (try k_sweep))
  | (refine' next2_end (pre := [_]) ?hh ?F ?N ?h1 ?h2 ?V ?I ?_; (case hh => exact rfl); (case F => k_asm); (case N => k_asm); (case h1 => k_all); (case h2 => k_all); (case V => assumption); (case I => assumption); k_whole; intro h' o' F' N' I'; (try k_sweep)))))
section
variable {prog : Program} {w : World} {dp un : Nat} {gd : Option (List Code)} {A₀ : Around} {env : Env} {outer : List Env} {base h₀ : Heap} {p : Program} {loose : List Str} {mean : ExcName → Option Value} {mg mb : Str → Option Value} {L : Addr} {m : Str → Option Value} {more rest : List (Addr × Obj)} {s : Shared} {E Q : Value → Shared → Prop} {ex : Bool} {P : Lp} {S : LS}

theorem lc_index (C : Cy w A₀ env outer base h₀ p loose mean mg mb L) (F : Fr h₀ L s.heap m) (N : News h₀ L s.heap (Led P S rest)) (H : LoopOk P S rest) (hdp : dp + 1 < recursionLimit) (hk0 : S.k ≠ 0)
   (ret : ∀ h' tk' t, Fr h₀ L h' m → News h₀ L h' (Led P S rest) → Q (.int S.k t) { s with heap := h', toks := tk' }) :
   wpAny (model prog w) (AR dp un gd env outer) (getAttr (.ref P.x) (Str.ofString "index") ex) Q E s := by
  obtain ⟨B, X, T, hf, hk⟩ := C
  have hx := H.inst
  have hkle := H.kle
  have hsm := H.small
  rcases H.index0 with ⟨h, _⟩ | ⟨_, t0, hi⟩
  · exact absurd h hk0
  walk_at "my fill"
  walk_at "my prop"
  k_steps
  rw [show ((S.k : Int) - 1 + 1) = S.k by omega]
  exact ret _ _ _ (by assumption) (by assumption)

theorem lc_peek (C : Cy w A₀ env outer base h₀ p loose mean mg mb L) (F : Fr h₀ L s.heap m) (N : News h₀ L s.heap (Led P S rest)) (H : LoopOk P S rest) (hdp : dp + 8 < recursionLimit) {ov : Option Value} (hov : P.vs[S.k]? = ov)
   (ret : ∀ h' tk' S', Fr h₀ L h' m → News h₀ L h' (Led P S' rest) → LoopOk P S' rest → S' = { S with es := S'.es, n := S'.n, o := S'.o, pk := S'.pk } → Q (ov.getD (.ref 92)) { s with heap := h', toks := tk' }) :
   wpAny (model prog w) (AR dp un gd env outer) (call (.ref 186) [.ref P.x]) Q E s := by
  obtain ⟨B, X, T, hf, hk⟩ := C
  have hx := H.inst
  have hod := H.off_d
  have hoi := H.off_i
  have hid := H.i_d
  have hid2 := Ne.symm H.i_d
  have hlen := H.len1000
  have hit := H.iterator
  have hV := H.itV
  have hI := H.it1
  have hhI := H.handed
  subst hov
  walk_at "my fill"
  rcases H.after with ⟨hp, ha⟩ | ⟨hp, ha⟩ | ⟨hp, v, hv, ha⟩
  · rw [hp] at hI
    cases hd : P.vs.drop (S.k + false.toNat) with
    | nil =>
      rw [hd] at hI
      rw [drop_nil (j := S.k) hd, Option.getD_none] at ret
      refine wpAny_call ?_
      walk_at "my enter"
      k_steps
      walk_at "my next"
      k_steps
      exact ret _ _ { S with es := _, n := _, o := _, pk := false } (by assumption) (by assumption) (H.setAfter (.inl ⟨rfl, rfl⟩) (by rw [hd]; assumption)) rfl
    | cons v r =>
      rw [hd] at hI
      obtain ⟨hv, hr⟩ := drop_cons (j := S.k) hd
      rw [hv, Option.getD_some] at ret
      obtain ⟨_, _, a, t1, kl, ask, t2, sz, rfl, hm⟩ := H.labs.get hv
      refine wpAny_call ?_
      walk_at "my enter"
      k_steps
      walk_at "my next"
      k_steps
      exact ret _ _ { S with es := _, n := _, o := _, pk := true } (by assumption) (by assumption) (H.setAfter (.inr ⟨rfl, hv⟩) (by rw [show true.toNat = 1 from rfl, hr]; assumption)) rfl
  · rw [hp] at hI
    cases hd : P.vs.drop (S.k + false.toNat) with
    | nil =>
      rw [hd] at hI
      rw [drop_nil (j := S.k) hd, Option.getD_none] at ret
      refine wpAny_call ?_
      walk_at "my enter"
      k_steps
      walk_at "my next"
      k_steps
      exact ret _ _ { S with es := _, n := _, o := _, pk := false } (by assumption) (by assumption) (H.setAfter (.inl ⟨rfl, rfl⟩) (by rw [hd]; assumption)) rfl
    | cons v r =>
      rw [hd] at hI
      obtain ⟨hv, hr⟩ := drop_cons (j := S.k) hd
      rw [hv, Option.getD_some] at ret
      obtain ⟨_, _, a, t1, kl, ask, t2, sz, rfl, hm⟩ := H.labs.get hv
      refine wpAny_call ?_
      walk_at "my enter"
      k_steps
      walk_at "my next"
      k_steps
      exact ret _ _ { S with es := _, n := _, o := _, pk := true } (by assumption) (by assumption) (H.setAfter (.inr ⟨rfl, hv⟩) (by rw [show true.toNat = 1 from rfl, hr]; assumption)) rfl
  · rw [hv, Option.getD_some] at ret
    obtain ⟨_, _, a, t1, kl, ask, t2, sz, rfl, hm⟩ := H.labs.get hv
    refine wpAny_call ?_
    walk_at "my enter"
    k_steps
    exact ret _ _ S (by assumption) (by assumption) H rfl
end
end Mine

end
section
theorem Mine.walk_off_B6 : True := by
  w_top off
  trivial
open PySem PySem.W PyProof.Rows PySem.Spec PySem.Calls
set_option Elab.async false
set_option maxRecDepth 100000
set_option maxHeartbeats 8000000
namespace Mine
local macro_rules | `(tactic| walk_at "none 0") => `(tactic| skip)
local macro_rules | `(tactic| walk_at "my fill") => `(tactic| (
  have hfill : (∀ P h, (hd.heap_39 P).In h → (hd.heap_39 P).In h) ∧ PySem.Challenge.rw_co0008_01.about = PySem.Challenge.rw_co0008_01.about := ⟨fun _ _ x => x, rfl⟩
  revert hfill; k_fill; intro hfill; clear hfill))
local macro_rules | `(tactic| walk_at "my room") => `(tactic| first | assumption | ((try simp only [depth_under_make, depth_under_kw, depth_in1, depth_deeper, depth_caller, AR_depth, mark_depth]); omega))
local macro_rules | `(tactic| walk_at "my units") => `(tactic| first | assumption | ((try simp only [units_in1, units_deeper, Around.mark_units, units_caller, AR_units]); omega))
local macro_rules | `(tactic| k_room) => `(tactic| walk_at "my room")
local macro_rules | `(tactic| k_units) => `(tactic| walk_at "my units")
local macro_rules | `(tactic| ke_room) => `(tactic| walk_at "my units")
local macro_rules | `(tactic| k_all) => `(tactic| first | assumption | exact allLt_le (by assumption) (by omega) | exact allLt_ne (by assumption) | exact allLt_ne (And.right (by assumption)) | exact allLt_ne (And.right (And.right (by assumption))) | exact allLt_ne (And.right (And.right (And.right (by assumption)))) | exact allLt_ne (And.right (And.right (And.right (And.right (by assumption))))))
local macro_rules | `(tactic| walk_at "my sub") => `(tactic| (refine News.sub' (by assumption) ?_; intro q hq; first | exact hq | exact .tail _ hq | exact .tail _ (.tail _ hq) | exact .tail _ (.tail _ (.tail _ hq)) | (simp only [List.mem_cons, List.mem_append] at hq ⊢; simp only [hq, or_true])))
local macro_rules | `(tactic| k_get) => `(tactic| first | with_reducible assumption | exact LoopOk.undef (by assumption) | exact LoopOk.recurse (by assumption) | exact LoopOk.iterable (by assumption) | exact LoopOk.iterator (by assumption) | exact getL_put _ | ((with_reducible refine (getL_put_ne ?hne).trans ?_); (case hne => decide); k_get))
local macro_rules | `(tactic| walk_at "my len") => `(tactic| ((repeat refine len_put_of ?_); omega))
local macro_rules | `(tactic| walk_at "my enter") => `(tactic| (
  refine' code_def ?k1 ?k2 ?k3 ?k4 ?k5 ?kA ?kF ?kK ?k6 ?k7 ?k8 ?k9 ?kB ?_ ?c2 ?c3 ?c4 ?c5; (case kA => first | exact rfl | assumption); (case kF => first | exact rfl | assumption); (case kK => first | exact rfl | assumption); (case k1 => k_asm); (case k2 => k_asm); (case k3 => k_asm); (case k4 => k_asm); (case k5 => k_asm); (case k6 => k_is); (case k7 => k_is); (case k8 => walk_at "my room"); (case k9 => first | exact BindsTo.of_eq rfl | exact binds_K (by k_in) rfl (by k_is) rfl rfl rfl | fail "enter: no rule for these arguments"); (case c5 => decide); (case kB => exact locs rfl); (case c2 => exact rfl); (case c3 => exact rfl); (case c4 => exact rfl); k_whole; intro g' L' h' FG' F' N' B' X' T'; (try dsimp only); (try k_fold)))
local macro_rules | `(tactic| walk_at "my prop") => `(tactic| (k_dflt (refine' get_prop ?k1 ?k2 ?k3 ?k4 ?k5 ?k6 ?k7 ?k8 ?k9 ?_; (case k1 => k_asm); (case k2 => k_asm); (case k3 => k_inst); (case k4 => k_is); (case k5 => k_is); (case k6 => k_is); (case k7 => k_is); (case k8 => k_is); (case k9 => k_is); k_whole); walk_at "my enter"))
local macro_rules | `(tactic| walk_at "setAttr ref") => `(tactic| (k_here; k_dflt (refine' set_dict ?k1 ?k2 ?k3 ?k4 ?k5 ?k6 ?k7 ?k8 ?k9 ?k10 ?k11 ?k12 ?k13 ?_; (case k1 => k_asm); (case k2 => k_asm); (case k3 => k_asm); (case k4 => k_inst); (case k5 => exact rfl); (case k6 => k_is); (case k7 => k_is); (case k8 => k_is); (case k9 => k_is); (case k10 => exact getL_isSome (by k_get)); (case k11 => exact rfl); (case k12 => k_upd); (case k13 => walk_at "my len"); k_whole; intro h' F' N'; (try k_sweep))))
local macro_rules | `(tactic| k_mem) => `(tactic| first | with_reducible assumption | exact List.Mem.head _ | (refine' List.mem_cons_of_mem _ ?_; k_mem) | (refine' List.mem_append_left _ ?_; k_mem) | (refine' List.mem_append_right _ ?_; k_mem))
local macro_rules | `(tactic| walk_at "compareOp IsNot ref ref") => `(tactic| (k_here; first | refine wpAny_isNot_ref_self ?_ | (k_dflt (refine' isNot_right ?n ?a ?b ?c ?_; (case n => kto_ne); (case a => kto_obj); (case b => kto_obj); (case c => kto_not); k_whole))))
local macro_rules | `(tactic| walk_at "compareOp Is ref ref") => `(tactic| (k_here; first | refine wpAny_is_ref_self ?_ | (k_dflt (refine' is_right ?n ?a ?b ?c ?_; (case n => kto_ne); (case a => kto_obj); (case b => kto_obj); (case c => kto_not); k_whole))))
local macro_rules | `(tactic| walk_at "my cx") => `(tactic| exact ⟨by k_asm, by k_asm, by k_asm, rfl, by first | rfl | assumption, by first | rfl | assumption⟩)
local macro_rules | `(tactic| walk_at "my cy") => `(tactic| exact ⟨by k_asm, by k_asm, by k_asm, by first | rfl | assumption, by first | rfl | assumption⟩)
local macro_rules | `(tactic| k_handed) => `(tactic| with_reducible assumption)
local macro_rules | `(tactic| walk_at "my rest") => `(tactic| (refine' kp_rest ?k1 ?k2 ?k3 ?k4 ?k5 ?kA ?kF ?kK ?k6 ?k7 ?k8 ?kV ?kP ?kG ?kB ?_ ?c2 ?c3 ?c4 ?c5; (case kA => exact rfl); (case kF => first | exact rfl | assumption); (case kK => first | exact rfl | assumption); (case k1 => k_asm); (case k2 => k_asm); (case k3 => k_asm); (case k4 => k_asm); (case k5 => k_asm); (case k6 => k_is); (case k7 => k_is); (case k8 => k_room); (case kV => kl_lit); (case kP => exact rfl); (case kG => exact fun _ => rfl); (case kB => exact fun _ => locs rfl); (case c5 => decide); (case c2 => exact rfl); (case c3 => exact rfl); (case c4 => exact rfl); k_whole; intro D' g' L' h' l1 FG' F' N' B' X' T'; (try k_lt l1); (try dsimp only); (try k_fold)))
local macro_rules | `(tactic| walk_at "compareOp NotEq ref ref") => `(tactic| (k_here; (with_reducible show wpAny _ _ (compareOp _ (Value.ref 92) (Value.ref _)) _ _ _); k_dflt (refine' inst_ne_tuple ?X ?I ?t ?c ?n ?h1 ?h2 ?h3 ?h4 ?h5 ?u ?_; (case X => k_in); (case I => refine' InstAt.of_K ?kx ?kl ?km; (case kx => k_in); (case kl => k_is); (case km => k_is)); (case t => exact kto_N (by k_asm) (by k_mem)); (case c => rfl); (case n => kto_ne); (case h1 => k_is); (case h2 => k_is); (case h3 => k_is); (case h4 => k_is); (case h5 => k_is); (case u => walk_at "my units"); k_whole)))
local macro_rules | `(tactic| walk_at "my enterS") => `(tactic| (
  refine' enterS ?k1 ?k2 ?k3 ?k4 ?k5 ?XB ?TB ?D ?T0 ?kA ?kF ?kK ?k6 ?k7 ?k8 ?k9 ?kB ?_ ?c2 ?c3 ?c4 ?c5; (case kA => exact rfl); (case kF => first | exact rfl | assumption); (case kK => first | exact rfl | assumption); (case k2 => k_asm); (case k1 => k_asm); (case k3 => k_asm); (case k4 => k_asm); (case k5 => k_asm); (case XB => assumption); (case TB => assumption); (case D => assumption); (case T0 => first | assumption | exact KtsTurn.refl); (case k6 => k_is); (case k7 => k_is); (case k8 => walk_at "my room"); (case k9 => first | exact BindsTo.of_eq rfl | exact binds_K (by k_in) rfl (by k_is) rfl rfl rfl | fail "enterS: no rule for these arguments"); (case c5 => decide); (case kB => exact locs rfl); (case c2 => exact rfl); (case c3 => exact rfl); (case c4 => exact rfl); k_whole; intro g' L' h' FG' F' N' B' X' T' D' lL'; (try dsimp only); (try k_fold)))
local macro_rules | `(tactic| walk_at "my propS") => `(tactic| (k_dflt (refine' get_prop ?k1 ?k2 ?k3 ?k4 ?k5 ?k6 ?k7 ?k8 ?k9 ?_; (case k1 => k_asm); (case k2 => k_asm); (case k3 => k_inst); (case k4 => k_is); (case k5 => k_is); (case k6 => k_is); (case k7 => k_is); (case k8 => k_is); (case k9 => k_is); k_whole); walk_at "my enterS"))
local macro_rules | `(tactic| walk_at "call builtin:iter") => `(tactic| (k_here; (with_reducible show wpAny _ _ (call (Value.builtin "iter") [Value.ref _]) _ _ _); k_dflt (first
  | (refine' iter_list ?F ?N ?m ?_; (case F => k_asm); (case N => k_asm); (case m => k_mem); k_whole; intro i' h' F' N' l1; (try k_lt l1); (try k_sweep))
  | (refine' iter_map ?N ?m ?_; (case N => k_asm); (case m => k_mem); k_whole))))
local macro_rules | `(tactic| walk_at "call builtin:len") => `(tactic| (k_here; (with_reducible show wpAny _ _ (call (Value.builtin "len") [Value.ref _]) _ _ _); k_dflt (refine' len_list ?l ?z ?_; (case l => exact News.isList (by k_asm) (by k_mem)); (case z => rw [List.size_toArray]; (try simp only [List.length_drop]); omega); (try rw [List.size_toArray]))))
local macro_rules | `(tactic| walk_at "my cz") => `(tactic| exact ⟨by k_asm, by k_asm, by k_asm, by first | rfl | assumption, by first | rfl | assumption, by assumption, by assumption, by assumption⟩)
local macro_rules | `(tactic| walk_at "my retcz") => `(tactic| exact ⟨by assumption, by assumption, by assumption, by assumption, by assumption, by assumption, by assumption, by assumption⟩)
local macro_rules | `(tactic| walk_at "my enterSC") => `(tactic| (refine' enterSC ?k1 ?k2 ?k3 ?k4 ?k5 ?XB ?TB ?D ?T0 ?kA ?kF ?kK ?k6 ?k7 ?k8 ?k9 ?kB ?kD ?_ ?c2 ?c3 ?c4; (case kA => exact rfl); (case kF => first | exact rfl | assumption); (case kK => first | exact rfl | assumption); (case k2 => k_asm); (case k1 => k_asm); (case k3 => k_asm); (case k4 => k_asm); (case k5 => k_asm); (case XB => assumption); (case TB => assumption); (case D => assumption); (case T0 => first | assumption | exact KtsTurn.refl); (case k6 => k_is); (case k7 => k_is); (case k8 => walk_at "my room"); (case k9 => assumption); (case kB => exact rfl); (case kD => decide +kernel); (case c2 => exact rfl); (case c3 => exact rfl); (case c4 => exact rfl); k_whole; intro g' L' h' tk' cells' FG' F' N' Y' B' X' T' D' lL'; k_cells Y'; (try simp only [List.cons_append, List.nil_append] at N'); (try dsimp only); (try k_fold)))
local macro_rules | `(tactic| walk_at "call ref") => `(tactic| (k_here; (with_reducible show wpAny _ _ (call (Value.ref 186) _) _ _ _); k_dflt (refine' lc_peek ?C ?F ?N ?H ?hd ?ov ?_; (case F => k_asm); (case N => k_asm); (case H => assumption); (case C => walk_at "my cy"); (case hd => walk_at "my room"); (case ov => assumption); k_whole; intro h' tk' S' F' N' H' e'; (try simp only [Option.getD_none, Option.getD_some]); (try k_sweep))))
section
variable {prog : Program} {w : World} {dp un : Nat} {gd : Option (List Code)} {A₀ : Around} {env : Env} {outer : List Env} {base h₀ : Heap} {p : Program} {loose : List Str} {mean : ExcName → Option Value} {mg mb : Str → Option Value} {L : Addr} {m : Str → Option Value} {rest : List (Addr × Obj)} {s : Shared} {E Q : Value → Shared → Prop} {ex : Bool} {P : Lp} {S : LS}
variable {news : List (Addr × Obj)}
theorem ct_undef {x : Str} {t : Tok} (C : Cy w A₀ env outer base h₀ p loose mean mg mb L) (F : Fr h₀ L s.heap m) (N : News h₀ L s.heap news) (hdp : dp + 3 < recursionLimit) (hun : un + 30 < cLine)
   (ret : ∀ h' tk' u d' sl, Fr h₀ L h' m → News h₀ L h' ((u, (⟨.ref 364, some d', .plain, sl⟩ : Obj)) :: (d', dictOf [] 0) :: news) → (∀ q ∈ news, q.1 < d') → d' < u → Q (.ref u) { s with heap := h', toks := tk' }) :
   wpAny (model prog w) (AR dp un gd env outer) (call (.ref 364) [.str x t]) Q E s := by
  obtain ⟨B, X, T, hf, hk⟩ := C
  walk_at "my fill"
  k_dflt (refine' call_cls ?k1 ?k2 ?k3 ?k4 ?k5 ?k6 ?_)
  (case k1 => k_asm); (case k2 => k_asm); (case k3 => k_asm); (case k4 => k_is); (case k5 => k_is); (case k6 => k_is); k_whole
  intro x' d' h' F' N' l1 l2
  have l1' := l1
  replace l1 := allLt_of l1
  k_lt2 l2
  walk_at "my enter"
  k_steps
  exact ret _ _ _ _ _ (by assumption) (by assumption) l1' l2
end
local macro_rules | `(tactic| walk_at "call ref") => `(tactic| (k_here; (with_reducible show wpAny _ _ (call (Value.ref 364) _) _ _ _); k_dflt (refine' ct_undef ?C ?F ?N ?hd ?hu ?_; (case F => k_asm); (case N => k_asm); (case C => walk_at "my cy"); (case hd => walk_at "my room"); (case hu => walk_at "my units"); k_whole; intro h' tk' u' d' sl' F' N' l1 l2; (try k_sweep))))
section
variable {prog : Program} {w : World} {dp un : Nat} {gd : Option (List Code)} {A₀ : Around} {env : Env} {outer : List Env} {base h₀ : Heap} {p : Program} {loose : List Str} {mean : ExcName → Option Value} {mg mb : Str → Option Value} {L : Addr} {m : Str → Option Value} {rest : List (Addr × Obj)} {s : Shared} {E Q : Value → Shared → Prop} {ex : Bool} {P : Lp} {S : LS}

theorem lc_last (C : Cy w A₀ env outer base h₀ p loose mean mg mb L) (F : Fr h₀ L s.heap m) (N : News h₀ L s.heap (Led P S rest)) (H : LoopOk P S rest) (hdp : dp + 10 < recursionLimit) (hun : un + 60 < cLine)
   (ret : ∀ h' tk' S', Fr h₀ L h' m → News h₀ L h' (Led P S' rest) → LoopOk P S' rest → S' = { S with es := S'.es, n := S'.n, o := S'.o, pk := S'.pk } → Q (.bool (decide (S.k = P.vs.length))) { s with heap := h', toks := tk' }) :
   wpAny (model prog w) (AR dp un gd env outer) (getAttr (.ref P.x) (Str.ofString "last") ex) Q E s := by
  obtain ⟨B, X, T, hf, hk⟩ := C
  have hx := H.inst
  have hod := H.off_d
  have hoi := H.off_i
  have hid := H.i_d
  have hid2 := Ne.symm H.i_d
  have hlen := H.len1000
  have hit := H.iterator
  have hhI := H.handed
  have hund := H.undef
  have hrec := H.recurse
  have hkle := H.kle
  have hsmall := H.small
  walk_at "my fill"
  have hmeth := H.none_ "_peek_next" (by decide)
  cases hv : P.vs[S.k]? with
  | none =>
    rw [decide_eq_true (by have := List.getElem?_eq_none_iff.mp hv; omega)] at ret
    walk_at "my prop"
    k_steps
    exact ret _ _ _ (by assumption) (by assumption) (by assumption) (by assumption)
  | some v =>
    obtain ⟨_, _, a, t1, kl, ask, t2, sz, rfl, hm⟩ := H.labs.get hv
    rw [decide_eq_false (by have := (List.getElem?_eq_some_iff.mp hv).1; omega)] at ret
    walk_at "my prop"
    k_steps
    exact ret _ _ _ (by assumption) (by assumption) (by assumption) (by assumption)

theorem lc_first (C : Cy w A₀ env outer base h₀ p loose mean mg mb L) (F : Fr h₀ L s.heap m) (N : News h₀ L s.heap (Led P S rest)) (H : LoopOk P S rest) (hdp : dp + 10 < recursionLimit) (hun : un + 60 < cLine) (hk0 : S.k ≠ 0)
   (ret : ∀ h' tk', Fr h₀ L h' m → News h₀ L h' (Led P S rest) → Q (.bool (decide (S.k = 1))) { s with heap := h', toks := tk' }) :
   wpAny (model prog w) (AR dp un gd env outer) (getAttr (.ref P.x) (Str.ofString "first") ex) Q E s := by
  obtain ⟨B, X, T, hf, hk⟩ := C
  have hx := H.inst
  have hod := H.off_d
  have hoi := H.off_i
  have hid := H.i_d
  have hid2 := Ne.symm H.i_d
  have hlen := H.len1000
  have hit := H.iterator
  have hhI := H.handed
  have hund := H.undef
  have hrec := H.recurse
  have hkle := H.kle
  have hsmall := H.small
  walk_at "my fill"
  rcases H.index0 with ⟨h, _⟩ | ⟨_, t0, hi⟩
  · exact absurd h hk0
  walk_at "my prop"
  k_steps
  rw [show ((S.k : Int) - 1 == 0) = decide (S.k = 1) from by rw [Bool.eq_iff_iff]; simp; omega]
  exact ret _ _ (by assumption) (by assumption)

theorem lc_depth (C : Cy w A₀ env outer base h₀ p loose mean mg mb L) (F : Fr h₀ L s.heap m) (N : News h₀ L s.heap (Led P S rest)) (H : LoopOk P S rest) (hdp : dp + 10 < recursionLimit) (hd0 : 0 ≤ P.dep) (hd1 : P.dep < 1000)
   (ret : ∀ h' tk' t, Fr h₀ L h' m → News h₀ L h' (Led P S rest) → Q (.int (P.dep + 1) t) { s with heap := h', toks := tk' }) :
   wpAny (model prog w) (AR dp un gd env outer) (getAttr (.ref P.x) (Str.ofString "depth") ex) Q E s := by
  obtain ⟨B, X, T, hf, hk⟩ := C
  have hx := H.inst
  have hod := H.off_d
  have hoi := H.off_i
  have hid := H.i_d
  have hid2 := Ne.symm H.i_d
  have hlen := H.len1000
  have hit := H.iterator
  have hhI := H.handed
  have hund := H.undef
  have hrec := H.recurse
  have hkle := H.kle
  have hsmall := H.small
  walk_at "my fill"
  obtain ⟨t0, hi⟩ := H.depth0
  walk_at "my prop"
  k_steps
  exact ret _ _ _ (by assumption) (by assumption)

theorem lc_cycle (C : Cy w A₀ env outer base h₀ p loose mean mg mb L) (F : Fr h₀ L s.heap m) (N : News h₀ L s.heap (Led P S rest)) (H : LoopOk P S rest) (hdp : dp + 10 < recursionLimit) (hun : un + 60 < cLine) (hk0 : S.k ≠ 0) {t1 t2 t3 : Tok}
   (ret : ∀ h' tk' t, Fr h₀ L h' m → News h₀ L h' (Led P S rest) → Q (.str (if (S.k - 1) % 3 = 0 then "a" else if (S.k - 1) % 3 = 1 then "b" else "c") t) { s with heap := h', toks := tk' }) :
   wpAny (model prog w) (AR dp un gd env outer) (call (.ref 217) [.ref P.x, .str "a" t1, .str "b" t2, .str "c" t3]) Q E s := by
  obtain ⟨B, X, T, hf, hk⟩ := C
  have hx := H.inst
  have hod := H.off_d
  have hoi := H.off_i
  have hid := H.i_d
  have hid2 := Ne.symm H.i_d
  have hlen := H.len1000
  have hit := H.iterator
  have hhI := H.handed
  have hund := H.undef
  have hrec := H.recurse
  have hkle := H.kle
  have hsmall := H.small
  walk_at "my fill"
  rcases H.index0 with ⟨h, _⟩ | ⟨_, t0, hi⟩
  · exact absurd h hk0
  have hf3 : ((S.k : Int) - 1).fmod 3 = (((S.k - 1) % 3 : Nat) : Int) := by
    rw [Int.fmod_eq_emod_of_nonneg _ (by decide)]; omega
  refine wpAny_call ?_
  walk_at "my rest"
  k_steps
  have h3 : (S.k - 1) % 3 = 0 ∨ (S.k - 1) % 3 = 1 ∨ (S.k - 1) % 3 = 2 := by omega
  rcases h3 with e | e | e
  all_goals
    simp only [e] at ret hf3
    rw [hf3]
    k_steps
    exact ret _ _ _ (by assumption) (by walk_at "my sub")

/-- the item before: at the first there is none -/
theorem lc_prev (C : Cy w A₀ env outer base h₀ p loose mean mg mb L) (F : Fr h₀ L s.heap m) (N : News h₀ L s.heap (Led P S rest)) (H : LoopOk P S rest) (hdp : dp + 10 < recursionLimit) (hun : un + 60 < cLine) (hk0 : S.k ≠ 0)
   (ret : ∀ h' tk' v tl, Fr h₀ L h' m → News h₀ L h' (tl ++ Led P S rest) → ((S.k = 1 ∧ ∃ u d' sl, v = .ref u ∧ tl = [(u, (⟨.ref 364, some d', .plain, sl⟩ : Obj)), (d', dictOf [] 0)]) ∨ (2 ≤ S.k ∧ P.vs[S.k - 2]? = some v)) → Q v { s with heap := h', toks := tk' }) :
   wpAny (model prog w) (AR dp un gd env outer) (getAttr (.ref P.x) (Str.ofString "previtem") ex) Q E s := by
  obtain ⟨B, X, T, hf, hk⟩ := C
  have hx := H.inst
  have hod := H.off_d
  have hoi := H.off_i
  have hid := H.i_d
  have hid2 := Ne.symm H.i_d
  have hlen := H.len1000
  have hit := H.iterator
  have hhI := H.handed
  have hund := H.undef
  have hrec := H.recurse
  have hkle := H.kle
  have hsmall := H.small
  walk_at "my fill"
  rcases H.index0 with ⟨h, _⟩ | ⟨_, t0, hi⟩
  · exact absurd h hk0
  rcases H.before with ⟨h2, hb⟩ | ⟨h2, v, hv, hb⟩
  · have hk1 : S.k = 1 := by omega
    rw [hk1] at hi
    simp only [Int.natCast_one, Int.sub_self] at hi
    walk_at "my prop"
    k_steps
    exact ret _ _ _ [_, _] (by assumption) (by assumption) (.inl ⟨hk1, _, _, _, rfl, rfl⟩)
  · obtain ⟨_, _, a, t1, kl, ask, t2, sz, rfl, hm⟩ := H.labs.get hv
    have hkk : (((S.k : Int) - 1) == 0) = false := by simp; omega
    walk_at "my prop"
    k_steps
    exact ret _ _ _ [] (by assumption) (by assumption) (.inr ⟨h2, hv⟩)

/-- the item behind: at the last there is none -/
theorem lc_next (C : Cy w A₀ env outer base h₀ p loose mean mg mb L) (F : Fr h₀ L s.heap m) (N : News h₀ L s.heap (Led P S rest)) (H : LoopOk P S rest) (hdp : dp + 10 < recursionLimit) (hun : un + 60 < cLine)
   (ret : ∀ h' tk' S' v tl, Fr h₀ L h' m → News h₀ L h' (tl ++ Led P S' rest) → LoopOk P S' rest → S' = { S with es := S'.es, n := S'.n, o := S'.o, pk := S'.pk } →
      ((S.k = P.vs.length ∧ ∃ u d' sl, v = .ref u ∧ tl = [(u, (⟨.ref 364, some d', .plain, sl⟩ : Obj)), (d', dictOf [] 0)]) ∨ (P.vs[S.k]? = some v ∧ tl = [])) → Q v { s with heap := h', toks := tk' }) :
   wpAny (model prog w) (AR dp un gd env outer) (getAttr (.ref P.x) (Str.ofString "nextitem") ex) Q E s := by
  obtain ⟨B, X, T, hf, hk⟩ := C
  have hx := H.inst
  have hod := H.off_d
  have hoi := H.off_i
  have hid := H.i_d
  have hid2 := Ne.symm H.i_d
  have hlen := H.len1000
  have hit := H.iterator
  have hhI := H.handed
  have hund := H.undef
  have hrec := H.recurse
  have hkle := H.kle
  have hsmall := H.small
  walk_at "my fill"
  have hmeth := H.none_ "_peek_next" (by decide)
  cases hv : P.vs[S.k]? with
  | none =>
    have hkn : S.k = P.vs.length := by have := List.getElem?_eq_none_iff.mp hv; omega
    walk_at "my prop"
    k_steps
    exact ret _ _ _ _ [_, _] (by assumption) (by assumption) (by assumption) (by assumption) (.inl ⟨hkn, _, _, _, rfl, rfl⟩)
  | some v =>
    obtain ⟨_, _, a, t1, kl, ask, t2, sz, rfl, hm⟩ := H.labs.get hv
    walk_at "my prop"
    k_steps
    exact ret _ _ _ _ [] (by assumption) (by assumption) (by assumption) (by assumption) (.inr ⟨hv, rfl⟩)

/-- whether the label is another one than when it was last asked -/
theorem lc_changed (C : Cy w A₀ env outer base h₀ p loose mean mg mb L) (F : Fr h₀ L s.heap m) (N : News h₀ L s.heap (Led P S rest)) (H : LoopOk P S rest) (hdp : dp + 10 < recursionLimit) (hun : un + 160 < cLine) {lab : Int} {t1 : Tok}
   (ret : ∀ h' tk' S' rest', Fr h₀ L h' m → News h₀ L h' (Led P S' rest') → LoopOk P S' rest' → Ext S S' rest rest' → S'.k = S.k → S'.lcv = some lab → Q (.bool (decide (S.lcv ≠ some lab))) { s with heap := h', toks := tk' }) :
   wpAny (model prog w) (AR dp un gd env outer) (call (.ref 224) [.ref P.x, .int lab t1]) Q E s := by
  obtain ⟨B, X, T, hf, hk⟩ := C
  have hx := H.inst
  have hod := H.off_d
  have hoi := H.off_i
  have hid := H.i_d
  have hid2 := Ne.symm H.i_d
  have hlen := H.len1000
  have hit := H.iterator
  have hhI := H.handed
  have hund := H.undef
  have hrec := H.recurse
  have hkle := H.kle
  have hsmall := H.small
  walk_at "my fill"
  rcases H.lcv with ⟨hl, hc⟩ | ⟨a, t, tk, hl, hc, hm⟩
  · rw [hl, decide_eq_true (by simp)] at ret
    refine wpAny_call ?_
    walk_at "my rest"
    k_steps
    (rename News h₀ L _ _ => kN)
    (rename (_ < _) ∧ _ ∧ _ => kl)
    exact ret _ _ { S with es := _, n := _, lcv := some lab } _ (by assumption) (News.reorder3 kN) (H.setLcv (led_lt kl)) ⟨⟨[_], rfl, fun q hq => by rw [List.mem_singleton.mp hq]; exact allLt_mem kl.2.2⟩, .inl rfl, .inl rfl⟩ rfl rfl
  · rw [hl] at ret
    refine wpAny_call ?_
    walk_at "my rest"
    k_steps
    · rename a = lab => ha
      rw [decide_eq_false (by simp [ha])] at ret
      exact ret _ _ S rest (by assumption) (by walk_at "my sub") H Ext.refl rfl (by rw [hl, ha])
    · rename ¬ a = lab => ha
      rw [decide_eq_true (by simpa using ha)] at ret
      (rename News h₀ L _ _ => kN)
      (rename (_ < _) ∧ _ ∧ _ => kl)
      exact ret _ _ { S with es := _, n := _, lcv := some lab } _ (by assumption) (News.reorder3 kN) (H.setLcv (led_lt kl)) ⟨⟨[_], rfl, fun q hq => by rw [List.mem_singleton.mp hq]; exact allLt_mem kl.2.2⟩, .inl rfl, .inl rfl⟩ rfl rfl
end
end Mine

end
section
theorem Mine.walk_off_B6c : True := by
  w_top off
  trivial
open PySem PySem.W PyProof.Rows PySem.Spec PySem.Calls
namespace Mine
/-- what stands about a call that may catch -/
structure Cz (w : World) (A₀ : Around) (env : Env) (outer : List Env) (base h₀ : Heap) (p : Program) (loose : List Str) (mean : ExcName → Option Value) (mg mb : Str → Option Value) (L : Addr) : Prop where
  B : Below A₀ base outer h₀
  X : (hd.heap_39 w.params).In h₀
  T : Top p loose mean mg mb h₀
  hf : env.frame = some L
  hk : env.scope.kind = .function
  XB : (hd.heap_39 w.params).In base
  TB : Top p loose mean mg mb base
  D : KtsDicts (frs outer) h₀
theorem Cz.y {w : World} {A₀ : Around} {env : Env} {outer : List Env} {base h₀ : Heap} {p : Program} {loose : List Str} {mean : ExcName → Option Value} {mg mb : Str → Option Value} {L : Addr}
    (c : Cz w A₀ env outer base h₀ p loose mean mg mb L) : Cy w A₀ env outer base h₀ p loose mean mg mb L := ⟨c.B, c.X, c.T, c.hf, c.hk⟩
end Mine

end
section
theorem Mine.walk_off_B6d : True := by
  w_top off
  trivial
open PySem PySem.W PyProof.Rows PySem.Spec PySem.Calls
set_option Elab.async false
set_option maxRecDepth 100000
set_option maxHeartbeats 8000000
namespace Mine
section
variable {M : Model} {A : Around} {E : Value → Shared → Prop} {s : Shared}
/-- setFlight turns the traceback alone -/
theorem flight_strong {base : Heap} {l : List Env} {e : Addr} {cls a0 fl : Value} {Q : Unit → Shared → Prop}
    (hkb : base.StaysIn s.heap) (hl : s.heap.FunFrames base l) (ht : s.heap.TracedAtW base e cls a0 fl)
    (h : ∀ h', base.StaysIn h' → h'.FunFrames base l → h'.TracedW base e cls a0 → s.heap.UpToSlots h' → h'.get? e = s.heap.get? e → Q () { s with heap := h' }) :
    wpAny M A (setFlight (.ref e) none) Q E s := by
  obtain ⟨oe, vs, T, oT, ts, he, hcls, hd, h1, hnT, hTe, hT, hdT, h3⟩ := ht
  have hsz3 : 3 < ts.size := (Array.getElem?_eq_some_iff.mp h3).1
  have other : ∀ b, b ≠ T → (s.heap.update T (Obj.mapFields (·.setIfInBounds 3 ((none : Option Addr).elim Value.none fun f => rawInt f)))).get? b = s.heap.get? b :=
    fun b hb => Heap.get?_update_other _ _ (Ne.symm hb)
  have plain : ∀ b o, s.heap.get? b = some o → (∀ vs, o.data ≠ .fields vs) → b ≠ T := fun b o hb hnf q => by
    rw [q, hT] at hb
    cases hb
    exact hnf ts hdT
  unfold setFlight
  refine wpAny_bind (wpAny_field he hd h1 ?_)
  rw [if_pos (show (Value.ref T != Value.none) = true from by simp)]
  refine wpAny_setField hT hdT hsz3 (h _ (fun b o hbo => (other b fun q => by rw [q, hnT] at hbo; cases hbo).trans (hkb b o hbo))
    (hl.of_keeps fun b o hb hnf => ⟨o, (other b (plain b o hb hnf)).trans hb, rfl⟩) ?_ (fun b o hb hnf => ⟨o.slots, (other b (plain b o hb hnf)).trans hb⟩) (other e (Ne.symm hTe)))
  exact ⟨oe, vs, T, _, _, (other e (Ne.symm hTe)).trans he, hcls, hd, h1, hnT, hTe, Heap.get?_update_self _ hT (Obj.isFreed_of_fields (Obj.data_mapFields hdT _)), Obj.data_mapFields hdT _, by simp [hsz3]⟩

/-- an entry for a new exception: of the exception its second member alone is turned -/
theorem entry_strong {base : Heap} {env : Env} {outer : List Env} {L e : Addr} {oe : Obj} {vs : Array Value} {head a0 : Value} {hadNext : Bool} {Q : Unit → Shared → Prop}
    (hfr : A.frames = some (env :: outer)) (hl : s.heap.FunFrames base (env :: outer)) (hf : env.frame = some L)
    (he : s.heap.get? e = some oe) (hkb : base.StaysIn s.heap) (hen : base.get? e = none) (hd : oe.data = .fields vs) (hsz : 1 < vs.size) (h0 : vs[0]? = some a0)
    (h : ∀ h' T, base.StaysIn h' → h'.FunFrames base (env :: outer) → h'.TracedAtW base e oe.cls a0 (rawInt L) → s.heap.UpToSlots h' → h'.get? e = some (oe.mapFields (·.setIfInBounds 1 (.ref T))) → Q () { s with heap := h' }) :
    wpAny M A (do let a ← frameOf env; let pl ← entryPlaceOf L hadNext; let b ← EntryCells.newEntry head a .none (rawInt L) .none pl; setField (.ref e) 1 b) Q E s := by
  have hene : e ∉ frs (env :: outer) := fun hm => by
    obtain ⟨_, o, ho, hnf⟩ := hl.mem hm
    rw [he] at ho
    cases ho
    exact hnf vs hd
  refine wpAny_bind (wpAny_frameOf_fun hfr hl hf fun h₁ hs₁ => ?_)
  refine wpAny_bind (wpAny_entryPlaceOf fun pl hpl => ?_)
  unfold EntryCells.newEntry newFields
  refine wpAny_bind (wpAny_newObj_type ?_ (hpl.sizeOk5 _ _ _ _ _))
  generalize hTo : ({ cls := .type "traceback", dict := none, data := .fields ([head, .ref L, .none, rawInt L, .none] ++ (if pl.isEmpty then List.replicate 6 Value.none else pl)).toArray } : Obj) = oT
  have he₁ : h₁.get? e = some oe := (hs₁.2.1 e hene).trans he
  have kb₁ : base.StaysIn h₁ := fun b o hbo => (hs₁.2.1 b fun hm => by rw [(hl.mem hm).1] at hbo; cases hbo).trans (hkb b o hbo)
  have he₂ := Heap.get?_push_of_some (h := h₁) oT he₁
  have hTe : h₁.objs.size ≠ e := Nat.ne_of_gt (Heap.lt_size he₁)
  have hd₃ := Obj.data_mapFields hd (·.setIfInBounds 1 (Value.ref h₁.objs.size))
  have he₃ := Heap.get?_update_self (Obj.mapFields (·.setIfInBounds 1 (Value.ref h₁.objs.size))) he₂ (Obj.isFreed_of_fields hd₃)
  have hoF : oT.isFreed = false := by rw [← hTo]; rfl
  have hT₃ : ((h₁.push oT).update e (Obj.mapFields (·.setIfInBounds 1 (Value.ref h₁.objs.size)))).get? h₁.objs.size = some oT := (Heap.get?_update_other _ _ (Ne.symm hTe)).trans (Heap.get?_push_size h₁ hoF)
  have keep : ∀ b o, b ≠ e → h₁.get? b = some o → ((h₁.push oT).update e (Obj.mapFields (·.setIfInBounds 1 (Value.ref h₁.objs.size)))).get? b = some o := fun b o hbe hb => by
    rw [Heap.get?_update_other _ _ (Ne.symm hbe)]
    exact Heap.get?_push_of_some _ hb
  have plain : ∀ b o, s.heap.get? b = some o → (∀ vs, o.data ≠ .fields vs) → b ≠ e := fun b o hb hnf q => by
    rw [q, he] at hb
    cases hb
    exact hnf vs hd
  refine wpAny_setField he₂ hd hsz (h _ h₁.objs.size (fun b o hbo => keep b o (fun q => by rw [q, hen] at hbo; cases hbo) (kb₁ b o hbo)) (hl.of_keeps fun b o hb hnf => ?_) ?_ (fun b o hb hnf => ?_) he₃)
  · obtain ⟨sl, hs⟩ := hs₁.2.2 b o hb
    exact ⟨_, keep b _ (plain b o hb hnf) hs, rfl⟩
  · refine ⟨_, _, h₁.objs.size, _, _, he₃, ⟨Obj.cls_mapFields _ _, by rw [Array.getElem?_setIfInBounds_ne (by decide)]; exact h0⟩, hd₃, by simp [hsz], kb₁.fresh, hTe, hT₃, by rw [← hTo], ?_⟩
    rcases hpl with rfl | ⟨_, _, _, _, _, _, _, rfl⟩ <;> simp
  · obtain ⟨sl, hs⟩ := hs₁.2.2 b o hb
    exact ⟨sl, keep b _ (plain b o hb hnf) hs⟩
end

section
variable {prog : Program} {w : World} {A₀ : Around} {E : Value → Shared → Prop} {s' : Shared} {base g g₀ G : Heap} {outer : List Env} {L a e : Addr} {m : Str → Option Value} {cn : Str} {cs : Scope} {ccd : Value} {cl : List (Str × Addr)}
  {b₀ : Stmt} {suite : List Stmt} {pos np : Pos} {rest : List ExceptHandler} {Q : Flow → Shared → Prop} {news : List (Addr × Obj)} {KF : Frag}
  {p : Program} {loose : List Str} {mean : ExcName → Option Value} {mg mb : Str → Option Value} {x : Str} {X T' : String}
/-- what the frame's own built-in has raised, caught here; the exception stays at hand -/
theorem catch_newX (hx' : Heap.NewExc G s'.heap e X) (F : Fr g L G m) (N : News g L G news) (K : Below A₀ base outer g) (XB : KF.In base) (TB : Top p loose mean mg mb base)
    (D : KtsDicts (frs outer) g) (T0 : KtsTurn (frs outer) g₀ g)
    (ex : nsIn KF mainGlobals x = some none) (hv : bootBuiltins x = some (.type T')) (hn' : x ≠ "__name__")
    (hexc : isSubtype (.type T') (.type "BaseException") = pure true) (hnt : isSubtype (.type ((Manifest.find? T').elim "type" fun y => y.metatype)) (.type "tuple") = pure false) (hsub : isSubtype (.type X) (.type T') = pure true)
    (k : ∀ h' g' oe vs, KtsTurn (frs outer) g₀ g' → Fr g' L h' m → News g' L h' ((e, oe) :: news) → (∀ q ∈ news, q.1 ≠ e) → oe.data = .fields vs → (vs : Array Value)[2]? = some .none → Below A₀ base outer g' → KF.In g' → Top p loose mean mg mb g' → KtsDicts (frs outer) g' →
      wpAny (model prog w) ((A₀.deeper (envX cn cs L a ccd cl)).mark (some (.ref e))) (execs (b₀ :: suite) (envX cn cs L a ccd cl)) Q E { s' with heap := h' })
    (hE : PassesOwnAt (model prog w) ((A₀.deeper (envX cn cs L a ccd cl)).mark (some (.ref e))) (A₀.deeper (envX cn cs L a ccd cl)) (envX cn cs L a ccd cl) E)
    (hk : cs.kind = .function) (hx : (envX cn cs L a ccd cl).kindOf x = some .globalImplicit) (hd : (x == ("__debug__" : Str)) = false) :
    wpAny (model prog w) (A₀.deeper (envX cn cs L a ccd cl)) (noteFrame (.ref e) (envX cn cs L a ccd cl))
      (fun _ s₂ => wpAny (model prog w) (A₀.deeper (envX cn cs L a ccd cl)) (setFlight (.ref e) none) (fun _ s₃ =>
        wpAny (model prog w) (A₀.deeper (envX cn cs L a ccd cl)) (handleBy (.ref e) (envX cn cs L a ccd cl) (.ExceptHandler (some (.Name x np)) none (b₀ :: suite) pos :: rest)) Q E s₃) E s₂) E s' := by
  have K' : Below (A₀.deeper (envX cn cs L a ccd cl)) base (envX cn cs L a ccd cl :: outer) G := pushX K F rfl hk
  have hin : ∀ env ∈ (envX cn cs L a ccd cl :: outer), ∀ b, env.frame = some b → b ∈ frs (envX cn cs L a ccd cl :: outer) := fun env he b hb => List.mem_filterMap.mpr ⟨env, he, hb⟩
  obtain ⟨ob, tp, he, hcls, hd'⟩ := hx'.there
  have hen : (hideAll G (frs (envX cn cs L a ccd cl :: outer))).get? e = none := by
    cases q : (hideAll G (frs (envX cn cs L a ccd cl :: outer))).get? e with
    | none => rfl
    | some o => have := of_hideAll _ q; rw [hx'.new] at this; cases this
  have hff : s'.heap.FunFrames (hideAll G (frs (envX cn cs L a ccd cl :: outer))) (envX cn cs L a ccd cl :: outer) := (funFrames_hide K'.frames hin).of_keeps fun b o hb _ => ⟨o, hx'.keeps b o hb, rfl⟩
  have hBG : ∀ b o, G.get? b = some o → b ∉ frs (envX cn cs L a ccd cl :: outer) → (hideAll G (frs (envX cn cs L a ccd cl :: outer))).get? b = some o := fun b o hb nm => hideAll_get _ hb nm
  have hl : ∀ q ∈ news, (hideAll G (frs (envX cn cs L a ccd cl :: outer))).get? q.1 = some q.2 ∧ q.1 ≠ L ∧ g.get? q.1 = none := fun q hq => by
    refine ⟨hideAll_get _ (N q hq).1 fun hm => ?_, (N q hq).2.1, (N q hq).2.2⟩
    rcases frs_mem (env := envX cn cs L a ccd cl) rfl hm with z | z
    · exact (N q hq).2.1 z
    · obtain ⟨_, o, ho, _⟩ := K.frames.mem z
      rw [(N q hq).2.2] at ho
      cases ho
  have heL : e ≠ L := fun q => by
    obtain ⟨o, _, _, ho, _⟩ := F.ns
    rw [← q, hx'.new] at ho
    cases ho
  have hge : g.get? e = none := kts_none F.keep hx'.new
  have hqe : ∀ q ∈ news, q.1 ≠ e := fun q hq z => by
    have := (N q hq).1
    rw [z, hx'.new] at this
    cases this
  unfold noteFrame
  refine wpAny_bind (wpAny_field he hd' (x := .none) rfl ?_)
  rw [if_neg (by decide)]
  refine entry_strong (a0 := tp) (Around.frames_deeper K.stack) hff rfl he (fun b o hb => hx'.keeps b o (of_hideAll _ hb)) hen hd' (by show 1 < 6; decide) rfl fun h₄ T k1 k2 k3 k4 k5 => ?_
  have hsm₄ : G.UpToSlots h₄ := (Heap.UpToSlots.of_keeps hx'.keeps).trans k4
  rw [hcls] at k3
  refine flight_strong k1 k2 k3 fun h₅ f1 f2 f3 f4 f5 => ?_
  obtain ⟨g₅, _, F₅, K₅⟩ := kts_ground (name := cn) (scope := cs) (a := a) (cd := ccd) K F hBG f1 (hsm₄.trans f4)
  have P₅ : TopRead p loose mg mb g₅ := topRead_of (TB.keeps K₅.stays)
  obtain ⟨ob5, hob5, hobc5⟩ := f3.at.there
  refine wpAny_handleBy_builtin (X := X) (T := T') (b := true) hexc hnt hsub (nameX_B F₅ (XB.keeps K₅.stays) P₅ ex hv hn' ⟨rfl, ⟨ob5, hob5, hobc5⟩, ?_⟩ hk hx hd)
  refine flight_strong f1 f2 f3.at fun h₆ e1 e2 e3 e4 e5 => ?_
  obtain ⟨g₆, T₆, F₆, K₆⟩ := kts_ground (name := cn) (scope := cs) (a := a) (cd := ccd) K F hBG e1 ((hsm₄.trans f4).trans e4)
  have Nl : News g₆ L h₆ ((e, _) :: news) := fun q hq => by
    rcases List.mem_cons.mp hq with rfl | hq
    · exact ⟨e5.trans (f5.trans k5), heL, T₆.none_ _ hge⟩
    · exact ⟨e1 _ _ (hl q hq).1, (hl q hq).2.1, T₆.none_ _ (hl q hq).2.2⟩
  exact wpAny_passesOwnAt hE (k h₆ g₆ _ _ (T0.trans T₆) F₆ Nl hqe (Obj.data_mapFields hd' _) rfl K₆ (XB.keeps K₆.stays) (TB.keeps K₆.stays) (D.turn T₆))
end
end Mine

end
section
theorem Mine.walk_off_B7 : True := by
  w_top off
  trivial
open PySem PySem.W PyProof.Rows PySem.Spec PySem.Calls
set_option Elab.async false
set_option maxRecDepth 100000
set_option maxHeartbeats 8000000
namespace Mine
local macro_rules | `(tactic| walk_at "my fill") => `(tactic| (
  have hfill : (∀ P h, (hd.heap_39 P).In h → (hd.heap_39 P).In h) ∧ PySem.Challenge.rw_co0008_01.about = PySem.Challenge.rw_co0008_01.about := ⟨fun _ _ x => x, rfl⟩
  revert hfill; k_fill; intro hfill; clear hfill))
local macro_rules | `(tactic| walk_at "my room") => `(tactic| first | assumption | ((try simp only [depth_under_make, depth_under_kw, depth_in1, depth_deeper, depth_caller, AR_depth, mark_depth]); omega))
local macro_rules | `(tactic| walk_at "my units") => `(tactic| first | assumption | ((try simp only [units_in1, units_deeper, Around.mark_units, units_caller, AR_units]); omega))
local macro_rules | `(tactic| k_room) => `(tactic| walk_at "my room")
local macro_rules | `(tactic| k_units) => `(tactic| walk_at "my units")
local macro_rules | `(tactic| ke_room) => `(tactic| walk_at "my units")
local macro_rules | `(tactic| k_all) => `(tactic| first | assumption | exact allLt_le (by assumption) (by omega) | exact allLt_ne (by assumption) | exact allLt_ne (And.right (by assumption)) | exact allLt_ne (And.right (And.right (by assumption))) | exact allLt_ne (And.right (And.right (And.right (by assumption)))) | exact allLt_ne (And.right (And.right (And.right (And.right (by assumption))))))
local macro_rules | `(tactic| walk_at "my sub") => `(tactic| (refine News.sub' (by assumption) ?_; intro q hq; first | exact hq | exact .tail _ hq | exact .tail _ (.tail _ hq) | exact .tail _ (.tail _ (.tail _ hq)) | (simp only [List.mem_cons, List.mem_append] at hq ⊢; simp only [hq, or_true])))
local macro_rules | `(tactic| k_get) => `(tactic| first | with_reducible assumption | exact LoopOk.undef (by assumption) | exact LoopOk.recurse (by assumption) | exact LoopOk.iterable (by assumption) | exact LoopOk.iterator (by assumption) | exact getL_put _ | ((with_reducible refine (getL_put_ne ?hne).trans ?_); (case hne => decide); k_get))
local macro_rules | `(tactic| walk_at "my len") => `(tactic| ((repeat refine len_put_of ?_); omega))
local macro_rules | `(tactic| walk_at "my enter") => `(tactic| (
  refine' code_def ?k1 ?k2 ?k3 ?k4 ?k5 ?kA ?kF ?kK ?k6 ?k7 ?k8 ?k9 ?kB ?_ ?c2 ?c3 ?c4 ?c5; (case kA => first | exact rfl | assumption); (case kF => first | exact rfl | assumption); (case kK => first | exact rfl | assumption); (case k1 => k_asm); (case k2 => k_asm); (case k3 => k_asm); (case k4 => k_asm); (case k5 => k_asm); (case k6 => k_is); (case k7 => k_is); (case k8 => walk_at "my room"); (case k9 => first | exact BindsTo.of_eq rfl | exact binds_K (by k_in) rfl (by k_is) rfl rfl rfl | fail "enter: no rule for these arguments"); (case c5 => decide); (case kB => exact locs rfl); (case c2 => exact rfl); (case c3 => exact rfl); (case c4 => exact rfl); k_whole; intro g' L' h' FG' F' N' B' X' T'; (try dsimp only); (try k_fold)))
local macro_rules | `(tactic| walk_at "my prop") => `(tactic| (k_dflt (refine' get_prop ?k1 ?k2 ?k3 ?k4 ?k5 ?k6 ?k7 ?k8 ?k9 ?_; (case k1 => k_asm); (case k2 => k_asm); (case k3 => k_inst); (case k4 => k_is); (case k5 => k_is); (case k6 => k_is); (case k7 => k_is); (case k8 => k_is); (case k9 => k_is); k_whole); walk_at "my enter"))
local macro_rules | `(tactic| walk_at "setAttr ref") => `(tactic| (k_here; k_dflt (refine' set_dict ?k1 ?k2 ?k3 ?k4 ?k5 ?k6 ?k7 ?k8 ?k9 ?k10 ?k11 ?k12 ?k13 ?_; (case k1 => k_asm); (case k2 => k_asm); (case k3 => k_asm); (case k4 => k_inst); (case k5 => exact rfl); (case k6 => k_is); (case k7 => k_is); (case k8 => k_is); (case k9 => k_is); (case k10 => exact getL_isSome (by k_get)); (case k11 => exact rfl); (case k12 => k_upd); (case k13 => walk_at "my len"); k_whole; intro h' F' N'; (try k_sweep))))
local macro_rules | `(tactic| k_mem) => `(tactic| first | with_reducible assumption | exact List.Mem.head _ | (refine' List.mem_cons_of_mem _ ?_; k_mem) | (refine' List.mem_append_left _ ?_; k_mem) | (refine' List.mem_append_right _ ?_; k_mem))
local macro_rules | `(tactic| walk_at "compareOp IsNot ref ref") => `(tactic| (k_here; first | refine wpAny_isNot_ref_self ?_ | (k_dflt (refine' isNot_right ?n ?a ?b ?c ?_; (case n => kto_ne); (case a => kto_obj); (case b => kto_obj); (case c => kto_not); k_whole))))
local macro_rules | `(tactic| walk_at "compareOp Is ref ref") => `(tactic| (k_here; first | refine wpAny_is_ref_self ?_ | (k_dflt (refine' is_right ?n ?a ?b ?c ?_; (case n => kto_ne); (case a => kto_obj); (case b => kto_obj); (case c => kto_not); k_whole))))
local macro_rules | `(tactic| walk_at "my cx") => `(tactic| exact ⟨by k_asm, by k_asm, by k_asm, rfl, by first | rfl | assumption, by first | rfl | assumption⟩)
local macro_rules | `(tactic| walk_at "my cy") => `(tactic| exact ⟨by k_asm, by k_asm, by k_asm, by first | rfl | assumption, by first | rfl | assumption⟩)
local macro_rules | `(tactic| k_handed) => `(tactic| with_reducible assumption)
local macro_rules | `(tactic| walk_at "my rest") => `(tactic| (refine' kp_rest ?k1 ?k2 ?k3 ?k4 ?k5 ?kA ?kF ?kK ?k6 ?k7 ?k8 ?kV ?kP ?kG ?kB ?_ ?c2 ?c3 ?c4 ?c5; (case kA => exact rfl); (case kF => first | exact rfl | assumption); (case kK => first | exact rfl | assumption); (case k1 => k_asm); (case k2 => k_asm); (case k3 => k_asm); (case k4 => k_asm); (case k5 => k_asm); (case k6 => k_is); (case k7 => k_is); (case k8 => k_room); (case kV => kl_lit); (case kP => exact rfl); (case kG => exact fun _ => rfl); (case kB => exact fun _ => locs rfl); (case c5 => decide); (case c2 => exact rfl); (case c3 => exact rfl); (case c4 => exact rfl); k_whole; intro D' g' L' h' l1 FG' F' N' B' X' T'; (try k_lt l1); (try dsimp only); (try k_fold)))
local macro_rules | `(tactic| walk_at "compareOp NotEq ref ref") => `(tactic| (k_here; (with_reducible show wpAny _ _ (compareOp _ (Value.ref 92) (Value.ref _)) _ _ _); k_dflt (refine' inst_ne_tuple ?X ?I ?t ?c ?n ?h1 ?h2 ?h3 ?h4 ?h5 ?u ?_; (case X => k_in); (case I => refine' InstAt.of_K ?kx ?kl ?km; (case kx => k_in); (case kl => k_is); (case km => k_is)); (case t => exact kto_N (by k_asm) (by k_mem)); (case c => rfl); (case n => kto_ne); (case h1 => k_is); (case h2 => k_is); (case h3 => k_is); (case h4 => k_is); (case h5 => k_is); (case u => walk_at "my units"); k_whole)))
local macro_rules | `(tactic| walk_at "my enterS") => `(tactic| (
  refine' enterS ?k1 ?k2 ?k3 ?k4 ?k5 ?XB ?TB ?D ?T0 ?kA ?kF ?kK ?k6 ?k7 ?k8 ?k9 ?kB ?_ ?c2 ?c3 ?c4 ?c5; (case kA => exact rfl); (case kF => first | exact rfl | assumption); (case kK => first | exact rfl | assumption); (case k2 => k_asm); (case k1 => k_asm); (case k3 => k_asm); (case k4 => k_asm); (case k5 => k_asm); (case XB => assumption); (case TB => assumption); (case D => assumption); (case T0 => first | assumption | exact KtsTurn.refl); (case k6 => k_is); (case k7 => k_is); (case k8 => walk_at "my room"); (case k9 => first | exact BindsTo.of_eq rfl | exact binds_K (by k_in) rfl (by k_is) rfl rfl rfl | fail "enterS: no rule for these arguments"); (case c5 => decide); (case kB => exact locs rfl); (case c2 => exact rfl); (case c3 => exact rfl); (case c4 => exact rfl); k_whole; intro g' L' h' FG' F' N' B' X' T' D' lL'; (try dsimp only); (try k_fold)))
local macro_rules | `(tactic| walk_at "my propS") => `(tactic| (k_dflt (refine' get_prop ?k1 ?k2 ?k3 ?k4 ?k5 ?k6 ?k7 ?k8 ?k9 ?_; (case k1 => k_asm); (case k2 => k_asm); (case k3 => k_inst); (case k4 => k_is); (case k5 => k_is); (case k6 => k_is); (case k7 => k_is); (case k8 => k_is); (case k9 => k_is); k_whole); walk_at "my enterS"))
local macro_rules | `(tactic| walk_at "call builtin:iter") => `(tactic| (k_here; (with_reducible show wpAny _ _ (call (Value.builtin "iter") [Value.ref _]) _ _ _); k_dflt (first
  | (refine' iter_list ?F ?N ?m ?_; (case F => k_asm); (case N => k_asm); (case m => k_mem); k_whole; intro i' h' F' N' l1; (try k_lt l1); (try k_sweep))
  | (refine' iter_map ?N ?m ?_; (case N => k_asm); (case m => k_mem); k_whole))))
local macro_rules | `(tactic| walk_at "call builtin:len") => `(tactic| (k_here; (with_reducible show wpAny _ _ (call (Value.builtin "len") [Value.ref _]) _ _ _); k_dflt (refine' len_list ?l ?z ?_; (case l => exact News.isList (by k_asm) (by k_mem)); (case z => rw [List.size_toArray]; (try simp only [List.length_drop]); omega); (try rw [List.size_toArray]))))
local macro_rules | `(tactic| walk_at "my cz") => `(tactic| exact ⟨by k_asm, by k_asm, by k_asm, by first | rfl | assumption, by first | rfl | assumption, by assumption, by assumption, by assumption⟩)
local macro_rules | `(tactic| walk_at "my retcz") => `(tactic| exact ⟨by assumption, by assumption, by assumption, by assumption, by assumption, by assumption, by assumption, by assumption⟩)
local macro_rules | `(tactic| walk_at "my enterSC") => `(tactic| (refine' enterSC ?k1 ?k2 ?k3 ?k4 ?k5 ?XB ?TB ?D ?T0 ?kA ?kF ?kK ?k6 ?k7 ?k8 ?k9 ?kB ?kD ?_ ?c2 ?c3 ?c4; (case kA => exact rfl); (case kF => first | exact rfl | assumption); (case kK => first | exact rfl | assumption); (case k2 => k_asm); (case k1 => k_asm); (case k3 => k_asm); (case k4 => k_asm); (case k5 => k_asm); (case XB => assumption); (case TB => assumption); (case D => assumption); (case T0 => first | assumption | exact KtsTurn.refl); (case k6 => k_is); (case k7 => k_is); (case k8 => walk_at "my room"); (case k9 => assumption); (case kB => exact rfl); (case kD => decide +kernel); (case c2 => exact rfl); (case c3 => exact rfl); (case c4 => exact rfl); k_whole; intro g' L' h' tk' cells' FG' F' N' Y' B' X' T' D' lL'; k_cells Y'; (try simp only [List.cons_append, List.nil_append] at N'); (try dsimp only); (try k_fold)))
theorem News.sub3 {g : Heap} {L : Addr} {h : Heap} {l r : List (Addr × Obj)} {a b c : Addr × Obj} (N : News g L h l) (ha : a ∈ l) (hb : b ∈ l) (hc : c ∈ l) (hr : ∀ q ∈ r, q ∈ l) : News g L h (a :: b :: c :: r) :=
  News.sub' N fun q hq => by
    rcases List.mem_cons.mp hq with rfl | hq
    · exact ha
    rcases List.mem_cons.mp hq with rfl | hq
    · exact hb
    rcases List.mem_cons.mp hq with rfl | hq
    · exact hc
    exact hr q hq
section
variable {prog : Program} {w : World} {dp un : Nat} {gd : Option (List Code)} {A₀ : Around} {env : Env} {outer : List Env} {base h₀ : Heap} {p : Program} {loose : List Str} {mean : ExcName → Option Value} {mg mb : Str → Option Value} {L : Addr} {m : Str → Option Value} {rest : List (Addr × Obj)} {s : Shared} {E Q : Value → Shared → Prop} {ex : Bool} {P : Lp} {S : LS}
variable {g₀ : Heap}
theorem lc_length (C : Cz w A₀ env outer base h₀ p loose mean mg mb L) (T0 : KtsTurn (frs outer) g₀ h₀) (F : Fr h₀ L s.heap m) (N : News h₀ L s.heap (Led P S rest)) (H : LoopOk P S rest) (hdp : dp + 12 < recursionLimit) (hun : un + 60 < cLine) (hk0 : S.k ≠ 0)
   (ret : ∀ h₀' h' tk' S' rest' t, KtsTurn (frs outer) g₀ h₀' → Cz w A₀ env outer base h₀' p loose mean mg mb L → Fr h₀' L h' m → News h₀' L h' (Led P S' rest') → LoopOk P S' rest' → Ext S S' rest rest' → S'.k = S.k → S'.lcv = S.lcv →
      Q (.int P.vs.length t) { s with heap := h', toks := tk' }) :
   wpAny (model prog w) (AR dp un gd env outer) (getAttr (.ref P.x) (Str.ofString "length") ex) Q E s := by
  have C' := C
  obtain ⟨B, X, T, hf, hk, XB, TB, D⟩ := C
  have hx := H.inst
  have hod := H.off_d
  have hoi := H.off_i
  have hid := H.i_d
  have hid2 := Ne.symm H.i_d
  have hlen := H.len1000
  have hit := H.iterator
  have hhI := H.handed
  have hund := H.undef
  have hrec := H.recurse
  have hkle := H.kle
  have hsmall := H.small
  walk_at "my fill"
  rcases H.length with ⟨hlc, hl⟩ | ⟨hlc, t0, hl⟩
  · rcases H.kind with ⟨l, n, hr, hml⟩ | ⟨mo, t, hr, hmm, hmt⟩
    · have hrows := H.iterable
      rw [hr] at hrows
      walk_at "my propS"
      k_steps
      exact ret _ _ _ { S with es := _, n := _, lenC := true } rest _ T0 C' (by assumption) (by assumption) H.setLength (Ext.same rfl rfl) rfl rfl
    · have hrows := H.iterable
      rw [hr] at hrows
      obtain ⟨hv, ht⟩ := hmt hlc
      have hI := H.it1
      rw [hv] at hit
      have hmeth := H.none_ "_to_iterator" (by decide)
      have hmeth2 := H.none_ "index" (by decide)
      rcases H.index0 with ⟨h, _⟩ | ⟨_, tk0, hi⟩
      · exact absurd h hk0
      have hkv : ∀ q : Bool, S.pk = q → ((List.drop (S.k + S.pk.toNat) P.vs).length : Int) + ((S.k : Int) - 1 + 1) + (if q = true then 1 else 0) = P.vs.length := by
        intro q hq
        have hkk : S.k + S.pk.toNat ≤ P.vs.length := by
          rcases H.after with ⟨h, _⟩ | ⟨h, _⟩ | ⟨h, v, hv, _⟩
          · rw [h]; exact H.kle
          · rw [h]; exact H.kle
          · rw [h]; exact (List.getElem?_eq_some_iff.mp hv).1
        rw [List.length_drop, hq]
        rw [hq] at hkk
        cases q <;> simp at hkk ⊢ <;> omega
      rcases H.after with ⟨hp, ha⟩ | ⟨hp, ha⟩ | ⟨hp, v, hva, ha⟩
      rotate_right 1
      · obtain ⟨_, _, av, tv1, kl, ask, tv2, sz, rfl, hmv⟩ := H.labs.get hva
        walk_at "my propS"
        k_steps
        refine len_map rfl (kto_N (by k_asm) (show (mo, MP t 384) ∈ _ by k_mem)) fun h' tk' e hx' => ?_
        refine catch_newX (x := Str.ofString "TypeError") (T' := "TypeError") (X := "TypeError") (KF := hd.heap_39 w.params) (cl := []) hx' (by k_asm) (by k_asm) (by k_asm) (by assumption) (by assumption) (by assumption) KtsTurn.refl (by k_is) PyProof.Rows.Boot.«TypeError» (by decide) PySem.F.isExc_TypeError PySem.F.notTuple_TypeError (by kts_sub) (fun h' g' oe vs T' F' N' hqe hoe hvs K' X' P' D' => ?_) (by passes_own) rfl rfl (by decide)
        have N' := News.reorder3 N'
        have hei : @Ne Nat S.i e := hqe (S.i, S.o) (.tail _ (.head _))
        have hed : @Ne Nat P.d e := hqe (P.d, dictOf S.es S.n) (.head _)
        have her : ∀ q ∈ rest, q.1 ≠ e := fun q hq => hqe q (.tail _ (.tail _ hq))
        k_steps
        refine list_map (pre := [_]) (post := (e, oe) :: rest) (.inr ⟨e, oe, vs, rfl, .head _, hoe, hvs⟩) (by walk_at "my cx") (by walk_at "my room") (by k_asm) (by k_asm) (by k_all) (by k_all) (.tail _ hmm) (.tail _ ht) (hI.mono fun q hq => .tail _ hq) (by rw [sizeLine_eq]; simp only [List.length_drop]; omega) (fun S'' h' tk' c' o' F' N' I' lt => ?_)
        have l1 := lt
        replace l1 := allLt_of l1
        simp only [List.singleton_append, List.cons_append, List.nil_append, AllLt, and_true] at l1 N'
        k_steps
        (rename KtsTurn _ g₀ _ => kT); (rename Fr _ L _ m => kF); (rename News _ L _ _ => kN); (rename Below A₀ base outer _ => kB)
        (rename Top p loose mean mg mb _ => kP); (rename KtsDicts _ _ => kD); (rename (hd.heap_39 w.params).In _ => kX)
        (rename S'' < _ ∧ _ => kl)
        have hval := hkv true hp
        rw [hval] at kN ⊢
        exact ret _ _ _ { S with es := _, n := _, i := _, o := LI S'' 0, itv := .ref _, lenC := true, l := S'' } ((S'', listOf _ c') :: rest) _ kT ⟨kB, kX, kP, C'.hf, C'.hk, C'.XB, C'.TB, kD⟩ kF (News.sub3 kN (by k_mem) (by k_mem) (by k_mem) (fun q hq => by k_mem)) (H.setLengthMap (led_lt ⟨kl.2.1, kl.2.2.1, kl.2.2.2.2⟩) (led_lt ⟨l1.1, l1.2.1, l1.2.2.2⟩) (Nat.ne_of_lt kl.1)) ⟨⟨[_], rfl, fun q hq => by rw [List.mem_singleton.mp hq]; exact allLt_mem l1.2.2.2⟩, .inr (allLt_mem kl.2.2.2.2), .inr (allLt_mem l1.2.2.2)⟩ rfl rfl
      all_goals
        walk_at "my propS"
        k_steps
        refine len_map rfl (kto_N (by k_asm) (show (mo, MP t 384) ∈ _ by k_mem)) fun h' tk' e hx' => ?_
        refine catch_newX (x := Str.ofString "TypeError") (T' := "TypeError") (X := "TypeError") (KF := hd.heap_39 w.params) (cl := []) hx' (by k_asm) (by k_asm) (by k_asm) (by assumption) (by assumption) (by assumption) KtsTurn.refl (by k_is) PyProof.Rows.Boot.«TypeError» (by decide) PySem.F.isExc_TypeError PySem.F.notTuple_TypeError (by kts_sub) (fun h' g' oe vs T' F' N' hqe hoe hvs K' X' P' D' => ?_) (by passes_own) rfl rfl (by decide)
        have N' := News.reorder3 N'
        have hei : @Ne Nat S.i e := hqe (S.i, S.o) (.tail _ (.head _))
        have hed : @Ne Nat P.d e := hqe (P.d, dictOf S.es S.n) (.head _)
        have her : ∀ q ∈ rest, q.1 ≠ e := fun q hq => hqe q (.tail _ (.tail _ hq))
        k_steps
        refine list_map (pre := [_]) (post := (e, oe) :: rest) (.inr ⟨e, oe, vs, rfl, .head _, hoe, hvs⟩) (by walk_at "my cx") (by walk_at "my room") (by k_asm) (by k_asm) (by k_all) (by k_all) (.tail _ hmm) (.tail _ ht) (hI.mono fun q hq => .tail _ hq) (by rw [sizeLine_eq]; simp only [List.length_drop]; omega) (fun S'' h' tk' c' o' F' N' I' lt => ?_)
        have l1 := lt
        replace l1 := allLt_of l1
        simp only [List.singleton_append, List.cons_append, List.nil_append, AllLt, and_true] at l1 N'
        k_steps
        (rename KtsTurn _ g₀ _ => kT); (rename Fr _ L _ m => kF); (rename News _ L _ _ => kN); (rename Below A₀ base outer _ => kB)
        (rename Top p loose mean mg mb _ => kP); (rename KtsDicts _ _ => kD); (rename (hd.heap_39 w.params).In _ => kX)
        (rename S'' < _ ∧ _ => kl)
        have hval := hkv false hp
        rw [hval] at kN ⊢
        exact ret _ _ _ { S with es := _, n := _, i := _, o := LI S'' 0, itv := .ref _, lenC := true, l := S'' } ((S'', listOf _ c') :: rest) _ kT ⟨kB, kX, kP, C'.hf, C'.hk, C'.XB, C'.TB, kD⟩ kF (News.sub3 kN (by k_mem) (by k_mem) (by k_mem) (fun q hq => by k_mem)) (H.setLengthMap (led_lt ⟨kl.2.1, kl.2.2.1, kl.2.2.2.2⟩) (led_lt ⟨l1.1, l1.2.1, l1.2.2.2⟩) (Nat.ne_of_lt kl.1)) ⟨⟨[_], rfl, fun q hq => by rw [List.mem_singleton.mp hq]; exact allLt_mem l1.2.2.2⟩, .inr (allLt_mem kl.2.2.2.2), .inr (allLt_mem l1.2.2.2)⟩ rfl rfl
  · walk_at "my propS"
    k_steps
    exact ret _ _ _ S rest _ T0 C' (by assumption) (by assumption) H Ext.refl rfl rfl
end
end Mine

end
section
theorem Mine.walk_off_B8 : True := by
  w_top off
  trivial
open PySem PySem.W PyProof.Rows PySem.Spec PySem.Calls
set_option Elab.async false
set_option maxRecDepth 100000
set_option maxHeartbeats 8000000
namespace Mine
local macro_rules | `(tactic| walk_at "none 0") => `(tactic| skip)
local macro_rules | `(tactic| walk_at "my fill") => `(tactic| (
  have hfill : (∀ P h, (hd.heap_39 P).In h → (hd.heap_39 P).In h) ∧ PySem.Challenge.rw_co0008_01.about = PySem.Challenge.rw_co0008_01.about := ⟨fun _ _ x => x, rfl⟩
  revert hfill; k_fill; intro hfill; clear hfill))
local macro_rules | `(tactic| walk_at "my room") => `(tactic| first | assumption | ((try simp only [depth_under_make, depth_under_kw, depth_in1, depth_deeper, depth_caller, AR_depth, mark_depth]); omega))
local macro_rules | `(tactic| walk_at "my units") => `(tactic| first | assumption | ((try simp only [units_in1, units_deeper, Around.mark_units, units_caller, AR_units]); omega))
local macro_rules | `(tactic| k_room) => `(tactic| walk_at "my room")
local macro_rules | `(tactic| k_units) => `(tactic| walk_at "my units")
local macro_rules | `(tactic| ke_room) => `(tactic| walk_at "my units")
local macro_rules | `(tactic| k_all) => `(tactic| first | assumption | exact allLt_le (by assumption) (by omega) | exact allLt_ne (by assumption) | exact allLt_ne (And.right (by assumption)) | exact allLt_ne (And.right (And.right (by assumption))) | exact allLt_ne (And.right (And.right (And.right (by assumption)))) | exact allLt_ne (And.right (And.right (And.right (And.right (by assumption))))))
local macro_rules | `(tactic| walk_at "my sub") => `(tactic| (refine News.sub' (by assumption) ?_; intro q hq; first | exact hq | exact .tail _ hq | exact .tail _ (.tail _ hq) | exact .tail _ (.tail _ (.tail _ hq)) | (simp only [List.mem_cons, List.mem_append] at hq ⊢; simp only [hq, or_true])))
local macro_rules | `(tactic| k_get) => `(tactic| first | with_reducible assumption | exact LoopOk.undef (by assumption) | exact LoopOk.recurse (by assumption) | exact LoopOk.iterable (by assumption) | exact LoopOk.iterator (by assumption) | exact getL_put _ | ((with_reducible refine (getL_put_ne ?hne).trans ?_); (case hne => decide); k_get))
local macro_rules | `(tactic| walk_at "my len") => `(tactic| ((repeat refine len_put_of ?_); omega))
local macro_rules | `(tactic| walk_at "my enter") => `(tactic| (
  refine' code_def ?k1 ?k2 ?k3 ?k4 ?k5 ?kA ?kF ?kK ?k6 ?k7 ?k8 ?k9 ?kB ?_ ?c2 ?c3 ?c4 ?c5; (case kA => first | exact rfl | assumption); (case kF => first | exact rfl | assumption); (case kK => first | exact rfl | assumption); (case k1 => k_asm); (case k2 => k_asm); (case k3 => k_asm); (case k4 => k_asm); (case k5 => k_asm); (case k6 => k_is); (case k7 => k_is); (case k8 => walk_at "my room"); (case k9 => first | exact BindsTo.of_eq rfl | exact binds_K (by k_in) rfl (by k_is) rfl rfl rfl | fail "enter: no rule for these arguments"); (case c5 => decide); (case kB => exact locs rfl); (case c2 => exact rfl); (case c3 => exact rfl); (case c4 => exact rfl); k_whole; intro g' L' h' FG' F' N' B' X' T'; (try dsimp only); (try k_fold)))
local macro_rules | `(tactic| walk_at "my prop") => `(tactic| (k_dflt (refine' get_prop ?k1 ?k2 ?k3 ?k4 ?k5 ?k6 ?k7 ?k8 ?k9 ?_; (case k1 => k_asm); (case k2 => k_asm); (case k3 => k_inst); (case k4 => k_is); (case k5 => k_is); (case k6 => k_is); (case k7 => k_is); (case k8 => k_is); (case k9 => k_is); k_whole); walk_at "my enter"))
local macro_rules | `(tactic| walk_at "setAttr ref") => `(tactic| (k_here; k_dflt (refine' set_dict ?k1 ?k2 ?k3 ?k4 ?k5 ?k6 ?k7 ?k8 ?k9 ?k10 ?k11 ?k12 ?k13 ?_; (case k1 => k_asm); (case k2 => k_asm); (case k3 => k_asm); (case k4 => k_inst); (case k5 => exact rfl); (case k6 => k_is); (case k7 => k_is); (case k8 => k_is); (case k9 => k_is); (case k10 => exact getL_isSome (by k_get)); (case k11 => exact rfl); (case k12 => k_upd); (case k13 => walk_at "my len"); k_whole; intro h' F' N'; (try k_sweep))))
local macro_rules | `(tactic| k_mem) => `(tactic| first | with_reducible assumption | exact List.Mem.head _ | (refine' List.mem_cons_of_mem _ ?_; k_mem) | (refine' List.mem_append_left _ ?_; k_mem) | (refine' List.mem_append_right _ ?_; k_mem))
local macro_rules | `(tactic| walk_at "compareOp IsNot ref ref") => `(tactic| (k_here; first | refine wpAny_isNot_ref_self ?_ | (k_dflt (refine' isNot_right ?n ?a ?b ?c ?_; (case n => kto_ne); (case a => kto_obj); (case b => kto_obj); (case c => kto_not); k_whole))))
local macro_rules | `(tactic| walk_at "compareOp Is ref ref") => `(tactic| (k_here; first | refine wpAny_is_ref_self ?_ | (k_dflt (refine' is_right ?n ?a ?b ?c ?_; (case n => kto_ne); (case a => kto_obj); (case b => kto_obj); (case c => kto_not); k_whole))))
local macro_rules | `(tactic| walk_at "my cx") => `(tactic| exact ⟨by k_asm, by k_asm, by k_asm, rfl, by first | rfl | assumption, by first | rfl | assumption⟩)
local macro_rules | `(tactic| walk_at "my cy") => `(tactic| exact ⟨by k_asm, by k_asm, by k_asm, by first | rfl | assumption, by first | rfl | assumption⟩)
local macro_rules | `(tactic| k_handed) => `(tactic| with_reducible assumption)
local macro_rules | `(tactic| walk_at "my rest") => `(tactic| (refine' kp_rest ?k1 ?k2 ?k3 ?k4 ?k5 ?kA ?kF ?kK ?k6 ?k7 ?k8 ?kV ?kP ?kG ?kB ?_ ?c2 ?c3 ?c4 ?c5; (case kA => exact rfl); (case kF => first | exact rfl | assumption); (case kK => first | exact rfl | assumption); (case k1 => k_asm); (case k2 => k_asm); (case k3 => k_asm); (case k4 => k_asm); (case k5 => k_asm); (case k6 => k_is); (case k7 => k_is); (case k8 => k_room); (case kV => kl_lit); (case kP => exact rfl); (case kG => exact fun _ => rfl); (case kB => exact fun _ => locs rfl); (case c5 => decide); (case c2 => exact rfl); (case c3 => exact rfl); (case c4 => exact rfl); k_whole; intro D' g' L' h' l1 FG' F' N' B' X' T'; (try k_lt l1); (try dsimp only); (try k_fold)))
local macro_rules | `(tactic| walk_at "compareOp NotEq ref ref") => `(tactic| (k_here; (with_reducible show wpAny _ _ (compareOp _ (Value.ref 92) (Value.ref _)) _ _ _); k_dflt (refine' inst_ne_tuple ?X ?I ?t ?c ?n ?h1 ?h2 ?h3 ?h4 ?h5 ?u ?_; (case X => k_in); (case I => refine' InstAt.of_K ?kx ?kl ?km; (case kx => k_in); (case kl => k_is); (case km => k_is)); (case t => exact kto_N (by k_asm) (by k_mem)); (case c => rfl); (case n => kto_ne); (case h1 => k_is); (case h2 => k_is); (case h3 => k_is); (case h4 => k_is); (case h5 => k_is); (case u => walk_at "my units"); k_whole)))
local macro_rules | `(tactic| walk_at "my enterS") => `(tactic| (
  refine' enterS ?k1 ?k2 ?k3 ?k4 ?k5 ?XB ?TB ?D ?T0 ?kA ?kF ?kK ?k6 ?k7 ?k8 ?k9 ?kB ?_ ?c2 ?c3 ?c4 ?c5; (case kA => exact rfl); (case kF => first | exact rfl | assumption); (case kK => first | exact rfl | assumption); (case k2 => k_asm); (case k1 => k_asm); (case k3 => k_asm); (case k4 => k_asm); (case k5 => k_asm); (case XB => assumption); (case TB => assumption); (case D => assumption); (case T0 => first | assumption | exact KtsTurn.refl); (case k6 => k_is); (case k7 => k_is); (case k8 => walk_at "my room"); (case k9 => first | exact BindsTo.of_eq rfl | exact binds_K (by k_in) rfl (by k_is) rfl rfl rfl | fail "enterS: no rule for these arguments"); (case c5 => decide); (case kB => exact locs rfl); (case c2 => exact rfl); (case c3 => exact rfl); (case c4 => exact rfl); k_whole; intro g' L' h' FG' F' N' B' X' T' D' lL'; (try dsimp only); (try k_fold)))
local macro_rules | `(tactic| walk_at "my propS") => `(tactic| (k_dflt (refine' get_prop ?k1 ?k2 ?k3 ?k4 ?k5 ?k6 ?k7 ?k8 ?k9 ?_; (case k1 => k_asm); (case k2 => k_asm); (case k3 => k_inst); (case k4 => k_is); (case k5 => k_is); (case k6 => k_is); (case k7 => k_is); (case k8 => k_is); (case k9 => k_is); k_whole); walk_at "my enterS"))
local macro_rules | `(tactic| walk_at "call builtin:iter") => `(tactic| (k_here; (with_reducible show wpAny _ _ (call (Value.builtin "iter") [Value.ref _]) _ _ _); k_dflt (first
  | (refine' iter_list ?F ?N ?m ?_; (case F => k_asm); (case N => k_asm); (case m => k_mem); k_whole; intro i' h' F' N' l1; (try k_lt l1); (try k_sweep))
  | (refine' iter_map ?N ?m ?_; (case N => k_asm); (case m => k_mem); k_whole))))
local macro_rules | `(tactic| walk_at "call builtin:len") => `(tactic| (k_here; (with_reducible show wpAny _ _ (call (Value.builtin "len") [Value.ref _]) _ _ _); k_dflt (refine' len_list ?l ?z ?_; (case l => exact News.isList (by k_asm) (by k_mem)); (case z => rw [List.size_toArray]; (try simp only [List.length_drop]); omega); (try rw [List.size_toArray]))))
local macro_rules | `(tactic| walk_at "my cz") => `(tactic| exact ⟨by k_asm, by k_asm, by k_asm, by first | rfl | assumption, by first | rfl | assumption, by assumption, by assumption, by assumption⟩)
local macro_rules | `(tactic| walk_at "my retcz") => `(tactic| exact ⟨by assumption, by assumption, by assumption, by assumption, by assumption, by assumption, by assumption, by assumption⟩)
local macro_rules | `(tactic| walk_at "my enterSC") => `(tactic| (refine' enterSC ?k1 ?k2 ?k3 ?k4 ?k5 ?XB ?TB ?D ?T0 ?kA ?kF ?kK ?k6 ?k7 ?k8 ?k9 ?kB ?kD ?_ ?c2 ?c3 ?c4; (case kA => exact rfl); (case kF => first | exact rfl | assumption); (case kK => first | exact rfl | assumption); (case k2 => k_asm); (case k1 => k_asm); (case k3 => k_asm); (case k4 => k_asm); (case k5 => k_asm); (case XB => assumption); (case TB => assumption); (case D => assumption); (case T0 => first | assumption | exact KtsTurn.refl); (case k6 => k_is); (case k7 => k_is); (case k8 => walk_at "my room"); (case k9 => assumption); (case kB => exact rfl); (case kD => decide +kernel); (case c2 => exact rfl); (case c3 => exact rfl); (case c4 => exact rfl); k_whole; intro g' L' h' tk' cells' FG' F' N' Y' B' X' T' D' lL'; k_cells Y'; (try simp only [List.cons_append, List.nil_append] at N'); (try dsimp only); (try k_fold)))
theorem LoopOk.idx {P : Lp} {S S' : LS} {rest : List (Addr × Obj)} (H : LoopOk P S' rest) (ek : S'.k = S.k) (hk0 : S.k ≠ 0) : ∃ t, getL "index0" S'.es = some (some (.int ((S.k : Int) - 1) t)) := by
  rcases H.index0 with ⟨h, _⟩ | ⟨_, t0, hi⟩
  · exact absurd (ek.symm.trans h) hk0
  · exact ⟨t0, by rw [← ek]; exact hi⟩
local macro_rules | `(tactic| walk_at "getAttr ref") => `(tactic| (k_here; (with_reducible show wpAny _ _ (getAttr (Value.ref _) (Str.ofString "length") _) _ _ _); k_dflt (refine' lc_length ?C ?T ?F ?N ?H ?hd ?hu ?hk ?_; (case F => k_asm); (case N => k_asm); (case H => assumption); (case C => walk_at "my cz"); (case T => exact KtsTurn.refl); (case hd => walk_at "my room"); (case hu => walk_at "my units"); (case hk => assumption); k_whole; intro h₀' h' tk' S' rest' tl' T' C' F' N' H' e' ek el; obtain ⟨B', X', T2', hf', hk', XB', TB', D'⟩ := C'; have hx' := H'.inst; have hod' := H'.off_d; have hoi' := H'.off_i; have hid' := H'.i_d; have hid2' := Ne.symm H'.i_d; have hlen' := H'.len1000; obtain ⟨ti', hi'⟩ := LoopOk.idx H' ek (by assumption); have hn1' := H'.none_ "index" (by decide); (try k_sweep))))
section
variable {prog : Program} {w : World} {dp un : Nat} {gd : Option (List Code)} {A₀ : Around} {env : Env} {outer : List Env} {base h₀ : Heap} {p : Program} {loose : List Str} {mean : ExcName → Option Value} {mg mb : Str → Option Value} {L : Addr} {m : Str → Option Value} {rest : List (Addr × Obj)} {s : Shared} {E Q : Value → Shared → Prop} {ex : Bool} {P : Lp} {S : LS}
variable {g₀ : Heap}
theorem lc_len (C : Cz w A₀ env outer base h₀ p loose mean mg mb L) (T0 : KtsTurn (frs outer) g₀ h₀) (F : Fr h₀ L s.heap m) (N : News h₀ L s.heap (Led P S rest)) (H : LoopOk P S rest) (hdp : dp + 16 < recursionLimit) (hun : un + 80 < cLine) (hk0 : S.k ≠ 0)
   (ret : ∀ h₀' h' tk' S' rest' t, KtsTurn (frs outer) g₀ h₀' → Cz w A₀ env outer base h₀' p loose mean mg mb L → Fr h₀' L h' m → News h₀' L h' (Led P S' rest') → LoopOk P S' rest' → Ext S S' rest rest' → S'.k = S.k → S'.lcv = S.lcv →
      Q (.int P.vs.length t) { s with heap := h', toks := tk' }) :
   wpAny (model prog w) (AR dp un gd env outer) (call (.builtin "len") [.ref P.x]) Q E s := by
  have C₀ := C
  obtain ⟨B, X, T, hf, hk, XB, TB, D⟩ := C
  have hx := H.inst
  have hod := H.off_d
  have hoi := H.off_i
  have hid := H.i_d
  have hid2 := Ne.symm H.i_d
  have hlen := H.len1000
  have hit := H.iterator
  have hhI := H.handed
  have hund := H.undef
  have hrec := H.recurse
  have hkle := H.kle
  have hsmall := H.small
  walk_at "my fill"
  refine' len_K ?k1 ?k2 ?k3 ?k4 ?k5 ?_
  (case k1 => k_asm); (case k2 => k_asm); (case k3 => k_inst); (case k4 => k_is); (case k5 => k_is); k_whole
  refine wpAny_call ?_
  walk_at "my enterS"
  k_steps
  exact ret _ _ _ _ _ _ (by assumption) (by walk_at "my retcz") (by assumption) (by assumption) (by assumption) (by assumption) (by assumption) (by assumption)

theorem lc_rev0 (C : Cz w A₀ env outer base h₀ p loose mean mg mb L) (T0 : KtsTurn (frs outer) g₀ h₀) (F : Fr h₀ L s.heap m) (N : News h₀ L s.heap (Led P S rest)) (H : LoopOk P S rest) (hdp : dp + 16 < recursionLimit) (hun : un + 80 < cLine) (hk0 : S.k ≠ 0)
   (ret : ∀ h₀' h' tk' S' rest' t, KtsTurn (frs outer) g₀ h₀' → Cz w A₀ env outer base h₀' p loose mean mg mb L → Fr h₀' L h' m → News h₀' L h' (Led P S' rest') → LoopOk P S' rest' → Ext S S' rest rest' → S'.k = S.k → S'.lcv = S.lcv →
      Q (.int ((P.vs.length : Int) - (S.k : Int)) t) { s with heap := h', toks := tk' }) :
   wpAny (model prog w) (AR dp un gd env outer) (getAttr (.ref P.x) (Str.ofString "revindex0") ex) Q E s := by
  obtain ⟨B, X, T, hf, hk, XB, TB, D⟩ := C
  have hx := H.inst
  have hod := H.off_d
  have hoi := H.off_i
  have hid := H.i_d
  have hid2 := Ne.symm H.i_d
  have hlen := H.len1000
  have hit := H.iterator
  have hhI := H.handed
  have hund := H.undef
  have hrec := H.recurse
  have hkle := H.kle
  have hsmall := H.small
  walk_at "my fill"
  have hmeth := H.none_ "length" (by decide)
  have hmeth2 := H.none_ "index" (by decide)
  walk_at "my propS"
  k_steps
  rw [show (P.vs.length : Int) - ((S.k : Int) - 1 + 1) = (P.vs.length : Int) - (S.k : Int) from by omega]
  exact ret _ _ _ _ _ _ (by assumption) (by walk_at "my retcz") (by assumption) (by assumption) (by assumption) (by assumption) (by assumption) (by assumption)

theorem lc_rev (C : Cz w A₀ env outer base h₀ p loose mean mg mb L) (T0 : KtsTurn (frs outer) g₀ h₀) (F : Fr h₀ L s.heap m) (N : News h₀ L s.heap (Led P S rest)) (H : LoopOk P S rest) (hdp : dp + 16 < recursionLimit) (hun : un + 80 < cLine) (hk0 : S.k ≠ 0)
   (ret : ∀ h₀' h' tk' S' rest' t, KtsTurn (frs outer) g₀ h₀' → Cz w A₀ env outer base h₀' p loose mean mg mb L → Fr h₀' L h' m → News h₀' L h' (Led P S' rest') → LoopOk P S' rest' → Ext S S' rest rest' → S'.k = S.k → S'.lcv = S.lcv →
      Q (.int ((P.vs.length : Int) - (S.k : Int) + 1) t) { s with heap := h', toks := tk' }) :
   wpAny (model prog w) (AR dp un gd env outer) (getAttr (.ref P.x) (Str.ofString "revindex") ex) Q E s := by
  obtain ⟨B, X, T, hf, hk, XB, TB, D⟩ := C
  have hx := H.inst
  have hod := H.off_d
  have hoi := H.off_i
  have hid := H.i_d
  have hid2 := Ne.symm H.i_d
  have hlen := H.len1000
  have hit := H.iterator
  have hhI := H.handed
  have hund := H.undef
  have hrec := H.recurse
  have hkle := H.kle
  have hsmall := H.small
  walk_at "my fill"
  have hmeth := H.none_ "length" (by decide)
  have hmeth2 := H.none_ "index" (by decide)
  walk_at "my propS"
  k_steps
  rw [show (P.vs.length : Int) - ((S.k : Int) - 1) = (P.vs.length : Int) - (S.k : Int) + 1 from by omega]
  exact ret _ _ _ _ _ _ (by assumption) (by walk_at "my retcz") (by assumption) (by assumption) (by assumption) (by assumption) (by assumption) (by assumption)
end
end Mine

end
section
theorem Mine.walk_off_B9 : True := by
  w_top off
  trivial
open PySem PySem.W PyProof.Rows PySem.Spec PySem.Calls
set_option Elab.async false
set_option maxRecDepth 100000
set_option maxHeartbeats 8000000
namespace Mine
local macro_rules | `(tactic| walk_at "my fill") => `(tactic| (
  have hfill : (∀ P h, (hd.heap_39 P).In h → (hd.heap_39 P).In h) ∧ PySem.Challenge.rw_co0008_01.about = PySem.Challenge.rw_co0008_01.about := ⟨fun _ _ x => x, rfl⟩
  revert hfill; k_fill; intro hfill; clear hfill))
local macro_rules | `(tactic| walk_at "my room") => `(tactic| first | assumption | ((try simp only [depth_under_make, depth_under_kw, depth_in1, depth_deeper, depth_caller, AR_depth, mark_depth]); omega))
local macro_rules | `(tactic| walk_at "my units") => `(tactic| first | assumption | ((try simp only [units_in1, units_deeper, Around.mark_units, units_caller, AR_units]); omega))
local macro_rules | `(tactic| k_room) => `(tactic| walk_at "my room")
local macro_rules | `(tactic| k_units) => `(tactic| walk_at "my units")
local macro_rules | `(tactic| ke_room) => `(tactic| walk_at "my units")
local macro_rules | `(tactic| k_all) => `(tactic| first | assumption | exact allLt_le (by assumption) (by omega) | exact allLt_ne (by assumption) | exact allLt_ne (And.right (by assumption)) | exact allLt_ne (And.right (And.right (by assumption))) | exact allLt_ne (And.right (And.right (And.right (by assumption)))) | exact allLt_ne (And.right (And.right (And.right (And.right (by assumption))))))
local macro_rules | `(tactic| walk_at "my sub") => `(tactic| (refine News.sub' (by assumption) ?_; intro q hq; first | exact hq | exact .tail _ hq | exact .tail _ (.tail _ hq) | exact .tail _ (.tail _ (.tail _ hq)) | (simp only [List.mem_cons, List.mem_append] at hq ⊢; simp only [hq, or_true])))
local macro_rules | `(tactic| k_get) => `(tactic| first | with_reducible assumption | exact LoopOk.undef (by assumption) | exact LoopOk.recurse (by assumption) | exact LoopOk.iterable (by assumption) | exact LoopOk.iterator (by assumption) | exact getL_put _ | ((with_reducible refine (getL_put_ne ?hne).trans ?_); (case hne => decide); k_get))
local macro_rules | `(tactic| walk_at "my len") => `(tactic| ((repeat refine len_put_of ?_); omega))
local macro_rules | `(tactic| walk_at "my enter") => `(tactic| (
  refine' code_def ?k1 ?k2 ?k3 ?k4 ?k5 ?kA ?kF ?kK ?k6 ?k7 ?k8 ?k9 ?kB ?_ ?c2 ?c3 ?c4 ?c5; (case kA => first | exact rfl | assumption); (case kF => first | exact rfl | assumption); (case kK => first | exact rfl | assumption); (case k1 => k_asm); (case k2 => k_asm); (case k3 => k_asm); (case k4 => k_asm); (case k5 => k_asm); (case k6 => k_is); (case k7 => k_is); (case k8 => walk_at "my room"); (case k9 => first | exact BindsTo.of_eq rfl | exact binds_K (by k_in) rfl (by k_is) rfl rfl rfl | fail "enter: no rule for these arguments"); (case c5 => decide); (case kB => exact locs rfl); (case c2 => exact rfl); (case c3 => exact rfl); (case c4 => exact rfl); k_whole; intro g' L' h' FG' F' N' B' X' T'; (try dsimp only); (try k_fold)))
local macro_rules | `(tactic| walk_at "my prop") => `(tactic| (k_dflt (refine' get_prop ?k1 ?k2 ?k3 ?k4 ?k5 ?k6 ?k7 ?k8 ?k9 ?_; (case k1 => k_asm); (case k2 => k_asm); (case k3 => k_inst); (case k4 => k_is); (case k5 => k_is); (case k6 => k_is); (case k7 => k_is); (case k8 => k_is); (case k9 => k_is); k_whole); walk_at "my enter"))
local macro_rules | `(tactic| walk_at "setAttr ref") => `(tactic| (k_here; k_dflt (refine' set_dict ?k1 ?k2 ?k3 ?k4 ?k5 ?k6 ?k7 ?k8 ?k9 ?k10 ?k11 ?k12 ?k13 ?_; (case k1 => k_asm); (case k2 => k_asm); (case k3 => k_asm); (case k4 => k_inst); (case k5 => exact rfl); (case k6 => k_is); (case k7 => k_is); (case k8 => k_is); (case k9 => k_is); (case k10 => exact getL_isSome (by k_get)); (case k11 => exact rfl); (case k12 => k_upd); (case k13 => walk_at "my len"); k_whole; intro h' F' N'; (try k_sweep))))
local macro_rules | `(tactic| k_mem) => `(tactic| first | with_reducible assumption | exact List.Mem.head _ | (refine' List.mem_cons_of_mem _ ?_; k_mem) | (refine' List.mem_append_left _ ?_; k_mem) | (refine' List.mem_append_right _ ?_; k_mem))
local macro_rules | `(tactic| walk_at "compareOp IsNot ref ref") => `(tactic| (k_here; first | refine wpAny_isNot_ref_self ?_ | (k_dflt (refine' isNot_right ?n ?a ?b ?c ?_; (case n => kto_ne); (case a => kto_obj); (case b => kto_obj); (case c => kto_not); k_whole))))
local macro_rules | `(tactic| walk_at "compareOp Is ref ref") => `(tactic| (k_here; first | refine wpAny_is_ref_self ?_ | (k_dflt (refine' is_right ?n ?a ?b ?c ?_; (case n => kto_ne); (case a => kto_obj); (case b => kto_obj); (case c => kto_not); k_whole))))
local macro_rules | `(tactic| walk_at "my cx") => `(tactic| exact ⟨by k_asm, by k_asm, by k_asm, rfl, by first | rfl | assumption, by first | rfl | assumption⟩)
local macro_rules | `(tactic| walk_at "my cy") => `(tactic| exact ⟨by k_asm, by k_asm, by k_asm, by first | rfl | assumption, by first | rfl | assumption⟩)
local macro_rules | `(tactic| k_handed) => `(tactic| with_reducible assumption)
local macro_rules | `(tactic| walk_at "my rest") => `(tactic| (refine' kp_rest ?k1 ?k2 ?k3 ?k4 ?k5 ?kA ?kF ?kK ?k6 ?k7 ?k8 ?kV ?kP ?kG ?kB ?_ ?c2 ?c3 ?c4 ?c5; (case kA => exact rfl); (case kF => first | exact rfl | assumption); (case kK => first | exact rfl | assumption); (case k1 => k_asm); (case k2 => k_asm); (case k3 => k_asm); (case k4 => k_asm); (case k5 => k_asm); (case k6 => k_is); (case k7 => k_is); (case k8 => k_room); (case kV => kl_lit); (case kP => exact rfl); (case kG => exact fun _ => rfl); (case kB => exact fun _ => locs rfl); (case c5 => decide); (case c2 => exact rfl); (case c3 => exact rfl); (case c4 => exact rfl); k_whole; intro D' g' L' h' l1 FG' F' N' B' X' T'; (try k_lt l1); (try dsimp only); (try k_fold)))
local macro_rules | `(tactic| walk_at "compareOp NotEq ref ref") => `(tactic| (k_here; (with_reducible show wpAny _ _ (compareOp _ (Value.ref 92) (Value.ref _)) _ _ _); k_dflt (refine' inst_ne_tuple ?X ?I ?t ?c ?n ?h1 ?h2 ?h3 ?h4 ?h5 ?u ?_; (case X => k_in); (case I => refine' InstAt.of_K ?kx ?kl ?km; (case kx => k_in); (case kl => k_is); (case km => k_is)); (case t => exact kto_N (by k_asm) (by k_mem)); (case c => rfl); (case n => kto_ne); (case h1 => k_is); (case h2 => k_is); (case h3 => k_is); (case h4 => k_is); (case h5 => k_is); (case u => walk_at "my units"); k_whole)))
local macro_rules | `(tactic| walk_at "my enterS") => `(tactic| (
  refine' enterS ?k1 ?k2 ?k3 ?k4 ?k5 ?XB ?TB ?D ?T0 ?kA ?kF ?kK ?k6 ?k7 ?k8 ?k9 ?kB ?_ ?c2 ?c3 ?c4 ?c5; (case kA => exact rfl); (case kF => first | exact rfl | assumption); (case kK => first | exact rfl | assumption); (case k2 => k_asm); (case k1 => k_asm); (case k3 => k_asm); (case k4 => k_asm); (case k5 => k_asm); (case XB => assumption); (case TB => assumption); (case D => assumption); (case T0 => first | assumption | exact KtsTurn.refl); (case k6 => k_is); (case k7 => k_is); (case k8 => walk_at "my room"); (case k9 => first | exact BindsTo.of_eq rfl | exact binds_K (by k_in) rfl (by k_is) rfl rfl rfl | fail "enterS: no rule for these arguments"); (case c5 => decide); (case kB => exact locs rfl); (case c2 => exact rfl); (case c3 => exact rfl); (case c4 => exact rfl); k_whole; intro g' L' h' FG' F' N' B' X' T' D' lL'; (try dsimp only); (try k_fold)))
local macro_rules | `(tactic| walk_at "my propS") => `(tactic| (k_dflt (refine' get_prop ?k1 ?k2 ?k3 ?k4 ?k5 ?k6 ?k7 ?k8 ?k9 ?_; (case k1 => k_asm); (case k2 => k_asm); (case k3 => k_inst); (case k4 => k_is); (case k5 => k_is); (case k6 => k_is); (case k7 => k_is); (case k8 => k_is); (case k9 => k_is); k_whole); walk_at "my enterS"))
local macro_rules | `(tactic| walk_at "call builtin:iter") => `(tactic| (k_here; (with_reducible show wpAny _ _ (call (Value.builtin "iter") [Value.ref _]) _ _ _); k_dflt (first
  | (refine' iter_list ?F ?N ?m ?_; (case F => k_asm); (case N => k_asm); (case m => k_mem); k_whole; intro i' h' F' N' l1; (try k_lt l1); (try k_sweep))
  | (refine' iter_map ?N ?m ?_; (case N => k_asm); (case m => k_mem); k_whole))))
local macro_rules | `(tactic| walk_at "call builtin:len") => `(tactic| (k_here; (with_reducible show wpAny _ _ (call (Value.builtin "len") [Value.ref _]) _ _ _); k_dflt (refine' len_list ?l ?z ?_; (case l => exact News.isList (by k_asm) (by k_mem)); (case z => rw [List.size_toArray]; (try simp only [List.length_drop]); omega); (try rw [List.size_toArray]))))
local macro_rules | `(tactic| walk_at "my cz") => `(tactic| exact ⟨by k_asm, by k_asm, by k_asm, by first | rfl | assumption, by first | rfl | assumption, by assumption, by assumption, by assumption⟩)
local macro_rules | `(tactic| walk_at "my retcz") => `(tactic| exact ⟨by assumption, by assumption, by assumption, by assumption, by assumption, by assumption, by assumption, by assumption⟩)
local macro_rules | `(tactic| walk_at "my enterSC") => `(tactic| (refine' enterSC ?k1 ?k2 ?k3 ?k4 ?k5 ?XB ?TB ?D ?T0 ?kA ?kF ?kK ?k6 ?k7 ?k8 ?k9 ?kB ?kD ?_ ?c2 ?c3 ?c4; (case kA => exact rfl); (case kF => first | exact rfl | assumption); (case kK => first | exact rfl | assumption); (case k2 => k_asm); (case k1 => k_asm); (case k3 => k_asm); (case k4 => k_asm); (case k5 => k_asm); (case XB => assumption); (case TB => assumption); (case D => assumption); (case T0 => first | assumption | exact KtsTurn.refl); (case k6 => k_is); (case k7 => k_is); (case k8 => walk_at "my room"); (case k9 => assumption); (case kB => exact rfl); (case kD => decide +kernel); (case c2 => exact rfl); (case c3 => exact rfl); (case c4 => exact rfl); k_whole; intro g' L' h' tk' cells' FG' F' N' Y' B' X' T' D' lL'; k_cells Y'; (try simp only [List.cons_append, List.nil_append] at N'); (try dsimp only); (try k_fold)))
inductive Leaf : Value → Dat → Prop
  | int (i : Int) (t : Tok) : Leaf (.int i t) (.int i)
  | str (x : Str) (t : Tok) : Leaf (.str x t) (.str x)
theorem Leaf.dat {news : List (Addr × Obj)} {v : Value} {d : Dat} (h : Leaf v d) : DatIn news v d := by
  cases h with
  | int i t => exact .int i t
  | str x t => exact .str x t
theorem Leaf.handed {v : Value} {d : Dat} (h : Leaf v d) : handedIn v = true := by cases h <;> rfl
theorem Leaf.eqi {i : Int} {t : Tok} {d : Dat} (h : d = .int i) : Leaf (.int i t) d := by subst h; exact .int i t
theorem Leaf.eqs {x : Str} {t : Tok} {d : Dat} (h : d = .str x) : Leaf (.str x t) d := by subst h; exact .str x t
def tf (b : Bool) : Str := if b then "True" else "False"
/-- what plain places tell -/
def plain (n k0 : Nat) (dep : Int) (ls : List Int) (lcv : Option Int) (lab : Int) (q : Int) : Dat :=
  if q = 0 then .int k0 else if q = 1 then .int (k0 + 1) else if q = 2 then .int ((n : Int) - k0 - 1) else if q = 3 then .int ((n : Int) - k0)
  else if q = 4 then .str (tf (decide (k0 = 0))) else if q = 5 then .str (tf (decide (k0 + 1 = n))) else if q = 6 then .int n else if q = 7 then .int n
  else if q = 8 then .int dep else if q = 9 then .int (dep + 1)
  else if q = 10 then (if k0 = 0 then .str "none" else .int (ls.getD (k0 - 1) 0))
  else if q = 11 then (if k0 + 1 = n then .str "none" else .int (ls.getD (k0 + 1) 0))
  else if q = 12 then .str (if k0 % 3 = 0 then "a" else if k0 % 3 = 1 then "b" else "c")
  else .str (tf (decide (lcv ≠ some lab)))
local macro_rules | `(tactic| walk_at "my S") => `(tactic| (intro h₀' h' tk' S' rest' tl' T' C' F' N' H' e' ek el; obtain ⟨B', X', T2', hf', hk', XB', TB', D'⟩ := C'; (try k_sweep)))
local macro_rules | `(tactic| walk_at "getAttr ref") => `(tactic| (k_here; (with_reducible show wpAny _ _ (getAttr (Value.ref _) (Str.ofString "revindex0") _) _ _ _); k_dflt (refine' lc_rev0 ?C ?T ?F ?N ?H ?hd ?hu ?hk ?_; (case F => k_asm); (case N => k_asm); (case H => assumption); (case C => walk_at "my cz"); (case T => exact KtsTurn.refl); (case hd => walk_at "my room"); (case hu => walk_at "my units"); (case hk => assumption); k_whole; walk_at "my S")))
local macro_rules | `(tactic| walk_at "getAttr ref") => `(tactic| (k_here; (with_reducible show wpAny _ _ (getAttr (Value.ref _) (Str.ofString "revindex") _) _ _ _); k_dflt (refine' lc_rev ?C ?T ?F ?N ?H ?hd ?hu ?hk ?_; (case F => k_asm); (case N => k_asm); (case H => assumption); (case C => walk_at "my cz"); (case T => exact KtsTurn.refl); (case hd => walk_at "my room"); (case hu => walk_at "my units"); (case hk => assumption); k_whole; walk_at "my S")))
local macro_rules | `(tactic| walk_at "getAttr ref") => `(tactic| (k_here; (with_reducible show wpAny _ _ (getAttr (Value.ref _) (Str.ofString "length") _) _ _ _); k_dflt (refine' lc_length ?C ?T ?F ?N ?H ?hd ?hu ?hk ?_; (case F => k_asm); (case N => k_asm); (case H => assumption); (case C => walk_at "my cz"); (case T => exact KtsTurn.refl); (case hd => walk_at "my room"); (case hu => walk_at "my units"); (case hk => assumption); k_whole; walk_at "my S")))
local macro_rules | `(tactic| walk_at "call builtin:len") => `(tactic| (k_here; (with_reducible show wpAny _ _ (call (Value.builtin "len") [Value.ref _]) _ _ _); k_dflt (refine' lc_len ?C ?T ?F ?N ?H ?hd ?hu ?hk ?_; (case F => k_asm); (case N => k_asm); (case H => assumption); (case C => walk_at "my cz"); (case T => exact KtsTurn.refl); (case hd => walk_at "my room"); (case hu => walk_at "my units"); (case hk => assumption); k_whole; walk_at "my S")))
local macro_rules | `(tactic| walk_at "getAttr ref") => `(tactic| (k_here; (with_reducible show wpAny _ _ (getAttr (Value.ref _) (Str.ofString "last") _) _ _ _); k_dflt (refine' lc_last ?C ?F ?N ?H ?hd ?hu ?_; (case F => k_asm); (case N => k_asm); (case H => assumption); (case C => walk_at "my cy"); (case hd => walk_at "my room"); (case hu => walk_at "my units"); k_whole; intro h' tk' S' F' N' H' e'; (try k_sweep))))
local macro_rules | `(tactic| walk_at "getAttr ref") => `(tactic| (k_here; (with_reducible show wpAny _ _ (getAttr (Value.ref _) (Str.ofString "first") _) _ _ _); k_dflt (refine' lc_first ?C ?F ?N ?H ?hd ?hu ?hk ?_; (case F => k_asm); (case N => k_asm); (case H => assumption); (case C => walk_at "my cy"); (case hd => walk_at "my room"); (case hu => walk_at "my units"); (case hk => assumption); k_whole; intro h' tk' F' N'; (try k_sweep))))
local macro_rules | `(tactic| walk_at "getAttr ref") => `(tactic| (k_here; (with_reducible show wpAny _ _ (getAttr (Value.ref _) (Str.ofString "depth") _) _ _ _); k_dflt (refine' lc_depth ?C ?F ?N ?H ?hd ?h0 ?h1 ?_; (case F => k_asm); (case N => k_asm); (case H => assumption); (case C => walk_at "my cy"); (case hd => walk_at "my room"); (case h0 => assumption); (case h1 => assumption); k_whole; intro h' tk' t' F' N'; (try k_sweep))))
local macro_rules | `(tactic| walk_at "getAttr ref") => `(tactic| (k_here; (with_reducible show wpAny _ _ (getAttr (Value.ref _) (Str.ofString "previtem") _) _ _ _); k_dflt (refine' lc_prev ?C ?F ?N ?H ?hd ?hu ?hk ?_; (case F => k_asm); (case N => k_asm); (case H => assumption); (case C => walk_at "my cy"); (case hd => walk_at "my room"); (case hu => walk_at "my units"); (case hk => assumption); k_whole; intro h' tk' v' tl' F' N' hc; (rcases hc with ⟨hc1, u', d', sl', hve, htl⟩ | ⟨hc1, hc2⟩); (subst hve; subst htl); rotate_left 1; (obtain ⟨lab', hls', a', t1', kl', ask', t2', sz', hve, hm'⟩ := LabsIn.get (by assumption) hc2); subst hve; all_goals (try k_sweep))))
local macro_rules | `(tactic| walk_at "getAttr ref") => `(tactic| (k_here; (with_reducible show wpAny _ _ (getAttr (Value.ref _) (Str.ofString "nextitem") _) _ _ _); k_dflt (refine' lc_next ?C ?F ?N ?H ?hd ?hu ?_; (case F => k_asm); (case N => k_asm); (case H => assumption); (case C => walk_at "my cy"); (case hd => walk_at "my room"); (case hu => walk_at "my units"); k_whole; intro h' tk' S' v' tl' F' N' H' e' hc; (rcases hc with ⟨hc1, u', d', sl', hve, htl⟩ | ⟨hc2, htl⟩); (subst hve; subst htl); rotate_left 1; subst htl; (obtain ⟨lab', hls', a', t1', kl', ask', t2', sz', hve, hm'⟩ := LabsIn.get (by assumption) hc2); subst hve; all_goals (try k_sweep))))
local macro_rules | `(tactic| walk_at "call ref") => `(tactic| (k_here; (with_reducible show wpAny _ _ (call (Value.ref 217) _) _ _ _); k_dflt (refine' lc_cycle ?C ?F ?N ?H ?hd ?hu ?hk ?_; (case F => k_asm); (case N => k_asm); (case H => assumption); (case C => walk_at "my cy"); (case hd => walk_at "my room"); (case hu => walk_at "my units"); (case hk => assumption); k_whole; intro h' tk' t' F' N'; (try k_sweep))))
local macro_rules | `(tactic| walk_at "call ref") => `(tactic| (k_here; (with_reducible show wpAny _ _ (call (Value.ref 224) _) _ _ _); k_dflt (refine' lc_changed ?C ?F ?N ?H ?hd ?hu ?_; (case F => k_asm); (case N => k_asm); (case H => assumption); (case C => walk_at "my cy"); (case hd => walk_at "my room"); (case hu => walk_at "my units"); k_whole; intro h' tk' S' rest' F' N' H' e' ek el; (try k_sweep))))
section
variable {prog : Program} {w : World} {dp un : Nat} {gd : Option (List Code)} {A₀ : Around} {env : Env} {outer : List Env} {base h₀ : Heap} {p : Program} {loose : List Str} {mean : ExcName → Option Value} {mg mb : Str → Option Value} {L : Addr} {m : Str → Option Value} {rest : List (Addr × Obj)} {s : Shared} {E Q : Value → Shared → Prop} {ex : Bool} {P : Lp} {S : LS}
variable {g₀ : Heap}
theorem ans (C : Cz w A₀ env outer base h₀ p loose mean mg mb L) (T0 : KtsTurn (frs outer) g₀ h₀) (F : Fr h₀ L s.heap m) (N : News h₀ L s.heap (Led P S rest)) (H : LoopOk P S rest) (hdp : dp + 24 < recursionLimit) (hun : un + 240 < cLine) (hk0 : S.k ≠ 0) (hd0 : 0 ≤ P.dep) (hd1 : P.dep < 1000)
   {lab q : Int} {t1 tq : Tok} (hq0 : 0 ≤ q) (hq1 : q < 14)
   (ret : ∀ h₀' h' tk' S' rest' v, KtsTurn (frs outer) g₀ h₀' → Cz w A₀ env outer base h₀' p loose mean mg mb L → Fr h₀' L h' m → News h₀' L h' (Led P S' rest') → LoopOk P S' rest' → Ext S S' rest rest' → S'.k = S.k → S'.lcv = (if q = 13 then some lab else S.lcv) →
      Leaf v (plain P.vs.length (S.k - 1) P.dep P.ls S.lcv lab q) → Q v { s with heap := h', toks := tk' }) :
   wpAny (model prog w) (AR dp un gd env outer) (call (.ref 398) [.ref P.x, .int q tq, .int lab t1]) Q E s := by
  have C₀ := C
  obtain ⟨B, X, T, hf, hk, XB, TB, D⟩ := C
  have hx := H.inst
  have hod := H.off_d
  have hoi := H.off_i
  have hid := H.i_d
  have hid2 := Ne.symm H.i_d
  have hlen := H.len1000
  have hit := H.iterator
  have hhI := H.handed
  have hund := H.undef
  have hrec := H.recurse
  have hkle := H.kle
  have hsmall := H.small
  walk_at "my fill"
  have hI0 := H.idx (S := S) rfl hk0
  obtain ⟨ti, hi⟩ := hI0
  obtain ⟨td, hd⟩ := H.depth0
  have hlabs := H.labs
  have m1 := H.none_ "index" (by decide)
  have m2 := H.none_ "revindex0" (by decide)
  have m3 := H.none_ "revindex" (by decide)
  have m4 := H.none_ "first" (by decide)
  have m5 := H.none_ "last" (by decide)
  have m6 := H.none_ "length" (by decide)
  have m7 := H.none_ "depth" (by decide)
  have m8 := H.none_ "previtem" (by decide)
  have m9 := H.none_ "nextitem" (by decide)
  have m10 := H.none_ "cycle" (by decide)
  have m11 := H.none_ "changed" (by decide)
  have hq : q = 0 ∨ q = 1 ∨ q = 2 ∨ q = 3 ∨ q = 4 ∨ q = 5 ∨ q = 6 ∨ q = 7 ∨ q = 8 ∨ q = 9 ∨ q = 10 ∨ q = 11 ∨ q = 12 ∨ q = 13 := by omega
  rcases hq with rfl | rfl | rfl | rfl | rfl | rfl | rfl | rfl | rfl | rfl | rfl | rfl | rfl | rfl
  all_goals
    refine wpAny_call ?_
    walk_at "my enterS"
    k_steps
  · exact ret _ _ _ S rest _ T0 C₀ (by assumption) (by walk_at "my sub") H Ext.refl rfl rfl (.eqi (by simp [plain]; omega))
  · exact ret _ _ _ S rest _ T0 C₀ (by assumption) (by walk_at "my sub") H Ext.refl rfl rfl (.eqi (by simp [plain]; omega))
  · exact ret _ _ _ _ _ _ (by assumption) (by walk_at "my retcz") (by assumption) (by assumption) (by assumption) (by assumption) (by assumption) (by assumption) (.eqi (by simp [plain]; omega))
  · exact ret _ _ _ _ _ _ (by assumption) (by walk_at "my retcz") (by assumption) (by assumption) (by assumption) (by assumption) (by assumption) (by assumption) (.eqi (by simp [plain]; omega))
  · exact ret _ _ _ S rest _ T0 C₀ (by assumption) (by walk_at "my sub") H Ext.refl rfl rfl (.eqs (by
      rw [show decide (S.k = 1) = decide (S.k - 1 = 0) from by rw [decide_eq_decide]; omega]
      simp [plain, tf]))
  · (rename _ = ({ S with es := _, n := _, o := _, pk := _ } : LS) => e')
    exact ret _ _ _ _ rest _ T0 C₀ (by assumption) (by assumption) (by assumption) (Ext.same (by have z := congrArg LS.i e'; exact z) (by have z := congrArg LS.l e'; exact z)) (by have z := congrArg LS.k e'; exact z) (by rw [if_neg (by decide)]; have z := congrArg LS.lcv e'; exact z) (.eqs (by
      rw [show decide (S.k = P.vs.length) = decide (S.k - 1 + 1 = P.vs.length) from by rw [decide_eq_decide]; omega]
      simp [plain, tf]))
  · exact ret _ _ _ _ _ _ (by assumption) (by walk_at "my retcz") (by assumption) (by assumption) (by assumption) (by assumption) (by assumption) (by assumption) (.eqi (by simp [plain]))
  · exact ret _ _ _ _ _ _ (by assumption) (by walk_at "my retcz") (by assumption) (by assumption) (by assumption) (by assumption) (by assumption) (by assumption) (.eqi (by simp [plain]))
  · exact ret _ _ _ S rest _ T0 C₀ (by assumption) (by walk_at "my sub") H Ext.refl rfl rfl (.eqi (by simp [plain]))
  · exact ret _ _ _ S rest _ T0 C₀ (by assumption) (by walk_at "my sub") H Ext.refl rfl rfl (.eqi (by simp [plain]))
  · (rename P.ls[_]? = some _ => hls)
    (rename 2 ≤ S.k => h2)
    refine ret _ _ _ S rest _ T0 C₀ (by assumption) (by walk_at "my sub") H Ext.refl rfl rfl (.eqi ?_)
    have e0 : ¬ (S.k - 1 = 0) := by omega
    have e1 : S.k - 1 - 1 = S.k - 2 := by omega
    simp [plain, e0, e1, List.getD_eq_getElem?_getD, hls]
  · (rename S.k = 1 => h1)
    refine ret _ _ _ S rest _ T0 C₀ (by assumption) (by walk_at "my sub") H Ext.refl rfl rfl (.eqs ?_)
    simp [plain, h1]
  · (rename _ = ({ S with es := _, n := _, o := _, pk := _ } : LS) => e')
    (rename P.ls[_]? = some _ => hls)
    (rename P.vs[_]? = some _ => hvs)
    refine ret _ _ _ _ rest _ T0 C₀ (by assumption) (by walk_at "my sub") (by assumption) (Ext.same (by have z := congrArg LS.i e'; exact z) (by have z := congrArg LS.l e'; exact z)) (by have z := congrArg LS.k e'; exact z) (by rw [if_neg (by decide)]; have z := congrArg LS.lcv e'; exact z) (.eqi ?_)
    have hlt := (List.getElem?_eq_some_iff.mp hvs).1
    have e0 : ¬ (S.k - 1 + 1 = P.vs.length) := by omega
    have e1 : S.k - 1 + 1 = S.k := by omega
    simp [plain, e0]
    rw [e1, hls]
    rfl
  · (rename _ = ({ S with es := _, n := _, o := _, pk := _ } : LS) => e')
    (rename S.k = P.vs.length => h1)
    refine ret _ _ _ _ rest _ T0 C₀ (by assumption) (by walk_at "my sub") (by assumption) (Ext.same (by have z := congrArg LS.i e'; exact z) (by have z := congrArg LS.l e'; exact z)) (by have z := congrArg LS.k e'; exact z) (by rw [if_neg (by decide)]; have z := congrArg LS.lcv e'; exact z) (.eqs ?_)
    have e0 : S.k - 1 + 1 = P.vs.length := by omega
    simp [plain, e0]
  · exact ret _ _ _ S rest _ T0 C₀ (by assumption) (by walk_at "my sub") H Ext.refl rfl rfl (.eqs (by simp [plain]))
  · exact ret _ _ _ _ _ _ T0 C₀ (by assumption) (by assumption) (by assumption) (by assumption) (by assumption) (by simpa using by assumption) (.eqs (by simp [plain, tf]))
end
end Mine

end
section
theorem Mine.walk_off_B10 : True := by
  w_top off
  trivial
open PySem PySem.W PyProof.Rows PySem.Spec PySem.Calls
set_option Elab.async false
set_option maxRecDepth 100000
set_option maxHeartbeats 8000000
namespace Mine
local macro_rules | `(tactic| walk_at "my fill") => `(tactic| (
  have hfill : (∀ P h, (hd.heap_39 P).In h → (hd.heap_39 P).In h) ∧ PySem.Challenge.rw_co0008_01.about = PySem.Challenge.rw_co0008_01.about := ⟨fun _ _ x => x, rfl⟩
  revert hfill; k_fill; intro hfill; clear hfill))
local macro_rules | `(tactic| walk_at "my room") => `(tactic| first | assumption | ((try simp only [depth_under_make, depth_under_kw, depth_in1, depth_deeper, depth_caller, AR_depth, mark_depth]); omega))
local macro_rules | `(tactic| walk_at "my units") => `(tactic| first | assumption | ((try simp only [units_in1, units_deeper, Around.mark_units, units_caller, AR_units]); omega))
local macro_rules | `(tactic| k_room) => `(tactic| walk_at "my room")
local macro_rules | `(tactic| k_units) => `(tactic| walk_at "my units")
local macro_rules | `(tactic| ke_room) => `(tactic| walk_at "my units")
local macro_rules | `(tactic| k_all) => `(tactic| first | assumption | exact allLt_le (by assumption) (by omega) | exact allLt_ne (by assumption) | exact allLt_ne (And.right (by assumption)) | exact allLt_ne (And.right (And.right (by assumption))) | exact allLt_ne (And.right (And.right (And.right (by assumption)))) | exact allLt_ne (And.right (And.right (And.right (And.right (by assumption))))))
local macro_rules | `(tactic| walk_at "my sub") => `(tactic| (refine News.sub' (by assumption) ?_; intro q hq; first | exact hq | exact .tail _ hq | exact .tail _ (.tail _ hq) | exact .tail _ (.tail _ (.tail _ hq)) | (simp only [List.mem_cons, List.mem_append] at hq ⊢; simp only [hq, or_true])))
local macro_rules | `(tactic| k_get) => `(tactic| first | with_reducible assumption | exact LoopOk.undef (by assumption) | exact LoopOk.recurse (by assumption) | exact LoopOk.iterable (by assumption) | exact LoopOk.iterator (by assumption) | exact getL_put _ | ((with_reducible refine (getL_put_ne ?hne).trans ?_); (case hne => decide); k_get))
local macro_rules | `(tactic| walk_at "my len") => `(tactic| ((repeat refine len_put_of ?_); omega))
local macro_rules | `(tactic| walk_at "my enter") => `(tactic| (
  refine' code_def ?k1 ?k2 ?k3 ?k4 ?k5 ?kA ?kF ?kK ?k6 ?k7 ?k8 ?k9 ?kB ?_ ?c2 ?c3 ?c4 ?c5; (case kA => first | exact rfl | assumption); (case kF => first | exact rfl | assumption); (case kK => first | exact rfl | assumption); (case k1 => k_asm); (case k2 => k_asm); (case k3 => k_asm); (case k4 => k_asm); (case k5 => k_asm); (case k6 => k_is); (case k7 => k_is); (case k8 => walk_at "my room"); (case k9 => first | exact BindsTo.of_eq rfl | exact binds_K (by k_in) rfl (by k_is) rfl rfl rfl | fail "enter: no rule for these arguments"); (case c5 => decide); (case kB => exact locs rfl); (case c2 => exact rfl); (case c3 => exact rfl); (case c4 => exact rfl); k_whole; intro g' L' h' FG' F' N' B' X' T'; (try dsimp only); (try k_fold)))
local macro_rules | `(tactic| walk_at "my prop") => `(tactic| (k_dflt (refine' get_prop ?k1 ?k2 ?k3 ?k4 ?k5 ?k6 ?k7 ?k8 ?k9 ?_; (case k1 => k_asm); (case k2 => k_asm); (case k3 => k_inst); (case k4 => k_is); (case k5 => k_is); (case k6 => k_is); (case k7 => k_is); (case k8 => k_is); (case k9 => k_is); k_whole); walk_at "my enter"))
local macro_rules | `(tactic| walk_at "setAttr ref") => `(tactic| (k_here; k_dflt (refine' set_dict ?k1 ?k2 ?k3 ?k4 ?k5 ?k6 ?k7 ?k8 ?k9 ?k10 ?k11 ?k12 ?k13 ?_; (case k1 => k_asm); (case k2 => k_asm); (case k3 => k_asm); (case k4 => k_inst); (case k5 => exact rfl); (case k6 => k_is); (case k7 => k_is); (case k8 => k_is); (case k9 => k_is); (case k10 => exact getL_isSome (by k_get)); (case k11 => exact rfl); (case k12 => k_upd); (case k13 => walk_at "my len"); k_whole; intro h' F' N'; (try k_sweep))))
local macro_rules | `(tactic| k_mem) => `(tactic| first | with_reducible assumption | exact List.Mem.head _ | (refine' List.mem_cons_of_mem _ ?_; k_mem) | (refine' List.mem_append_left _ ?_; k_mem) | (refine' List.mem_append_right _ ?_; k_mem))
local macro_rules | `(tactic| walk_at "compareOp IsNot ref ref") => `(tactic| (k_here; first | refine wpAny_isNot_ref_self ?_ | (k_dflt (refine' isNot_right ?n ?a ?b ?c ?_; (case n => kto_ne); (case a => kto_obj); (case b => kto_obj); (case c => kto_not); k_whole))))
local macro_rules | `(tactic| walk_at "compareOp Is ref ref") => `(tactic| (k_here; first | refine wpAny_is_ref_self ?_ | (k_dflt (refine' is_right ?n ?a ?b ?c ?_; (case n => kto_ne); (case a => kto_obj); (case b => kto_obj); (case c => kto_not); k_whole))))
local macro_rules | `(tactic| walk_at "my cx") => `(tactic| exact ⟨by k_asm, by k_asm, by k_asm, rfl, by first | rfl | assumption, by first | rfl | assumption⟩)
local macro_rules | `(tactic| walk_at "my cy") => `(tactic| exact ⟨by k_asm, by k_asm, by k_asm, by first | rfl | assumption, by first | rfl | assumption⟩)
local macro_rules | `(tactic| k_handed) => `(tactic| with_reducible assumption)
local macro_rules | `(tactic| walk_at "my rest") => `(tactic| (refine' kp_rest ?k1 ?k2 ?k3 ?k4 ?k5 ?kA ?kF ?kK ?k6 ?k7 ?k8 ?kV ?kP ?kG ?kB ?_ ?c2 ?c3 ?c4 ?c5; (case kA => exact rfl); (case kF => first | exact rfl | assumption); (case kK => first | exact rfl | assumption); (case k1 => k_asm); (case k2 => k_asm); (case k3 => k_asm); (case k4 => k_asm); (case k5 => k_asm); (case k6 => k_is); (case k7 => k_is); (case k8 => k_room); (case kV => kl_lit); (case kP => exact rfl); (case kG => exact fun _ => rfl); (case kB => exact fun _ => locs rfl); (case c5 => decide); (case c2 => exact rfl); (case c3 => exact rfl); (case c4 => exact rfl); k_whole; intro D' g' L' h' l1 FG' F' N' B' X' T'; (try k_lt l1); (try dsimp only); (try k_fold)))
local macro_rules | `(tactic| walk_at "compareOp NotEq ref ref") => `(tactic| (k_here; (with_reducible show wpAny _ _ (compareOp _ (Value.ref 92) (Value.ref _)) _ _ _); k_dflt (refine' inst_ne_tuple ?X ?I ?t ?c ?n ?h1 ?h2 ?h3 ?h4 ?h5 ?u ?_; (case X => k_in); (case I => refine' InstAt.of_K ?kx ?kl ?km; (case kx => k_in); (case kl => k_is); (case km => k_is)); (case t => exact kto_N (by k_asm) (by k_mem)); (case c => rfl); (case n => kto_ne); (case h1 => k_is); (case h2 => k_is); (case h3 => k_is); (case h4 => k_is); (case h5 => k_is); (case u => walk_at "my units"); k_whole)))
local macro_rules | `(tactic| walk_at "my enterS") => `(tactic| (
  refine' enterS ?k1 ?k2 ?k3 ?k4 ?k5 ?XB ?TB ?D ?T0 ?kA ?kF ?kK ?k6 ?k7 ?k8 ?k9 ?kB ?_ ?c2 ?c3 ?c4 ?c5; (case kA => exact rfl); (case kF => first | exact rfl | assumption); (case kK => first | exact rfl | assumption); (case k2 => k_asm); (case k1 => k_asm); (case k3 => k_asm); (case k4 => k_asm); (case k5 => k_asm); (case XB => assumption); (case TB => assumption); (case D => assumption); (case T0 => first | assumption | exact KtsTurn.refl); (case k6 => k_is); (case k7 => k_is); (case k8 => walk_at "my room"); (case k9 => first | exact BindsTo.of_eq rfl | exact binds_K (by k_in) rfl (by k_is) rfl rfl rfl | fail "enterS: no rule for these arguments"); (case c5 => decide); (case kB => exact locs rfl); (case c2 => exact rfl); (case c3 => exact rfl); (case c4 => exact rfl); k_whole; intro g' L' h' FG' F' N' B' X' T' D' lL'; (try dsimp only); (try k_fold)))
local macro_rules | `(tactic| walk_at "my propS") => `(tactic| (k_dflt (refine' get_prop ?k1 ?k2 ?k3 ?k4 ?k5 ?k6 ?k7 ?k8 ?k9 ?_; (case k1 => k_asm); (case k2 => k_asm); (case k3 => k_inst); (case k4 => k_is); (case k5 => k_is); (case k6 => k_is); (case k7 => k_is); (case k8 => k_is); (case k9 => k_is); k_whole); walk_at "my enterS"))
local macro_rules | `(tactic| walk_at "call builtin:iter") => `(tactic| (k_here; (with_reducible show wpAny _ _ (call (Value.builtin "iter") [Value.ref _]) _ _ _); k_dflt (first
  | (refine' iter_list ?F ?N ?m ?_; (case F => k_asm); (case N => k_asm); (case m => k_mem); k_whole; intro i' h' F' N' l1; (try k_lt l1); (try k_sweep))
  | (refine' iter_map ?N ?m ?_; (case N => k_asm); (case m => k_mem); k_whole))))
local macro_rules | `(tactic| walk_at "call builtin:len") => `(tactic| (k_here; (with_reducible show wpAny _ _ (call (Value.builtin "len") [Value.ref _]) _ _ _); k_dflt (refine' len_list ?l ?z ?_; (case l => exact News.isList (by k_asm) (by k_mem)); (case z => rw [List.size_toArray]; (try simp only [List.length_drop]); omega); (try rw [List.size_toArray]))))
local macro_rules | `(tactic| walk_at "my cz") => `(tactic| exact ⟨by k_asm, by k_asm, by k_asm, by first | rfl | assumption, by first | rfl | assumption, by assumption, by assumption, by assumption⟩)
local macro_rules | `(tactic| walk_at "my retcz") => `(tactic| exact ⟨by assumption, by assumption, by assumption, by assumption, by assumption, by assumption, by assumption, by assumption⟩)
local macro_rules | `(tactic| walk_at "my enterSC") => `(tactic| (refine' enterSC ?k1 ?k2 ?k3 ?k4 ?k5 ?XB ?TB ?D ?T0 ?kA ?kF ?kK ?k6 ?k7 ?k8 ?k9 ?kB ?kD ?_ ?c2 ?c3 ?c4; (case kA => exact rfl); (case kF => first | exact rfl | assumption); (case kK => first | exact rfl | assumption); (case k2 => k_asm); (case k1 => k_asm); (case k3 => k_asm); (case k4 => k_asm); (case k5 => k_asm); (case XB => assumption); (case TB => assumption); (case D => assumption); (case T0 => first | assumption | exact KtsTurn.refl); (case k6 => k_is); (case k7 => k_is); (case k8 => walk_at "my room"); (case k9 => assumption); (case kB => exact rfl); (case kD => decide +kernel); (case c2 => exact rfl); (case c3 => exact rfl); (case c4 => exact rfl); k_whole; intro g' L' h' tk' cells' FG' F' N' Y' B' X' T' D' lL'; k_cells Y'; (try simp only [List.cons_append, List.nil_append] at N'); (try dsimp only); (try k_fold)))
local macro_rules | `(tactic| walk_at "my next1") => `(tactic| (k_dflt (refine' next1_item (pre := [_]) ?C ?hd ?F ?N ?h1 ?h2 ?V ?I ?_; (case C => walk_at "my cx"); (case F => k_asm); (case N => k_asm); (case hd => walk_at "my room"); (case h1 => k_all); (case h2 => k_all); (case V => assumption); (case I => assumption); k_whole; intro h' tk' o' F' N' I'; (try k_sweep))))
theorem LoopOk.setNext' {P : Lp} {S : LS} {rest : List (Addr × Obj)} (H : LoopOk P S rest) {hs1 hs2 hs3 : Int} {tk1 tk2 tk3 t : Tok} {v b : Value} {n' : Nat} {o' : Obj} {es' : List DictEntry} {i0 : Int} (hi0 : i0 = S.k) (he : room es' ≤ 11)
    (same : ∀ y : Str, y ≠ "_after" → getL y es' = getL y S.es) (ha : getL "_after" es' = some none ∨ getL "_after" es' = some (some (.ref 92)))
    (hv : P.vs[S.k]? = some v) (hb : S.k ≠ 0 → P.vs[S.k - 1]? = some b) (hi : It1 S.l rest o' (P.vs.drop (S.k + 1))) :
    LoopOk P { S with es := putL "_current" hs3 (.str "_current" tk3) v (putL "_before" hs2 (.str "_before" tk2) b (putL "index0" hs1 (.str "index0" tk1) (.int i0 t) es')), n := n', o := o', k := S.k + 1, pk := false } rest := by
  subst hi0
  exact H.setNext he same ha hv hb hi
section
variable {prog : Program} {w : World} {dp un : Nat} {gd : Option (List Code)} {A₀ : Around} {env : Env} {outer : List Env} {base h₀ : Heap} {p : Program} {loose : List Str} {mean : ExcName → Option Value} {mg mb : Str → Option Value} {L : Addr} {m : Str → Option Value} {rest : List (Addr × Obj)} {s : Shared} {E Q : Value → Shared → Prop} {ex : Bool} {P : Lp} {S : LS}

theorem step_item (C : Cy w A₀ env outer base h₀ p loose mean mg mb L) (F : Fr h₀ L s.heap m) (N : News h₀ L s.heap (Led P S rest)) (H : LoopOk P S rest) (hdp : dp + 10 < recursionLimit) (hun : un + 60 < cLine) {v : Value} (hv : P.vs[S.k]? = some v)
   (ret : ∀ h' tk' S' a, Fr h₀ L h' m → News h₀ L h' ((a, ({ cls := .type "tuple", data := .seq #[v, .ref P.x] } : Obj)) :: Led P S' rest) → LoopOk P S' rest → S'.k = S.k + 1 → S'.i = S.i → S'.l = S.l → S'.lcv = S.lcv → (∀ q ∈ Led P S' rest, q.1 < a) → Q (.ref a) { s with heap := h', toks := tk' }) :
   wpAny (model prog w) (AR dp un gd env outer) (call (.ref 266) [.ref P.x]) Q E s := by
  obtain ⟨B, X, T, hf, hk⟩ := C
  have hx := H.inst
  have hod := H.off_d
  have hoi := H.off_i
  have hid := H.i_d
  have hid2 := Ne.symm H.i_d
  have hlen := H.len1000
  have hit := H.iterator
  have hhI := H.handed
  have hund := H.undef
  have hrec := H.recurse
  have hkle := H.kle
  have hsmall := H.small
  walk_at "my fill"
  have hV := H.itV
  have hI := H.it1
  have hmeth := H.none_ "__next__" (by decide)
  obtain ⟨ob, hob⟩ := H.someB
  obtain ⟨_, _, a, t1, kl, ask, t2, sz, rfl, hm⟩ := H.labs.get hv
  have hdr : P.vs.drop S.k = .ref a :: P.vs.drop (S.k + 1) := by
    rw [List.drop_eq_getElem_cons (List.getElem?_eq_some_iff.mp hv).1, (List.getElem?_eq_some_iff.mp hv).2]
  have hcur : (S.k = 0 ∧ getL "_current" S.es = some none ∧ getL "index0" S.es = some none) ∨ (S.k ≠ 0 ∧ ∃ b t, P.vs[S.k - 1]? = some b ∧ getL "_current" S.es = some (some b) ∧ getL "index0" S.es = some (some (.int ((S.k : Int) - 1) t))) := by
    rcases H.current with ⟨h0, h1⟩ | ⟨h0, b, h1, h2⟩
    · rcases H.index0 with ⟨_, h3⟩ | ⟨h3, _⟩
      · exact .inl ⟨h0, h1, h3⟩
      · exact absurd h0 h3
    · rcases H.index0 with ⟨h3, _⟩ | ⟨_, t, h3⟩
      · exact absurd h3 h0
      · exact .inr ⟨h0, b, t, h1, h2, h3⟩
  rcases hcur with ⟨hk0, hc, hi⟩ | ⟨hk0, b, t0, hb, hc, hi⟩
  rotate_left 1
  obtain ⟨_, _, ab, tb1, klb, askb, tb2, szb, rfl, hmb⟩ := H.labs.get hb
  all_goals rcases H.after with ⟨hp, ha⟩ | ⟨hp, ha⟩ | ⟨hp, v', hv', ha⟩
  all_goals (try (rw [hp, show S.k + false.toNat = S.k from rfl, hdr] at hI))
  all_goals (try (obtain rfl := Option.some.inj (hv.symm.trans hv')))
  all_goals
    refine wpAny_call ?_
    walk_at "my enter"
    k_steps
  all_goals (try (walk_at "my next1"; k_steps))
  · (rename News h₀ L _ _ => kN); (rename P.d < _ ∧ _ ∧ _ => kl)
    exact ret _ _ { S with es := _, n := _, o := _, k := S.k + 1, pk := false } _ (by assumption) kN (H.setNext' (by omega) H.size (fun y _ => rfl) (.inl ha) hv (fun _ => hb) (by assumption)) rfl rfl rfl rfl (led_lt kl)
  · (rename News h₀ L _ _ => kN); (rename P.d < _ ∧ _ ∧ _ => kl)
    exact ret _ _ { S with es := _, n := _, o := _, k := S.k + 1, pk := false } _ (by assumption) kN (H.setNext' (by omega) H.size (fun y _ => rfl) (.inr ha) hv (fun _ => hb) (by assumption)) rfl rfl rfl rfl (led_lt kl)
  · (rename News h₀ L _ _ => kN); (rename P.d < _ ∧ _ ∧ _ => kl)
    exact ret _ _ { S with es := _, n := _, o := _, k := S.k + 1, pk := false } _ (by assumption) kN (H.setNext' (by omega) (Nat.le_trans (room_after (getL_isSome ha)) H.size) (fun y hy => getL_put_ne (Ne.symm hy)) (.inr (getL_put _)) hv (fun _ => hb) (by rw [hp] at hI; exact hI)) rfl rfl rfl rfl (led_lt kl)
  · (rename News h₀ L _ _ => kN); (rename P.d < _ ∧ _ ∧ _ => kl)
    exact ret _ _ { S with es := _, n := _, o := _, k := S.k + 1, pk := false } _ (by assumption) kN (H.setNext' (by omega) H.size (fun y _ => rfl) (.inl ha) hv (fun h => absurd hk0 h) (by assumption)) rfl rfl rfl rfl (led_lt kl)
  · (rename News h₀ L _ _ => kN); (rename P.d < _ ∧ _ ∧ _ => kl)
    exact ret _ _ { S with es := _, n := _, o := _, k := S.k + 1, pk := false } _ (by assumption) kN (H.setNext' (by omega) H.size (fun y _ => rfl) (.inr ha) hv (fun h => absurd hk0 h) (by assumption)) rfl rfl rfl rfl (led_lt kl)
  · (rename News h₀ L _ _ => kN); (rename P.d < _ ∧ _ ∧ _ => kl)
    exact ret _ _ { S with es := _, n := _, o := _, k := S.k + 1, pk := false } _ (by assumption) kN (H.setNext' (by omega) (Nat.le_trans (room_after (getL_isSome ha)) H.size) (fun y hy => getL_put_ne (Ne.symm hy)) (.inr (getL_put _)) hv (fun h => absurd hk0 h) (by rw [hp] at hI; exact hI)) rfl rfl rfl rfl (led_lt kl)
end
end Mine

end
section
theorem Mine.walk_off_B11 : True := by
  w_top off
  trivial
open PySem PySem.W PyProof.Rows PySem.Spec PySem.Calls
set_option Elab.async false
set_option maxRecDepth 100000
set_option maxHeartbeats 8000000
namespace Mine
local macro_rules | `(tactic| walk_at "my fill") => `(tactic| (
  have hfill : (∀ P h, (hd.heap_39 P).In h → (hd.heap_39 P).In h) ∧ PySem.Challenge.rw_co0008_01.about = PySem.Challenge.rw_co0008_01.about := ⟨fun _ _ x => x, rfl⟩
  revert hfill; k_fill; intro hfill; clear hfill))
local macro_rules | `(tactic| walk_at "my room") => `(tactic| first | assumption | ((try simp only [depth_under_make, depth_under_kw, depth_in1, depth_deeper, depth_caller, AR_depth, mark_depth]); omega))
local macro_rules | `(tactic| walk_at "my units") => `(tactic| first | assumption | ((try simp only [units_in1, units_deeper, Around.mark_units, units_caller, AR_units]); omega))
local macro_rules | `(tactic| k_room) => `(tactic| walk_at "my room")
local macro_rules | `(tactic| k_units) => `(tactic| walk_at "my units")
local macro_rules | `(tactic| ke_room) => `(tactic| walk_at "my units")
local macro_rules | `(tactic| k_all) => `(tactic| first | assumption | exact allLt_le (by assumption) (by omega) | exact allLt_ne (by assumption) | exact allLt_ne (And.right (by assumption)) | exact allLt_ne (And.right (And.right (by assumption))) | exact allLt_ne (And.right (And.right (And.right (by assumption)))) | exact allLt_ne (And.right (And.right (And.right (And.right (by assumption))))))
local macro_rules | `(tactic| walk_at "my sub") => `(tactic| (refine News.sub' (by assumption) ?_; intro q hq; first | exact hq | exact .tail _ hq | exact .tail _ (.tail _ hq) | exact .tail _ (.tail _ (.tail _ hq)) | (simp only [List.mem_cons, List.mem_append] at hq ⊢; simp only [hq, or_true])))
local macro_rules | `(tactic| k_get) => `(tactic| first | with_reducible assumption | exact LoopOk.undef (by assumption) | exact LoopOk.recurse (by assumption) | exact LoopOk.iterable (by assumption) | exact LoopOk.iterator (by assumption) | exact getL_put _ | ((with_reducible refine (getL_put_ne ?hne).trans ?_); (case hne => decide); k_get))
local macro_rules | `(tactic| walk_at "my len") => `(tactic| ((repeat refine len_put_of ?_); omega))
local macro_rules | `(tactic| walk_at "my enter") => `(tactic| (
  refine' code_def ?k1 ?k2 ?k3 ?k4 ?k5 ?kA ?kF ?kK ?k6 ?k7 ?k8 ?k9 ?kB ?_ ?c2 ?c3 ?c4 ?c5; (case kA => first | exact rfl | assumption); (case kF => first | exact rfl | assumption); (case kK => first | exact rfl | assumption); (case k1 => k_asm); (case k2 => k_asm); (case k3 => k_asm); (case k4 => k_asm); (case k5 => k_asm); (case k6 => k_is); (case k7 => k_is); (case k8 => walk_at "my room"); (case k9 => first | exact BindsTo.of_eq rfl | exact binds_K (by k_in) rfl (by k_is) rfl rfl rfl | fail "enter: no rule for these arguments"); (case c5 => decide); (case kB => exact locs rfl); (case c2 => exact rfl); (case c3 => exact rfl); (case c4 => exact rfl); k_whole; intro g' L' h' FG' F' N' B' X' T'; (try dsimp only); (try k_fold)))
local macro_rules | `(tactic| walk_at "my prop") => `(tactic| (k_dflt (refine' get_prop ?k1 ?k2 ?k3 ?k4 ?k5 ?k6 ?k7 ?k8 ?k9 ?_; (case k1 => k_asm); (case k2 => k_asm); (case k3 => k_inst); (case k4 => k_is); (case k5 => k_is); (case k6 => k_is); (case k7 => k_is); (case k8 => k_is); (case k9 => k_is); k_whole); walk_at "my enter"))
local macro_rules | `(tactic| walk_at "setAttr ref") => `(tactic| (k_here; k_dflt (refine' set_dict ?k1 ?k2 ?k3 ?k4 ?k5 ?k6 ?k7 ?k8 ?k9 ?k10 ?k11 ?k12 ?k13 ?_; (case k1 => k_asm); (case k2 => k_asm); (case k3 => k_asm); (case k4 => k_inst); (case k5 => exact rfl); (case k6 => k_is); (case k7 => k_is); (case k8 => k_is); (case k9 => k_is); (case k10 => exact getL_isSome (by k_get)); (case k11 => exact rfl); (case k12 => k_upd); (case k13 => walk_at "my len"); k_whole; intro h' F' N'; (try k_sweep))))
local macro_rules | `(tactic| k_mem) => `(tactic| first | with_reducible assumption | exact List.Mem.head _ | (refine' List.mem_cons_of_mem _ ?_; k_mem) | (refine' List.mem_append_left _ ?_; k_mem) | (refine' List.mem_append_right _ ?_; k_mem))
local macro_rules | `(tactic| walk_at "compareOp IsNot ref ref") => `(tactic| (k_here; first | refine wpAny_isNot_ref_self ?_ | (k_dflt (refine' isNot_right ?n ?a ?b ?c ?_; (case n => kto_ne); (case a => kto_obj); (case b => kto_obj); (case c => kto_not); k_whole))))
local macro_rules | `(tactic| walk_at "compareOp Is ref ref") => `(tactic| (k_here; first | refine wpAny_is_ref_self ?_ | (k_dflt (refine' is_right ?n ?a ?b ?c ?_; (case n => kto_ne); (case a => kto_obj); (case b => kto_obj); (case c => kto_not); k_whole))))
local macro_rules | `(tactic| walk_at "my cx") => `(tactic| exact ⟨by k_asm, by k_asm, by k_asm, rfl, by first | rfl | assumption, by first | rfl | assumption⟩)
local macro_rules | `(tactic| walk_at "my cy") => `(tactic| exact ⟨by k_asm, by k_asm, by k_asm, by first | rfl | assumption, by first | rfl | assumption⟩)
local macro_rules | `(tactic| k_handed) => `(tactic| with_reducible assumption)
local macro_rules | `(tactic| walk_at "my rest") => `(tactic| (refine' kp_rest ?k1 ?k2 ?k3 ?k4 ?k5 ?kA ?kF ?kK ?k6 ?k7 ?k8 ?kV ?kP ?kG ?kB ?_ ?c2 ?c3 ?c4 ?c5; (case kA => exact rfl); (case kF => first | exact rfl | assumption); (case kK => first | exact rfl | assumption); (case k1 => k_asm); (case k2 => k_asm); (case k3 => k_asm); (case k4 => k_asm); (case k5 => k_asm); (case k6 => k_is); (case k7 => k_is); (case k8 => k_room); (case kV => kl_lit); (case kP => exact rfl); (case kG => exact fun _ => rfl); (case kB => exact fun _ => locs rfl); (case c5 => decide); (case c2 => exact rfl); (case c3 => exact rfl); (case c4 => exact rfl); k_whole; intro D' g' L' h' l1 FG' F' N' B' X' T'; (try k_lt l1); (try dsimp only); (try k_fold)))
local macro_rules | `(tactic| walk_at "compareOp NotEq ref ref") => `(tactic| (k_here; (with_reducible show wpAny _ _ (compareOp _ (Value.ref 92) (Value.ref _)) _ _ _); k_dflt (refine' inst_ne_tuple ?X ?I ?t ?c ?n ?h1 ?h2 ?h3 ?h4 ?h5 ?u ?_; (case X => k_in); (case I => refine' InstAt.of_K ?kx ?kl ?km; (case kx => k_in); (case kl => k_is); (case km => k_is)); (case t => exact kto_N (by k_asm) (by k_mem)); (case c => rfl); (case n => kto_ne); (case h1 => k_is); (case h2 => k_is); (case h3 => k_is); (case h4 => k_is); (case h5 => k_is); (case u => walk_at "my units"); k_whole)))
local macro_rules | `(tactic| walk_at "my enterS") => `(tactic| (
  refine' enterS ?k1 ?k2 ?k3 ?k4 ?k5 ?XB ?TB ?D ?T0 ?kA ?kF ?kK ?k6 ?k7 ?k8 ?k9 ?kB ?_ ?c2 ?c3 ?c4 ?c5; (case kA => exact rfl); (case kF => first | exact rfl | assumption); (case kK => first | exact rfl | assumption); (case k2 => k_asm); (case k1 => k_asm); (case k3 => k_asm); (case k4 => k_asm); (case k5 => k_asm); (case XB => assumption); (case TB => assumption); (case D => assumption); (case T0 => first | assumption | exact KtsTurn.refl); (case k6 => k_is); (case k7 => k_is); (case k8 => walk_at "my room"); (case k9 => first | exact BindsTo.of_eq rfl | exact binds_K (by k_in) rfl (by k_is) rfl rfl rfl | fail "enterS: no rule for these arguments"); (case c5 => decide); (case kB => exact locs rfl); (case c2 => exact rfl); (case c3 => exact rfl); (case c4 => exact rfl); k_whole; intro g' L' h' FG' F' N' B' X' T' D' lL'; (try dsimp only); (try k_fold)))
local macro_rules | `(tactic| walk_at "my propS") => `(tactic| (k_dflt (refine' get_prop ?k1 ?k2 ?k3 ?k4 ?k5 ?k6 ?k7 ?k8 ?k9 ?_; (case k1 => k_asm); (case k2 => k_asm); (case k3 => k_inst); (case k4 => k_is); (case k5 => k_is); (case k6 => k_is); (case k7 => k_is); (case k8 => k_is); (case k9 => k_is); k_whole); walk_at "my enterS"))
local macro_rules | `(tactic| walk_at "call builtin:iter") => `(tactic| (k_here; (with_reducible show wpAny _ _ (call (Value.builtin "iter") [Value.ref _]) _ _ _); k_dflt (first
  | (refine' iter_list ?F ?N ?m ?_; (case F => k_asm); (case N => k_asm); (case m => k_mem); k_whole; intro i' h' F' N' l1; (try k_lt l1); (try k_sweep))
  | (refine' iter_map ?N ?m ?_; (case N => k_asm); (case m => k_mem); k_whole))))
local macro_rules | `(tactic| walk_at "call builtin:len") => `(tactic| (k_here; (with_reducible show wpAny _ _ (call (Value.builtin "len") [Value.ref _]) _ _ _); k_dflt (refine' len_list ?l ?z ?_; (case l => exact News.isList (by k_asm) (by k_mem)); (case z => rw [List.size_toArray]; (try simp only [List.length_drop]); omega); (try rw [List.size_toArray]))))
local macro_rules | `(tactic| walk_at "my cz") => `(tactic| exact ⟨by k_asm, by k_asm, by k_asm, by first | rfl | assumption, by first | rfl | assumption, by assumption, by assumption, by assumption⟩)
local macro_rules | `(tactic| walk_at "my retcz") => `(tactic| exact ⟨by assumption, by assumption, by assumption, by assumption, by assumption, by assumption, by assumption, by assumption⟩)
local macro_rules | `(tactic| walk_at "my enterSC") => `(tactic| (refine' enterSC ?k1 ?k2 ?k3 ?k4 ?k5 ?XB ?TB ?D ?T0 ?kA ?kF ?kK ?k6 ?k7 ?k8 ?k9 ?kB ?kD ?_ ?c2 ?c3 ?c4; (case kA => exact rfl); (case kF => first | exact rfl | assumption); (case kK => first | exact rfl | assumption); (case k2 => k_asm); (case k1 => k_asm); (case k3 => k_asm); (case k4 => k_asm); (case k5 => k_asm); (case XB => assumption); (case TB => assumption); (case D => assumption); (case T0 => first | assumption | exact KtsTurn.refl); (case k6 => k_is); (case k7 => k_is); (case k8 => walk_at "my room"); (case k9 => assumption); (case kB => exact rfl); (case kD => decide +kernel); (case c2 => exact rfl); (case c3 => exact rfl); (case c4 => exact rfl); k_whole; intro g' L' h' tk' cells' FG' F' N' Y' B' X' T' D' lL'; k_cells Y'; (try simp only [List.cons_append, List.nil_append] at N'); (try dsimp only); (try k_fold)))
section
variable {prog : Program} {w : World} {dp un : Nat} {gd : Option (List Code)} {A₀ : Around} {env : Env} {outer : List Env} {base h₀ : Heap} {p : Program} {loose : List Str} {mean : ExcName → Option Value} {mg mb : Str → Option Value} {L : Addr} {m : Str → Option Value} {rest : List (Addr × Obj)} {s : Shared} {E Q : Value → Shared → Prop} {ex : Bool} {P : Lp} {S : LS}

theorem step_end (C : Cy w A₀ env outer base h₀ p loose mean mg mb L) (F : Fr h₀ L s.heap m) (N : News h₀ L s.heap (Led P S rest)) (H : LoopOk P S rest) (hdp : dp + 10 < recursionLimit) (hun : un + 60 < cLine) (hv : S.k = P.vs.length)
   (raised : ∀ h' tk' G e o', Fr h₀ L G m → RaisedSN base G (env :: outer) e (.type "StopIteration") (Led P { S with o := o' } rest) h' → G.UpToSlots h' → E (.ref e) { s with heap := h', toks := tk' }) :
   wpAny (model prog w) (AR dp un gd env outer) (call (.ref 266) [.ref P.x]) Q E s := by
  obtain ⟨B, X, T, hf, hk⟩ := C
  have hx := H.inst
  have hod := H.off_d
  have hoi := H.off_i
  have hid := H.i_d
  have hid2 := Ne.symm H.i_d
  have hlen := H.len1000
  have hit := H.iterator
  have hhI := H.handed
  have hund := H.undef
  have hrec := H.recurse
  have hkle := H.kle
  have hsmall := H.small
  walk_at "my fill"
  have hV := H.itV
  have hI := H.it1
  have hmeth := H.none_ "__next__" (by decide)
  have hdr : P.vs.drop S.k = [] := by rw [hv]; exact List.drop_length
  rcases H.after with ⟨hp, ha⟩ | ⟨hp, ha⟩ | ⟨hp, v', hv', ha⟩
  rotate_right 1
  · rw [hv, List.getElem?_eq_none (Nat.le_refl _)] at hv'
    cases hv'
  all_goals rw [hp, show S.k + false.toNat = S.k from rfl, hdr] at hI
  all_goals
    refine wpAny_call ?_
    walk_at "my enter"
    k_steps
    refine' next1_end (pre := [_]) ?hh ?F ?N ?h1 ?h2 ?V ?I ?_
    (case hh => exact rfl); (case F => k_asm); (case N => k_asm); (case h1 => k_all); (case h2 => k_all); (case V => assumption); (case I => assumption); k_whole
    intro h₁ h' e o' F' N' I' X'
    refine leave_newS (by assumption) X' F' N' (fun h2 R2 _ U2 => ?_)
    refine leave_onSN (by assumption) (by assumption) R2 U2 (fun h3 R3 _ U3 => ?_)
    exact raised _ _ _ _ o' (by assumption) (by exact R3) U3
end
end Mine

end
section
theorem Mine.walk_off_B12a : True := by
  w_top off
  trivial
open PySem PySem.W PyProof.Rows PySem.Spec PySem.Calls
set_option Elab.async false
set_option maxRecDepth 100000
set_option maxHeartbeats 8000000
namespace Mine
abbrev five (h1 h2 h3 h4 h5 : Int) (t1 t2 t3 t4 t5 : Tok) (rows itv ag : Value) (dep : Int) (td : Tok) : List DictEntry :=
  [{ hash := h1, key := .str "_iterable" t1, val := rows }, { hash := h2, key := .str "_iterator" t2, val := itv }, { hash := h3, key := .str "_undefined" t3, val := .ref 364 }, { hash := h4, key := .str "_recurse" t4, val := ag }, { hash := h5, key := .str "depth0" t5, val := .int dep td }]
theorem five_none {h1 h2 h3 h4 h5 : Int} {t1 t2 t3 t4 t5 : Tok} {rows itv ag : Value} {dep : Int} {td : Tok} {y : Str} (n1 : y ≠ "_iterable") (n2 : y ≠ "_iterator") (n3 : y ≠ "_undefined") (n4 : y ≠ "_recurse") (n5 : y ≠ "depth0") :
    getL y (five h1 h2 h3 h4 h5 t1 t2 t3 t4 t5 rows itv ag dep td) = some none := by
  have e : ∀ (z : Str) (t : Tok), y ≠ z → (Value.str z t).isStr y = false := fun z t h => by
    simp only [Value.isStr, beq_eq_false_iff_ne]
    exact Ne.symm h
  unfold getL
  simp only [List.find?, e _ _ n1, e _ _ n2, e _ _ n3, e _ _ n4, e _ _ n5]
  rfl
theorem fresh_ok {h1 h2 h3 h4 h5 : Int} {t1 t2 t3 t4 t5 : Tok} {rows itv : Value} {dep : Int} {td : Tok} {x d i l n n' : Nat} {vs : List Value} {ls : List Int} {rest : List (Addr × Obj)}
    (hx : (x, instObj 255 d) ∈ rest) (hod : ∀ q ∈ rest, q.1 ≠ d) (hoi : ∀ q ∈ rest, q.1 ≠ i) (hid : i ≠ d) (hls : LabsIn rest vs ls) (hsm : vs.length ≤ 1000) (hl : (l, listOf vs.toArray n) ∈ rest)
    (hr : (rows = .ref l ∧ itv = .ref i) ∨ ∃ mo t, rows = .ref mo ∧ itv = .ref mo ∧ (mo, MP t 384) ∈ rest ∧ (t, T1 (.ref i)) ∈ rest) :
    LoopOk ⟨x, d, rows, .ref 404, dep, vs, ls⟩ ⟨five h1 h2 h3 h4 h5 t1 t2 t3 t4 t5 rows itv (.ref 404) dep td, n', i, LI l 0, itv, 0, false, false, none, l⟩ rest := by
  have hn : ∀ y : Str, y ≠ "_iterable" → y ≠ "_iterator" → y ≠ "_undefined" → y ≠ "_recurse" → y ≠ "depth0" → getL y (five h1 h2 h3 h4 h5 t1 t2 t3 t4 t5 rows itv (.ref 404) dep td) = some none := fun y => five_none
  refine ⟨hx, hod, hoi, hid, hls, hsm, Nat.zero_le _, rfl, rfl, rfl, rfl, ⟨td, rfl⟩, .inl ⟨rfl, hn _ (by decide) (by decide) (by decide) (by decide) (by decide)⟩, .inl ⟨rfl, hn _ (by decide) (by decide) (by decide) (by decide) (by decide)⟩,
    .inl ⟨show 0 < 2 from by decide, none, hn _ (by decide) (by decide) (by decide) (by decide) (by decide)⟩, .inl ⟨rfl, hn _ (by decide) (by decide) (by decide) (by decide) (by decide)⟩, .inl ⟨rfl, hn _ (by decide) (by decide) (by decide) (by decide) (by decide)⟩,
    .inl ⟨rfl, hn _ (by decide) (by decide) (by decide) (by decide) (by decide)⟩, ?_, .inl ⟨0, n, vs, rfl, hl, rfl⟩, ?_, ?_, fun y hy => hn y (Ne.symm (not_field hy (by decide))) (Ne.symm (not_field hy (by decide))) (Ne.symm (not_field hy (by decide))) (Ne.symm (not_field hy (by decide))) (Ne.symm (not_field hy (by decide)))⟩
  · have a0 : ∀ y : Str, y ≠ "_iterable" → y ≠ "_iterator" → y ≠ "_undefined" → y ≠ "_recurse" → y ≠ "depth0" → ab y (five h1 h2 h3 h4 h5 t1 t2 t3 t4 t5 rows itv (.ref 404) dep td) = 1 := fun y n1 n2 n3 n4 n5 => by
      unfold ab; rw [hn y n1 n2 n3 n4 n5]
    show room (five h1 h2 h3 h4 h5 t1 t2 t3 t4 t5 rows itv (.ref 404) dep td) ≤ 11
    unfold room
    rw [a0 "index0" (by decide) (by decide) (by decide) (by decide) (by decide), a0 "_before" (by decide) (by decide) (by decide) (by decide) (by decide), a0 "_current" (by decide) (by decide) (by decide) (by decide) (by decide),
      a0 "_length" (by decide) (by decide) (by decide) (by decide) (by decide), a0 "_after" (by decide) (by decide) (by decide) (by decide) (by decide), a0 "_last_changed_value" (by decide) (by decide) (by decide) (by decide) (by decide)]
    exact Nat.le_refl _
  · rcases hr with ⟨_, h⟩ | ⟨mo, t, _, h2, h3, h4⟩
    · exact .inl h
    · exact .inr ⟨mo, t, h2, h3, h4⟩
  · rcases hr with ⟨h, _⟩ | ⟨mo, t, h1, h2, h3, h4⟩
    · exact .inl ⟨l, n, h, hl⟩
    · exact .inr ⟨mo, t, h1, h3, fun _ => ⟨h2, h4⟩⟩
end Mine

end
section
theorem Mine.walk_off_B12 : True := by
  w_top off
  trivial
open PySem PySem.W PyProof.Rows PySem.Spec PySem.Calls
set_option Elab.async false
set_option maxRecDepth 100000
set_option maxHeartbeats 8000000
namespace Mine
local macro_rules | `(tactic| walk_at "none 0") => `(tactic| skip)
local macro_rules | `(tactic| walk_at "my fill") => `(tactic| (
  have hfill : (∀ P h, (hd.heap_39 P).In h → (hd.heap_39 P).In h) ∧ PySem.Challenge.rw_co0008_01.about = PySem.Challenge.rw_co0008_01.about := ⟨fun _ _ x => x, rfl⟩
  revert hfill; k_fill; intro hfill; clear hfill))
local macro_rules | `(tactic| walk_at "my room") => `(tactic| first | assumption | ((try simp only [depth_under_make, depth_under_kw, depth_in1, depth_deeper, depth_caller, AR_depth, mark_depth]); omega))
local macro_rules | `(tactic| walk_at "my units") => `(tactic| first | assumption | ((try simp only [units_in1, units_deeper, Around.mark_units, units_caller, AR_units]); omega))
local macro_rules | `(tactic| k_room) => `(tactic| walk_at "my room")
local macro_rules | `(tactic| k_units) => `(tactic| walk_at "my units")
local macro_rules | `(tactic| ke_room) => `(tactic| walk_at "my units")
local macro_rules | `(tactic| k_all) => `(tactic| first | assumption | exact allLt_le (by assumption) (by omega) | exact allLt_ne (by assumption) | exact allLt_ne (And.right (by assumption)) | exact allLt_ne (And.right (And.right (by assumption))) | exact allLt_ne (And.right (And.right (And.right (by assumption)))) | exact allLt_ne (And.right (And.right (And.right (And.right (by assumption))))))
local macro_rules | `(tactic| walk_at "my sub") => `(tactic| (refine News.sub' (by assumption) ?_; intro q hq; first | exact hq | exact .tail _ hq | exact .tail _ (.tail _ hq) | exact .tail _ (.tail _ (.tail _ hq)) | (simp only [List.mem_cons, List.mem_append] at hq ⊢; simp only [hq, or_true])))
local macro_rules | `(tactic| k_get) => `(tactic| first | with_reducible assumption | exact LoopOk.undef (by assumption) | exact LoopOk.recurse (by assumption) | exact LoopOk.iterable (by assumption) | exact LoopOk.iterator (by assumption) | exact getL_put _ | ((with_reducible refine (getL_put_ne ?hne).trans ?_); (case hne => decide); k_get))
local macro_rules | `(tactic| walk_at "my len") => `(tactic| ((repeat refine len_put_of ?_); omega))
local macro_rules | `(tactic| walk_at "my enter") => `(tactic| (
  refine' code_def ?k1 ?k2 ?k3 ?k4 ?k5 ?kA ?kF ?kK ?k6 ?k7 ?k8 ?k9 ?kB ?_ ?c2 ?c3 ?c4 ?c5; (case kA => first | exact rfl | assumption); (case kF => first | exact rfl | assumption); (case kK => first | exact rfl | assumption); (case k1 => k_asm); (case k2 => k_asm); (case k3 => k_asm); (case k4 => k_asm); (case k5 => k_asm); (case k6 => k_is); (case k7 => k_is); (case k8 => walk_at "my room"); (case k9 => first | exact BindsTo.of_eq rfl | exact binds_K (by k_in) rfl (by k_is) rfl rfl rfl | fail "enter: no rule for these arguments"); (case c5 => decide); (case kB => exact locs rfl); (case c2 => exact rfl); (case c3 => exact rfl); (case c4 => exact rfl); k_whole; intro g' L' h' FG' F' N' B' X' T'; (try dsimp only); (try k_fold)))
local macro_rules | `(tactic| walk_at "my prop") => `(tactic| (k_dflt (refine' get_prop ?k1 ?k2 ?k3 ?k4 ?k5 ?k6 ?k7 ?k8 ?k9 ?_; (case k1 => k_asm); (case k2 => k_asm); (case k3 => k_inst); (case k4 => k_is); (case k5 => k_is); (case k6 => k_is); (case k7 => k_is); (case k8 => k_is); (case k9 => k_is); k_whole); walk_at "my enter"))
local macro_rules | `(tactic| walk_at "setAttr ref") => `(tactic| (k_here; k_dflt (refine' set_dict ?k1 ?k2 ?k3 ?k4 ?k5 ?k6 ?k7 ?k8 ?k9 ?k10 ?k11 ?k12 ?k13 ?_; (case k1 => k_asm); (case k2 => k_asm); (case k3 => k_asm); (case k4 => k_inst); (case k5 => exact rfl); (case k6 => k_is); (case k7 => k_is); (case k8 => k_is); (case k9 => k_is); (case k10 => exact getL_isSome (by k_get)); (case k11 => exact rfl); (case k12 => k_upd); (case k13 => walk_at "my len"); k_whole; intro h' F' N'; (try k_sweep))))
local macro_rules | `(tactic| k_mem) => `(tactic| first | with_reducible assumption | exact List.Mem.head _ | (refine' List.mem_cons_of_mem _ ?_; k_mem) | (refine' List.mem_append_left _ ?_; k_mem) | (refine' List.mem_append_right _ ?_; k_mem))
local macro_rules | `(tactic| walk_at "compareOp IsNot ref ref") => `(tactic| (k_here; first | refine wpAny_isNot_ref_self ?_ | (k_dflt (refine' isNot_right ?n ?a ?b ?c ?_; (case n => kto_ne); (case a => kto_obj); (case b => kto_obj); (case c => kto_not); k_whole))))
local macro_rules | `(tactic| walk_at "compareOp Is ref ref") => `(tactic| (k_here; first | refine wpAny_is_ref_self ?_ | (k_dflt (refine' is_right ?n ?a ?b ?c ?_; (case n => kto_ne); (case a => kto_obj); (case b => kto_obj); (case c => kto_not); k_whole))))
local macro_rules | `(tactic| walk_at "my cx") => `(tactic| exact ⟨by k_asm, by k_asm, by k_asm, rfl, by first | rfl | assumption, by first | rfl | assumption⟩)
local macro_rules | `(tactic| walk_at "my cy") => `(tactic| exact ⟨by k_asm, by k_asm, by k_asm, by first | rfl | assumption, by first | rfl | assumption⟩)
local macro_rules | `(tactic| k_handed) => `(tactic| with_reducible assumption)
local macro_rules | `(tactic| walk_at "my rest") => `(tactic| (refine' kp_rest ?k1 ?k2 ?k3 ?k4 ?k5 ?kA ?kF ?kK ?k6 ?k7 ?k8 ?kV ?kP ?kG ?kB ?_ ?c2 ?c3 ?c4 ?c5; (case kA => exact rfl); (case kF => first | exact rfl | assumption); (case kK => first | exact rfl | assumption); (case k1 => k_asm); (case k2 => k_asm); (case k3 => k_asm); (case k4 => k_asm); (case k5 => k_asm); (case k6 => k_is); (case k7 => k_is); (case k8 => k_room); (case kV => kl_lit); (case kP => exact rfl); (case kG => exact fun _ => rfl); (case kB => exact fun _ => locs rfl); (case c5 => decide); (case c2 => exact rfl); (case c3 => exact rfl); (case c4 => exact rfl); k_whole; intro D' g' L' h' l1 FG' F' N' B' X' T'; (try k_lt l1); (try dsimp only); (try k_fold)))
local macro_rules | `(tactic| walk_at "compareOp NotEq ref ref") => `(tactic| (k_here; (with_reducible show wpAny _ _ (compareOp _ (Value.ref 92) (Value.ref _)) _ _ _); k_dflt (refine' inst_ne_tuple ?X ?I ?t ?c ?n ?h1 ?h2 ?h3 ?h4 ?h5 ?u ?_; (case X => k_in); (case I => refine' InstAt.of_K ?kx ?kl ?km; (case kx => k_in); (case kl => k_is); (case km => k_is)); (case t => exact kto_N (by k_asm) (by k_mem)); (case c => rfl); (case n => kto_ne); (case h1 => k_is); (case h2 => k_is); (case h3 => k_is); (case h4 => k_is); (case h5 => k_is); (case u => walk_at "my units"); k_whole)))
local macro_rules | `(tactic| walk_at "my enterS") => `(tactic| (
  refine' enterS ?k1 ?k2 ?k3 ?k4 ?k5 ?XB ?TB ?D ?T0 ?kA ?kF ?kK ?k6 ?k7 ?k8 ?k9 ?kB ?_ ?c2 ?c3 ?c4 ?c5; (case kA => exact rfl); (case kF => first | exact rfl | assumption); (case kK => first | exact rfl | assumption); (case k2 => k_asm); (case k1 => k_asm); (case k3 => k_asm); (case k4 => k_asm); (case k5 => k_asm); (case XB => assumption); (case TB => assumption); (case D => assumption); (case T0 => first | assumption | exact KtsTurn.refl); (case k6 => k_is); (case k7 => k_is); (case k8 => walk_at "my room"); (case k9 => first | exact BindsTo.of_eq rfl | exact binds_K (by k_in) rfl (by k_is) rfl rfl rfl | fail "enterS: no rule for these arguments"); (case c5 => decide); (case kB => exact locs rfl); (case c2 => exact rfl); (case c3 => exact rfl); (case c4 => exact rfl); k_whole; intro g' L' h' FG' F' N' B' X' T' D' lL'; (try dsimp only); (try k_fold)))
local macro_rules | `(tactic| walk_at "my propS") => `(tactic| (k_dflt (refine' get_prop ?k1 ?k2 ?k3 ?k4 ?k5 ?k6 ?k7 ?k8 ?k9 ?_; (case k1 => k_asm); (case k2 => k_asm); (case k3 => k_inst); (case k4 => k_is); (case k5 => k_is); (case k6 => k_is); (case k7 => k_is); (case k8 => k_is); (case k9 => k_is); k_whole); walk_at "my enterS"))
local macro_rules | `(tactic| walk_at "call builtin:iter") => `(tactic| (k_here; (with_reducible show wpAny _ _ (call (Value.builtin "iter") [Value.ref _]) _ _ _); k_dflt (first
  | (refine' iter_list ?F ?N ?m ?_; (case F => k_asm); (case N => k_asm); (case m => k_mem); k_whole; intro i' h' F' N' l1; (try k_lt l1); (try k_sweep))
  | (refine' iter_map ?N ?m ?_; (case N => k_asm); (case m => k_mem); k_whole))))
local macro_rules | `(tactic| walk_at "call builtin:len") => `(tactic| (k_here; (with_reducible show wpAny _ _ (call (Value.builtin "len") [Value.ref _]) _ _ _); k_dflt (refine' len_list ?l ?z ?_; (case l => exact News.isList (by k_asm) (by k_mem)); (case z => rw [List.size_toArray]; (try simp only [List.length_drop]); omega); (try rw [List.size_toArray]))))
local macro_rules | `(tactic| walk_at "my cz") => `(tactic| exact ⟨by k_asm, by k_asm, by k_asm, by first | rfl | assumption, by first | rfl | assumption, by assumption, by assumption, by assumption⟩)
local macro_rules | `(tactic| walk_at "my retcz") => `(tactic| exact ⟨by assumption, by assumption, by assumption, by assumption, by assumption, by assumption, by assumption, by assumption⟩)
local macro_rules | `(tactic| walk_at "my enterSC") => `(tactic| (refine' enterSC ?k1 ?k2 ?k3 ?k4 ?k5 ?XB ?TB ?D ?T0 ?kA ?kF ?kK ?k6 ?k7 ?k8 ?k9 ?kB ?kD ?_ ?c2 ?c3 ?c4; (case kA => exact rfl); (case kF => first | exact rfl | assumption); (case kK => first | exact rfl | assumption); (case k2 => k_asm); (case k1 => k_asm); (case k3 => k_asm); (case k4 => k_asm); (case k5 => k_asm); (case XB => assumption); (case TB => assumption); (case D => assumption); (case T0 => first | assumption | exact KtsTurn.refl); (case k6 => k_is); (case k7 => k_is); (case k8 => walk_at "my room"); (case k9 => assumption); (case kB => exact rfl); (case kD => decide +kernel); (case c2 => exact rfl); (case c3 => exact rfl); (case c4 => exact rfl); k_whole; intro g' L' h' tk' cells' FG' F' N' Y' B' X' T' D' lL'; k_cells Y'; (try simp only [List.cons_append, List.nil_append] at N'); (try dsimp only); (try k_fold)))
section
variable {prog : Program} {w : World} {dp un : Nat} {gd : Option (List Code)} {A₀ : Around} {env : Env} {outer : List Env} {base h₀ : Heap} {p : Program} {loose : List Str} {mean : ExcName → Option Value} {mg mb : Str → Option Value} {L : Addr} {m : Str → Option Value} {rest : List (Addr × Obj)} {s : Shared} {E Q : Value → Shared → Prop} {ex : Bool} {P : Lp} {S : LS}

theorem mk_list (C : Cy w A₀ env outer base h₀ p loose mean mg mb L) (F : Fr h₀ L s.heap m) (N : News h₀ L s.heap rest) {l : Addr} {n : Nat} {vs : List Value} {ls : List Int} (hl : (l, listOf vs.toArray n) ∈ rest) (hls : LabsIn rest vs ls) (hsm : vs.length ≤ 1000) {dep : Int} {td : Tok} (hdp : dp + 10 < recursionLimit) (hun : un + 60 < cLine)
   (ret : ∀ h' tk' x d S, Fr h₀ L h' m → News h₀ L h' (Led ⟨x, d, .ref l, .ref 404, dep, vs, ls⟩ S ((x, instObj 255 d) :: rest)) → LoopOk ⟨x, d, .ref l, .ref 404, dep, vs, ls⟩ S ((x, instObj 255 d) :: rest) → S.k = 0 → S.lcv = none → S.l = l →
      (∀ q ∈ rest, q.1 < d) → (∀ q ∈ rest, q.1 < x) → (∀ q ∈ rest, q.1 < S.i) → Q (.ref x) { s with heap := h', toks := tk' }) :
   wpAny (model prog w) (AR dp un gd env outer) (call (.ref 255) [.ref l, .ref 364, .ref 404, .int dep td]) Q E s := by
  obtain ⟨B, X, T, hf, hk⟩ := C
  walk_at "my fill"
  k_dflt (refine' call_cls ?k1 ?k2 ?k3 ?k4 ?k5 ?k6 ?_)
  (case k1 => k_asm); (case k2 => k_asm); (case k3 => k_asm); (case k4 => k_is); (case k5 => k_is); (case k6 => k_is); k_whole
  intro x' d' h' F' N' l1 l2
  have l1' := l1
  replace l1 := allLt_of l1
  k_lt2 l2
  walk_at "my enter"
  k_steps
  (rename News h₀ L _ _ => kN); (rename x' < _ ∧ _ ∧ _ => kl)
  exact ret _ _ _ _ ⟨five _ _ _ _ _ _ _ _ _ _ _ _ _ _ _, _, _, LI l 0, _, 0, false, false, none, l⟩ (by assumption) (News.sub3 kN (by k_mem) (by k_mem) (by k_mem) (fun q hq => by k_mem))
    (fresh_ok (.head _) (fun q hq => by
      rcases List.mem_cons.mp hq with rfl | hq
      · exact Nat.ne_of_gt l2
      · exact Nat.ne_of_lt (l1' q hq)) (fun q hq => by
      rcases List.mem_cons.mp hq with rfl | hq
      · exact Nat.ne_of_lt kl.1
      · exact Nat.ne_of_lt (allLt_mem kl.2.2 q hq)) (Nat.ne_of_gt kl.2.1) (hls.mono fun q hq => .tail _ hq) hsm (.tail _ hl) (.inl ⟨rfl, rfl⟩)) rfl rfl rfl l1' (fun q hq => Nat.lt_trans (l1' q hq) l2) (allLt_mem kl.2.2)

theorem mk_map (C : Cy w A₀ env outer base h₀ p loose mean mg mb L) (F : Fr h₀ L s.heap m) {i l mo t : Addr} (N : News h₀ L s.heap ((i, LI l 0) :: rest)) (hoi : ∀ q ∈ rest, q.1 ≠ i) {n : Nat} {vs : List Value} {ls : List Int} (hl : (l, listOf vs.toArray n) ∈ rest) (hmo : (mo, MP t 384) ∈ rest) (ht : (t, T1 (.ref i)) ∈ rest) (hls : LabsIn rest vs ls) (hsm : vs.length ≤ 1000) {dep : Int} {td : Tok} (hdp : dp + 10 < recursionLimit) (hun : un + 60 < cLine)
   (ret : ∀ h' tk' x d S, Fr h₀ L h' m → News h₀ L h' (Led ⟨x, d, .ref mo, .ref 404, dep, vs, ls⟩ S ((x, instObj 255 d) :: rest)) → LoopOk ⟨x, d, .ref mo, .ref 404, dep, vs, ls⟩ S ((x, instObj 255 d) :: rest) → S.k = 0 → S.lcv = none → S.l = l →
      (∀ q ∈ rest, q.1 < d) → (∀ q ∈ rest, q.1 < x) → i < d → i < x → S.i = i → Q (.ref x) { s with heap := h', toks := tk' }) :
   wpAny (model prog w) (AR dp un gd env outer) (call (.ref 255) [.ref mo, .ref 364, .ref 404, .int dep td]) Q E s := by
  obtain ⟨B, X, T, hf, hk⟩ := C
  walk_at "my fill"
  k_dflt (refine' call_cls ?k1 ?k2 ?k3 ?k4 ?k5 ?k6 ?_)
  (case k1 => k_asm); (case k2 => k_asm); (case k3 => k_asm); (case k4 => k_is); (case k5 => k_is); (case k6 => k_is); k_whole
  intro x' d' h' F' N' l1 l2
  have l1' := l1
  replace l1 := allLt_of l1
  k_lt2 l2
  walk_at "my enter"
  k_steps
  (rename News h₀ L _ _ => kN)
  have li : @LT.lt Nat _ i d' := l1' (i, LI l 0) (.head _)
  have lr : ∀ q ∈ rest, q.1 < d' := fun q hq => l1' q (.tail _ hq)
  exact ret _ _ _ _ ⟨five _ _ _ _ _ _ _ _ _ _ _ _ _ _ _, _, i, LI l 0, _, 0, false, false, none, l⟩ (by assumption) (News.sub3 kN (by k_mem) (by k_mem) (by k_mem) (fun q hq => by k_mem))
    (fresh_ok (.head _) (fun q hq => by
      rcases List.mem_cons.mp hq with rfl | hq
      · exact Nat.ne_of_gt l2
      · exact Nat.ne_of_lt (lr q hq)) (fun q hq => by
      rcases List.mem_cons.mp hq with rfl | hq
      · exact Nat.ne_of_gt (Nat.lt_trans li l2)
      · exact hoi q hq) (Nat.ne_of_lt li) (hls.mono fun q hq => .tail _ hq) hsm (.tail _ hl) (.inr ⟨mo, t, rfl, rfl, .tail _ hmo, .tail _ ht⟩)) rfl rfl rfl lr (fun q hq => Nat.lt_trans (lr q hq) l2) li (Nat.lt_trans li l2) rfl
end
end Mine

end
section
theorem Mine.walk_off_B13 : True := by
  w_top off
  trivial
open PySem PySem.W PyProof.Rows PySem.Spec PySem.Calls
set_option Elab.async false
set_option maxRecDepth 100000
set_option maxHeartbeats 8000000
namespace Mine
/-- what is left of a list block over a range: each turn may turn the ground -/
def CR (prog : Program) (w : World) (A : Around) (Φ : Heap → Prop) (L : Addr) (m : Str → Option Value) (env : Env) (elt : Expr) (x : Str) (scope : Scope) (cl : List (Str × Addr)) (s : Shared) (a : Int)
    (Fin : List Value → List (Addr × Obj) → Prop) : Nat → Nat → List Value → List (Addr × Obj) → Prop
  | 0, _, ys, news => Fin ys news
  | k + 1, i, ys, news => ∀ h₀ t I oI C oC D m₂ h tk (E' : Value → Shared → Prop), Φ h₀ → oI.cls = .type "range_iterator" → LCg.NsObj oC m₂ → m₂ x = some (.int (a + (i : Int)) t) → Fr h₀ L h m → News h₀ L h ((I, oI) :: (C, oC) :: (D, LCg.lst ys) :: news) →
      LCg.Off3 I C D news → ((@Ne Nat I C) ∧ (@Ne Nat I D) ∧ (@Ne Nat C D)) →
      wpAny (model prog w) A (eval elt (compEnvC scope cl C env)) (fun y s₂ => ∃ g₀ h' tk' news', Φ g₀ ∧ s₂ = { s with heap := h', toks := tk' } ∧ Fr g₀ L h' m ∧ News g₀ L h' ((I, oI) :: (C, oC) :: (D, LCg.lst ys) :: news') ∧ LCg.Off3 I C D news' ∧
        CR prog w A Φ L m env elt x scope cl s a Fin k (i + 1) (ys ++ [y]) news') E' { s with heap := h, toks := tk }

section
variable {prog : Program} {w : World} {A : Around} {E : Value → Shared → Prop} {s : Shared} {h₀ : Heap} {L : Addr} {m : Str → Option Value} {env : Env}
theorem none_of_above {g h : Heap} {a : Addr} (k : ∀ b o, g.get? b = some o → h.get? b = some o) (n : h.get? a = none) : g.get? a = none := by
  cases e : g.get? a with
  | none => rfl
  | some o =>
    rw [k a o e] at n
    cases n
theorem size_none {h : Heap} {a : Addr} (ha : h.objs.size ≤ a) : h.get? a = none := by
  cases e : h.get? a with
  | none => rfl
  | some o => exact absurd (Heap.lt_size e) (Nat.not_lt.mpr ha)

theorem block_S {elt iter : Expr} {x : Str} {px : Pos} {scope : Scope} {cl : List (Str × Addr)} {pos : Pos} {s₂ : Shared} {I : Addr} {n : Nat} {a : Int} {Φ : Heap → Prop} {news : List (Addr × Obj)}
    {Fin : List Value → List (Addr × Obj) → Prop} {RR : Value → Addr → Result → Shared → Prop} (hh : A.handled = none) (hsz : n ≤ sizeLine)
    (hcell : ∀ y ∈ scope.names, y.2 ≠ .cell) (hkind : scope.kind = .function) (hx : scope.names.lookup x = some .local) (hst : IsRangeIter s₂.heap I (a + ((0 : Nat) : Int) * 1) ((n : Int) - ((0 : Nat) : Int)) 1)
    (P₀ : Φ h₀) (F : Fr h₀ L s₂.heap m) (N : News h₀ L s₂.heap news) (hIL : L ≠ I) (hI₀ : h₀.get? I = none) (off : ∀ p ∈ news, p.1 ≠ I)
    (R : CR prog w A Φ L m env elt x scope cl s₂ a Fin n 0 [] news)
    (hRR : ∀ g₀ D C h tk m' ys news', Φ g₀ → Fr g₀ L h m → News g₀ L h ((D, LCg.lst ys) :: news') → LCg.Off1 D news' → h.Ns C m' → g₀.get? C = none → C ≠ L → C ≠ D → (∀ p ∈ news', p.1 ≠ C) → Fin ys news' → RR (.ref D) C (.ok .next) { s₂ with heap := h, toks := tk }) :
    wpAny (model prog w) A (newList []) (fun acc s₃ => wpAny (model prog w) A (newFunctionEnv scope env.globals cl [] env.qual none .none (some env)) (fun cenv s₄ =>
      codeAny (model prog w) A (.compStart (.ListComp elt [⟨.Name x px, iter, [], 0⟩] scope pos) 0 (.ref I) acc { cenv with scope := relabel scope env }) (RR acc cenv.locals) s₄) E s₃) E s₂ := by
  refine wpAny_newObj_type (wpAny_newFunctionEnv hcell (by intro y hy; simp at hy) (fun h₁ hns₁ hsb₁ => ?_) hkind)
  dsimp only at hns₁ hsb₁ ⊢
  generalize hH2 : s₂.heap.push { cls := .type "list", dict := none, data := .seq ([] : List Value).toArray } = H2 at hns₁ hsb₁ ⊢
  have hC : H2.objs.size = s₂.heap.objs.size + 1 := by rw [← hH2, Heap.size_push]
  have hDC : @Ne Nat s₂.heap.objs.size H2.objs.size := by omega
  have below : ∀ b, b < s₂.heap.objs.size → @Ne Nat b H2.objs.size ∧ @Ne Nat b s₂.heap.objs.size := fun b hb => ⟨by omega, by omega⟩
  have up : ∀ b o, s₂.heap.get? b = some o → H2.get? b = some o := fun b o e => hH2 ▸ Heap.get?_push_of_some _ e
  have old : ∀ b o, s₂.heap.get? b = some o → h₁.get? b = some o := fun b o e => hsb₁.extBut b o (below b (Heap.lt_size e)).1 (Heap.get?_push_of_some _ (up b o e))
  have hacc : h₁.get? s₂.heap.objs.size = some (LCg.lst []) := hsb₁.extBut _ _ hDC (Heap.get?_push_of_some _ (hH2 ▸ Heap.get?_push_size _ rfl))
  have hIlt : I < s₂.heap.objs.size := Heap.lt_size hst
  have hLlt : L < s₂.heap.objs.size := F.ns.lt
  have nC := none_of_above F.keep (size_none (a := H2.objs.size) (by omega))
  have nD := none_of_above F.keep (size_none (a := s₂.heap.objs.size) (Nat.le_refl _))
  have hDL : s₂.heap.objs.size ≠ L := Ne.symm (below L hLlt).2
  have hCL : H2.objs.size ≠ L := Ne.symm (below L hLlt).1
  have hCI : I ≠ H2.objs.size := (below I hIlt).1
  have hDI : I ≠ s₂.heap.objs.size := (below I hIlt).2
  have W := LCg.range_walks (prog := prog) (w := w) (I := I) hh a n
  have hst₁ : IsRangeIter h₁ I (a + ((0 : Nat) : Int) * 1) ((n : Int) - ((0 : Nat) : Int)) 1 := old _ _ hst
  obtain ⟨oC₁, heC₁, hoC₁⟩ := LCg.ns_obj hns₁
  have loop : ∀ s₃ : Shared, s₃ = { s₂ with heap := h₁, toks := s₂.toks + ([] : List (Str × Value)).length } →
      codeAny (model prog w) A (.compLoop (.ListComp elt [⟨.Name x px, iter, [], 0⟩] scope pos) 0 (.ref I) (.ref s₂.heap.objs.size) (compEnvC scope cl H2.objs.size env))
        (RR (.ref s₂.heap.objs.size) H2.objs.size) s₃ := by
    rintro s₃ rfl
    refine codeAny_compLoop_tests
      (fun k s' => ∃ g₀ h' tk i ys m' oC news', Φ g₀ ∧ s' = { s₂ with heap := h', toks := tk } ∧ i ≤ n ∧ k = n + 1 - i ∧ ys.length = i ∧ IsRangeIter h' I (a + (i : Nat) * 1) ((n : Int) - (i : Nat)) 1 ∧ Fr g₀ L h' m ∧ LCg.NsObj oC m' ∧
        News g₀ L h' ((H2.objs.size, oC) :: (s₂.heap.objs.size, LCg.lst ys) :: news') ∧ g₀.get? I = none ∧
        LCg.Off3 I H2.objs.size s₂.heap.objs.size news' ∧ CR prog w A Φ L m env elt x scope cl s₂ a Fin (n - i) i ys news') ?_ (n + 1)
      ⟨h₀, h₁, _, 0, [], _, oC₁, news, P₀, rfl, Nat.zero_le _, rfl, rfl, hst₁, F.keeps old, hoC₁, fun p hp => ?_, hI₀, LCg.Off3.of fun p hp => ⟨off p hp, (below _ (Heap.lt_size (N p hp).1)).1, (below _ (Heap.lt_size (N p hp).1)).2⟩, R⟩
    · rintro k s' ⟨g₀, h', tk, i, ys, m', oC, news', P', rfl, hi, rfl, hyl, hst', F', hoC, N', hI', off', R'⟩
      have off3 := off'.mem
      have zC := N' (H2.objs.size, oC) (.head _)
      have zD := N' (s₂.heap.objs.size, LCg.lst ys) (.tail _ (.head _))
      by_cases hlt : i < n
      · obtain ⟨j, hj⟩ : ∃ j, n - i = j + 1 := ⟨n - i - 1, by omega⟩
        rw [hj] at R'
        refine W.item i _ _ _ hlt hst' fun v h₂ tk₂ hPv hst₂ hk₂ => ?_
        obtain ⟨t, rfl⟩ := hPv
        have keepB : ∀ b o, b ≠ I → h'.get? b = some o → h₂.get? b = some o := fun b o hb e => hk₂ b o (by simpa using hb) e
        refine wpAny_assign_Name (wpAny_storeName_local (lookup_relabel_local hx) ((hoC.ns zC.1).at' fun o e => keepB _ o (Ne.symm hCI) e) (fun h₃ hn₃ hs₃ => ?_) (by simp [compEnvC, relabel, hkind]))
        refine wpAny_tests_nil ?_
        simp only [if_true]
        have hst₃ : IsRangeIter h₃ I (a + ((i + 1 : Nat) : Int) * 1) ((n : Int) - ((i + 1 : Nat) : Int)) 1 := hs₃.extBut I _ hCI hst₂
        obtain ⟨oC', heC, hoC'⟩ := LCg.ns_obj hn₃
        have F₃ : Fr g₀ L h₃ m := (LCg.fr_but F' hk₂ hIL hI').change hs₃ hCL zC.2.2
        have N₃ : News g₀ L h₃ ((I, _) :: (H2.objs.size, oC') :: (s₂.heap.objs.size, LCg.lst ys) :: news') := fun p hp => by
          rcases List.mem_cons.mp hp with rfl | hp
          · exact ⟨hst₃, Ne.symm hIL, hI'⟩
          · rcases List.mem_cons.mp hp with rfl | hp
            · exact ⟨heC, zC.2⟩
            · have pI : p.1 ≠ I := by
                rcases List.mem_cons.mp hp with rfl | hq
                · exact Ne.symm hDI
                · exact (off3 p hq).1
              have pC : p.1 ≠ H2.objs.size := by
                rcases List.mem_cons.mp hp with rfl | hq
                · exact hDC
                · exact (off3 p hq).2.1
              have z := N' p (.tail _ hp)
              exact ⟨hs₃.extBut _ _ pC (keepB _ _ pI z.1), z.2⟩
        refine wpAny_mono (R' g₀ t I _ H2.objs.size oC' s₂.heap.objs.size _ h₃ _ _ P' rfl hoC' (by simp) F₃ N₃ off' ⟨hCI, hDI, Ne.symm hDC⟩) (fun y s₄ h₄ => ?_) fun _ _ e => e
        obtain ⟨g₄, h₄, tk₄, news₄, P₄, rfl, F₄, N₄, off₄, R₄⟩ := h₄
        have off4 := off₄.mem
        have qI := N₄ (I, _) (.head _)
        have qC := N₄ (H2.objs.size, oC') (.tail _ (.head _))
        have qD := N₄ (s₂.heap.objs.size, LCg.lst ys) (.tail _ (.tail _ (.head _)))
        refine append_at (hsz := by show ys.toArray.size ≤ sizeLine; rw [List.size_toArray, hyl]; exact Nat.le_trans hi hsz) qD.1 fun h₅ hs₅ hD₅ => ?_
        refine ⟨n + 1 - (i + 1), by omega, g₄, h₅, tk₄, i + 1, ys ++ [y], _, oC', news₄, P₄, rfl, hlt, rfl, by rw [List.length_append, List.length_singleton, hyl], hs₅.extBut I _ hDI qI.1, F₄.change hs₅ hDL qD.2.2, hoC', fun p hp => ?_, qI.2.2, off₄, ?_⟩
        · rcases List.mem_cons.mp hp with rfl | hp
          · exact ⟨hs₅.extBut _ _ (Ne.symm hDC) qC.1, qC.2⟩
          · rcases List.mem_cons.mp hp with rfl | hp
            · exact ⟨hD₅.trans (congrArg some (LCg.lst_snoc ys y)), qD.2⟩
            · have z := N₄ p (.tail _ (.tail _ (.tail _ hp)))
              exact ⟨hs₅.extBut _ _ (off4 p hp).2.2 z.1, z.2⟩
        · rw [show n - (i + 1) = j by omega]
          exact R₄
      · obtain rfl : i = n := Nat.le_antisymm hi (Nat.not_lt.mp hlt)
        rw [Nat.sub_self] at R'
        refine W.done _ _ _ hst' fun h₂ tk₂ hk₂ => ?_
        have keepB : ∀ b o, b ≠ I → h'.get? b = some o → h₂.get? b = some o := fun b o hb e => hk₂ b o (by simpa using hb) e
        exact hRR g₀ _ _ h₂ tk₂ _ ys news' P' (LCg.fr_but F' hk₂ hIL hI') (fun p hp => by
          have pI : p.1 ≠ I := by
            rcases List.mem_cons.mp hp with rfl | hq
            · exact Ne.symm hDI
            · exact (off3 p hq).1
          have z := N' p (.tail _ hp)
          exact ⟨keepB _ _ pI z.1, z.2⟩) off'.one ((hoC.ns zC.1).at' fun o e => keepB _ o (Ne.symm hCI) e) zC.2.2 hCL (Ne.symm hDC) (fun p hp => (off3 p hp).2.1) R'
    · rcases List.mem_cons.mp hp with rfl | hp
      · exact ⟨heC₁, hCL, nC⟩
      · rcases List.mem_cons.mp hp with rfl | hp
        · exact ⟨hacc, hDL, nD⟩
        · exact ⟨old _ _ (N p hp).1, (N p hp).2⟩
  exact codeAny_compStart_list (loop _ rfl) (W.self 0 _ _ _ hst₁ (loop _ rfl))

/-- what the range of a list block gives -/
def SrcS (prog : Program) (w : World) (A : Around) (Φ : Heap → Prop) (L : Addr) (m : Str → Option Value) (env : Env) (elt : Expr) (x : Str) (scope : Scope) (cl : List (Str × Addr)) (Q : Value → Shared → Prop) (xv : Value) (s₁ : Shared) : Prop :=
  ∃ h₀ r a b t u v n news, xv = .ref r ∧ Φ h₀ ∧ Fr h₀ L s₁.heap m ∧ News h₀ L s₁.heap news ∧ IsRange s₁.heap r a b 1 t u v ∧ Builtin.Range.small a b 1 = true ∧ Builtin.Range.rangeSize a b 1 = ((n : Nat) : Int) ∧ n ≤ sizeLine ∧
      ∀ s₂ : Shared, (∃ h, s₂ = { s₁ with heap := h }) → CR prog w A Φ L m env elt x scope cl s₂ a (fun ys news' => ∀ g₀ D h tk, Φ g₀ → Fr g₀ L h m → News g₀ L h ((D, LCg.lst ys) :: news') → LCg.Off1 D news' → Q (.ref D) { s₂ with heap := h, toks := tk }) n 0 [] news
/-- a list block over a range, where each turn may turn the ground -/
theorem ListComp_S {elt iter : Expr} {x : Str} {px : Pos} {scope : Scope} {cl : List (Str × Addr)} {pos : Pos} {Q : Value → Shared → Prop} {Φ : Heap → Prop} (F₀ : Fr h₀ L s.heap m) (hh : A.handled = none)
    (hclos : closureFor scope env = pure cl) (hcell : ∀ y ∈ scope.names, y.2 ≠ .cell) (hkind : scope.kind = .function)
    (hnames : ∀ y ∈ scope.names, y.2 = .local → scope.names.lookup y.1 = some .local) (hx : scope.names.lookup x = some .local)
    (h : wpAny (model prog w) A (eval iter env) (SrcS prog w A Φ L m env elt x scope cl Q) E s)
    (hs : ∀ x, foldedSetIterable iter env x = pure x := by intro _; rfl) :
    wpAny (model prog w) A (eval (.ListComp elt [⟨.Name x px, iter, [], 0⟩] scope pos) env) Q E s := by
  rw [eval_ListComp]
  refine wpAny_comprehension_free (use := none) rfl hs hclos hkind hnames (wpAny_mono h (fun xv s₁ h₁ => ?_) fun _ _ e => e)
  obtain ⟨h₀, r, a, b, t, u, v, n, news, rfl, P₀, F, N, hr, hsm, hn, hsz, R⟩ := h₁
  refine wpAny_pyIter_range hr hsm ?_
  refine block_S (L := L) hh hsz hcell hkind hx (by show IsRangeIter _ _ _ _ _; rw [hn]; simpa using Heap.get?_push_size _ rfl) P₀
    (F.keeps fun _ _ e => Heap.get?_push_of_some _ e) (N.grown fun _ _ e => Heap.get?_push_of_some _ e) (Nat.ne_of_lt F.ns.lt) (next_is_new F) (fun p hp => Nat.ne_of_lt (Heap.lt_size (N p hp).1)) (R _ ⟨_, rfl⟩) ?_
  intro g₀ D C h tk m' ys news' P' F' N' o1 hn hC₀ hCL hCD offC fin
  refine ⟨m', hn, fun h'' hs'' => fin g₀ D h'' tk P' (F'.change hs'' hCL hC₀) (fun p hp => ?_) o1⟩
  refine ⟨hs''.extBut _ _ ?_ (N' p hp).1, (N' p hp).2⟩
  rcases List.mem_cons.mp hp with rfl | hp
  · exact Ne.symm hCD
  · exact offC p hp
end
end Mine

end
section
theorem Mine.walk_off_B14a : True := by
  w_top off
  trivial
open PySem PySem.W PyProof.Rows PySem.Spec PySem.Calls
set_option Elab.async false
set_option maxRecDepth 100000
set_option maxHeartbeats 8000000
namespace Mine
/-- a forest as plain data -/
inductive Fo where
  | nil
  | cons (lab : Int) (kids : Fo) (ask : Int) (sz : Bool) (rest : Fo)
def Fo.len : Fo → Nat
  | .nil => 0
  | .cons _ _ _ _ r => r.len + 1
def Fo.labs : Fo → List Int
  | .nil => []
  | .cons l _ _ _ r => l :: r.labs
def Fo.hgt : Fo → Nat
  | .nil => 0
  | .cons _ k _ _ r => max (k.hgt + 1) r.hgt
def Fo.isNil : Fo → Bool
  | .nil => true
  | _ => false
theorem Fo.labs_length : ∀ f : Fo, f.labs.length = f.len
  | .nil => rfl
  | .cons _ _ _ _ r => by rw [Fo.labs, Fo.len, List.length_cons, r.labs_length]
/-- how the forest lies in the ledger -/
inductive FoIn (led : List (Addr × Obj)) : List Value → Fo → Prop
  | nil : FoIn led [] .nil
  | cons {a kl : Addr} {lab ask : Int} {t1 t2 : Tok} {sz : Bool} {n : Nat} {kvs vs : List Value} {kids rest : Fo} : (a, T4 lab t1 kl ask t2 sz) ∈ led → (kl, listOf kvs.toArray n) ∈ led → FoIn led kvs kids → FoIn led vs rest →
      FoIn led (.ref a :: vs) (.cons lab kids ask sz rest)
theorem FoIn.mono {led led' : List (Addr × Obj)} {vs : List Value} {f : Fo} (h : FoIn led vs f) (s : ∀ q ∈ led, q ∈ led') : FoIn led' vs f := by
  induction h with
  | nil => exact .nil
  | cons a b _ _ i1 i2 => exact .cons (s _ a) (s _ b) i1 i2
theorem FoIn.labs {led : List (Addr × Obj)} {vs : List Value} {f : Fo} (h : FoIn led vs f) : LabsIn led vs f.labs := by
  induction h with
  | nil => exact .nil
  | cons a _ _ _ _ i2 => exact .cons ⟨_, _, _, _, _, _, rfl, a⟩ i2
theorem FoIn.len {led : List (Addr × Obj)} {vs : List Value} {f : Fo} (h : FoIn led vs f) : vs.length = f.len := by
  induction h with
  | nil => rfl
  | cons _ _ _ _ _ i2 => rw [List.length_cons, Fo.len, i2]
theorem FoIn.isNil {led : List (Addr × Obj)} {vs : List Value} {f : Fo} (h : FoIn led vs f) : f.isNil = vs.isEmpty := by
  cases h <;> rfl
/-- the n-th question of a draw -/
def qn (ask : Int) (n : Nat) : Int := (ask.fdiv (14 ^ n)).fmod 14
theorem qn_lo (ask : Int) (n : Nat) : 0 ≤ qn ask n := Int.fmod_nonneg_of_pos _ (by decide)
theorem qn_hi (ask : Int) (n : Nat) : qn ask n < 14 := Int.fmod_lt_of_pos _ (by decide)
def nx (lcv : Option Int) (lab q : Int) : Option Int := if q = 13 then some lab else lcv
/-- the plain outline -/
def outl : Fo → Nat → Nat → Int → List Int → Option Int → List Dat
  | .nil, _, _, _, _, _ => []
  | .cons lab kids ask _ rest, n, k0, dep, ls, lcv =>
    .list [plain n k0 dep ls lcv lab (qn ask 0), plain n k0 dep ls (nx lcv lab (qn ask 0)) lab (qn ask 1), plain n k0 dep ls (nx (nx lcv lab (qn ask 0)) lab (qn ask 1)) lab (qn ask 2)] ::
      ((if kids.isNil then [] else [.list (outl kids kids.len 0 (dep + 1) kids.labs none)]) ++ outl rest n (k0 + 1) dep ls (nx (nx (nx lcv lab (qn ask 0)) lab (qn ask 1)) lab (qn ask 2)))

/-- what is written while a loop goes on: lists, cells, a block's names, a range's iterator -/
def Mut (o : Obj) : Prop := o.cls = .type "list" ∨ (∃ v, o.data = .cell v) ∨ (∃ es n, o.data = .dict es n) ∨ o.cls = .type "range_iterator"
theorem LoopOk.move {P : Lp} {S : LS} {rest rest' : List (Addr × Obj)} (H : LoopOk P S rest) (keep : ∀ q ∈ rest, q ∈ rest' ∨ (Mut q.2 ∧ q.1 ≠ S.l ∧ P.rows ≠ .ref q.1)) (hod : ∀ q ∈ rest', q.1 ≠ P.d) (hoi : ∀ q ∈ rest', q.1 ≠ S.i) : LoopOk P S rest' := by
  have k1 : ∀ (a : Addr) (v : Value), (a, T1 v) ∈ rest → (a, T1 v) ∈ rest' := fun a v h => by
    rcases keep _ h with h | ⟨h | ⟨_, h⟩ | ⟨_, _, h⟩ | h, _⟩
    · exact h
    all_goals first | (simp at h; done) | cases h
  have k4 : ∀ {v : Value} {l : Int}, Lab rest v l → Lab rest' v l := fun {v l} h => by
    obtain ⟨a, t1, kl, ask, t2, sz, e, hm⟩ := h
    rcases keep _ hm with h | ⟨h | ⟨_, h⟩ | ⟨_, _, h⟩ | h, _⟩
    · exact ⟨a, t1, kl, ask, t2, sz, e, h⟩
    all_goals first | (simp at h; done) | cases h
  have km : ∀ (a t f : Addr), (a, MP t f) ∈ rest → (a, MP t f) ∈ rest' := fun a t f h => by
    rcases keep _ h with h | ⟨h | ⟨_, h⟩ | ⟨_, _, h⟩ | h, _⟩
    · exact h
    all_goals first | (simp at h; done) | cases h
  have ki : (P.x, instObj 255 P.d) ∈ rest' := by
    rcases keep _ H.inst with h | ⟨h | ⟨_, h⟩ | ⟨_, _, h⟩ | h, _⟩
    · exact h
    all_goals first | (simp at h; done) | cases h
  have kl : LabsIn rest' P.vs P.ls := by
    have z := H.labs
    generalize P.vs = vs at z
    generalize P.ls = ls at z
    induction z with
    | nil => exact .nil
    | cons a _ i => exact .cons (k4 a) i
  refine ⟨ki, hod, hoi, H.i_d, kl, H.small, H.kle, H.iterable, H.iterator, H.undef, H.recurse, H.depth0, H.index0, H.current, H.before, H.length, H.after, ?_, H.size, ?_, ?_, ?_, H.none_⟩
  · exact H.lcv.imp (fun h => h) fun ⟨a, t, tk, h1, h2, h3⟩ => ⟨a, t, tk, h1, h2, k1 _ _ h3⟩
  · rcases H.it1 with ⟨j, n, vs, h1, h2, h3⟩ | h
    · rcases keep _ h2 with h | ⟨_, h, _⟩
      · exact .inl ⟨j, n, vs, h1, h, h3⟩
      · exact absurd rfl h
    · exact .inr h
  · rcases H.itV with h | ⟨mo, t, h1, h2, h3⟩
    · exact .inl h
    · exact .inr ⟨mo, t, h1, km _ _ _ h2, k1 _ _ h3⟩
  · rcases H.kind with ⟨l, n, h1, h2⟩ | ⟨mo, t, h1, h2, h3⟩
    · rcases keep _ h2 with h | ⟨_, _, h⟩
      · exact .inl ⟨l, n, h1, h⟩
      · exact absurd h1 h
    · exact .inr ⟨mo, t, h1, km _ _ _ h2, fun h => ⟨(h3 h).1, k1 _ _ (h3 h).2⟩⟩
end Mine

end
section
theorem Mine.walk_off_B14 : True := by
  w_top off
  trivial
open PySem PySem.W PyProof.Rows PySem.Spec PySem.Calls
set_option Elab.async false
set_option maxRecDepth 100000
set_option maxHeartbeats 8000000
namespace Mine
local macro_rules | `(tactic| walk_at "my fill") => `(tactic| (
  have hfill : (∀ P h, (hd.heap_39 P).In h → (hd.heap_39 P).In h) ∧ PySem.Challenge.rw_co0008_01.about = PySem.Challenge.rw_co0008_01.about := ⟨fun _ _ x => x, rfl⟩
  revert hfill; k_fill; intro hfill; clear hfill))
local macro_rules | `(tactic| walk_at "my room") => `(tactic| first | assumption | ((try simp only [depth_under_make, depth_under_kw, depth_in1, depth_deeper, depth_caller, AR_depth, mark_depth]); omega))
local macro_rules | `(tactic| walk_at "my units") => `(tactic| first | assumption | ((try simp only [units_in1, units_deeper, Around.mark_units, units_caller, AR_units]); omega))
local macro_rules | `(tactic| k_room) => `(tactic| walk_at "my room")
local macro_rules | `(tactic| k_units) => `(tactic| walk_at "my units")
local macro_rules | `(tactic| ke_room) => `(tactic| walk_at "my units")
local macro_rules | `(tactic| k_all) => `(tactic| first | assumption | exact allLt_le (by assumption) (by omega) | exact allLt_ne (by assumption) | exact allLt_ne (And.right (by assumption)) | exact allLt_ne (And.right (And.right (by assumption))) | exact allLt_ne (And.right (And.right (And.right (by assumption)))) | exact allLt_ne (And.right (And.right (And.right (And.right (by assumption))))))
local macro_rules | `(tactic| walk_at "my sub") => `(tactic| (refine News.sub' (by assumption) ?_; intro q hq; first | exact hq | exact .tail _ hq | exact .tail _ (.tail _ hq) | exact .tail _ (.tail _ (.tail _ hq)) | (simp only [List.mem_cons, List.mem_append] at hq ⊢; simp only [hq, or_true])))
local macro_rules | `(tactic| k_get) => `(tactic| first | with_reducible assumption | exact LoopOk.undef (by assumption) | exact LoopOk.recurse (by assumption) | exact LoopOk.iterable (by assumption) | exact LoopOk.iterator (by assumption) | exact getL_put _ | ((with_reducible refine (getL_put_ne ?hne).trans ?_); (case hne => decide); k_get))
local macro_rules | `(tactic| walk_at "my len") => `(tactic| ((repeat refine len_put_of ?_); omega))
local macro_rules | `(tactic| walk_at "my enter") => `(tactic| (
  refine' code_def ?k1 ?k2 ?k3 ?k4 ?k5 ?kA ?kF ?kK ?k6 ?k7 ?k8 ?k9 ?kB ?_ ?c2 ?c3 ?c4 ?c5; (case kA => first | exact rfl | assumption); (case kF => first | exact rfl | assumption); (case kK => first | exact rfl | assumption); (case k1 => k_asm); (case k2 => k_asm); (case k3 => k_asm); (case k4 => k_asm); (case k5 => k_asm); (case k6 => k_is); (case k7 => k_is); (case k8 => walk_at "my room"); (case k9 => first | exact BindsTo.of_eq rfl | exact binds_K (by k_in) rfl (by k_is) rfl rfl rfl | fail "enter: no rule for these arguments"); (case c5 => decide); (case kB => exact locs rfl); (case c2 => exact rfl); (case c3 => exact rfl); (case c4 => exact rfl); k_whole; intro g' L' h' FG' F' N' B' X' T'; (try dsimp only); (try k_fold)))
local macro_rules | `(tactic| walk_at "my prop") => `(tactic| (k_dflt (refine' get_prop ?k1 ?k2 ?k3 ?k4 ?k5 ?k6 ?k7 ?k8 ?k9 ?_; (case k1 => k_asm); (case k2 => k_asm); (case k3 => k_inst); (case k4 => k_is); (case k5 => k_is); (case k6 => k_is); (case k7 => k_is); (case k8 => k_is); (case k9 => k_is); k_whole); walk_at "my enter"))
local macro_rules | `(tactic| walk_at "setAttr ref") => `(tactic| (k_here; k_dflt (refine' set_dict ?k1 ?k2 ?k3 ?k4 ?k5 ?k6 ?k7 ?k8 ?k9 ?k10 ?k11 ?k12 ?k13 ?_; (case k1 => k_asm); (case k2 => k_asm); (case k3 => k_asm); (case k4 => k_inst); (case k5 => exact rfl); (case k6 => k_is); (case k7 => k_is); (case k8 => k_is); (case k9 => k_is); (case k10 => exact getL_isSome (by k_get)); (case k11 => exact rfl); (case k12 => k_upd); (case k13 => walk_at "my len"); k_whole; intro h' F' N'; (try k_sweep))))
local macro_rules | `(tactic| k_mem) => `(tactic| first | with_reducible assumption | exact List.Mem.head _ | (refine' List.mem_cons_of_mem _ ?_; k_mem) | (refine' List.mem_append_left _ ?_; k_mem) | (refine' List.mem_append_right _ ?_; k_mem))
local macro_rules | `(tactic| walk_at "compareOp IsNot ref ref") => `(tactic| (k_here; first | refine wpAny_isNot_ref_self ?_ | (k_dflt (refine' isNot_right ?n ?a ?b ?c ?_; (case n => kto_ne); (case a => kto_obj); (case b => kto_obj); (case c => kto_not); k_whole))))
local macro_rules | `(tactic| walk_at "compareOp Is ref ref") => `(tactic| (k_here; first | refine wpAny_is_ref_self ?_ | (k_dflt (refine' is_right ?n ?a ?b ?c ?_; (case n => kto_ne); (case a => kto_obj); (case b => kto_obj); (case c => kto_not); k_whole))))
local macro_rules | `(tactic| walk_at "my cx") => `(tactic| exact ⟨by k_asm, by k_asm, by k_asm, rfl, by first | rfl | assumption, by first | rfl | assumption⟩)
local macro_rules | `(tactic| walk_at "my cy") => `(tactic| exact ⟨by k_asm, by k_asm, by k_asm, by first | rfl | assumption, by first | rfl | assumption⟩)
local macro_rules | `(tactic| k_handed) => `(tactic| with_reducible assumption)
local macro_rules | `(tactic| walk_at "my rest") => `(tactic| (refine' kp_rest ?k1 ?k2 ?k3 ?k4 ?k5 ?kA ?kF ?kK ?k6 ?k7 ?k8 ?kV ?kP ?kG ?kB ?_ ?c2 ?c3 ?c4 ?c5; (case kA => exact rfl); (case kF => first | exact rfl | assumption); (case kK => first | exact rfl | assumption); (case k1 => k_asm); (case k2 => k_asm); (case k3 => k_asm); (case k4 => k_asm); (case k5 => k_asm); (case k6 => k_is); (case k7 => k_is); (case k8 => k_room); (case kV => kl_lit); (case kP => exact rfl); (case kG => exact fun _ => rfl); (case kB => exact fun _ => locs rfl); (case c5 => decide); (case c2 => exact rfl); (case c3 => exact rfl); (case c4 => exact rfl); k_whole; intro D' g' L' h' l1 FG' F' N' B' X' T'; (try k_lt l1); (try dsimp only); (try k_fold)))
local macro_rules | `(tactic| walk_at "compareOp NotEq ref ref") => `(tactic| (k_here; (with_reducible show wpAny _ _ (compareOp _ (Value.ref 92) (Value.ref _)) _ _ _); k_dflt (refine' inst_ne_tuple ?X ?I ?t ?c ?n ?h1 ?h2 ?h3 ?h4 ?h5 ?u ?_; (case X => k_in); (case I => refine' InstAt.of_K ?kx ?kl ?km; (case kx => k_in); (case kl => k_is); (case km => k_is)); (case t => exact kto_N (by k_asm) (by k_mem)); (case c => rfl); (case n => kto_ne); (case h1 => k_is); (case h2 => k_is); (case h3 => k_is); (case h4 => k_is); (case h5 => k_is); (case u => walk_at "my units"); k_whole)))
local macro_rules | `(tactic| walk_at "my enterS") => `(tactic| (
  refine' enterS ?k1 ?k2 ?k3 ?k4 ?k5 ?XB ?TB ?D ?T0 ?kA ?kF ?kK ?k6 ?k7 ?k8 ?k9 ?kB ?_ ?c2 ?c3 ?c4 ?c5; (case kA => exact rfl); (case kF => first | exact rfl | assumption); (case kK => first | exact rfl | assumption); (case k2 => k_asm); (case k1 => k_asm); (case k3 => k_asm); (case k4 => k_asm); (case k5 => k_asm); (case XB => assumption); (case TB => assumption); (case D => assumption); (case T0 => first | assumption | exact KtsTurn.refl); (case k6 => k_is); (case k7 => k_is); (case k8 => walk_at "my room"); (case k9 => first | exact BindsTo.of_eq rfl | exact binds_K (by k_in) rfl (by k_is) rfl rfl rfl | fail "enterS: no rule for these arguments"); (case c5 => decide); (case kB => exact locs rfl); (case c2 => exact rfl); (case c3 => exact rfl); (case c4 => exact rfl); k_whole; intro g' L' h' FG' F' N' B' X' T' D' lL'; (try dsimp only); (try k_fold)))
local macro_rules | `(tactic| walk_at "my propS") => `(tactic| (k_dflt (refine' get_prop ?k1 ?k2 ?k3 ?k4 ?k5 ?k6 ?k7 ?k8 ?k9 ?_; (case k1 => k_asm); (case k2 => k_asm); (case k3 => k_inst); (case k4 => k_is); (case k5 => k_is); (case k6 => k_is); (case k7 => k_is); (case k8 => k_is); (case k9 => k_is); k_whole); walk_at "my enterS"))
local macro_rules | `(tactic| walk_at "call builtin:iter") => `(tactic| (k_here; (with_reducible show wpAny _ _ (call (Value.builtin "iter") [Value.ref _]) _ _ _); k_dflt (first
  | (refine' iter_list ?F ?N ?m ?_; (case F => k_asm); (case N => k_asm); (case m => k_mem); k_whole; intro i' h' F' N' l1; (try k_lt l1); (try k_sweep))
  | (refine' iter_map ?N ?m ?_; (case N => k_asm); (case m => k_mem); k_whole))))
local macro_rules | `(tactic| walk_at "call builtin:len") => `(tactic| (k_here; (with_reducible show wpAny _ _ (call (Value.builtin "len") [Value.ref _]) _ _ _); k_dflt (refine' len_list ?l ?z ?_; (case l => exact News.isList (by k_asm) (by k_mem)); (case z => rw [List.size_toArray]; (try simp only [List.length_drop]); omega); (try rw [List.size_toArray]))))
local macro_rules | `(tactic| walk_at "my cz") => `(tactic| exact ⟨by k_asm, by k_asm, by k_asm, by first | rfl | assumption, by first | rfl | assumption, by assumption, by assumption, by assumption⟩)
local macro_rules | `(tactic| walk_at "my retcz") => `(tactic| exact ⟨by assumption, by assumption, by assumption, by assumption, by assumption, by assumption, by assumption, by assumption⟩)
local macro_rules | `(tactic| walk_at "my enterSC") => `(tactic| (refine' enterSC ?k1 ?k2 ?k3 ?k4 ?k5 ?XB ?TB ?D ?T0 ?kA ?kF ?kK ?k6 ?k7 ?k8 ?k9 ?kB ?kD ?_ ?c2 ?c3 ?c4; (case kA => exact rfl); (case kF => first | exact rfl | assumption); (case kK => first | exact rfl | assumption); (case k2 => k_asm); (case k1 => k_asm); (case k3 => k_asm); (case k4 => k_asm); (case k5 => k_asm); (case XB => assumption); (case TB => assumption); (case D => assumption); (case T0 => first | assumption | exact KtsTurn.refl); (case k6 => k_is); (case k7 => k_is); (case k8 => walk_at "my room"); (case k9 => assumption); (case kB => exact rfl); (case kD => decide +kernel); (case c2 => exact rfl); (case c3 => exact rfl); (case c4 => exact rfl); k_whole; intro g' L' h' tk' cells' FG' F' N' Y' B' X' T' D' lL'; k_cells Y'; (try simp only [List.cons_append, List.nil_append] at N'); (try dsimp only); (try k_fold)))
section
variable {prog : Program} {w : World} {dp un : Nat} {gd : Option (List Code)} {A₀ : Around} {env : Env} {outer : List Env} {base h₀ : Heap} {p : Program} {loose : List Str} {mean : ExcName → Option Value} {mg mb : Str → Option Value} {L : Addr} {m : Str → Option Value} {rest : List (Addr × Obj)} {s : Shared} {E Q : Value → Shared → Prop} {ex : Bool} {P : Lp} {S : LS}

/-- a new loop, over a list or over a map of a list -/
theorem mk_loop (C : Cy w A₀ env outer base h₀ p loose mean mg mb L) (F : Fr h₀ L s.heap m) {il : List (Addr × Obj)} {rows : Value} (N : News h₀ L s.heap (il ++ rest)) {l : Addr} {n : Nat} {vs : List Value} {ls : List Int} (hl : (l, listOf vs.toArray n) ∈ rest) (hls : LabsIn rest vs ls)
   (hr : (il = [] ∧ rows = .ref l) ∨ ∃ i mo t, il = [(i, LI l 0)] ∧ rows = .ref mo ∧ (mo, MP t 384) ∈ rest ∧ (t, T1 (.ref i)) ∈ rest ∧ ∀ q ∈ rest, q.1 ≠ i) (hsm : vs.length ≤ 1000) {dep : Int} {td : Tok} (hdp : dp + 10 < recursionLimit) (hun : un + 60 < cLine)
   (ret : ∀ h' tk' x d S, Fr h₀ L h' m → News h₀ L h' (Led ⟨x, d, rows, .ref 404, dep, vs, ls⟩ S ((x, instObj 255 d) :: rest)) → LoopOk ⟨x, d, rows, .ref 404, dep, vs, ls⟩ S ((x, instObj 255 d) :: rest) → S.k = 0 → S.lcv = none → S.l = l →
      (∀ q ∈ il ++ rest, q.1 < d) → (∀ q ∈ il ++ rest, q.1 < x) → ((∀ q ∈ rest, q.1 < S.i) ∨ ∃ q ∈ il, q.1 = S.i) → Q (.ref x) { s with heap := h', toks := tk' }) :
   wpAny (model prog w) (AR dp un gd env outer) (call (.ref 255) [rows, .ref 364, .ref 404, .int dep td]) Q E s := by
  rcases hr with ⟨rfl, rfl⟩ | ⟨i, mo, t, rfl, rfl, h1, h2, h3⟩
  · exact mk_list C F N hl hls hsm hdp hun fun h' tk' x d S F' N' H' a b c e f g => ret h' tk' x d S F' N' H' a b c e f (.inl g)
  · refine mk_map C F N h3 hl h1 h2 hls hsm hdp hun fun h' tk' x d S F' N' H' a b c e f g0 g k => ret h' tk' x d S F' N' H' a b c (fun q hq => ?_) (fun q hq => ?_) (.inr ⟨_, .head _, k.symm⟩)
    · rcases List.mem_cons.mp hq with rfl | hq
      · exact g0
      · exact e q hq
    · rcases List.mem_cons.mp hq with rfl | hq
      · exact g
      · exact f q hq
end
end Mine

end
section
theorem Mine.walk_off_B15a : True := by
  w_top off
  trivial
open PySem PySem.W PyProof.Rows PySem.Spec PySem.Calls
set_option Elab.async false
set_option maxRecDepth 100000
set_option maxHeartbeats 8000000
namespace Mine
def Stop (p : Prop) : Prop := p
theorem Stop.out {p : Prop} (h : Stop p) : p := h
theorem Stop.in {p : Prop} (h : p) : Stop p := h
section
variable {prog : Program} {w : World} {A : Around} {E : Value → Shared → Prop} {env : Env} {test : PySem.Expr} {body orelse : List Stmt} {Q : Flow → Shared → Prop}
/-- a while loop by a measure -/
theorem whl_rule {σ : Type} (Inv : σ → Shared → Prop) (μ : σ → Nat) (turn : ∀ c s, Inv c s → (∀ c' s', μ c' < μ c → Inv c' s' → WhlRest prog w A E env test body orelse Q 0 s') → WhlRest prog w A E env test body orelse Q 1 s) :
    ∀ c s, Inv c s → WhlRest prog w A E env test body orelse Q 0 s := by
  have all : ∀ n, ∀ c s, μ c < n → Inv c s → WhlRest prog w A E env test body orelse Q 0 s := by
    intro n
    induction n with
    | zero => intro c s h; exact absurd h (Nat.not_lt_zero _)
    | succ n ih => intro c s h i; exact turn c s i fun c' s' h' i' => ih c' s' (by omega) i'
  exact fun c s i => all (μ c + 1) c s (Nat.lt_succ_self _) i
end

theorem LoopOk.norm {P : Lp} {S : LS} {R : List (Addr × Obj)} (H : LoopOk P S R) : ∃ l', LoopOk P { S with l := l' } R ∧ ∃ q ∈ R, q.1 = l' := by
  rcases H.it1 with ⟨j, n, vs, h1, h2, h3⟩ | h
  · exact ⟨S.l, H, _, h2, rfl⟩
  · exact ⟨P.x, ⟨H.inst, H.off_d, H.off_i, H.i_d, H.labs, H.small, H.kle, H.iterable, H.iterator, H.undef, H.recurse, H.depth0, H.index0, H.current, H.before, H.length, H.after, H.lcv, H.size, .inr h, H.itV, H.kind, H.none_⟩, _, H.inst, rfl⟩
theorem LoopOk.add {P : Lp} {S : LS} {R mt : List (Addr × Obj)} (H : LoopOk P S R) (hm : ∀ q ∈ mt, q.1 ≠ P.d ∧ q.1 ≠ S.i) : LoopOk P S (mt ++ R) := by
  refine H.move (fun q hq => .inl (List.mem_append_right _ hq)) (fun q hq => ?_) (fun q hq => ?_)
  · rcases List.mem_append.mp hq with hq | hq
    · exact (hm q hq).1
    · exact H.off_d q hq
  · rcases List.mem_append.mp hq with hq | hq
    · exact (hm q hq).2
    · exact H.off_i q hq
theorem LoopOk.rowsAt {P : Lp} {S : LS} {R : List (Addr × Obj)} (H : LoopOk P S R) : ∃ q ∈ R, P.rows = .ref q.1 := by
  rcases H.kind with ⟨l, n, h1, h2⟩ | ⟨mo, t, h1, h2, _⟩
  · exact ⟨_, h2, h1⟩
  · exact ⟨_, h2, h1⟩
theorem LoopOk.drop {P : Lp} {S S' : LS} {R mt tl : List (Addr × Obj)} (H : LoopOk P S R) (hn : ∃ q ∈ R, q.1 = S.l) (H' : LoopOk P S' (tl ++ (mt ++ R))) (hmut : ∀ q ∈ mt, Mut q.2) (hne : ∀ q ∈ mt, ∀ r ∈ R, r.1 ≠ q.1)
    (e : S'.l = S.l ∨ ∀ r ∈ mt ++ R, r.1 < S'.l) : LoopOk P S' (tl ++ R) := by
  have sub : ∀ q ∈ tl ++ R, q ∈ tl ++ (mt ++ R) := fun q hq => by
    rcases List.mem_append.mp hq with hq | hq
    · exact List.mem_append_left _ hq
    · exact List.mem_append_right _ (List.mem_append_right _ hq)
  refine H'.move (fun q hq => ?_) (fun q hq => H'.off_d q (sub q hq)) (fun q hq => H'.off_i q (sub q hq))
  rcases List.mem_append.mp hq with hq | hq
  · exact .inl (List.mem_append_left _ hq)
  rcases List.mem_append.mp hq with hq | hq
  · refine .inr ⟨hmut q hq, fun z => ?_, fun z => ?_⟩
    · obtain ⟨r, hr, hrl⟩ := hn
      rcases e with e | e
      · exact hne q hq r hr (hrl.trans (e.symm.trans z.symm))
      · exact absurd (e q (List.mem_append_left _ hq)) (by rw [z]; exact Nat.lt_irrefl _)
    · obtain ⟨r, hr, hrr⟩ := H.rowsAt
      rw [hrr] at z
      exact hne q hq r hr (by injection z)
  · exact .inl (List.mem_append_right _ hq)
/-- no list of kids is long -/
def Fo.okw : Fo → Prop
  | .nil => True
  | .cons _ k _ _ r => k.len ≤ 3 ∧ k.okw ∧ r.okw
/-- what the ground of a frame is, while it is turned -/
structure Gr (w : World) (A : Around) (outer : List Env) (base g₀ g : Heap) (p : Program) (loose : List Str) (mean : ExcName → Option Value) (mg mb : Str → Option Value) : Prop where
  T0 : KtsTurn (frs outer) g₀ g
  B : Below A base outer g
  X : (hd.heap_39 w.params).In g
  T : Top p loose mean mg mb g
  D : KtsDicts (frs outer) g
/-- between two turns of an outline's loop; r is what is left -/
def OI (w : World) (A : Around) (fr : List Env) (base g' : Heap) (p : Program) (loose : List Str) (mean : ExcName → Option Value) (mg mb : Str → Option Value) (s : Shared) (P : Lp) (ol Lf : Nat) (led : List (Addr × Obj)) (fo r : Fo) (s' : Shared) : Prop :=
  ∃ g m' S T xs nn q1 q2 q3 ds h tk, s' = { s with heap := h, toks := tk } ∧ Gr w A fr base g' g p loose mean mg mb ∧ Fr g Lf h m' ∧ m' "loop" = some (.ref P.x) ∧ m' "out" = some (.ref ol) ∧
    News g Lf h ((ol, listOf (xs : List Value).toArray nn) :: (Lf + 1 + 1 + 1, q1) :: (Lf + 1 + 1, q2) :: (Lf + 1, q3) :: Led P S (T ++ led)) ∧ (∃ v, q1.data = .cell v) ∧ (∃ v, q2.data = .cell v) ∧ (∃ v, q3.data = .cell v) ∧
    LoopOk P S (T ++ led) ∧ FoIn led (P.vs.drop S.k) r ∧ (∀ q ∈ T, ∀ z ∈ led, q.1 ≠ z.1) ∧ (∀ a, a = ol ∨ a = Lf + 1 + 1 + 1 ∨ a = Lf + 1 + 1 ∨ a = Lf + 1 → @Ne Nat S.i a ∧ @Ne Nat P.d a ∧ ∀ q ∈ T ++ led, @Ne Nat q.1 a) ∧
    DatAll T xs ds ∧ ds ++ outl r P.vs.length S.k P.dep P.ls S.lcv = outl fo P.vs.length 0 P.dep P.ls none ∧ xs.length ≤ 2 * S.k ∧ r.hgt ≤ fo.hgt ∧ r.okw
theorem turn_pre {P : Lp} {S : LS} {R mt : List (Addr × Obj)} (H : LoopOk P S R) (hne : ∀ q ∈ mt, q.1 ≠ P.d ∧ q.1 ≠ S.i ∧ ∀ z ∈ R, z.1 ≠ q.1) : ∃ ln, LoopOk P { S with l := ln } R ∧ (∃ q ∈ R, q.1 = ln) ∧ LoopOk P { S with l := ln } (mt ++ R) := by
  obtain ⟨ln, Hn, hl⟩ := H.norm
  exact ⟨ln, Hn, hl, Hn.add fun q hq => ⟨(hne q hq).1, (hne q hq).2.1⟩⟩
theorem turn_post {P : Lp} {S S' : LS} {R mt rest' : List (Addr × Obj)} (Hn : LoopOk P S R) (hl : ∃ q ∈ R, q.1 = S.l) (hmut : ∀ q ∈ mt, Mut q.2) (hne : ∀ q ∈ mt, q.1 ≠ P.d ∧ q.1 ≠ S.i ∧ ∀ z ∈ R, z.1 ≠ q.1) (H' : LoopOk P S' rest') (e : Ext S S' (mt ++ R) rest') :
    ∃ tl, rest' = tl ++ (mt ++ R) ∧ LoopOk P S' (tl ++ R) ∧ (∀ q ∈ mt, q.1 ≠ P.d ∧ q.1 ≠ S'.i ∧ ∀ z ∈ tl ++ R, z.1 ≠ q.1) ∧ ∀ q ∈ tl, ∀ z ∈ R, q.1 ≠ z.1 := by
  obtain ⟨tl, rfl, hf⟩ := e.more
  refine ⟨tl, rfl, Hn.drop hl H' hmut (fun q hq => (hne q hq).2.2) e.li, fun q hq => ⟨(hne q hq).1, ?_, fun z hz => ?_⟩, fun q hq z hz => Nat.ne_of_gt (hf q hq z (List.mem_append_right _ hz))⟩
  · rcases e.it with h | h
    · rw [h]; exact (hne q hq).2.1
    · exact Nat.ne_of_lt (h q (List.mem_append_left _ hq))
  · rcases List.mem_append.mp hz with hz | hz
    · exact Nat.ne_of_gt (hf z hz q (List.mem_append_left _ hq))
    · exact (hne q hq).2.2 z hz
theorem perm_in {α : Type} {a b c o c3 c2 c1 d i : α} {R : List α} : ∀ q ∈ d :: i :: ([a, b, c, o, c3, c2, c1] ++ R), q ∈ a :: b :: c :: o :: c3 :: c2 :: c1 :: d :: i :: R := by
  intro q hq
  simp only [List.mem_cons, List.mem_append, List.not_mem_nil, or_false] at hq ⊢
  rcases hq with h | h | (h | h | h | h | h | h | h) | h <;> simp [h]
theorem perm_out {α : Type} {a b c o c3 c2 c1 d i : α} {tl R : List α} : ∀ q ∈ a :: b :: c :: o :: c3 :: c2 :: c1 :: d :: i :: (tl ++ R), q ∈ d :: i :: (tl ++ ([a, b, c, o, c3, c2, c1] ++ R)) := by
  intro q hq
  simp only [List.mem_cons, List.mem_append, List.not_mem_nil, or_false] at hq ⊢
  rcases hq with h | h | h | h | h | h | h | h | h | h | h <;> simp [h]
theorem off1_mem {D : Addr} : ∀ {l : List (Addr × Obj)}, LCg.Off1 D l → ∀ q ∈ l, q.1 ≠ D
  | [], _, _, h => nomatch h
  | _ :: _, x, p, h => by
    rcases List.mem_cons.mp h with rfl | h
    · exact x.1
    · exact off1_mem x.2 p h
theorem mem_mid {α : Type} {a : α} {x y z : List α} (h : a ∈ x ++ z) : a ∈ x ++ (y ++ z) := by
  rcases List.mem_append.mp h with h | h
  · exact List.mem_append_left _ h
  · exact List.mem_append_right _ (List.mem_append_right _ h)
theorem FoIn.head {led : List (Addr × Obj)} {vs : List Value} {lab ask : Int} {kids rest : Fo} {sz : Bool} {k : Nat} (h : FoIn led (vs.drop k) (.cons lab kids ask sz rest)) : ∃ a t1 kl t2 n kvs, vs[k]? = some (.ref a) ∧ (a, T4 lab t1 kl ask t2 sz) ∈ led ∧ (kl, listOf kvs.toArray n) ∈ led ∧ FoIn led kvs kids ∧ FoIn led (vs.drop (k + 1)) rest := by
  generalize hd : vs.drop k = ds at h
  cases h with
  | @cons a kl _ _ t1 t2 _ n kvs vs' _ _ h1 h2 h3 h4 =>
    obtain ⟨e1, e2⟩ := drop_cons (j := k) hd
    exact ⟨a, t1, kl, t2, n, kvs, e1, h1, h2, h3, by rw [e2]; exact h4⟩
theorem FoIn.end_ {led : List (Addr × Obj)} {vs : List Value} {k : Nat} (h : FoIn led (vs.drop k) .nil) (hk : k ≤ vs.length) : k = vs.length := by
  generalize hd : vs.drop k = ds at h
  cases h with
  | nil =>
    have := congrArg List.length hd
    rw [List.length_drop, List.length_nil] at this
    omega
end Mine

end
section
theorem Mine.walk_off_B15b : True := by
  w_top off
  trivial
open PySem PySem.W PyProof.Rows PySem.Spec PySem.Calls
set_option Elab.async false
set_option maxRecDepth 100000
set_option maxHeartbeats 8000000
namespace Mine
def Fo.pds : Fo → List PyData
  | .nil => []
  | .cons lab kids ask sz rest => .tuple [.int lab, .list kids.pds, .int ask, .bool sz] :: rest.pds
theorem fo_reads {h₀ h : Heap} {L : Addr} {news led : List (Addr × Obj)} {vs : List Value} {f : Fo} (N : News h₀ L h news) (H : FoIn led vs f) (sub : ∀ q ∈ led, q ∈ news) : ∃ as, ReadsAll h vs f.pds as := by
  induction H with
  | nil => exact ⟨_, ReadsAll.nil⟩
  | cons h1 h2 _ _ i1 i2 =>
    obtain ⟨as, q⟩ := i1
    obtain ⟨bs, p⟩ := i2
    have rl := reads_list_at (N.get (sub _ h2)) rfl rfl (by simpa [W.listOf] using q)
    exact ⟨_, ReadsAll.cons (reads_tuple_at (N.get (sub _ h1)) rfl rfl (by simpa using ReadsAll.cons (Reads.int _ _) (ReadsAll.cons rl (ReadsAll.cons (Reads.int _ _) (ReadsAll.cons (Reads.bool _) ReadsAll.nil))))) p⟩
theorem fo_lay : ∀ f : Fo, PyData.canLayAll0 f.pds = true ∧ PyData.depthAll f.pds ≤ 2 * f.hgt
  | .nil => by simp [Fo.pds, PyData.canLayAll0, PyData.depthAll]
  | .cons lab kids ask sz rest => by
    have a := fo_lay kids
    have b := fo_lay rest
    simp [Fo.pds, PyData.canLayAll0, PyData.canLay0, PyData.depthAll, PyData.depth, Fo.hgt, a.1, b.1]
    omega
section
variable {prog : Program} {w : World} {A : Around} {E : Value → Shared → Prop} {s : Shared} {h₀ : Heap} {L a b : Addr} {news led : List (Addr × Obj)} {xs : List Value} {ka kb : Nat} {Q : Value → Shared → Prop} {f : Fo}
/-- a list of trees against an empty list -/
theorem ne_nilK (N : News h₀ L s.heap news) (ma : (a, listOf xs.toArray ka) ∈ news) (H : FoIn led xs f) (sub : ∀ q ∈ led, q ∈ news) (mb : (b, listOf #[] kb) ∈ news) (hh : f.hgt ≤ 3) (hu : A.units + 64 < cLine) (h : Q (.bool (!f.isNil)) s) :
    wpAny (model prog w) A (compareOp .NotEq (.ref a) (.ref b)) Q E s := by
  obtain ⟨as, ra⟩ := fo_reads N H sub
  have la := fo_lay f
  have e : PyData.eqv (.list f.pds) (.list []) = f.isNil := by
    cases f <;> simp [Fo.pds, PyData.eqv, PyData.eqvAll, Fo.isNil]
  refine ne_dataH (reads_list_at (N.get ma) rfl rfl (by simpa [W.listOf] using ra)) (reads_list_at (N.get mb) rfl rfl (by simpa [W.listOf] using ReadsAll.nil)) ?_ ?_ hu (by rw [e]; exact h)
  · unfold SeqAt.shaped
    rw [PyData.canLay0, la.1, Bool.true_and, PyData.depth]
    exact decide_eq_true (by omega)
  · rfl
end
/-- what a call of _law_outline gives back -/
def OutC (prog : Program) (w : World) (fo : Fo) : Prop :=
  ∀ (dp un : Nat) (gd : Option (List Code)) (A₀ : Around) (env : Env) (outer : List Env) (base h₀ : Heap) (p : Program) (loose : List Str) (mean : ExcName → Option Value) (mg mb : Str → Option Value) (L : Addr) (m : Str → Option Value) (s : Shared) (g₀ : Heap)
    (led il : List (Addr × Obj)) (rows : Value) (l : Addr) (n : Nat) (vs : List Value) (dep : Int) (td : Tok) (args : Args) (R : Result → Shared → Prop),
    Cz w A₀ env outer base h₀ p loose mean mg mb L → KtsTurn (frs outer) g₀ h₀ → Fr h₀ L s.heap m → News h₀ L s.heap (il ++ led) → (l, listOf vs.toArray n) ∈ led → FoIn led vs fo →
    ((il = [] ∧ rows = .ref l) ∨ ∃ i mo t, il = [(i, LI l 0)] ∧ rows = .ref mo ∧ (mo, MP t 384) ∈ led ∧ (t, T1 (.ref i)) ∈ led ∧ ∀ q ∈ led, q.1 ≠ i) → vs.length ≤ 1000 → fo.okw → 0 ≤ dep → dep + fo.hgt < 1000 → fo.hgt ≤ 3 →
    (args = ⟨[rows, .ref 404], [("depth", .int dep td)]⟩ ∨ (args = ⟨[rows, .ref 404], []⟩ ∧ dep = 0 ∧ td = 700)) → dp + 40 + 4 * fo.hgt < recursionLimit → un + 400 + 40 * fo.hgt < cLine →
    (∀ h₀' h' tk' a tl, KtsTurn (frs outer) g₀ h₀' → Cz w A₀ env outer base h₀' p loose mean mg mb L → Fr h₀' L h' m → News h₀' L h' (tl ++ led) → (∀ q ∈ tl, ∀ r ∈ led, q.1 ≠ r.1) → DatIn tl (.ref a) (.list (outl fo fo.len 0 dep fo.labs none)) → R (.ok (.ret (.ref a))) { s with heap := h', toks := tk' }) →
    codeAny (model prog w) (AR dp un gd env outer) (.call (.ref 404) args) R s
end Mine

end
section
theorem Mine.walk_off_B16 : True := by
  w_top off
  trivial
open PySem PySem.W PyProof.Rows PySem.Spec PySem.Calls
set_option Elab.async false
set_option maxRecDepth 100000
set_option maxHeartbeats 8000000
namespace Mine
local macro_rules | `(tactic| walk_at "my fill") => `(tactic| (
  have hfill : (∀ P h, (hd.heap_39 P).In h → (hd.heap_39 P).In h) ∧ PySem.Challenge.rw_co0008_01.about = PySem.Challenge.rw_co0008_01.about := ⟨fun _ _ x => x, rfl⟩
  revert hfill; k_fill; intro hfill; clear hfill))
local macro_rules | `(tactic| walk_at "my room") => `(tactic| first | assumption | ((try simp only [depth_under_make, depth_under_kw, depth_in1, depth_deeper, depth_caller, AR_depth, mark_depth]); omega))
local macro_rules | `(tactic| walk_at "my units") => `(tactic| first | assumption | ((try simp only [units_in1, units_deeper, Around.mark_units, units_caller, AR_units]); omega))
local macro_rules | `(tactic| k_room) => `(tactic| walk_at "my room")
local macro_rules | `(tactic| k_units) => `(tactic| walk_at "my units")
local macro_rules | `(tactic| ke_room) => `(tactic| walk_at "my units")
local macro_rules | `(tactic| k_all) => `(tactic| first | assumption | exact allLt_le (by assumption) (by omega) | exact allLt_ne (by assumption) | exact allLt_ne (And.right (by assumption)) | exact allLt_ne (And.right (And.right (by assumption))) | exact allLt_ne (And.right (And.right (And.right (by assumption)))) | exact allLt_ne (And.right (And.right (And.right (And.right (by assumption))))))
local macro_rules | `(tactic| walk_at "my sub") => `(tactic| (refine News.sub' (by assumption) ?_; intro q hq; first | exact hq | exact .tail _ hq | exact .tail _ (.tail _ hq) | exact .tail _ (.tail _ (.tail _ hq)) | (simp only [List.mem_cons, List.mem_append] at hq ⊢; simp only [hq, or_true])))
local macro_rules | `(tactic| k_get) => `(tactic| first | with_reducible assumption | exact LoopOk.undef (by assumption) | exact LoopOk.recurse (by assumption) | exact LoopOk.iterable (by assumption) | exact LoopOk.iterator (by assumption) | exact getL_put _ | ((with_reducible refine (getL_put_ne ?hne).trans ?_); (case hne => decide); k_get))
local macro_rules | `(tactic| walk_at "my len") => `(tactic| ((repeat refine len_put_of ?_); omega))
local macro_rules | `(tactic| walk_at "my enter") => `(tactic| (
  refine' code_def ?k1 ?k2 ?k3 ?k4 ?k5 ?kA ?kF ?kK ?k6 ?k7 ?k8 ?k9 ?kB ?_ ?c2 ?c3 ?c4 ?c5; (case kA => first | exact rfl | assumption); (case kF => first | exact rfl | assumption); (case kK => first | exact rfl | assumption); (case k1 => k_asm); (case k2 => k_asm); (case k3 => k_asm); (case k4 => k_asm); (case k5 => k_asm); (case k6 => k_is); (case k7 => k_is); (case k8 => walk_at "my room"); (case k9 => first | exact BindsTo.of_eq rfl | exact binds_K (by k_in) rfl (by k_is) rfl rfl rfl | fail "enter: no rule for these arguments"); (case c5 => decide); (case kB => exact locs rfl); (case c2 => exact rfl); (case c3 => exact rfl); (case c4 => exact rfl); k_whole; intro g' L' h' FG' F' N' B' X' T'; (try dsimp only); (try k_fold)))
local macro_rules | `(tactic| walk_at "my prop") => `(tactic| (k_dflt (refine' get_prop ?k1 ?k2 ?k3 ?k4 ?k5 ?k6 ?k7 ?k8 ?k9 ?_; (case k1 => k_asm); (case k2 => k_asm); (case k3 => k_inst); (case k4 => k_is); (case k5 => k_is); (case k6 => k_is); (case k7 => k_is); (case k8 => k_is); (case k9 => k_is); k_whole); walk_at "my enter"))
local macro_rules | `(tactic| walk_at "setAttr ref") => `(tactic| (k_here; k_dflt (refine' set_dict ?k1 ?k2 ?k3 ?k4 ?k5 ?k6 ?k7 ?k8 ?k9 ?k10 ?k11 ?k12 ?k13 ?_; (case k1 => k_asm); (case k2 => k_asm); (case k3 => k_asm); (case k4 => k_inst); (case k5 => exact rfl); (case k6 => k_is); (case k7 => k_is); (case k8 => k_is); (case k9 => k_is); (case k10 => exact getL_isSome (by k_get)); (case k11 => exact rfl); (case k12 => k_upd); (case k13 => walk_at "my len"); k_whole; intro h' F' N'; (try k_sweep))))
local macro_rules | `(tactic| k_mem) => `(tactic| first | with_reducible assumption | exact List.Mem.head _ | (refine' List.mem_cons_of_mem _ ?_; k_mem) | (refine' List.mem_append_left _ ?_; k_mem) | (refine' List.mem_append_right _ ?_; k_mem))
local macro_rules | `(tactic| walk_at "compareOp IsNot ref ref") => `(tactic| (k_here; first | refine wpAny_isNot_ref_self ?_ | (k_dflt (refine' isNot_right ?n ?a ?b ?c ?_; (case n => kto_ne); (case a => kto_obj); (case b => kto_obj); (case c => kto_not); k_whole))))
local macro_rules | `(tactic| walk_at "compareOp Is ref ref") => `(tactic| (k_here; first | refine wpAny_is_ref_self ?_ | (k_dflt (refine' is_right ?n ?a ?b ?c ?_; (case n => kto_ne); (case a => kto_obj); (case b => kto_obj); (case c => kto_not); k_whole))))
local macro_rules | `(tactic| walk_at "my cx") => `(tactic| exact ⟨by k_asm, by k_asm, by k_asm, rfl, by first | rfl | assumption, by first | rfl | assumption⟩)
local macro_rules | `(tactic| walk_at "my cy") => `(tactic| exact ⟨by k_asm, by k_asm, by k_asm, by first | rfl | assumption, by first | rfl | assumption⟩)
local macro_rules | `(tactic| k_handed) => `(tactic| with_reducible assumption)
local macro_rules | `(tactic| walk_at "my rest") => `(tactic| (refine' kp_rest ?k1 ?k2 ?k3 ?k4 ?k5 ?kA ?kF ?kK ?k6 ?k7 ?k8 ?kV ?kP ?kG ?kB ?_ ?c2 ?c3 ?c4 ?c5; (case kA => exact rfl); (case kF => first | exact rfl | assumption); (case kK => first | exact rfl | assumption); (case k1 => k_asm); (case k2 => k_asm); (case k3 => k_asm); (case k4 => k_asm); (case k5 => k_asm); (case k6 => k_is); (case k7 => k_is); (case k8 => k_room); (case kV => kl_lit); (case kP => exact rfl); (case kG => exact fun _ => rfl); (case kB => exact fun _ => locs rfl); (case c5 => decide); (case c2 => exact rfl); (case c3 => exact rfl); (case c4 => exact rfl); k_whole; intro D' g' L' h' l1 FG' F' N' B' X' T'; (try k_lt l1); (try dsimp only); (try k_fold)))
local macro_rules | `(tactic| walk_at "compareOp NotEq ref ref") => `(tactic| (k_here; (with_reducible show wpAny _ _ (compareOp _ (Value.ref 92) (Value.ref _)) _ _ _); k_dflt (refine' inst_ne_tuple ?X ?I ?t ?c ?n ?h1 ?h2 ?h3 ?h4 ?h5 ?u ?_; (case X => k_in); (case I => refine' InstAt.of_K ?kx ?kl ?km; (case kx => k_in); (case kl => k_is); (case km => k_is)); (case t => exact kto_N (by k_asm) (by k_mem)); (case c => rfl); (case n => kto_ne); (case h1 => k_is); (case h2 => k_is); (case h3 => k_is); (case h4 => k_is); (case h5 => k_is); (case u => walk_at "my units"); k_whole)))
local macro_rules | `(tactic| walk_at "my enterS") => `(tactic| (
  refine' enterS ?k1 ?k2 ?k3 ?k4 ?k5 ?XB ?TB ?D ?T0 ?kA ?kF ?kK ?k6 ?k7 ?k8 ?k9 ?kB ?_ ?c2 ?c3 ?c4 ?c5; (case kA => exact rfl); (case kF => first | exact rfl | assumption); (case kK => first | exact rfl | assumption); (case k2 => k_asm); (case k1 => k_asm); (case k3 => k_asm); (case k4 => k_asm); (case k5 => k_asm); (case XB => assumption); (case TB => assumption); (case D => assumption); (case T0 => first | assumption | exact KtsTurn.refl); (case k6 => k_is); (case k7 => k_is); (case k8 => walk_at "my room"); (case k9 => first | exact BindsTo.of_eq rfl | exact binds_K (by k_in) rfl (by k_is) rfl rfl rfl | fail "enterS: no rule for these arguments"); (case c5 => decide); (case kB => exact locs rfl); (case c2 => exact rfl); (case c3 => exact rfl); (case c4 => exact rfl); k_whole; intro g' L' h' FG' F' N' B' X' T' D' lL'; (try dsimp only); (try k_fold)))
local macro_rules | `(tactic| walk_at "my propS") => `(tactic| (k_dflt (refine' get_prop ?k1 ?k2 ?k3 ?k4 ?k5 ?k6 ?k7 ?k8 ?k9 ?_; (case k1 => k_asm); (case k2 => k_asm); (case k3 => k_inst); (case k4 => k_is); (case k5 => k_is); (case k6 => k_is); (case k7 => k_is); (case k8 => k_is); (case k9 => k_is); k_whole); walk_at "my enterS"))
local macro_rules | `(tactic| walk_at "call builtin:iter") => `(tactic| (k_here; (with_reducible show wpAny _ _ (call (Value.builtin "iter") [Value.ref _]) _ _ _); k_dflt (first
  | (refine' iter_list ?F ?N ?m ?_; (case F => k_asm); (case N => k_asm); (case m => k_mem); k_whole; intro i' h' F' N' l1; (try k_lt l1); (try k_sweep))
  | (refine' iter_map ?N ?m ?_; (case N => k_asm); (case m => k_mem); k_whole))))
local macro_rules | `(tactic| walk_at "call builtin:len") => `(tactic| (k_here; (with_reducible show wpAny _ _ (call (Value.builtin "len") [Value.ref _]) _ _ _); k_dflt (refine' len_list ?l ?z ?_; (case l => exact News.isList (by k_asm) (by k_mem)); (case z => rw [List.size_toArray]; (try simp only [List.length_drop]); omega); (try rw [List.size_toArray]))))
local macro_rules | `(tactic| walk_at "my cz") => `(tactic| exact ⟨by k_asm, by k_asm, by k_asm, by first | rfl | assumption, by first | rfl | assumption, by assumption, by assumption, by assumption⟩)
local macro_rules | `(tactic| walk_at "my retcz") => `(tactic| exact ⟨by assumption, by assumption, by assumption, by assumption, by assumption, by assumption, by assumption, by assumption⟩)
local macro_rules | `(tactic| walk_at "my enterSC") => `(tactic| (refine' enterSC ?k1 ?k2 ?k3 ?k4 ?k5 ?XB ?TB ?D ?T0 ?kA ?kF ?kK ?k6 ?k7 ?k8 ?k9 ?kB ?kD ?_ ?c2 ?c3 ?c4; (case kA => exact rfl); (case kF => first | exact rfl | assumption); (case kK => first | exact rfl | assumption); (case k2 => k_asm); (case k1 => k_asm); (case k3 => k_asm); (case k4 => k_asm); (case k5 => k_asm); (case XB => assumption); (case TB => assumption); (case D => assumption); (case T0 => first | assumption | exact KtsTurn.refl); (case k6 => k_is); (case k7 => k_is); (case k8 => walk_at "my room"); (case k9 => assumption); (case kB => exact rfl); (case kD => decide +kernel); (case c2 => exact rfl); (case c3 => exact rfl); (case c4 => exact rfl); k_whole; intro g' L' h' tk' cells' FG' F' N' Y' B' X' T' D' lL'; k_cells Y'; (try simp only [List.cons_append, List.nil_append] at N'); (try dsimp only); (try k_fold)))
local macro_rules | `(tactic| walk_at "getAttr ref") => `(tactic| (k_here; (with_reducible show wpAny _ _ (getAttr (Value.ref _) (Str.ofString "depth") _) _ _ _); k_dflt (refine' lc_depth ?C ?F ?N ?H ?hd ?h0 ?h1 ?_; (case F => k_asm); (case N => k_asm); (case H => assumption); (case C => walk_at "my cy"); (case hd => walk_at "my room"); (case h0 => assumption); (case h1 => assumption); k_whole; intro h' tk' t' F' N'; (try k_sweep))))
local macro_rules | `(tactic| walk_at "call ref") => `(tactic| (k_here; (with_reducible show wpAny _ _ (call (Value.ref 404) _ _) _ _ _); k_dflt (refine Stop.out ?_)))
section
variable {prog : Program} {w : World} {dp un : Nat} {gd : Option (List Code)} {A₀ : Around} {env : Env} {outer : List Env} {base h₀ : Heap} {p : Program} {loose : List Str} {mean : ExcName → Option Value} {mg mb : Str → Option Value} {L : Addr} {m : Str → Option Value} {rest : List (Addr × Obj)} {s : Shared} {E Q : Value → Shared → Prop} {ex : Bool} {P : Lp} {S : LS}
variable {g₀ : Heap}
/-- a loop calls itself for a tree's kids -/
theorem lc_call (C : Cz w A₀ env outer base h₀ p loose mean mg mb L) (T0 : KtsTurn (frs outer) g₀ h₀) (F : Fr h₀ L s.heap m) {il R : List (Addr × Obj)} (N : News h₀ L s.heap (Led P S (il ++ R))) (H : LoopOk P S (il ++ R)) (hag : P.again = .ref 404) (hd0 : 0 ≤ P.dep) {kids : Fo} (ih : OutC prog w kids) (hkw : kids.okw)
   {rows : Value} {l : Addr} {n : Nat} {vs : List Value} (hl : (l, listOf vs.toArray n) ∈ R) (hfo : FoIn R vs kids)
   (hr : (il = [] ∧ rows = .ref l) ∨ ∃ i mo t, il = [(i, LI l 0)] ∧ rows = .ref mo ∧ (mo, MP t 384) ∈ R ∧ (t, T1 (.ref i)) ∈ R ∧ ∀ q ∈ R, q.1 ≠ i) (hvs : vs.length ≤ 1000) (hdH : P.dep + 1 + kids.hgt < 1000) (hH : kids.hgt ≤ 3)
   (hdp : dp + 43 + 4 * kids.hgt < recursionLimit) (hun : un + 430 + 40 * kids.hgt < cLine)
   (ret : ∀ h₀' h' tk' a tl, KtsTurn (frs outer) g₀ h₀' → Cz w A₀ env outer base h₀' p loose mean mg mb L → Fr h₀' L h' m → News h₀' L h' (tl ++ Led P S R) → (∀ q ∈ tl, ∀ r ∈ Led P S R, q.1 ≠ r.1) → DatIn tl (.ref a) (.list (outl kids kids.len 0 (P.dep + 1) kids.labs none)) → Q (.ref a) { s with heap := h', toks := tk' }) :
   wpAny (model prog w) (AR dp un gd env outer) (call (.ref P.x) [rows]) Q E s := by
  have C₀ := C
  obtain ⟨B, X, T, hf, hk, XB, TB, D⟩ := C
  have hx := H.inst
  have hod := H.off_d
  have hoi := H.off_i
  have hid := H.i_d
  have hid2 := Ne.symm H.i_d
  have hlen := H.len1000
  have hit := H.iterator
  have hhI := H.handed
  have hund := H.undef
  have hrec := H.recurse
  have hkle := H.kle
  have hsmall := H.small
  walk_at "my fill"
  rw [hag] at hrec
  have hd1 : P.dep < 1000 := by omega
  have m1 := H.none_ "depth" (by decide)
  have m2 := H.none_ "__call__" (by decide)
  have hrh : handedIn rows = true := by
    rcases hr with ⟨_, h⟩ | ⟨_, _, _, _, h, _⟩ <;> (rw [h]; rfl)
  refine wpAny_call ?_
  k_dflt (refine' kco_code ?k1 ?k2 ?k3 ?k4 ?k5 ?k6 ?_; (case k1 => exact X.keeps F.keep); (case k2 => k_inst); (case k3 => rfl); (case k4 => k_is); (case k5 => k_is); (case k6 => k_is); (try dsimp only))
  walk_at "my enterS"
  k_steps
  refine Stop.in ?_
  refine wpAny_call ?_
  k_dflt (refine' ih _ _ _ _ _ _ _ _ _ _ _ _ _ _ _ _ _ (Led P S R) il rows l n vs (P.dep + 1) _ _ _ ?zC ?zT ?zF ?zN ?zl ?zo ?zr hvs hkw ?z0 hdH hH (.inl rfl) ?zd ?zu ?_)
  (case zF => k_asm); (case zC => walk_at "my cz"); (case zT => exact KtsTurn.refl)
  case zN =>
    refine News.sub' (by k_asm) fun q hq => ?_
    simp only [List.mem_cons, List.mem_append] at hq ⊢
    rcases hq with h | h | h | h <;> simp [h]
  (case zl => exact .tail _ (.tail _ hl)); (case zo => exact hfo.mono fun q hq => .tail _ (.tail _ hq))
  case zr =>
    rcases hr with h | ⟨i, mo, t, h1, h2, h3, h4, h5⟩
    · exact .inl h
    · refine .inr ⟨i, mo, t, h1, h2, .tail _ (.tail _ h3), .tail _ (.tail _ h4), fun q hq => ?_⟩
      have zd := hod (i, LI l 0) (by rw [h1]; exact .head _)
      have zi := hoi (i, LI l 0) (by rw [h1]; exact .head _)
      rcases List.mem_cons.mp hq with rfl | hq
      · exact Ne.symm zd
      rcases List.mem_cons.mp hq with rfl | hq
      · exact Ne.symm zi
      · exact h5 q hq
  (case z0 => omega); (case zd => walk_at "my room"); (case zu => walk_at "my units")
  k_whole
  intro h₀' h' tk' a tl T' C' F' N' hsep hD
  obtain ⟨B', X', T2', hf', hk', XB', TB', D'⟩ := C'
  (try k_sweep)
  k_steps
  exact ret _ _ _ _ _ (by assumption) (by walk_at "my retcz") (by assumption) (by assumption) hsep hD
end
end Mine

end
section
theorem Mine.walk_off_B15 : True := by
  w_top off
  trivial
open PySem PySem.W PyProof.Rows PySem.Spec PySem.Calls
set_option Elab.async false
set_option maxRecDepth 100000
set_option maxHeartbeats 8000000
namespace Mine
local macro_rules | `(tactic| walk_at "my fill") => `(tactic| (
  have hfill : (∀ P h, (hd.heap_39 P).In h → (hd.heap_39 P).In h) ∧ PySem.Challenge.rw_co0008_01.about = PySem.Challenge.rw_co0008_01.about := ⟨fun _ _ x => x, rfl⟩
  revert hfill; k_fill; intro hfill; clear hfill))
local macro_rules | `(tactic| walk_at "my room") => `(tactic| first | assumption | ((try simp only [depth_under_make, depth_under_kw, depth_in1, depth_deeper, depth_caller, AR_depth, mark_depth]); omega))
local macro_rules | `(tactic| walk_at "my units") => `(tactic| first | assumption | ((try simp only [units_in1, units_deeper, Around.mark_units, units_caller, AR_units]); omega))
local macro_rules | `(tactic| k_room) => `(tactic| walk_at "my room")
local macro_rules | `(tactic| k_units) => `(tactic| walk_at "my units")
local macro_rules | `(tactic| ke_room) => `(tactic| walk_at "my units")
local macro_rules | `(tactic| k_all) => `(tactic| first | assumption | exact allLt_le (by assumption) (by omega) | exact allLt_ne (by assumption) | exact allLt_ne (And.right (by assumption)) | exact allLt_ne (And.right (And.right (by assumption))) | exact allLt_ne (And.right (And.right (And.right (by assumption)))) | exact allLt_ne (And.right (And.right (And.right (And.right (by assumption))))))
local macro_rules | `(tactic| walk_at "my sub") => `(tactic| (refine News.sub' (by assumption) ?_; intro q hq; first | exact hq | exact .tail _ hq | exact .tail _ (.tail _ hq) | exact .tail _ (.tail _ (.tail _ hq)) | (simp only [List.mem_cons, List.mem_append] at hq ⊢; simp only [hq, or_true])))
local macro_rules | `(tactic| k_get) => `(tactic| first | with_reducible assumption | exact LoopOk.undef (by assumption) | exact LoopOk.recurse (by assumption) | exact LoopOk.iterable (by assumption) | exact LoopOk.iterator (by assumption) | exact getL_put _ | ((with_reducible refine (getL_put_ne ?hne).trans ?_); (case hne => decide); k_get))
local macro_rules | `(tactic| walk_at "my len") => `(tactic| ((repeat refine len_put_of ?_); omega))
local macro_rules | `(tactic| walk_at "my enter") => `(tactic| (
  refine' code_def ?k1 ?k2 ?k3 ?k4 ?k5 ?kA ?kF ?kK ?k6 ?k7 ?k8 ?k9 ?kB ?_ ?c2 ?c3 ?c4 ?c5; (case kA => first | exact rfl | assumption); (case kF => first | exact rfl | assumption); (case kK => first | exact rfl | assumption); (case k1 => k_asm); (case k2 => k_asm); (case k3 => k_asm); (case k4 => k_asm); (case k5 => k_asm); (case k6 => k_is); (case k7 => k_is); (case k8 => walk_at "my room"); (case k9 => first | exact BindsTo.of_eq rfl | exact binds_K (by k_in) rfl (by k_is) rfl rfl rfl | fail "enter: no rule for these arguments"); (case c5 => decide); (case kB => exact locs rfl); (case c2 => exact rfl); (case c3 => exact rfl); (case c4 => exact rfl); k_whole; intro g' L' h' FG' F' N' B' X' T'; (try dsimp only); (try k_fold)))
local macro_rules | `(tactic| walk_at "my prop") => `(tactic| (k_dflt (refine' get_prop ?k1 ?k2 ?k3 ?k4 ?k5 ?k6 ?k7 ?k8 ?k9 ?_; (case k1 => k_asm); (case k2 => k_asm); (case k3 => k_inst); (case k4 => k_is); (case k5 => k_is); (case k6 => k_is); (case k7 => k_is); (case k8 => k_is); (case k9 => k_is); k_whole); walk_at "my enter"))
local macro_rules | `(tactic| walk_at "setAttr ref") => `(tactic| (k_here; k_dflt (refine' set_dict ?k1 ?k2 ?k3 ?k4 ?k5 ?k6 ?k7 ?k8 ?k9 ?k10 ?k11 ?k12 ?k13 ?_; (case k1 => k_asm); (case k2 => k_asm); (case k3 => k_asm); (case k4 => k_inst); (case k5 => exact rfl); (case k6 => k_is); (case k7 => k_is); (case k8 => k_is); (case k9 => k_is); (case k10 => exact getL_isSome (by k_get)); (case k11 => exact rfl); (case k12 => k_upd); (case k13 => walk_at "my len"); k_whole; intro h' F' N'; (try k_sweep))))
local macro_rules | `(tactic| k_mem) => `(tactic| first | with_reducible assumption | exact List.Mem.head _ | (refine' List.mem_cons_of_mem _ ?_; k_mem) | (refine' List.mem_append_left _ ?_; k_mem) | (refine' List.mem_append_right _ ?_; k_mem))
local macro_rules | `(tactic| walk_at "compareOp IsNot ref ref") => `(tactic| (k_here; first | refine wpAny_isNot_ref_self ?_ | (k_dflt (refine' isNot_right ?n ?a ?b ?c ?_; (case n => kto_ne); (case a => kto_obj); (case b => kto_obj); (case c => kto_not); k_whole))))
local macro_rules | `(tactic| walk_at "compareOp Is ref ref") => `(tactic| (k_here; first | refine wpAny_is_ref_self ?_ | (k_dflt (refine' is_right ?n ?a ?b ?c ?_; (case n => kto_ne); (case a => kto_obj); (case b => kto_obj); (case c => kto_not); k_whole))))
local macro_rules | `(tactic| walk_at "my cx") => `(tactic| exact ⟨by k_asm, by k_asm, by k_asm, rfl, by first | rfl | assumption, by first | rfl | assumption⟩)
local macro_rules | `(tactic| walk_at "my cy") => `(tactic| exact ⟨by k_asm, by k_asm, by k_asm, by first | rfl | assumption, by first | rfl | assumption⟩)
local macro_rules | `(tactic| k_handed) => `(tactic| with_reducible assumption)
local macro_rules | `(tactic| walk_at "my rest") => `(tactic| (refine' kp_rest ?k1 ?k2 ?k3 ?k4 ?k5 ?kA ?kF ?kK ?k6 ?k7 ?k8 ?kV ?kP ?kG ?kB ?_ ?c2 ?c3 ?c4 ?c5; (case kA => exact rfl); (case kF => first | exact rfl | assumption); (case kK => first | exact rfl | assumption); (case k1 => k_asm); (case k2 => k_asm); (case k3 => k_asm); (case k4 => k_asm); (case k5 => k_asm); (case k6 => k_is); (case k7 => k_is); (case k8 => k_room); (case kV => kl_lit); (case kP => exact rfl); (case kG => exact fun _ => rfl); (case kB => exact fun _ => locs rfl); (case c5 => decide); (case c2 => exact rfl); (case c3 => exact rfl); (case c4 => exact rfl); k_whole; intro D' g' L' h' l1 FG' F' N' B' X' T'; (try k_lt l1); (try dsimp only); (try k_fold)))
local macro_rules | `(tactic| walk_at "compareOp NotEq ref ref") => `(tactic| (k_here; (with_reducible show wpAny _ _ (compareOp _ (Value.ref 92) (Value.ref _)) _ _ _); k_dflt (refine' inst_ne_tuple ?X ?I ?t ?c ?n ?h1 ?h2 ?h3 ?h4 ?h5 ?u ?_; (case X => k_in); (case I => refine' InstAt.of_K ?kx ?kl ?km; (case kx => k_in); (case kl => k_is); (case km => k_is)); (case t => exact kto_N (by k_asm) (by k_mem)); (case c => rfl); (case n => kto_ne); (case h1 => k_is); (case h2 => k_is); (case h3 => k_is); (case h4 => k_is); (case h5 => k_is); (case u => walk_at "my units"); k_whole)))
local macro_rules | `(tactic| walk_at "my enterS") => `(tactic| (
  refine' enterS ?k1 ?k2 ?k3 ?k4 ?k5 ?XB ?TB ?D ?T0 ?kA ?kF ?kK ?k6 ?k7 ?k8 ?k9 ?kB ?_ ?c2 ?c3 ?c4 ?c5; (case kA => exact rfl); (case kF => first | exact rfl | assumption); (case kK => first | exact rfl | assumption); (case k2 => k_asm); (case k1 => k_asm); (case k3 => k_asm); (case k4 => k_asm); (case k5 => k_asm); (case XB => assumption); (case TB => assumption); (case D => assumption); (case T0 => first | assumption | exact KtsTurn.refl); (case k6 => k_is); (case k7 => k_is); (case k8 => walk_at "my room"); (case k9 => first | exact BindsTo.of_eq rfl | exact binds_K (by k_in) rfl (by k_is) rfl rfl rfl | fail "enterS: no rule for these arguments"); (case c5 => decide); (case kB => exact locs rfl); (case c2 => exact rfl); (case c3 => exact rfl); (case c4 => exact rfl); k_whole; intro g' L' h' FG' F' N' B' X' T' D' lL'; (try dsimp only); (try k_fold)))
local macro_rules | `(tactic| walk_at "my propS") => `(tactic| (k_dflt (refine' get_prop ?k1 ?k2 ?k3 ?k4 ?k5 ?k6 ?k7 ?k8 ?k9 ?_; (case k1 => k_asm); (case k2 => k_asm); (case k3 => k_inst); (case k4 => k_is); (case k5 => k_is); (case k6 => k_is); (case k7 => k_is); (case k8 => k_is); (case k9 => k_is); k_whole); walk_at "my enterS"))
local macro_rules | `(tactic| walk_at "call builtin:iter") => `(tactic| (k_here; (with_reducible show wpAny _ _ (call (Value.builtin "iter") [Value.ref _]) _ _ _); k_dflt (first
  | (refine' iter_list ?F ?N ?m ?_; (case F => k_asm); (case N => k_asm); (case m => k_mem); k_whole; intro i' h' F' N' l1; (try k_lt l1); (try k_sweep))
  | (refine' iter_map ?N ?m ?_; (case N => k_asm); (case m => k_mem); k_whole))))
local macro_rules | `(tactic| walk_at "call builtin:len") => `(tactic| (k_here; (with_reducible show wpAny _ _ (call (Value.builtin "len") [Value.ref _]) _ _ _); k_dflt (refine' len_list ?l ?z ?_; (case l => exact News.isList (by k_asm) (by k_mem)); (case z => rw [List.size_toArray]; (try simp only [List.length_drop]); omega); (try rw [List.size_toArray]))))
local macro_rules | `(tactic| walk_at "my cz") => `(tactic| exact ⟨by k_asm, by k_asm, by k_asm, by first | rfl | assumption, by first | rfl | assumption, by assumption, by assumption, by assumption⟩)
local macro_rules | `(tactic| walk_at "my retcz") => `(tactic| exact ⟨by assumption, by assumption, by assumption, by assumption, by assumption, by assumption, by assumption, by assumption⟩)
local macro_rules | `(tactic| walk_at "my enterSC") => `(tactic| (refine' enterSC ?k1 ?k2 ?k3 ?k4 ?k5 ?XB ?TB ?D ?T0 ?kA ?kF ?kK ?k6 ?k7 ?k8 ?k9 ?kB ?kD ?_ ?c2 ?c3 ?c4; (case kA => exact rfl); (case kF => first | exact rfl | assumption); (case kK => first | exact rfl | assumption); (case k2 => k_asm); (case k1 => k_asm); (case k3 => k_asm); (case k4 => k_asm); (case k5 => k_asm); (case XB => assumption); (case TB => assumption); (case D => assumption); (case T0 => first | assumption | exact KtsTurn.refl); (case k6 => k_is); (case k7 => k_is); (case k8 => walk_at "my room"); (case k9 => assumption); (case kB => exact rfl); (case kD => decide +kernel); (case c2 => exact rfl); (case c3 => exact rfl); (case c4 => exact rfl); k_whole; intro g' L' h' tk' cells' FG' F' N' Y' B' X' T' D' lL'; k_cells Y'; (try simp only [List.cons_append, List.nil_append] at N'); (try dsimp only); (try k_fold)))
local macro_rules | `(tactic| walk_at "my look") => `(tactic| (first | with_reducible assumption | exact if_pos rfl | ((refine (if_neg (by decide)).trans ?_); walk_at "my look")))
local macro_rules | `(tactic| walk_at "eval Name") => `(tactic| (k_here; k_dflt (refine' nameX_L ?k1 ?k2 ?_; (case k1 => k_asm); (case k2 => (try dsimp only); walk_at "my look"); k_whole)))
local macro_rules | `(tactic| walk_at "call ref") => `(tactic| (k_here; (with_reducible show wpAny _ _ (call (Value.ref 255) _) _ _ _); k_dflt (refine Stop.out ?_)))
local macro_rules | `(tactic| walk_at "call ref") => `(tactic| (k_here; (with_reducible show wpAny _ _ (call (Value.ref 266) _) _ _ _); k_dflt (refine Stop.out ?_)))
local macro_rules | `(tactic| walk_at "call ref") => `(tactic| (k_here; (with_reducible show wpAny _ _ (call (Value.ref 398) _) _ _ _); k_dflt (refine Stop.out ?_)))
local macro_rules | `(tactic| walk_at "compareOp NotEq ref ref") => `(tactic| (k_here; k_dflt (refine Stop.out ?_)))
local macro_rules | `(tactic| walk_at "WhlRest") => `(tactic| (k_dflt (refine Stop.out ?_)))
local macro_rules | `(tactic| walk_at "last exec While") => `(tactic| (k_here; k_dflt (refine whl_start 0 ?_; refine Stop.out ?_)))
local macro_rules | `(tactic| walk_at "exec Try") => `(tactic| (k_here; k_dflt (refine wpAny_Try_except ?_)))
local macro_rules | `(tactic| walk_at "call ref") => `(tactic| (k_here; (with_reducible show wpAny _ _ (call (Value.ref (Lp.x _)) _) _ _ _); k_dflt (refine Stop.out ?_)))
local macro_rules | `(tactic| walk_at "callWith ref") => `(tactic| (k_here; (with_reducible show wpAny _ _ (callWith _ (Value.ref (Lp.x _)) _ _ _) _ _ _); k_dflt (refine Stop.out ?_)))
local macro_rules | `(tactic| walk_at "call type:map") => `(tactic| (k_here; k_dflt (refine Stop.out ?_)))
local macro_rules | `(tactic| walk_at "eval ListComp") => `(tactic| (k_here; k_dflt (refine Stop.out ?_)))
theorem outl_w {prog : Program} {w : World} (fo : Fo) (ih : ∀ k : Fo, k.hgt < fo.hgt → OutC prog w k) : OutC prog w fo := by
  intro dp un gd A₀ env outer base h₀ p loose mean mg mb L m s g₀ led il rows l n vs dep td args R C T0 F N hl hfo hr hsm hW hdep0 hdepH hH hargs hdp hun ret
  have hdep1 : dep < 1000 := by omega
  obtain ⟨B, X, T, hf, hk, XB, TB, D⟩ := C
  walk_at "my fill"
  refine' enterSC (binds := [("rows", rows), ("again", .ref 404), ("depth", .int dep td)]) ?k1 ?k2 ?k3 ?k4 ?k5 ?XB ?TB ?D ?T0 ?kA ?kF ?kK ?k6 ?k7 ?k8 ?k9 ?kB ?kD ?_ ?c2 ?c3 ?c4
  (case kA => exact rfl); (case kF => first | exact rfl | assumption); (case kK => first | exact rfl | assumption); (case k2 => k_asm); (case k1 => k_asm); (case k3 => k_asm); (case k4 => k_asm); (case k5 => k_asm); (case XB => assumption); (case TB => assumption); (case D => assumption); (case T0 => first | assumption | exact KtsTurn.refl); (case k6 => k_is); (case k7 => k_is); (case k8 => walk_at "my room")
  case k9 =>
    rcases hargs with rfl | ⟨rfl, rfl, rfl⟩
    · exact binds_K (X.keeps F.keep) rfl (by k_is) rfl rfl rfl
    · exact binds_K (X.keeps F.keep) rfl (by k_is) rfl rfl rfl
  (case kB => exact rfl); (case kD => decide +kernel); (case c2 => exact rfl); (case c3 => exact rfl); (case c4 => exact rfl); k_whole; intro g' L' h' tk' cells' FG' F' N' Y' B' X' T' D' lL'; k_cells Y'; (try simp only [List.cons_append, List.nil_append] at N'); (try dsimp only); (try k_fold)
  (rename_i o1 o2 o3 hc1 hc2 hc3)
  have hrh : handedIn rows = true := by
    rcases hr with ⟨_, h⟩ | ⟨_, _, _, _, h, _⟩ <;> (rw [h]; rfl)
  k_steps
  refine Stop.in ?_
  have N2 : News g' L' h' (il ++ ((L' + 1 + 1 + 1, o1) :: (L' + 1 + 1, o2) :: (L' + 1, o3) :: led)) := News.sub' N' fun q hq => by
    simp only [List.mem_cons, List.mem_append] at hq ⊢
    rcases hq with h | h | h | h | h <;> simp [h]
  have hr2 : (il = [] ∧ rows = .ref l) ∨ ∃ i mo t, il = [(i, LI l 0)] ∧ rows = .ref mo ∧ (mo, MP t 384) ∈ ((L' + 1 + 1 + 1, o1) :: (L' + 1 + 1, o2) :: (L' + 1, o3) :: led) ∧ (t, T1 (.ref i)) ∈ ((L' + 1 + 1 + 1, o1) :: (L' + 1 + 1, o2) :: (L' + 1, o3) :: led) ∧ ∀ q ∈ ((L' + 1 + 1 + 1, o1) :: (L' + 1 + 1, o2) :: (L' + 1, o3) :: led), q.1 ≠ i := by
    rcases hr with h | ⟨i, mo, t, h1, h2, h3, h4, h5⟩
    · exact .inl h
    · have hi : @LT.lt Nat _ i L' := lL' (i, LI l 0) (by rw [h1]; exact .head _)
      refine .inr ⟨i, mo, t, h1, h2, .tail _ (.tail _ (.tail _ h3)), .tail _ (.tail _ (.tail _ h4)), fun q hq => ?_⟩
      rcases List.mem_cons.mp hq with rfl | hq
      · exact Nat.ne_of_gt (by show @LT.lt Nat _ i (L' + 1 + 1 + 1); omega)
      rcases List.mem_cons.mp hq with rfl | hq
      · exact Nat.ne_of_gt (by show @LT.lt Nat _ i (L' + 1 + 1); omega)
      rcases List.mem_cons.mp hq with rfl | hq
      · exact Nat.ne_of_gt (by show @LT.lt Nat _ i (L' + 1); omega)
      · exact h5 q hq
  k_dflt (refine' mk_loop (vs := vs) (ls := fo.labs) (l := l) (n := n) ?C ?F N2 ?hl ?hls hr2 hsm ?hd ?hu ?_)
  (case C => walk_at "my cy"); (case F => k_asm); (case hl => k_mem); (case hls => exact hfo.labs.mono fun q hq => .tail _ (.tail _ (.tail _ hq))); (case hd => walk_at "my room"); (case hu => walk_at "my units")
  k_whole
  intro h1 tk1 x d S1 F1 N1 H1 sk sl sL l1 l2 l3
  have hod := H1.off_d
  have hoi := H1.off_i
  have hid := H1.i_d
  have hid2 := Ne.symm H1.i_d
  clear N' N2
  k_steps
  refine Stop.in ?_
  rename_i ol hx1 lo Dt hx2 lD hx3 hx4 hx5 Fw Nw
  have hrows : ∀ a : Nat, (∀ q ∈ led, @Ne Nat q.1 a) → rows ≠ .ref a := by
    intro a ha e
    rcases hr with ⟨_, h⟩ | ⟨i, mo, t, _, h, h2, _⟩
    · rw [h] at e
      injection e with e
      exact ha _ hl e
    · rw [h] at e
      injection e with e
      exact ha _ h2 e
  have ledL : ∀ q ∈ led, @LT.lt Nat _ q.1 L' := fun q hq => lL' q (List.mem_append_right _ hq)
  have H2 : LoopOk ⟨x, d, rows, .ref 404, dep, vs, fo.labs⟩ S1 ([(x, instObj 255 d)] ++ led) := by
    have cellOk : ∀ a : Nat, @LT.lt Nat _ L' a → ∀ o : Obj, (∃ v, o.data = .cell v) → Mut o ∧ a ≠ S1.l ∧ rows ≠ .ref a := fun a ha o ho => by
      refine ⟨.inr (.inl ho), fun z => ?_, hrows a fun q hq => ?_⟩
      · have := ledL _ hl
        rw [← sL] at this
        rw [z] at ha
        exact Nat.lt_asymm ha this
      · have := ledL q hq
        omega
    refine H1.move (fun q hq => ?_) (fun q hq => hod q ?_) (fun q hq => hoi q ?_)
    · rcases List.mem_cons.mp hq with rfl | hq
      · exact .inl (.head _)
      rcases List.mem_cons.mp hq with rfl | hq
      · exact .inr (cellOk (L' + 1 + 1 + 1) (by omega) _ ⟨_, hc1⟩)
      rcases List.mem_cons.mp hq with rfl | hq
      · exact .inr (cellOk (L' + 1 + 1) (by omega) _ ⟨_, hc2⟩)
      rcases List.mem_cons.mp hq with rfl | hq
      · exact .inr (cellOk (L' + 1) (by omega) _ ⟨_, hc3⟩)
      exact .inl (.tail _ hq)
    all_goals
      rcases List.mem_cons.mp hq with rfl | hq
      · exact .head _
      · exact .tail _ (.tail _ (.tail _ (.tail _ hq)))
  generalize hP : (⟨x, d, rows, .ref 404, dep, vs, fo.labs⟩ : Lp) = P at *
  have hPx : P.x = x := by rw [← hP]
  have hPd : P.d = d := by rw [← hP]
  have hPv : P.vs = vs := by rw [← hP]
  have hPl : P.ls = fo.labs := by rw [← hP]
  have hPe : P.dep = dep := by rw [← hP]
  have hd0 : 0 ≤ P.dep := by rw [hPe]; exact hdep0
  have hd1 : P.dep < 1000 := by rw [hPe]; exact hdep1
  have olc3 : @Ne Nat ol (L' + 1 + 1 + 1) := Nat.ne_of_gt lo.2.2.2.1
  have olc2 : @Ne Nat ol (L' + 1 + 1) := Nat.ne_of_gt lo.2.2.2.2.1
  have olc1 : @Ne Nat ol (L' + 1) := Nat.ne_of_gt lo.2.2.2.2.2.1
  have c3ol := Ne.symm olc3
  have c2ol := Ne.symm olc2
  have c1ol := Ne.symm olc1
  have c32 : @Ne Nat (L' + 1 + 1 + 1) (L' + 1 + 1) := by omega
  have c31 : @Ne Nat (L' + 1 + 1 + 1) (L' + 1) := by omega
  have c21 : @Ne Nat (L' + 1 + 1) (L' + 1) := by omega
  have c23 := Ne.symm c32
  have c13 := Ne.symm c31
  have c12 := Ne.symm c21
  refine whl_rule (OI w (AR dp un gd env outer) (env :: outer) base g' p loose mean mg mb s P ol L' led fo) Fo.len ?turn fo _ ?init
  case init =>
    refine ⟨g', _, S1, [(x, instObj 255 d)], [], 0, o1, o2, o3, [], _, _, rfl, ⟨KtsTurn.refl, B', X', T', D'⟩, Fw, ?_, ?_, News.sub' Nw ?_, ⟨_, hc1⟩, ⟨_, hc2⟩, ⟨_, hc3⟩, H2, ?_, ?_, ?_, .nil, ?_, Nat.zero_le _, Nat.le_refl _, hW⟩
    · rw [hPx]; exact if_pos rfl
    · exact (if_neg (by decide)).trans (if_pos rfl)
    · intro q hq
      simp only [List.mem_cons, List.mem_append, List.not_mem_nil, or_false] at hq ⊢
      rcases hq with h | h | h | h | h | h | h | h <;> simp [h]
    · rw [sk, hPv]; exact hfo
    · intro q hq z hz e
      rw [List.mem_singleton.mp hq] at e
      have := l2 z (List.mem_append_right _ (.tail _ (.tail _ (.tail _ hz))))
      rw [← e] at this
      exact Nat.lt_irrefl _ this
    · have di : ∀ a : Nat, a = ol ∨ a = L' + 1 + 1 + 1 ∨ a = L' + 1 + 1 ∨ a = L' + 1 → @LT.lt Nat _ L' a := by
        intro a ha
        rcases ha with rfl | rfl | rfl | rfl
        · exact Nat.lt_trans (by omega) lo.2.2.2.1
        all_goals omega
      have c3 := l1 (L' + 1 + 1 + 1, o1) (List.mem_append_right _ (.head _))
      have c2 := l1 (L' + 1 + 1, o2) (List.mem_append_right _ (.tail _ (.head _)))
      have c1 := l1 (L' + 1, o3) (List.mem_append_right _ (.tail _ (.tail _ (.head _))))
      have b3 := l2 (L' + 1 + 1 + 1, o1) (List.mem_append_right _ (.head _))
      have b2 := l2 (L' + 1 + 1, o2) (List.mem_append_right _ (.tail _ (.head _)))
      have b1 := l2 (L' + 1, o3) (List.mem_append_right _ (.tail _ (.tail _ (.head _))))
      dsimp only at c1 c2 c3 b1 b2 b3
      have lo1 := lo.1
      have lo2 := lo.2.1
      have lo3 := lo.2.2.1
      have hS : (@LT.lt Nat _ S1.i L') ∨ (@LT.lt Nat _ (L' + 1 + 1 + 1) S1.i ∧ @LT.lt Nat _ (L' + 1 + 1) S1.i ∧ @LT.lt Nat _ (L' + 1) S1.i) := by
        rcases l3 with z | ⟨q, hq, e⟩
        · exact .inr ⟨z _ (.head _), z _ (.tail _ (.head _)), z _ (.tail _ (.tail _ (.head _)))⟩
        · exact .inl (by rw [← e]; exact lL' q (List.mem_append_left _ hq))
      intro a ha
      refine ⟨?_, ?_, fun q hq => ?_⟩
      · rcases ha with rfl | rfl | rfl | rfl
        · exact Nat.ne_of_lt lo2
        all_goals rcases hS with z | ⟨z1, z2, z3⟩ <;> omega
      · rw [hPd]
        rcases ha with rfl | rfl | rfl | rfl
        · exact Nat.ne_of_lt lo1
        · exact Nat.ne_of_gt c3
        · exact Nat.ne_of_gt c2
        · exact Nat.ne_of_gt c1
      · rcases List.mem_append.mp hq with hq | hq
        · rw [List.mem_singleton.mp hq]
          rcases ha with rfl | rfl | rfl | rfl
          · exact Nat.ne_of_lt lo3
          · exact Nat.ne_of_gt b3
          · exact Nat.ne_of_gt b2
          · exact Nat.ne_of_gt b1
        · exact Nat.ne_of_lt (Nat.lt_trans (ledL q hq) (di a ha))
    · rw [sk, sl]; rfl
  case turn =>
    intro r s' hI next
    obtain ⟨g, m', S, T, xs, nn, q1, q2, q3, ds, h, tk, rfl, G, Fv, hm1, hm2, Nv, ⟨v1, hq1⟩, ⟨v2, hq2⟩, ⟨v3, hq3⟩, H, hF, hT, hsep, hD, hds, hxs, hrH, hrW⟩ := hI
    (try clear Nw)
    (try clear Fw)
    (try clear lD)
    (try clear lo)
    (try clear N1)
    (try clear F1)
    (try clear hr2)
    (try clear H2)
    (try clear H1)
    (try clear N)
    (try clear F)
    (try clear D')
    (try clear T')
    (try clear X')
    (try clear B')
    obtain ⟨GT, B', X', T', D'⟩ := G
    refine' whl_turn ?hE ?_
    (case hE => first | passes_own | with_unfolding_all passes_own)
    k_steps
    refine Stop.in ?_
    obtain ⟨ln, Hn, hln⟩ := H.norm
    have sepM : ∀ q ∈ [(ol, listOf xs.toArray nn), (L' + 1 + 1 + 1, q1), (L' + 1 + 1, q2), (L' + 1, q3)], q.1 ≠ P.d ∧ q.1 ≠ S.i ∧ (∀ z ∈ T ++ led, z.1 ≠ q.1) ∧ Mut q.2 := by
      intro q hq
      have z := hsep q.1 (by
        simp only [List.mem_cons, List.not_mem_nil, or_false] at hq
        rcases hq with rfl | rfl | rfl | rfl <;> simp)
      refine ⟨Ne.symm z.2.1, Ne.symm z.1, z.2.2, ?_⟩
      simp only [List.mem_cons, List.not_mem_nil, or_false] at hq
      rcases hq with rfl | rfl | rfl | rfl
      · exact .inl rfl
      · exact .inr (.inl ⟨_, hq1⟩)
      · exact .inr (.inl ⟨_, hq2⟩)
      · exact .inr (.inl ⟨_, hq3⟩)
    have Ha : LoopOk P { S with l := ln } ([(ol, listOf xs.toArray nn), (L' + 1 + 1 + 1, q1), (L' + 1 + 1, q2), (L' + 1, q3)] ++ (T ++ led)) := Hn.add fun q hq => ⟨(sepM q hq).1, (sepM q hq).2.1⟩
    have Na : News g L' h (Led P { S with l := ln } ([(ol, listOf xs.toArray nn), (L' + 1 + 1 + 1, q1), (L' + 1 + 1, q2), (L' + 1, q3)] ++ (T ++ led))) := News.sub' Nv fun q hq => by
      simp only [List.mem_cons, List.mem_append, List.not_mem_nil, or_false] at hq ⊢
      rcases hq with h | h | (h | h | h | h) | h <;> simp [h]
    cases r with
    | nil =>
      have hend := hF.end_ H.kle
      k_dflt (refine' step_end (S := { S with l := ln }) ?C ?F Na Ha ?hd ?hu hend ?raised)
      (case C => walk_at "my cy"); (case F => k_asm); (case hd => walk_at "my room"); (case hu => walk_at "my units")
      case raised =>
        k_whole
        intro h9 tk9 G9 e9 o9 FG9 R9 U9
        refine' catch_flown (x := Str.ofString "StopIteration") (T' := "StopIteration") (X := "StopIteration") (KF := hd.heap_39 w.params) R9 FG9 ?K U9 XB TB ?D ?T ?ex ?bo ?hn ?hexc ?hnt ?hsub ?_ ?hE ?hk ?hx ?hd
        (case K => k_asm); (case D => assumption); (case T => exact KtsTurn.refl); (case ex => k_is); (case bo => boot_by_name); (case hn => decide); (case hexc => rw [isSubtype_type]; kernel_rfl); (case hnt => rw [isSubtype_type]; kernel_rfl); (case hsub => rw [isSubtype_type]; kernel_rfl); (case hE => first | passes_own | with_unfolding_all passes_own); (case hk => rfl); (case hx => rfl); (case hd => decide)
        intro h8 g8 T8 F8 N8 B8 X8 P8 D8
        clear Nv Na
        k_steps
        refine leaveS_r F8 N8 (GT.trans T8) fun hh Th Fh Nh Bh Xh Ph Dh => ?_
        refine ret hh _ _ ol ((ol, listOf xs.toArray nn) :: T) Th ⟨Bh, Xh, Ph, hf, hk, XB, TB, Dh⟩ Fh (News.sub' Nh fun q hq => ?_) (fun q hq z hz => ?_) (.list (.head _) ?_)
        · simp only [List.mem_cons, List.mem_append, List.not_mem_nil, or_false] at hq ⊢
          rcases hq with (h | h) | h <;> simp [h]
        · rcases List.mem_cons.mp hq with rfl | hq
          · exact Ne.symm ((hsep ol (.inl rfl)).2.2 z (List.mem_append_right _ hz))
          · exact hT q hq z hz
        · rw [outl, List.append_nil, hPv, hPe, hPl, hfo.len] at hds
          rw [← hds]
          exact hD.mono fun q hq => .tail _ hq
    | cons lab kids ask sz rest =>
      obtain ⟨a, t1, kl, t2, kn, kvs, hv, hm4, hkl, hkids, hrest⟩ := hF.head
      k_dflt (refine' step_item (S := { S with l := ln }) ?C ?F Na Ha ?hd ?hu hv ?_)
      (case C => walk_at "my cy"); (case F => k_asm); (case hd => walk_at "my room"); (case hu => walk_at "my units")
      k_whole
      intro h9 tk9 S9 a9 F9 N9 H9 ek ei el elc la9
      have hod9 := H9.off_d
      have hoi9 := H9.off_i
      have hid9 := H9.i_d
      have hid8 := Ne.symm H9.i_d
      have Hc : LoopOk P S9 (T ++ led) := Hn.drop (tl := []) hln H9 (fun q hq => (sepM q hq).2.2.2) (fun q hq => (sepM q hq).2.2.1) (.inl el)
      have Nc : News g L' h9 ((a9, { cls := .type "tuple", data := .seq #[.ref a, .ref P.x] }) :: (ol, listOf xs.toArray nn) :: (L' + 1 + 1 + 1, q1) :: (L' + 1 + 1, q2) :: (L' + 1, q3) :: Led P S9 (T ++ led)) := News.sub' N9 fun q hq => by
        simp only [List.mem_cons, List.mem_append, List.not_mem_nil, or_false] at hq ⊢
        rcases hq with h | h | h | h | h | h | h | h <;> simp [h]
      have s0 := hsep ol (.inl rfl)
      have s3 := hsep (L' + 1 + 1 + 1) (.inr (.inl rfl))
      have s2 := hsep (L' + 1 + 1) (.inr (.inr (.inl rfl)))
      have s1 := hsep (L' + 1) (.inr (.inr (.inr rfl)))
      rw [show S.i = S9.i from ei.symm] at s0 s1 s2 s3
      obtain ⟨i0, d0, r0⟩ := s0
      obtain ⟨i1, d1, r1⟩ := s1
      obtain ⟨i2, d2, r2⟩ := s2
      obtain ⟨i3, d3, r3⟩ := s3
      have a0 : @Ne Nat a9 ol := Nat.ne_of_gt (la9 (ol, listOf xs.toArray nn) (by simp))
      have a3 : @Ne Nat a9 (L' + 1 + 1 + 1) := Nat.ne_of_gt (la9 (L' + 1 + 1 + 1, q1) (by simp))
      have a2 : @Ne Nat a9 (L' + 1 + 1) := Nat.ne_of_gt (la9 (L' + 1 + 1, q2) (by simp))
      have a1 : @Ne Nat a9 (L' + 1) := Nat.ne_of_gt (la9 (L' + 1, q3) (by simp))
      clear hod9 hoi9
      have hod9 := Hc.off_d
      have hoi9 := Hc.off_i
      clear Nv Na N9 H9 Ha
      have hm5 : (a, T4 lab t1 kl ask t2 sz) ∈ T ++ led := List.mem_append_right _ hm4
      k_steps
      refine Stop.in ?_
      (rename News _ _ _ _ => Nl)
      (rename Fr _ L' _ _ => Fl)
      (rename_i oP dP hz1 hz2 oL dL hz3 hz4 oA dA hz5)
      refine ListComp_S (L := L') (Φ := fun g2 => Gr w (AR dp un gd env outer) (env :: outer) base g' g2 p loose mean mg mb) Fl rfl (by with_unfolding_all rfl) (by decide) (by rfl) (by decide) (by rfl) ?_
      k_steps
      (rename IsRange _ _ _ _ _ _ _ _ => hrg)
      (rename News _ _ _ _ => Nm)
      (rename Fr _ L' _ _ => Fm)
      have hk9 : S9.k ≠ 0 := by rw [ek]; exact Nat.succ_ne_zero _
      have hneOld : ∀ q ∈ [(ol, listOf xs.toArray nn), (L' + 1 + 1 + 1, oA), (L' + 1 + 1, oL), (L' + 1, oP)], q.1 ≠ P.d ∧ q.1 ≠ S9.i ∧ (∀ z ∈ T ++ led, z.1 ≠ q.1) ∧ Mut q.2 := by
        intro q hq
        simp only [List.mem_cons, List.not_mem_nil, or_false] at hq
        rcases hq with rfl | rfl | rfl | rfl
        · exact ⟨Ne.symm d0, Ne.symm i0, r0, .inl rfl⟩
        · exact ⟨Ne.symm d3, Ne.symm i3, r3, .inr (.inl ⟨_, dA⟩)⟩
        · exact ⟨Ne.symm d2, Ne.symm i2, r2, .inr (.inl ⟨_, dL⟩)⟩
        · exact ⟨Ne.symm d1, Ne.symm i1, r1, .inr (.inl ⟨_, dP⟩)⟩
      refine ⟨g, _, 0, 3, _, _, _, 3, (ol, listOf xs.toArray nn) :: (L' + 1 + 1 + 1, oA) :: (L' + 1 + 1, oL) :: (L' + 1, oP) :: Led P S9 (T ++ led), rfl, ⟨GT, B', X', T', D'⟩, Fm, News.sub' Nm fun q hq => .tail _ hq, hrg, by decide, by decide, by decide, ?_⟩
      rintro sC ⟨hC, rfl⟩
      clear Nm Fm hrg B' X' T' D'
      obtain ⟨R0, hR0⟩ : ∃ z, z = T ++ led := ⟨_, rfl⟩
      have hOld0 := hneOld
      have H09 := Hc
      rw [← hR0] at hOld0 H09 ⊢
      have hk09 := hk9
      intro gA0 tA0 I0 oI0 C0 oC0 D0 mA0 hA0 tkA0 EA0 GA0 hI0 hC0 hx0 FA0 NA0 off0 ne0
      obtain ⟨GT0, BA0, XA0, TA0, DA0⟩ := GA0
      have offm0 := off0.mem
      have hmt0 : ∀ q ∈ [(I0, oI0), (C0, oC0), (D0, LCg.lst []), (ol, listOf xs.toArray nn), (L' + 1 + 1 + 1, oA), (L' + 1 + 1, oL), (L' + 1, oP)], (q.1 ≠ P.d ∧ q.1 ≠ S9.i ∧ ∀ z ∈ R0, z.1 ≠ q.1) ∧ Mut q.2 := by
        intro q hq
        rcases List.mem_cons.mp hq with rfl | hq
        · exact ⟨⟨Ne.symm (offm0 (P.d, dictOf S9.es S9.n) (by simp)).1, Ne.symm (offm0 (S9.i, S9.o) (by simp)).1, fun z hz => (offm0 z (by simp [hz])).1⟩, .inr (.inr (.inr hI0))⟩
        rcases List.mem_cons.mp hq with rfl | hq
        · obtain ⟨es, ep, hdC, _⟩ := id hC0
          exact ⟨⟨Ne.symm (offm0 (P.d, dictOf S9.es S9.n) (by simp)).2.1, Ne.symm (offm0 (S9.i, S9.o) (by simp)).2.1, fun z hz => (offm0 z (by simp [hz])).2.1⟩, .inr (.inr (.inl ⟨es, ep, hdC⟩))⟩
        rcases List.mem_cons.mp hq with rfl | hq
        · exact ⟨⟨Ne.symm (offm0 (P.d, dictOf S9.es S9.n) (by simp)).2.2, Ne.symm (offm0 (S9.i, S9.o) (by simp)).2.2, fun z hz => (offm0 z (by simp [hz])).2.2⟩, .inl rfl⟩
        have z := hOld0 q hq
        exact ⟨⟨z.1, z.2.1, z.2.2.1⟩, z.2.2.2⟩
      obtain ⟨ln0, Hn0, hl0, Ha0⟩ := turn_pre H09 fun q hq => (hmt0 q hq).1
      have Na0 : News gA0 L' hA0 (Led P { S9 with l := ln0 } ([(I0, oI0), (C0, oC0), (D0, LCg.lst []), (ol, listOf xs.toArray nn), (L' + 1 + 1 + 1, oA), (L' + 1 + 1, oL), (L' + 1, oP)] ++ R0)) := News.sub' NA0 perm_in
      clear NA0
      have hxx0 : mA0 "n" = some (.int 0 tA0) := by simpa using hx0
      k_steps
      refine Stop.in ?_
      k_dflt (refine' ans (S := { S9 with l := ln0 }) (q := qn ask 0) ?zC0 ?zT0 ?zF0 ?zN0 Ha0 ?zd0 ?zu0 ?zk0 hd0 hd1 (qn_lo _ _) (qn_hi _ _) ?_)
      (case zF0 => k_asm); (case zN0 => k_asm); (case zC0 => walk_at "my cz"); (case zT0 => exact GT0); (case zd0 => walk_at "my room"); (case zu0 => walk_at "my units"); (case zk0 => exact hk09)
      k_whole
      intro gB0 hB0 tkB0 S31 rB0 v0 TB0 CB0 FB0 NB0 HB0 eB0 ekB0 elB0 lfB0
      obtain ⟨tl0, rfl, HH0, hm0B, hf0B⟩ := turn_post Hn0 hl0 (fun q hq => (hmt0 q hq).2) (fun q hq => (hmt0 q hq).1) HB0 eB0
      have offB0 : LCg.Off3 I0 C0 D0 ((ol, listOf xs.toArray nn) :: (L' + 1 + 1 + 1, oA) :: (L' + 1 + 1, oL) :: (L' + 1, oP) :: Led P S31 (tl0 ++ R0)) := .of fun z hz => by
        have iI := hm0B (I0, oI0) (.head _)
        have iC := hm0B (C0, oC0) (.tail _ (.head _))
        have iD := hm0B (D0, LCg.lst []) (.tail _ (.tail _ (.head _)))
        rcases List.mem_cons.mp hz with rfl | hz
        · exact offm0 _ (.head _)
        rcases List.mem_cons.mp hz with rfl | hz
        · exact offm0 _ (.tail _ (.head _))
        rcases List.mem_cons.mp hz with rfl | hz
        · exact offm0 _ (.tail _ (.tail _ (.head _)))
        rcases List.mem_cons.mp hz with rfl | hz
        · exact offm0 _ (.tail _ (.tail _ (.tail _ (.head _))))
        rcases List.mem_cons.mp hz with rfl | hz
        · exact ⟨Ne.symm iI.1, Ne.symm iC.1, Ne.symm iD.1⟩
        rcases List.mem_cons.mp hz with rfl | hz
        · exact ⟨Ne.symm iI.2.1, Ne.symm iC.2.1, Ne.symm iD.2.1⟩
        · exact ⟨iI.2.2 z hz, iC.2.2 z hz, iD.2.2 z hz⟩
      have hOldB0 : ∀ q ∈ [(ol, listOf xs.toArray nn), (L' + 1 + 1 + 1, oA), (L' + 1 + 1, oL), (L' + 1, oP)], q.1 ≠ P.d ∧ q.1 ≠ S31.i ∧ (∀ z ∈ tl0 ++ R0, z.1 ≠ q.1) ∧ Mut q.2 := fun q hq =>
        ⟨(hm0B q (.tail _ (.tail _ (.tail _ hq)))).1, (hm0B q (.tail _ (.tail _ (.tail _ hq)))).2.1, (hm0B q (.tail _ (.tail _ (.tail _ hq)))).2.2, (hmt0 q (.tail _ (.tail _ (.tail _ hq)))).2⟩
      refine ⟨gB0, hB0, tkB0, (ol, listOf xs.toArray nn) :: (L' + 1 + 1 + 1, oA) :: (L' + 1 + 1, oL) :: (L' + 1, oP) :: Led P S31 (tl0 ++ R0), ⟨TB0, CB0.B, CB0.X, CB0.T, CB0.D⟩, rfl, FB0, News.sub' NB0 perm_out, offB0, ?_⟩
      obtain ⟨R1, hR1⟩ : ∃ z, z = tl0 ++ R0 := ⟨_, rfl⟩
      rw [← hR1] at hOldB0 HH0 ⊢
      have hOld1 := hOldB0
      have H19 := HH0
      have hk19 : S31.k ≠ 0 := by rw [ekB0]; exact hk09
      clear qk ek NB0 FB0 HB0 Ha0 Na0 FA0 BA0 XA0 TA0 DA0 GT0 hm0B hmt0 offm0 offB0 off0 hOldB0 hOld0 HH0 CB0 TB0 hx0 hxx0 hC0 hI0 eB0 ne0
      intro gA1 tA1 I1 oI1 C1 oC1 D1 mA1 hA1 tkA1 EA1 GA1 hI1 hC1 hx1 FA1 NA1 off1 ne1
      obtain ⟨GT1, BA1, XA1, TA1, DA1⟩ := GA1
      have offm1 := off1.mem
      have hmt1 : ∀ q ∈ [(I1, oI1), (C1, oC1), (D1, LCg.lst [v0]), (ol, listOf xs.toArray nn), (L' + 1 + 1 + 1, oA), (L' + 1 + 1, oL), (L' + 1, oP)], (q.1 ≠ P.d ∧ q.1 ≠ S31.i ∧ ∀ z ∈ R1, z.1 ≠ q.1) ∧ Mut q.2 := by
        intro q hq
        rcases List.mem_cons.mp hq with rfl | hq
        · exact ⟨⟨Ne.symm (offm1 (P.d, dictOf S31.es S31.n) (by simp)).1, Ne.symm (offm1 (S31.i, S31.o) (by simp)).1, fun z hz => (offm1 z (by simp [hz])).1⟩, .inr (.inr (.inr hI1))⟩
        rcases List.mem_cons.mp hq with rfl | hq
        · obtain ⟨es, ep, hdC, _⟩ := id hC1
          exact ⟨⟨Ne.symm (offm1 (P.d, dictOf S31.es S31.n) (by simp)).2.1, Ne.symm (offm1 (S31.i, S31.o) (by simp)).2.1, fun z hz => (offm1 z (by simp [hz])).2.1⟩, .inr (.inr (.inl ⟨es, ep, hdC⟩))⟩
        rcases List.mem_cons.mp hq with rfl | hq
        · exact ⟨⟨Ne.symm (offm1 (P.d, dictOf S31.es S31.n) (by simp)).2.2, Ne.symm (offm1 (S31.i, S31.o) (by simp)).2.2, fun z hz => (offm1 z (by simp [hz])).2.2⟩, .inl rfl⟩
        have z := hOld1 q hq
        exact ⟨⟨z.1, z.2.1, z.2.2.1⟩, z.2.2.2⟩
      obtain ⟨ln1, Hn1, hl1, Ha1⟩ := turn_pre H19 fun q hq => (hmt1 q hq).1
      have Na1 : News gA1 L' hA1 (Led P { S31 with l := ln1 } ([(I1, oI1), (C1, oC1), (D1, LCg.lst [v0]), (ol, listOf xs.toArray nn), (L' + 1 + 1 + 1, oA), (L' + 1 + 1, oL), (L' + 1, oP)] ++ R1)) := News.sub' NA1 perm_in
      clear NA1
      have hxx1 : mA1 "n" = some (.int 1 tA1) := by simpa using hx1
      k_steps
      refine Stop.in ?_
      k_dflt (refine' ans (S := { S31 with l := ln1 }) (q := qn ask 1) ?zC1 ?zT1 ?zF1 ?zN1 Ha1 ?zd1 ?zu1 ?zk1 hd0 hd1 (qn_lo _ _) (qn_hi _ _) ?_)
      (case zF1 => k_asm); (case zN1 => k_asm); (case zC1 => walk_at "my cz"); (case zT1 => exact GT1); (case zd1 => walk_at "my room"); (case zu1 => walk_at "my units"); (case zk1 => exact hk19)
      k_whole
      intro gB1 hB1 tkB1 S32 rB1 v1 TB1 CB1 FB1 NB1 HB1 eB1 ekB1 elB1 lfB1
      obtain ⟨tl1, rfl, HH1, hm1B, hf1B⟩ := turn_post Hn1 hl1 (fun q hq => (hmt1 q hq).2) (fun q hq => (hmt1 q hq).1) HB1 eB1
      have offB1 : LCg.Off3 I1 C1 D1 ((ol, listOf xs.toArray nn) :: (L' + 1 + 1 + 1, oA) :: (L' + 1 + 1, oL) :: (L' + 1, oP) :: Led P S32 (tl1 ++ R1)) := .of fun z hz => by
        have iI := hm1B (I1, oI1) (.head _)
        have iC := hm1B (C1, oC1) (.tail _ (.head _))
        have iD := hm1B (D1, LCg.lst [v0]) (.tail _ (.tail _ (.head _)))
        rcases List.mem_cons.mp hz with rfl | hz
        · exact offm1 _ (.head _)
        rcases List.mem_cons.mp hz with rfl | hz
        · exact offm1 _ (.tail _ (.head _))
        rcases List.mem_cons.mp hz with rfl | hz
        · exact offm1 _ (.tail _ (.tail _ (.head _)))
        rcases List.mem_cons.mp hz with rfl | hz
        · exact offm1 _ (.tail _ (.tail _ (.tail _ (.head _))))
        rcases List.mem_cons.mp hz with rfl | hz
        · exact ⟨Ne.symm iI.1, Ne.symm iC.1, Ne.symm iD.1⟩
        rcases List.mem_cons.mp hz with rfl | hz
        · exact ⟨Ne.symm iI.2.1, Ne.symm iC.2.1, Ne.symm iD.2.1⟩
        · exact ⟨iI.2.2 z hz, iC.2.2 z hz, iD.2.2 z hz⟩
      have hOldB1 : ∀ q ∈ [(ol, listOf xs.toArray nn), (L' + 1 + 1 + 1, oA), (L' + 1 + 1, oL), (L' + 1, oP)], q.1 ≠ P.d ∧ q.1 ≠ S32.i ∧ (∀ z ∈ tl1 ++ R1, z.1 ≠ q.1) ∧ Mut q.2 := fun q hq =>
        ⟨(hm1B q (.tail _ (.tail _ (.tail _ hq)))).1, (hm1B q (.tail _ (.tail _ (.tail _ hq)))).2.1, (hm1B q (.tail _ (.tail _ (.tail _ hq)))).2.2, (hmt1 q (.tail _ (.tail _ (.tail _ hq)))).2⟩
      refine ⟨gB1, hB1, tkB1, (ol, listOf xs.toArray nn) :: (L' + 1 + 1 + 1, oA) :: (L' + 1 + 1, oL) :: (L' + 1, oP) :: Led P S32 (tl1 ++ R1), ⟨TB1, CB1.B, CB1.X, CB1.T, CB1.D⟩, rfl, FB1, News.sub' NB1 perm_out, offB1, ?_⟩
      obtain ⟨R2, hR2⟩ : ∃ z, z = tl1 ++ R1 := ⟨_, rfl⟩
      rw [← hR2] at hOldB1 HH1 ⊢
      have hOld2 := hOldB1
      have H29 := HH1
      have hk29 : S32.k ≠ 0 := by rw [ekB1]; exact hk19
      clear qk ek NB1 FB1 HB1 Ha1 Na1 FA1 BA1 XA1 TA1 DA1 GT1 hm1B hmt1 offm1 offB1 off1 hOldB1 hOld1 HH1 CB1 TB1 hx1 hxx1 hC1 hI1 eB1 ne1
      intro gA2 tA2 I2 oI2 C2 oC2 D2 mA2 hA2 tkA2 EA2 GA2 hI2 hC2 hx2 FA2 NA2 off2 ne2
      obtain ⟨GT2, BA2, XA2, TA2, DA2⟩ := GA2
      have offm2 := off2.mem
      have hmt2 : ∀ q ∈ [(I2, oI2), (C2, oC2), (D2, LCg.lst [v0, v1]), (ol, listOf xs.toArray nn), (L' + 1 + 1 + 1, oA), (L' + 1 + 1, oL), (L' + 1, oP)], (q.1 ≠ P.d ∧ q.1 ≠ S32.i ∧ ∀ z ∈ R2, z.1 ≠ q.1) ∧ Mut q.2 := by
        intro q hq
        rcases List.mem_cons.mp hq with rfl | hq
        · exact ⟨⟨Ne.symm (offm2 (P.d, dictOf S32.es S32.n) (by simp)).1, Ne.symm (offm2 (S32.i, S32.o) (by simp)).1, fun z hz => (offm2 z (by simp [hz])).1⟩, .inr (.inr (.inr hI2))⟩
        rcases List.mem_cons.mp hq with rfl | hq
        · obtain ⟨es, ep, hdC, _⟩ := id hC2
          exact ⟨⟨Ne.symm (offm2 (P.d, dictOf S32.es S32.n) (by simp)).2.1, Ne.symm (offm2 (S32.i, S32.o) (by simp)).2.1, fun z hz => (offm2 z (by simp [hz])).2.1⟩, .inr (.inr (.inl ⟨es, ep, hdC⟩))⟩
        rcases List.mem_cons.mp hq with rfl | hq
        · exact ⟨⟨Ne.symm (offm2 (P.d, dictOf S32.es S32.n) (by simp)).2.2, Ne.symm (offm2 (S32.i, S32.o) (by simp)).2.2, fun z hz => (offm2 z (by simp [hz])).2.2⟩, .inl rfl⟩
        have z := hOld2 q hq
        exact ⟨⟨z.1, z.2.1, z.2.2.1⟩, z.2.2.2⟩
      obtain ⟨ln2, Hn2, hl2, Ha2⟩ := turn_pre H29 fun q hq => (hmt2 q hq).1
      have Na2 : News gA2 L' hA2 (Led P { S32 with l := ln2 } ([(I2, oI2), (C2, oC2), (D2, LCg.lst [v0, v1]), (ol, listOf xs.toArray nn), (L' + 1 + 1 + 1, oA), (L' + 1 + 1, oL), (L' + 1, oP)] ++ R2)) := News.sub' NA2 perm_in
      clear NA2
      have hxx2 : mA2 "n" = some (.int 2 tA2) := by simpa using hx2
      k_steps
      refine Stop.in ?_
      k_dflt (refine' ans (S := { S32 with l := ln2 }) (q := qn ask 2) ?zC2 ?zT2 ?zF2 ?zN2 Ha2 ?zd2 ?zu2 ?zk2 hd0 hd1 (qn_lo _ _) (qn_hi _ _) ?_)
      (case zF2 => k_asm); (case zN2 => k_asm); (case zC2 => walk_at "my cz"); (case zT2 => exact GT2); (case zd2 => walk_at "my room"); (case zu2 => walk_at "my units"); (case zk2 => exact hk29)
      k_whole
      intro gB2 hB2 tkB2 S33 rB2 v2 TB2 CB2 FB2 NB2 HB2 eB2 ekB2 elB2 lfB2
      obtain ⟨tl2, rfl, HH2, hm2B, hf2B⟩ := turn_post Hn2 hl2 (fun q hq => (hmt2 q hq).2) (fun q hq => (hmt2 q hq).1) HB2 eB2
      have offB2 : LCg.Off3 I2 C2 D2 ((ol, listOf xs.toArray nn) :: (L' + 1 + 1 + 1, oA) :: (L' + 1 + 1, oL) :: (L' + 1, oP) :: Led P S33 (tl2 ++ R2)) := .of fun z hz => by
        have iI := hm2B (I2, oI2) (.head _)
        have iC := hm2B (C2, oC2) (.tail _ (.head _))
        have iD := hm2B (D2, LCg.lst [v0, v1]) (.tail _ (.tail _ (.head _)))
        rcases List.mem_cons.mp hz with rfl | hz
        · exact offm2 _ (.head _)
        rcases List.mem_cons.mp hz with rfl | hz
        · exact offm2 _ (.tail _ (.head _))
        rcases List.mem_cons.mp hz with rfl | hz
        · exact offm2 _ (.tail _ (.tail _ (.head _)))
        rcases List.mem_cons.mp hz with rfl | hz
        · exact offm2 _ (.tail _ (.tail _ (.tail _ (.head _))))
        rcases List.mem_cons.mp hz with rfl | hz
        · exact ⟨Ne.symm iI.1, Ne.symm iC.1, Ne.symm iD.1⟩
        rcases List.mem_cons.mp hz with rfl | hz
        · exact ⟨Ne.symm iI.2.1, Ne.symm iC.2.1, Ne.symm iD.2.1⟩
        · exact ⟨iI.2.2 z hz, iC.2.2 z hz, iD.2.2 z hz⟩
      have hOldB2 : ∀ q ∈ [(ol, listOf xs.toArray nn), (L' + 1 + 1 + 1, oA), (L' + 1 + 1, oL), (L' + 1, oP)], q.1 ≠ P.d ∧ q.1 ≠ S33.i ∧ (∀ z ∈ tl2 ++ R2, z.1 ≠ q.1) ∧ Mut q.2 := fun q hq =>
        ⟨(hm2B q (.tail _ (.tail _ (.tail _ hq)))).1, (hm2B q (.tail _ (.tail _ (.tail _ hq)))).2.1, (hm2B q (.tail _ (.tail _ (.tail _ hq)))).2.2, (hmt2 q (.tail _ (.tail _ (.tail _ hq)))).2⟩
      refine ⟨gB2, hB2, tkB2, (ol, listOf xs.toArray nn) :: (L' + 1 + 1 + 1, oA) :: (L' + 1 + 1, oL) :: (L' + 1, oP) :: Led P S33 (tl2 ++ R2), ⟨TB2, CB2.B, CB2.X, CB2.T, CB2.D⟩, rfl, FB2, News.sub' NB2 perm_out, offB2, ?_⟩
      obtain ⟨R3, hR3⟩ : ∃ z, z = tl2 ++ R2 := ⟨_, rfl⟩
      rw [← hR3] at hOldB2 HH2 ⊢
      have hOld3 := hOldB2
      have H39 := HH2
      have hk39 : S33.k ≠ 0 := by rw [ekB2]; exact hk29
      clear qk ek NB2 FB2 HB2 Ha2 Na2 FA2 BA2 XA2 TA2 DA2 GT2 hm2B hmt2 offm2 offB2 off2 hOldB2 hOld2 HH2 CB2 TB2 hx2 hxx2 hC2 hI2 eB2 ne2
      intro gD Do hD8 tkD GD FD ND offD
      obtain ⟨GT4, B4, X4, T4', D4⟩ := GD
      have offD' : ∀ q ∈ Led P S33 R3, q.1 ≠ Do := fun q hq => off1_mem offD q (.tail _ (.tail _ (.tail _ (.tail _ hq))))
      have dD0 : @Ne Nat P.d Do := offD' _ (.head _)
      have iD0 : @Ne Nat S33.i Do := offD' _ (.tail _ (.head _))
      have rD0 : ∀ q ∈ R3, q.1 ≠ Do := fun q hq => offD' q (.tail _ (.tail _ hq))
      have oD0 : @Ne Nat ol Do := offD.1
      have oD3 : @Ne Nat (L' + 1 + 1 + 1) Do := offD.2.1
      have oD2 : @Ne Nat (L' + 1 + 1) Do := offD.2.2.1
      have oD1 : @Ne Nat (L' + 1) Do := offD.2.2.2.1
      have oD0' := Ne.symm oD0
      have oD3' := Ne.symm oD3
      have oD2' := Ne.symm oD2
      have oD1' := Ne.symm oD1
      have e0 := hOld3 _ (.head _)
      have e3 := hOld3 _ (.tail _ (.head _))
      have e2 := hOld3 _ (.tail _ (.tail _ (.head _)))
      have e1 := hOld3 _ (.tail _ (.tail _ (.tail _ (.head _))))
      have p0 : @Ne Nat P.d ol := Ne.symm e0.1
      have p1 : @Ne Nat P.d (L' + 1) := Ne.symm e1.1
      have p2 : @Ne Nat P.d (L' + 1 + 1) := Ne.symm e2.1
      have p3 : @Ne Nat P.d (L' + 1 + 1 + 1) := Ne.symm e3.1
      have j0 : @Ne Nat S33.i ol := Ne.symm e0.2.1
      have j1 : @Ne Nat S33.i (L' + 1) := Ne.symm e1.2.1
      have j2 : @Ne Nat S33.i (L' + 1 + 1) := Ne.symm e2.2.1
      have j3 : @Ne Nat S33.i (L' + 1 + 1 + 1) := Ne.symm e3.2.1
      have w0 : ∀ z ∈ R3, z.1 ≠ ol := e0.2.2.1
      have w1 : ∀ z ∈ R3, z.1 ≠ L' + 1 := e1.2.2.1
      have w2 : ∀ z ∈ R3, z.1 ≠ L' + 1 + 1 := e2.2.2.1
      have w3 : ∀ z ∈ R3, z.1 ≠ L' + 1 + 1 + 1 := e3.2.2.1
      have hxz : xs.toArray.size ≤ sizeLine := by
        have h1 : P.vs.length ≤ 1000 := by rw [hPv]; exact hsm
        have h2 := Hc.kle
        rw [ek] at h2
        rw [sizeLine_eq, List.size_toArray]
        dsimp only at h2
        omega
      k_steps
      refine Stop.in ?_
      have hkh : kids.hgt < fo.hgt := Nat.lt_of_lt_of_le (by show kids.hgt < max (kids.hgt + 1) rest.hgt; omega) hrH
      have hrh : rest.hgt ≤ fo.hgt := Nat.le_trans (by show rest.hgt ≤ max (kids.hgt + 1) rest.hgt; omega) hrH
      have subled : ∀ q ∈ led, q ∈ R3 := fun q hq => by rw [hR3, hR2, hR1, hR0]; exact List.mem_append_right _ (List.mem_append_right _ (List.mem_append_right _ (List.mem_append_right _ hq)))
      (rename News _ _ _ _ => NX)
      (rename Fr _ L' _ _ => FX)
      rw [List.push_toArray] at NX
      k_dflt (refine' ne_nilK (kb := 0) (f := kids) (led := led) NX ?zm6 hkids ?zs6 ?zb6 ?zh6 ?zu6 ?_)
      (case zm6 => exact .tail _ (.tail _ (.tail _ (.tail _ (.tail _ (.tail _ (.tail _ (.tail _ (subled _ hkl))))))))); (case zs6 => exact fun q hq => .tail _ (.tail _ (.tail _ (.tail _ (.tail _ (.tail _ (.tail _ (.tail _ (subled q hq)))))))))
      (case zb6 => exact .head _); (case zh6 => omega); (case zu6 => walk_at "my units")
      k_whole
      have hm2X := hm2
      have eT : (Do, LCg.lst ([] ++ [v0] ++ [v1] ++ [v2])) :: R3 = ((Do, LCg.lst ([] ++ [v0] ++ [v1] ++ [v2])) :: (tl2 ++ (tl1 ++ (tl0 ++ T)))) ++ led := by
        rw [hR3, hR2, hR1, hR0]; simp
      have H3X : LoopOk P S33 (((Do, LCg.lst ([] ++ [v0] ++ [v1] ++ [v2])) :: (tl2 ++ (tl1 ++ (tl0 ++ T)))) ++ led) := by
        rw [← eT]
        exact H39.add (mt := [(Do, LCg.lst ([] ++ [v0] ++ [v1] ++ [v2]))]) fun q hq => by
          rw [List.mem_singleton.mp hq]
          exact ⟨Ne.symm dD0, Ne.symm iD0⟩
      have k33 : S33.k = S.k + 1 := ekB2.trans (ekB1.trans (ekB0.trans ek))
      have hF3 : FoIn led (P.vs.drop S33.k) rest := by rw [k33]; exact hrest
      have hT3 : ∀ q ∈ (Do, LCg.lst ([] ++ [v0] ++ [v1] ++ [v2])) :: (tl2 ++ (tl1 ++ (tl0 ++ T))), ∀ z ∈ led, q.1 ≠ z.1 := by
        intro q hq z hz
        have z0 : z ∈ R0 := by rw [hR0]; exact List.mem_append_right _ hz
        have z1 : z ∈ R1 := by rw [hR1]; exact List.mem_append_right _ z0
        have z2 : z ∈ R2 := by rw [hR2]; exact List.mem_append_right _ z1
        rcases List.mem_cons.mp hq with rfl | hq
        · exact Ne.symm (rD0 z (subled z hz))
        rcases List.mem_append.mp hq with hq | hq
        · exact hf2B q hq z z2
        rcases List.mem_append.mp hq with hq | hq
        · exact hf1B q hq z z1
        rcases List.mem_append.mp hq with hq | hq
        · exact hf0B q hq z z0
        · exact hT q hq z hz
      have hsep3 : ∀ a, a = ol ∨ a = L' + 1 + 1 + 1 ∨ a = L' + 1 + 1 ∨ a = L' + 1 → @Ne Nat S33.i a ∧ @Ne Nat P.d a ∧ ∀ q ∈ ((Do, LCg.lst ([] ++ [v0] ++ [v1] ++ [v2])) :: (tl2 ++ (tl1 ++ (tl0 ++ T)))) ++ led, @Ne Nat q.1 a := by
        rw [← eT]
        intro a ha
        rcases ha with rfl | rfl | rfl | rfl
        · refine ⟨j0, p0, fun q hq => ?_⟩
          rcases List.mem_cons.mp hq with rfl | hq
          · exact oD0'
          · exact w0 q hq
        · refine ⟨j3, p3, fun q hq => ?_⟩
          rcases List.mem_cons.mp hq with rfl | hq
          · exact oD3'
          · exact w3 q hq
        · refine ⟨j2, p2, fun q hq => ?_⟩
          rcases List.mem_cons.mp hq with rfl | hq
          · exact oD2'
          · exact w2 q hq
        · refine ⟨j1, p1, fun q hq => ?_⟩
          rcases List.mem_cons.mp hq with rfl | hq
          · exact oD1'
          · exact w1 q hq
      have q9 : S9.k - 1 = S.k := by rw [ek]; rfl
      have c9 : S9.lcv = S.lcv := elc
      have c31 : S31.lcv = nx S.lcv lab (qn ask 0) := by rw [elB0]; show nx S9.lcv lab (qn ask 0) = _; rw [c9]
      have c32 : S32.lcv = nx (nx S.lcv lab (qn ask 0)) lab (qn ask 1) := by rw [elB1]; show nx S31.lcv lab (qn ask 1) = _; rw [c31]
      have c33 : S33.lcv = nx (nx (nx S.lcv lab (qn ask 0)) lab (qn ask 1)) lab (qn ask 2) := by rw [elB2]; show nx S32.lcv lab (qn ask 2) = _; rw [c32]
      have hD3 : DatAll ((Do, LCg.lst ([] ++ [v0] ++ [v1] ++ [v2])) :: (tl2 ++ (tl1 ++ (tl0 ++ T)))) (xs ++ [.ref Do]) (ds ++ [.list [plain P.vs.length S.k P.dep P.ls S.lcv lab (qn ask 0), plain P.vs.length S.k P.dep P.ls (nx S.lcv lab (qn ask 0)) lab (qn ask 1), plain P.vs.length S.k P.dep P.ls (nx (nx S.lcv lab (qn ask 0)) lab (qn ask 1)) lab (qn ask 2)]]) := by
        have L0 : Leaf v0 (plain P.vs.length S.k P.dep P.ls S.lcv lab (qn ask 0)) := by
          have z := lfB0
          dsimp only at z
          rw [q9, c9] at z
          exact z
        have L1 : Leaf v1 (plain P.vs.length S.k P.dep P.ls (nx S.lcv lab (qn ask 0)) lab (qn ask 1)) := by
          have z := lfB1
          dsimp only at z
          rw [c31, show S31.k - 1 = S.k from by rw [ekB0]; exact q9] at z
          exact z
        have L2 : Leaf v2 (plain P.vs.length S.k P.dep P.ls (nx (nx S.lcv lab (qn ask 0)) lab (qn ask 1)) lab (qn ask 2)) := by
          have z := lfB2
          dsimp only at z
          rw [c32, show S32.k - 1 = S.k from by rw [ekB1, ekB0]; exact q9] at z
          exact z
        refine (hD.mono fun q hq => .tail _ (List.mem_append_right _ (List.mem_append_right _ (List.mem_append_right _ hq)))).append (.one (DatIn.list (vs := [v0, v1, v2]) (n := 3) (.head _) (.cons L0.dat (.cons L1.dat (.cons L2.dat .nil)))))
      have hdsX := hds
      rw [outl] at hdsX
      cases kids with
      | nil =>
        rw [show (!Fo.isNil .nil) = false from rfl]
        k_steps
        refine Stop.in (next rest _ (by show rest.len < rest.len + 1; omega) ?_)
        refine ⟨gD, _, S33, _, xs ++ [.ref Do], nn + 1, oA, oL, oP, _, _, _, rfl, ⟨GT4, B4, X4, T4', D4⟩, by assumption, ?_, ?_, ?_, ⟨_, dA⟩, ⟨_, dL⟩, ⟨_, dP⟩, H3X, hF3, hT3, hsep3, hD3, ?_, ?_, hrh, hrW.2.2⟩
        · walk_at "my look"
        · walk_at "my look"
        · refine News.sub' (by assumption) fun q hq => ?_
          rw [← eT] at hq
          simp only [List.mem_cons] at hq ⊢
          rcases hq with h | h | h | h | h | h | h | h <;> simp [h]
        · rw [k33, c33, ← hdsX, List.append_assoc]
          rfl
        · rw [k33, List.length_append, List.length_singleton]
          omega
      | cons kl1 kk1 ka1 ks1 kr1 =>
        rw [show (!Fo.isNil (.cons kl1 kk1 ka1 ks1 kr1)) = true from rfl]
        have hinst := H39.inst
        have hPa : P.again = .ref 404 := by rw [← hP]
        have hkl9 := hkids.len
        have hkvs : kvs.length ≤ 1000 := by
          have := hrW.1
          omega
        have hklR : (kl, listOf kvs.toArray kn) ∈ R3 := subled _ hkl
        have hkidsR := hkids.mono subled
        have hdk : P.dep + 1 + ((Fo.cons kl1 kk1 ka1 ks1 kr1).hgt : Int) < 1000 := by rw [hPe]; omega
        have hmtO : ∀ q ∈ [(ol, listOf (xs ++ [Value.ref Do]).toArray (nn + 1)), (L' + 1 + 1 + 1, oA), (L' + 1 + 1, oL), (L' + 1, oP), (Do, LCg.lst ([] ++ [v0] ++ [v1] ++ [v2]))], q.1 ≠ P.d ∧ q.1 ≠ S33.i := by
          intro q hq
          simp only [List.mem_cons, List.not_mem_nil, or_false] at hq
          rcases hq with rfl | rfl | rfl | rfl | rfl
          · exact ⟨Ne.symm p0, Ne.symm j0⟩
          · exact ⟨Ne.symm p3, Ne.symm j3⟩
          · exact ⟨Ne.symm p2, Ne.symm j2⟩
          · exact ⟨Ne.symm p1, Ne.symm j1⟩
          · exact ⟨Ne.symm dD0, Ne.symm iD0⟩
        have H4 : LoopOk P S33 ((ol, listOf (xs ++ [Value.ref Do]).toArray (nn + 1)) :: (L' + 1 + 1 + 1, oA) :: (L' + 1 + 1, oL) :: (L' + 1, oP) :: (Do, LCg.lst ([] ++ [v0] ++ [v1] ++ [v2])) :: R3) := H39.add (mt := [(ol, listOf (xs ++ [Value.ref Do]).toArray (nn + 1)), (L' + 1 + 1 + 1, oA), (L' + 1 + 1, oL), (L' + 1, oP), (Do, LCg.lst ([] ++ [v0] ++ [v1] ++ [v2]))]) hmtO
        have hxz4 : (xs ++ [Value.ref Do]).toArray.size ≤ sizeLine := by
          have h1 : P.vs.length ≤ 1000 := by rw [hPv]; exact hsm
          have h2 := Hc.kle
          rw [ek] at h2
          rw [sizeLine_eq, List.size_toArray, List.length_append, List.length_singleton]
          dsimp only at h2
          omega
        cases sz with
        | true =>
          k_steps
          refine Stop.in ?_
          k_dflt (refine' kco_callWith ?cK ?cI ?cD ?cS ?_)
          (case cK => exact X4.keeps FX.keep); (case cI => exact InstAt.of_news NX (.tail _ (.tail _ (.tail _ (.tail _ (.tail _ (.tail _ (.tail _ (.tail _ hinst)))))))) (.tail _ (.tail _ (.tail _ (.tail _ (.tail _ (.tail _ (.head _))))))))
          (case cD => rfl); (case cS => k_is)
          k_whole
          k_steps
          refine Stop.in ?_
          k_dflt (refine' lc_call (S := S33) (il := []) (R := (ol, listOf (xs ++ [Value.ref Do]).toArray (nn + 1)) :: (L' + 1 + 1 + 1, oA) :: (L' + 1 + 1, oL) :: (L' + 1, oP) :: (Do, LCg.lst ([] ++ [v0] ++ [v1] ++ [v2])) :: R3) ?yC ?yT ?yF ?yN H4 hPa hd0 (ih _ hkh) hrW.2.1 (l := kl) (vs := kvs) (n := kn) ?yl ?yfo (.inl ⟨rfl, rfl⟩) hkvs hdk ?yH ?yd ?yu ?_)
          (case yF => k_asm); (case yC => exact ⟨B4, X4, T4', rfl, rfl, XB, TB, D4⟩); (case yT => exact GT4)
          case yN =>
            refine News.sub' NX fun q hq => ?_
            simp only [List.nil_append, List.mem_cons] at hq ⊢
            rcases hq with h | h | h | h | h | h | h | h <;> simp [h]
          (case yl => exact .tail _ (.tail _ (.tail _ (.tail _ (.tail _ hklR))))); (case yfo => exact hkidsR.mono fun q hq => .tail _ (.tail _ (.tail _ (.tail _ (.tail _ hq)))))
          (case yH => omega); (case yd => walk_at "my room"); (case yu => walk_at "my units")
          k_whole
          intro gK hK tkK aK tlK TK CK FK NK hsepK hDK
          obtain ⟨BK, XK, TK2, _, _, XBK, TBK, DK⟩ := CK
          have o0 : ∀ q ∈ tlK, q.1 ≠ ol := fun q hq => hsepK q hq (ol, listOf (xs ++ [Value.ref Do]).toArray (nn + 1)) (by simp)
          have o3 : ∀ q ∈ tlK, q.1 ≠ L' + 1 + 1 + 1 := fun q hq => hsepK q hq (L' + 1 + 1 + 1, oA) (by simp)
          have o2 : ∀ q ∈ tlK, q.1 ≠ L' + 1 + 1 := fun q hq => hsepK q hq (L' + 1 + 1, oL) (by simp)
          have o1 : ∀ q ∈ tlK, q.1 ≠ L' + 1 := fun q hq => hsepK q hq (L' + 1, oP) (by simp)
          have oR : ∀ q ∈ tlK, ∀ z ∈ (Do, LCg.lst ([] ++ [v0] ++ [v1] ++ [v2])) :: R3, q.1 ≠ z.1 := fun q hq z hz => hsepK q hq z (by simp only [List.mem_cons] at hz ⊢; rcases hz with h | h <;> simp [h])
          have od : ∀ q ∈ tlK, q.1 ≠ P.d := fun q hq => hsepK q hq (P.d, dictOf S33.es S33.n) (by simp)
          have oi : ∀ q ∈ tlK, q.1 ≠ S33.i := fun q hq => hsepK q hq (S33.i, S33.o) (by simp)
          obtain ⟨R4, hR4⟩ : ∃ z, z = tlK ++ ((Do, LCg.lst ([] ++ [v0] ++ [v1] ++ [v2])) :: R3) := ⟨_, rfl⟩
          have w4 : ∀ z ∈ R4, z.1 ≠ ol := by
            rw [hR4]
            intro q hq
            rcases List.mem_append.mp hq with hq | hq
            · exact o0 q hq
            · rcases List.mem_cons.mp hq with rfl | hq
              · exact oD0'
              · exact w0 q hq
          have NK2 : News gK L' hK ((ol, listOf (xs ++ [Value.ref Do]).toArray (nn + 1)) :: (L' + 1 + 1 + 1, oA) :: (L' + 1 + 1, oL) :: (L' + 1, oP) :: Led P S33 R4) := News.sub' NK fun q hq => by
            rw [hR4] at hq
            simp only [List.mem_cons, List.mem_append] at hq ⊢
            rcases hq with h | h | h | h | h | h | h | h | h <;> simp [h]
          clear NK
          k_steps
          refine Stop.in (next rest _ (by show rest.len < rest.len + 1; omega) ?_)
          have eT4 : R4 = (tlK ++ (((Do, LCg.lst ([] ++ [v0] ++ [v1] ++ [v2])) :: (tl2 ++ (tl1 ++ (tl0 ++ T)))))) ++ led := by
            rw [hR4, hR3, hR2, hR1, hR0]; simp
          have sK : ∀ z ∈ (Do, LCg.lst ([] ++ [v0] ++ [v1] ++ [v2])) :: (tl2 ++ (tl1 ++ (tl0 ++ T))), z ∈ (Do, LCg.lst ([] ++ [v0] ++ [v1] ++ [v2])) :: R3 := fun z hz => by
            rw [hR3, hR2, hR1, hR0]
            simp only [List.mem_cons, List.mem_append] at hz ⊢
            rcases hz with h | h | h | h | h <;> simp [h]
          refine ⟨gK, _, S33, tlK ++ (((Do, LCg.lst ([] ++ [v0] ++ [v1] ++ [v2])) :: (tl2 ++ (tl1 ++ (tl0 ++ T))))), xs ++ [.ref Do] ++ [.ref aK], nn + 1 + 1, oA, oL, oP, _, _, _, rfl, ⟨TK, BK, XK, TK2, DK⟩, by assumption, ?_, ?_, ?_, ⟨_, dA⟩, ⟨_, dL⟩, ⟨_, dP⟩, ?_, hF3, ?_, ?_, (hD3.mono ?_).append (.one (hDK.mono ?_)), ?_, ?_, hrh, hrW.2.2⟩
          · walk_at "my look"
          · walk_at "my look"
          · rw [← eT4]
            (rename News gK L' _ _ => NZ)
            rw [List.push_toArray] at NZ
            exact NZ
          · rw [← eT4, hR4]
            refine LoopOk.add (mt := tlK) ?_ fun q hq => ⟨od q hq, oi q hq⟩
            exact H39.add (mt := [(Do, LCg.lst ([] ++ [v0] ++ [v1] ++ [v2]))]) fun q hq => hmtO q (by rw [List.mem_singleton.mp hq]; simp)
          · intro q hq z hz
            rcases List.mem_append.mp hq with hq | hq
            · exact oR q hq z (.tail _ (subled z hz))
            · exact hT3 q hq z hz
          · rw [← eT4, hR4]
            intro a ha
            refine ⟨(hsep3 a ha).1, (hsep3 a ha).2.1, fun q hq => ?_⟩
            rcases List.mem_append.mp hq with hq | hq
            · rcases ha with rfl | rfl | rfl | rfl
              · exact o0 q hq
              · exact o3 q hq
              · exact o2 q hq
              · exact o1 q hq
            · exact (hsep3 a ha).2.2 q (by rw [← eT]; exact hq)
          · exact fun q hq => List.mem_append_right _ hq
          · exact fun q hq => List.mem_append_left _ hq
          · rw [k33, c33, ← hdsX, List.append_assoc, List.append_assoc, hPe]
            rfl
          · rw [k33, List.length_append, List.length_append, List.length_singleton, List.length_singleton]
            omega
        | false =>
          k_steps
          refine Stop.in ?_
          k_dflt (refine' kco_callWith ?cK ?cI ?cD ?cS ?_)
          (case cK => exact X4.keeps FX.keep); (case cI => exact InstAt.of_news NX (.tail _ (.tail _ (.tail _ (.tail _ (.tail _ (.tail _ (.tail _ (.tail _ hinst)))))))) (.tail _ (.tail _ (.tail _ (.tail _ (.tail _ (.tail _ (.head _))))))))
          (case cD => rfl); (case cS => k_is)
          k_whole
          k_steps
          refine Stop.in ?_
          k_dflt (refine' call_map (vs := kvs) (n := kn) ?mF NX ?ml ?_)
          (case mF => k_asm); (case ml => exact .tail _ (.tail _ (.tail _ (.tail _ (.tail _ (.tail _ (.tail _ (.tail _ hklR))))))))
          k_whole
          intro mi mt mo hM FM NM lM1 lM2 lM3
          have gM : ∀ q ∈ (Do, LCg.lst ([] ++ [v0] ++ [v1] ++ [v2])) :: (ol, listOf (xs ++ [Value.ref Do]).toArray (nn + 1)) :: (L' + 1 + 1 + 1, oA) :: (L' + 1 + 1, oL) :: (L' + 1, oP) :: Led P S33 R3, @Ne Nat mi q.1 ∧ @Ne Nat mt q.1 ∧ @Ne Nat mo q.1 := fun q hq => by
            have z : @LT.lt Nat _ q.1 mi := lM1 q (.tail _ hq)
            exact ⟨Nat.ne_of_gt z, Nat.ne_of_gt (Nat.lt_trans z lM2), Nat.ne_of_gt (Nat.lt_trans (Nat.lt_trans z lM2) lM3)⟩
          have gd := gM (P.d, dictOf S33.es S33.n) (by simp)
          have gi := gM (S33.i, S33.o) (by simp)
          have H5 : LoopOk P S33 ([(mi, LI kl 0)] ++ ((mo, MP mt 384) :: (mt, T1 (.ref mi)) :: (ol, listOf (xs ++ [Value.ref Do]).toArray (nn + 1)) :: (L' + 1 + 1 + 1, oA) :: (L' + 1 + 1, oL) :: (L' + 1, oP) :: (Do, LCg.lst ([] ++ [v0] ++ [v1] ++ [v2])) :: R3)) := by
            refine H4.add (mt := [(mi, LI kl 0), (mo, MP mt 384), (mt, T1 (.ref mi))]) fun q hq => ?_
            simp only [List.mem_cons, List.not_mem_nil, or_false] at hq
            rcases hq with rfl | rfl | rfl
            · exact ⟨gd.1, gi.1⟩
            · exact ⟨gd.2.2, gi.2.2⟩
            · exact ⟨gd.2.1, gi.2.1⟩
          have gR : ∀ q ∈ (mo, MP mt 384) :: (mt, T1 (.ref mi)) :: (ol, listOf (xs ++ [Value.ref Do]).toArray (nn + 1)) :: (L' + 1 + 1 + 1, oA) :: (L' + 1 + 1, oL) :: (L' + 1, oP) :: (Do, LCg.lst ([] ++ [v0] ++ [v1] ++ [v2])) :: R3, q.1 ≠ mi := by
            intro q hq
            rcases List.mem_cons.mp hq with rfl | hq
            · exact Nat.ne_of_gt (Nat.lt_trans lM2 lM3)
            rcases List.mem_cons.mp hq with rfl | hq
            · exact Nat.ne_of_gt lM2
            · refine Ne.symm (gM q ?_).1
              simp only [List.mem_cons] at hq ⊢
              rcases hq with h | h | h | h | h | h <;> simp [h]
          k_steps
          refine Stop.in ?_
          k_dflt (refine' lc_call (S := S33) (il := [(mi, LI kl 0)]) (R := (mo, MP mt 384) :: (mt, T1 (.ref mi)) :: (ol, listOf (xs ++ [Value.ref Do]).toArray (nn + 1)) :: (L' + 1 + 1 + 1, oA) :: (L' + 1 + 1, oL) :: (L' + 1, oP) :: (Do, LCg.lst ([] ++ [v0] ++ [v1] ++ [v2])) :: R3) ?yC ?yT ?yF ?yN H5 hPa hd0 (ih _ hkh) hrW.2.1 (l := kl) (vs := kvs) (n := kn) ?yl ?yfo (.inr ⟨mi, mo, mt, rfl, rfl, .head _, .tail _ (.head _), gR⟩) hkvs hdk ?yH ?yd ?yu ?_)
          (case yF => k_asm); (case yC => exact ⟨B4, X4, T4', rfl, rfl, XB, TB, D4⟩); (case yT => exact GT4)
          case yN =>
            refine News.sub' NM fun q hq => ?_
            simp only [List.nil_append, List.cons_append, List.mem_cons] at hq ⊢
            rcases hq with h | h | h | h | h | h | h | h | h | h | h <;> simp [h]
          (case yl => exact .tail _ (.tail _ (.tail _ (.tail _ (.tail _ (.tail _ (.tail _ hklR))))))); (case yfo => exact hkidsR.mono fun q hq => .tail _ (.tail _ (.tail _ (.tail _ (.tail _ (.tail _ (.tail _ hq)))))))
          (case yH => omega); (case yd => walk_at "my room"); (case yu => walk_at "my units")
          k_whole
          intro gK hK tkK aK tlK TK CK FK NK hsepK hDK
          obtain ⟨BK, XK, TK2, _, _, XBK, TBK, DK⟩ := CK
          have o0 : ∀ q ∈ tlK, q.1 ≠ ol := fun q hq => hsepK q hq (ol, listOf (xs ++ [Value.ref Do]).toArray (nn + 1)) (by simp)
          have o3 : ∀ q ∈ tlK, q.1 ≠ L' + 1 + 1 + 1 := fun q hq => hsepK q hq (L' + 1 + 1 + 1, oA) (by simp)
          have o2 : ∀ q ∈ tlK, q.1 ≠ L' + 1 + 1 := fun q hq => hsepK q hq (L' + 1 + 1, oL) (by simp)
          have o1 : ∀ q ∈ tlK, q.1 ≠ L' + 1 := fun q hq => hsepK q hq (L' + 1, oP) (by simp)
          have oR : ∀ q ∈ tlK, ∀ z ∈ (mo, MP mt 384) :: (mt, T1 (.ref mi)) :: (Do, LCg.lst ([] ++ [v0] ++ [v1] ++ [v2])) :: R3, q.1 ≠ z.1 := fun q hq z hz => hsepK q hq z (by simp only [List.mem_cons] at hz ⊢; rcases hz with h | h | h | h <;> simp [h])
          have od : ∀ q ∈ tlK, q.1 ≠ P.d := fun q hq => hsepK q hq (P.d, dictOf S33.es S33.n) (by simp)
          have oi : ∀ q ∈ tlK, q.1 ≠ S33.i := fun q hq => hsepK q hq (S33.i, S33.o) (by simp)
          obtain ⟨R4, hR4⟩ : ∃ z, z = tlK ++ ((mo, MP mt 384) :: (mt, T1 (.ref mi)) :: (Do, LCg.lst ([] ++ [v0] ++ [v1] ++ [v2])) :: R3) := ⟨_, rfl⟩
          have w4 : ∀ z ∈ R4, z.1 ≠ ol := by
            rw [hR4]
            intro q hq
            rcases List.mem_append.mp hq with hq | hq
            · exact o0 q hq
            rcases List.mem_cons.mp hq with rfl | hq
            · exact (gM (ol, listOf (xs ++ [Value.ref Do]).toArray (nn + 1)) (by simp)).2.2
            rcases List.mem_cons.mp hq with rfl | hq
            · exact (gM (ol, listOf (xs ++ [Value.ref Do]).toArray (nn + 1)) (by simp)).2.1
            · rcases List.mem_cons.mp hq with rfl | hq
              · exact oD0'
              · exact w0 q hq
          have NK2 : News gK L' hK ((ol, listOf (xs ++ [Value.ref Do]).toArray (nn + 1)) :: (L' + 1 + 1 + 1, oA) :: (L' + 1 + 1, oL) :: (L' + 1, oP) :: Led P S33 R4) := News.sub' NK fun q hq => by
            rw [hR4] at hq
            simp only [List.mem_cons, List.mem_append] at hq ⊢
            rcases hq with h | h | h | h | h | h | h | h | h | h | h <;> simp [h]
          clear NK
          k_steps
          refine Stop.in (next rest _ (by show rest.len < rest.len + 1; omega) ?_)
          have eT4 : R4 = (tlK ++ ((mo, MP mt 384) :: (mt, T1 (.ref mi)) :: ((Do, LCg.lst ([] ++ [v0] ++ [v1] ++ [v2])) :: (tl2 ++ (tl1 ++ (tl0 ++ T)))))) ++ led := by
            rw [hR4, hR3, hR2, hR1, hR0]; simp
          have sK : ∀ z ∈ (Do, LCg.lst ([] ++ [v0] ++ [v1] ++ [v2])) :: (tl2 ++ (tl1 ++ (tl0 ++ T))), z ∈ (Do, LCg.lst ([] ++ [v0] ++ [v1] ++ [v2])) :: R3 := fun z hz => by
            rw [hR3, hR2, hR1, hR0]
            simp only [List.mem_cons, List.mem_append] at hz ⊢
            rcases hz with h | h | h | h | h <;> simp [h]
          refine ⟨gK, _, S33, tlK ++ ((mo, MP mt 384) :: (mt, T1 (.ref mi)) :: ((Do, LCg.lst ([] ++ [v0] ++ [v1] ++ [v2])) :: (tl2 ++ (tl1 ++ (tl0 ++ T))))), xs ++ [.ref Do] ++ [.ref aK], nn + 1 + 1, oA, oL, oP, _, _, _, rfl, ⟨TK, BK, XK, TK2, DK⟩, by assumption, ?_, ?_, ?_, ⟨_, dA⟩, ⟨_, dL⟩, ⟨_, dP⟩, ?_, hF3, ?_, ?_, (hD3.mono ?_).append (.one (hDK.mono ?_)), ?_, ?_, hrh, hrW.2.2⟩
          · walk_at "my look"
          · walk_at "my look"
          · rw [← eT4]
            (rename News gK L' _ _ => NZ)
            rw [List.push_toArray] at NZ
            exact NZ
          · rw [← eT4, hR4]
            refine LoopOk.add (mt := tlK) ?_ fun q hq => ⟨od q hq, oi q hq⟩
            refine (H39.add (mt := [(mo, MP mt 384), (mt, T1 (.ref mi)), (Do, LCg.lst ([] ++ [v0] ++ [v1] ++ [v2]))]) fun q hq => ?_)
            simp only [List.mem_cons, List.not_mem_nil, or_false] at hq
            rcases hq with rfl | rfl | rfl
            · exact ⟨gd.2.2, gi.2.2⟩
            · exact ⟨gd.2.1, gi.2.1⟩
            · exact ⟨Ne.symm dD0, Ne.symm iD0⟩
          · intro q hq z hz
            rcases List.mem_append.mp hq with hq | hq
            · exact oR q hq z (.tail _ (.tail _ (.tail _ (subled z hz))))
            rcases List.mem_cons.mp hq with rfl | hq
            · exact (gM z (by simp [subled z hz])).2.2
            rcases List.mem_cons.mp hq with rfl | hq
            · exact (gM z (by simp [subled z hz])).2.1
            · exact hT3 q hq z hz
          · rw [← eT4, hR4]
            intro a ha
            refine ⟨(hsep3 a ha).1, (hsep3 a ha).2.1, fun q hq => ?_⟩
            rcases List.mem_append.mp hq with hq | hq
            · rcases ha with rfl | rfl | rfl | rfl
              · exact o0 q hq
              · exact o3 q hq
              · exact o2 q hq
              · exact o1 q hq
            rcases List.mem_cons.mp hq with rfl | hq
            · rcases ha with rfl | rfl | rfl | rfl
              · exact (gM _ (.tail _ (.head _))).2.2
              · exact (gM (L' + 1 + 1 + 1, oA) (by simp)).2.2
              · exact (gM (L' + 1 + 1, oL) (by simp)).2.2
              · exact (gM (L' + 1, oP) (by simp)).2.2
            rcases List.mem_cons.mp hq with rfl | hq
            · rcases ha with rfl | rfl | rfl | rfl
              · exact (gM _ (.tail _ (.head _))).2.1
              · exact (gM (L' + 1 + 1 + 1, oA) (by simp)).2.1
              · exact (gM (L' + 1 + 1, oL) (by simp)).2.1
              · exact (gM (L' + 1, oP) (by simp)).2.1
            · exact (hsep3 a ha).2.2 q (by rw [← eT]; exact hq)
          · exact fun q hq => List.mem_append_right _ (.tail _ (.tail _ hq))
          · exact fun q hq => List.mem_append_left _ hq
          · rw [k33, c33, ← hdsX, List.append_assoc, List.append_assoc, hPe]
            rfl
          · rw [k33, List.length_append, List.length_append, List.length_singleton, List.length_singleton]
            omega
end Mine

end
section
theorem Mine.walk_off_C1a : True := by
  w_top off
  trivial
open PySem PySem.W PyProof.Rows PySem.Spec PySem.Calls
set_option Elab.async false
set_option maxRecDepth 100000
set_option maxHeartbeats 8000000
namespace Mine
/-- what a call of _law_told gives back -/
def ToldC (prog : Program) (w : World) (fo : Fo) : Prop :=
  ∀ (dp un : Nat) (gd : Option (List Code)) (A₀ : Around) (env : Env) (outer : List Env) (base h₀ : Heap) (p : Program) (loose : List Str) (mean : ExcName → Option Value) (mg mb : Str → Option Value) (L : Addr) (m : Str → Option Value) (s : Shared)
    (led : List (Addr × Obj)) (l : Addr) (n : Nat) (vs : List Value) (dep : Int) (td : Tok) (Q E : Value → Shared → Prop),
    Cy w A₀ env outer base h₀ p loose mean mg mb L → Fr h₀ L s.heap m → News h₀ L s.heap led → (l, listOf vs.toArray n) ∈ led → FoIn led vs fo → vs.length ≤ 1000 → fo.okw → 0 ≤ dep → dep + fo.hgt < 1000 → fo.hgt ≤ 3 →
    dp + 20 + 4 * fo.hgt < recursionLimit → un + 200 + 20 * fo.hgt < cLine →
    (∀ h' tk' a tl, Fr h₀ L h' m → News h₀ L h' (tl ++ led) → (∀ q ∈ tl, ∀ r ∈ led, q.1 ≠ r.1) → DatIn tl (.ref a) (.list (outl fo fo.len 0 dep fo.labs none)) → Q (.ref a) { s with heap := h', toks := tk' }) →
    wpAny (model prog w) (AR dp un gd env outer) (call (.ref 411) [.ref l, .int dep td]) Q E s
/-- the label asked last -/
def LastIn (T : List (Addr × Obj)) (v : Value) (lcv : Option Int) : Prop := ∃ la, v = .ref la ∧ ((lcv = none ∧ ∃ n, (la, listOf #[] n) ∈ T) ∨ ∃ a tk n, lcv = some a ∧ (la, listOf #[.int a tk] n) ∈ T)
theorem LastIn.mono {T T' : List (Addr × Obj)} {v : Value} {c : Option Int} (h : LastIn T v c) (s : ∀ q ∈ T, q ∈ T') : LastIn T' v c := by
  obtain ⟨la, rfl, h⟩ := h
  exact ⟨la, rfl, h.imp (fun ⟨a, n, b⟩ => ⟨a, n, s _ b⟩) fun ⟨a, tk, n, b, c⟩ => ⟨a, tk, n, b, s _ c⟩⟩
def lcvAt (lcv : Option Int) (lab ask : Int) : Nat → Option Int
  | 0 => lcv
  | j + 1 => nx (lcvAt lcv lab ask j) lab (qn ask j)
theorem subs_name {x : Str} {p : Pos} {o i : Value} : subscripted (.Name x p) false o i = operate [o, i] (getItem o i) := by unfold subscripted; rfl
theorem subs_binop {a b : PySem.Expr} {op : Operator} {p : Pos} {o i : Value} : subscripted (.BinOp a op b p) false o i = operate [o, i] (getItem o i) := by unfold subscripted; rfl
section
variable {prog : Program} {w : World} {A : Around} {E : Value → Shared → Prop} {s : Shared} {Q : Value → Shared → Prop}
/-- an item of a list at a place that lies in it -/
theorem list_item {value slice : PySem.Expr} {l : Addr} {vs : List Value} {k : Int} {u : Tok} {v : Value} (hl : s.heap.IsList l vs.toArray) (h0 : 0 ≤ k) (hhi : k < 2 ^ 63) (hx : vs[k.toNat]? = some v) (h : Q v s)
    (hs : subscripted slice false (.ref l) (.int k u) = operate [.ref l, .int k u] (getItem (.ref l) (.int k u)) := by with_unfolding_all rfl) :
    wpAny (model prog w) A (subscriptTail value slice (.ref l) (.int k u)) Q E s :=
  tail_any hl.typeIs slot_list_getitem.lookup (wpAny_getItem_list hl h0 hhi (by simpa using hx) h) hs
end
/-- between two turns of the told outline's loop; i turns are done -/
def TI (P : Value) (td ts : Tok) (dep : Int) (ol : Addr) (led : List (Addr × Obj)) (fo : Fo) (vs : List Value) (i : Nat) (m : Str → Option Value) (nx : List (Addr × Obj)) : Prop :=
  ∃ T xs nn lv lcv ds r, nx = (ol, listOf (xs : List Value).toArray nn) :: (T ++ led) ∧ m "rows" = some P ∧ m "depth" = some (.int dep td) ∧ m "out" = some (.ref ol) ∧ m "size" = some (.int vs.length ts) ∧ m "last" = some lv ∧
    LastIn (T ++ led) lv lcv ∧ (∀ q ∈ T, ∀ z ∈ led, q.1 ≠ z.1) ∧ (∀ q ∈ T ++ led, @Ne Nat q.1 ol) ∧ FoIn led (vs.drop i) r ∧ DatAll T xs ds ∧
    ds ++ outl r vs.length i dep fo.labs lcv = outl fo vs.length 0 dep fo.labs none ∧ xs.length ≤ 2 * i ∧ r.hgt ≤ fo.hgt ∧ r.okw
/-- between two turns of the questions' loop; j are answered -/
def TJ (P : Value) (td ts t1 t2 ti : Tok) (dep : Int) (al ol kl : Addr) (xs : List Value) (nn : Nat) (B R led : List (Addr × Obj)) (labs : List Int) (sz i : Nat) (lab ask : Int) (lcv : Option Int) (j : Nat) (m : Str → Option Value) (nx : List (Addr × Obj)) : Prop :=
  ∃ T as an lv, nx = (al, listOf (as : List Value).toArray an) :: (ol, listOf xs.toArray nn) :: (T ++ B) ∧ m "rows" = some P ∧ m "depth" = some (.int dep td) ∧ m "out" = some (.ref ol) ∧ m "size" = some (.int sz ts) ∧ m "last" = some lv ∧
    m "answers" = some (.ref al) ∧ m "asks" = some (.int ask t2) ∧ m "label" = some (.int lab t1) ∧ m "kids" = some (.ref kl) ∧ m "k" = some (.int i ti) ∧
    LastIn (T ++ R) lv (lcvAt lcv lab ask j) ∧ (∀ q ∈ T, ∀ z ∈ led, q.1 ≠ z.1) ∧ (∀ q ∈ T ++ B, @Ne Nat q.1 ol) ∧ (∀ q ∈ T ++ B, @Ne Nat q.1 al) ∧
    DatAll [] as ((List.range j).map fun i' => plain sz i dep labs (lcvAt lcv lab ask i') lab (qn ask i'))
section
variable {prog : Program} {w : World} {A : Around} {E : Value → Shared → Prop} {s : Shared} {Q : Value → Shared → Prop}
theorem pow14 {j : Nat} {pw : Int} {t u : Tok} (hj : j < 3) (hpw : (14 : Int) ^ j = pw) (h : ∀ t', Q (.int pw t') { s with toks := s.toks + 1 }) : wpAny (model prog w) A (binaryOp .Pow (.int 14 t) (.int (j : Int) u)) Q E s :=
  pow_int_small (by omega) (by omega) (by decide) (by rw [Int.toNat_natCast, hpw]; exact h _)
theorem fdiv14 {a pw : Int} {t u : Tok} (h0 : 0 < pw) (h1 : pw ≤ 196) (h : ∀ t', Q (.int (a.fdiv pw) t') { s with toks := s.toks + 1 }) : wpAny (model prog w) A (binaryOp .FloorDiv (.int a t) (.int pw u)) Q E s :=
  floordiv_int (by omega) (h _) (.inl (PyProof.noPylong_small (by omega)))
theorem modG {a b : Int} {t u : Tok} (h0 : 0 < b) (h1 : b ≤ 1000) (h : ∀ q t', 0 ≤ q → q < b → a.fmod b = q → Q (.int q t') { s with toks := s.toks + 1 }) : wpAny (model prog w) A (binaryOp .Mod (.int a t) (.int b u)) Q E s :=
  mod_int' (by omega) (h _ _ (Int.fmod_nonneg_of_pos _ h0) (Int.fmod_lt_of_pos _ h0) rfl)
theorem mod3 {k : Nat} {t u : Tok} (h0 : k % 3 = 0 → ∀ t', Q (.int 0 t') { s with toks := s.toks + 1 }) (h1 : k % 3 = 1 → ∀ t', Q (.int 1 t') { s with toks := s.toks + 1 }) (h2 : k % 3 = 2 → ∀ t', Q (.int 2 t') { s with toks := s.toks + 1 }) :
    wpAny (model prog w) A (binaryOp .Mod (.int (k : Int) t) (.int 3 u)) Q E s := by
  refine mod_int' (by decide) ?_
  have e : (k : Int).fmod 3 = ((k % 3 : Nat) : Int) := by rw [Int.fmod_eq_emod_of_nonneg _ (by decide)]; rfl
  rw [e]
  have z : k % 3 = 0 ∨ k % 3 = 1 ∨ k % 3 = 2 := by omega
  rcases z with z | z | z
  · rw [z]; exact h0 z _
  · rw [z]; exact h1 z _
  · rw [z]; exact h2 z _
theorem ne_last {h₀ : Heap} {L la b : Addr} {news T : List (Addr × Obj)} {lcv : Option Int} {lab : Int} {t1 : Tok} {n : Nat} (N : News h₀ L s.heap news) (H : LastIn T (.ref la) lcv) (sub : ∀ q ∈ T, q ∈ news) (mb : (b, listOf #[.int lab t1] n) ∈ news) (hu : A.units + 64 < cLine)
    (h : Q (.bool (decide (lcv ≠ some lab))) s) : wpAny (model prog w) A (compareOp .NotEq (.ref la) (.ref b)) Q E s := by
  obtain ⟨la', e, H⟩ := H
  obtain rfl : la = la' := by injection e
  rcases H with ⟨rfl, k, hm⟩ | ⟨a, tk, k, rfl, hm⟩
  · refine kqd_ne (xs := []) (ys := [.int lab t1]) (ds := []) (es := [.int lab]) (n₁ := []) (n₂ := []) N (sub _ hm) rfl rfl .nil (fun _ h => nomatch h) mb rfl rfl (.cons (.int _ _) .nil) (fun _ h => nomatch h) (by decide) (by simp [kqdOk]) hu ?_
    simpa using h
  · refine kqd_ne (xs := [.int a tk]) (ys := [.int lab t1]) (ds := [.int a]) (es := [.int lab]) (n₁ := []) (n₂ := []) N (sub _ hm) rfl rfl (.cons (.int _ _) .nil) (fun _ h => nomatch h) mb rfl rfl (.cons (.int _ _) .nil) (fun _ h => nomatch h) (by simp [kqdOk]) (by simp [kqdOk]) hu ?_
    simpa using h
end
theorem newList_gen {prog : Program} {w : World} {A : Around} {E : Value → Shared → Prop} {s : Shared} {Q : Value → Shared → Prop} {h₀ : Heap} {L : Addr} {m : Str → Option Value} {news : List (Addr × Obj)} {vs : List Value} (P : List Value → Prop) (F : Fr h₀ L s.heap m) (N : News h₀ L s.heap news) (hsz : vs.length ≤ sizeLine) (hp : P vs)
    (h : ∀ V D h', P V → Fr h₀ L h' m → News h₀ L h' ((D, listOf V.toArray 0) :: news) → (∀ p ∈ news, p.1 < D) → Q (.ref D) { s with heap := h' }) : wpAny (model prog w) A (newList vs) Q E s :=
  newList_N F N (fun h' F' N' => h vs _ h' hp F' N' fun p hp => Heap.lt_size (N p hp).1) hsz
theorem ti_end {P lv : Value} {td ts : Tok} {dep : Int} {ol L : Addr} {xs vs : List Value} {nn i : Nat} {led own Tx news' : List (Addr × Obj)} {fo rest : Fo} {lcv : Option Int} {ds : List Dat} {g h' : Heap} {m' : Str → Option Value} {s₁ : Shared} {tk : Nat}
   (F : Fr g L h' m') (N : News g L h' news') (h1 : (ol, listOf xs.toArray nn) ∈ news') (h3 : ∀ q ∈ Tx ++ led, q ∈ news') (h5 : ∀ q ∈ own, q ∈ news')
   (o0 : ∀ q ∈ own, @Ne Nat q.1 ol) (o1 : ∀ p ∈ own, ∀ q ∈ Tx ++ led, p.1 ≠ q.1)
   (m1 : m' "rows" = some P) (m2 : m' "depth" = some (.int dep td)) (m3 : m' "out" = some (.ref ol)) (m4 : m' "size" = some (.int vs.length ts)) (m5 : m' "last" = some lv)
   (hlast : LastIn (Tx ++ led) lv lcv) (hsep : ∀ q ∈ Tx, ∀ z ∈ led, q.1 ≠ z.1) (hol : ∀ q ∈ Tx ++ led, @Ne Nat q.1 ol) (hF : FoIn led (vs.drop (i + 1)) rest) (hD : DatAll Tx xs ds)
   (hds : ds ++ outl rest vs.length (i + 1) dep fo.labs lcv = outl fo vs.length 0 dep fo.labs none) (hxs : xs.length ≤ 2 * (i + 1)) (hr : rest.hgt ≤ fo.hgt) (hw : rest.okw) :
   TbEnd g L (TI P td ts dep ol led fo vs (i + 1)) own s₁ { s₁ with heap := h', toks := tk } := by
  refine ⟨h', tk, m', news', (ol, listOf xs.toArray nn) :: (Tx ++ led), rfl, F, N, ?_, h5, ?_, Tx, xs, nn, lv, lcv, ds, rest, rfl, m1, m2, m3, m4, m5, hlast, hsep, hol, hF, hD, hds, hxs, hr, hw⟩
  · intro p hp
    rcases List.mem_cons.mp hp with rfl | hp
    · exact h1
    · exact h3 p hp
  · intro p hp q hq
    rcases List.mem_cons.mp hq with rfl | hq
    · exact o0 p hp
    · exact o1 p hp q hq
def Mid (P : Value → Prop) (s : Shared) (v : Value) (s₁ : Shared) : Prop := P v ∧ ∃ k, s₁ = { s with toks := k }
theorem mid {prog : Program} {w : World} {A : Around} {E : Value → Shared → Prop} {s : Shared} {Q : Value → Shared → Prop} {t : Sem Value} (P : Value → Prop) (h : wpAny (model prog w) A t (Mid P s) E s) (k : ∀ v tk, P v → Q v { s with toks := tk }) : wpAny (model prog w) A t Q E s :=
  wpAny_mono h (fun v s₁ ⟨a, tk, e⟩ => by subst e; exact k v tk a) fun _ _ z => z
theorem tj_end {P : Value} {td ts t1 t2 ti : Tok} {dep : Int} {al ol kl L : Addr} {xs as : List Value} {nn an : Nat} {B R led own T2 Tx news' : List (Addr × Obj)} {labs : List Int} {sz i : Nat} {lab ask : Int} {lcv : Option Int} {j : Nat} {g h' : Heap} {m' : Str → Option Value} {v lv : Value} {s₁ : Shared} {tk : Nat}
   (F : Fr g L h' m') (N : News g L h' news') (h1 : (al, listOf (as ++ [v]).toArray (an + 1)) ∈ news') (h2 : (ol, listOf xs.toArray nn) ∈ news') (h3 : ∀ q ∈ Tx, q ∈ news') (h4 : ∀ q ∈ T2 ++ B, q ∈ news') (h5 : ∀ q ∈ own, q ∈ news')
   (o1 : TbOff own ((al, listOf as.toArray an) :: (ol, listOf xs.toArray nn) :: (T2 ++ B))) (o2 : ∀ q ∈ Tx, @Ne Nat q.1 al ∧ @Ne Nat q.1 ol ∧ (∀ z ∈ led, q.1 ≠ z.1) ∧ ∀ z ∈ own, z.1 ≠ q.1)
   (m1 : m' "rows" = some P) (m2 : m' "depth" = some (.int dep td)) (m3 : m' "out" = some (.ref ol)) (m4 : m' "size" = some (.int sz ts)) (m5 : m' "last" = some lv)
   (m6 : m' "answers" = some (.ref al)) (m7 : m' "asks" = some (.int ask t2)) (m8 : m' "label" = some (.int lab t1)) (m9 : m' "kids" = some (.ref kl)) (m10 : m' "k" = some (.int i ti))
   (hlast : LastIn (Tx ++ (T2 ++ R)) lv (nx (lcvAt lcv lab ask j) lab (qn ask j))) (hsep : ∀ q ∈ T2, ∀ z ∈ led, q.1 ≠ z.1) (hol : ∀ q ∈ T2 ++ B, @Ne Nat q.1 ol) (hal : ∀ q ∈ T2 ++ B, @Ne Nat q.1 al)
   (hA : DatAll [] as ((List.range j).map fun i' => plain sz i dep labs (lcvAt lcv lab ask i') lab (qn ask i'))) (hv : Leaf v (plain sz i dep labs (lcvAt lcv lab ask j) lab (qn ask j))) :
   TbEnd g L (TJ P td ts t1 t2 ti dep al ol kl xs nn B R led labs sz i lab ask lcv (j + 1)) own s₁ { s₁ with heap := h', toks := tk } := by
  refine ⟨h', tk, m', news', (al, listOf (as ++ [v]).toArray (an + 1)) :: (ol, listOf xs.toArray nn) :: ((Tx ++ T2) ++ B), rfl, F, N, ?_, h5, ?_, Tx ++ T2, as ++ [v], an + 1, lv, rfl, m1, m2, m3, m4, m5, m6, m7, m8, m9, m10, ?_, ?_, ?_, ?_, ?_⟩
  · intro p hp
    rw [List.append_assoc] at hp
    rcases List.mem_cons.mp hp with rfl | hp
    · exact h1
    rcases List.mem_cons.mp hp with rfl | hp
    · exact h2
    rcases List.mem_append.mp hp with hp | hp
    · exact h3 p hp
    · exact h4 p hp
  · intro p hp q hq
    rw [List.append_assoc] at hq
    rcases List.mem_cons.mp hq with rfl | hq
    · exact o1 p hp (al, listOf as.toArray an) (.head _)
    rcases List.mem_cons.mp hq with rfl | hq
    · exact o1 p hp (ol, listOf xs.toArray nn) (.tail _ (.head _))
    rcases List.mem_append.mp hq with hq | hq
    · exact (o2 q hq).2.2.2 p hp
    · exact o1 p hp q (.tail _ (.tail _ hq))
  · rw [List.append_assoc]; exact hlast
  · intro q hq
    rcases List.mem_append.mp hq with hq | hq
    · exact (o2 q hq).2.2.1
    · exact hsep q hq
  · intro q hq
    rw [List.append_assoc] at hq
    rcases List.mem_append.mp hq with hq | hq
    · exact (o2 q hq).2.1
    · exact hol q hq
  · intro q hq
    rw [List.append_assoc] at hq
    rcases List.mem_append.mp hq with hq | hq
    · exact (o2 q hq).1
    · exact hal q hq
  · rw [List.range_succ, List.map_append]
    exact hA.append (.one hv.dat)
end Mine

end
section
theorem Mine.walk_off_C1 : True := by
  w_top off
  trivial
open PySem PySem.W PyProof.Rows PySem.Spec PySem.Calls
set_option Elab.async false
set_option maxRecDepth 100000
set_option maxHeartbeats 8000000
namespace Mine
local macro_rules | `(tactic| walk_at "my fill") => `(tactic| (
  have hfill : (∀ P h, (hd.heap_39 P).In h → (hd.heap_39 P).In h) ∧ PySem.Challenge.rw_co0008_01.about = PySem.Challenge.rw_co0008_01.about := ⟨fun _ _ x => x, rfl⟩
  revert hfill; k_fill; intro hfill; clear hfill))
local macro_rules | `(tactic| walk_at "my room") => `(tactic| first | assumption | ((try simp only [depth_under_make, depth_under_kw, depth_in1, depth_deeper, depth_caller, AR_depth, mark_depth]); omega))
local macro_rules | `(tactic| walk_at "my units") => `(tactic| first | assumption | ((try simp only [units_in1, units_deeper, Around.mark_units, units_caller, AR_units]); omega))
local macro_rules | `(tactic| k_room) => `(tactic| walk_at "my room")
local macro_rules | `(tactic| k_units) => `(tactic| walk_at "my units")
local macro_rules | `(tactic| ke_room) => `(tactic| walk_at "my units")
local macro_rules | `(tactic| k_all) => `(tactic| first | assumption | exact allLt_le (by assumption) (by omega) | exact allLt_ne (by assumption) | exact allLt_ne (And.right (by assumption)) | exact allLt_ne (And.right (And.right (by assumption))) | exact allLt_ne (And.right (And.right (And.right (by assumption)))) | exact allLt_ne (And.right (And.right (And.right (And.right (by assumption))))))
local macro_rules | `(tactic| walk_at "my sub") => `(tactic| (refine News.sub' (by assumption) ?_; intro q hq; first | exact hq | exact .tail _ hq | exact .tail _ (.tail _ hq) | exact .tail _ (.tail _ (.tail _ hq)) | (simp only [List.mem_cons, List.mem_append] at hq ⊢; simp only [hq, or_true])))
local macro_rules | `(tactic| k_get) => `(tactic| first | with_reducible assumption | exact LoopOk.undef (by assumption) | exact LoopOk.recurse (by assumption) | exact LoopOk.iterable (by assumption) | exact LoopOk.iterator (by assumption) | exact getL_put _ | ((with_reducible refine (getL_put_ne ?hne).trans ?_); (case hne => decide); k_get))
local macro_rules | `(tactic| walk_at "my len") => `(tactic| ((repeat refine len_put_of ?_); omega))
local macro_rules | `(tactic| walk_at "my enter") => `(tactic| (
  refine' code_def ?k1 ?k2 ?k3 ?k4 ?k5 ?kA ?kF ?kK ?k6 ?k7 ?k8 ?k9 ?kB ?_ ?c2 ?c3 ?c4 ?c5; (case kA => first | exact rfl | assumption); (case kF => first | exact rfl | assumption); (case kK => first | exact rfl | assumption); (case k1 => k_asm); (case k2 => k_asm); (case k3 => k_asm); (case k4 => k_asm); (case k5 => k_asm); (case k6 => k_is); (case k7 => k_is); (case k8 => walk_at "my room"); (case k9 => first | exact BindsTo.of_eq rfl | exact binds_K (by k_in) rfl (by k_is) rfl rfl rfl | fail "enter: no rule for these arguments"); (case c5 => decide); (case kB => exact locs rfl); (case c2 => exact rfl); (case c3 => exact rfl); (case c4 => exact rfl); k_whole; intro g' L' h' FG' F' N' B' X' T'; (try dsimp only); (try k_fold)))
local macro_rules | `(tactic| walk_at "my prop") => `(tactic| (k_dflt (refine' get_prop ?k1 ?k2 ?k3 ?k4 ?k5 ?k6 ?k7 ?k8 ?k9 ?_; (case k1 => k_asm); (case k2 => k_asm); (case k3 => k_inst); (case k4 => k_is); (case k5 => k_is); (case k6 => k_is); (case k7 => k_is); (case k8 => k_is); (case k9 => k_is); k_whole); walk_at "my enter"))
local macro_rules | `(tactic| walk_at "setAttr ref") => `(tactic| (k_here; k_dflt (refine' set_dict ?k1 ?k2 ?k3 ?k4 ?k5 ?k6 ?k7 ?k8 ?k9 ?k10 ?k11 ?k12 ?k13 ?_; (case k1 => k_asm); (case k2 => k_asm); (case k3 => k_asm); (case k4 => k_inst); (case k5 => exact rfl); (case k6 => k_is); (case k7 => k_is); (case k8 => k_is); (case k9 => k_is); (case k10 => exact getL_isSome (by k_get)); (case k11 => exact rfl); (case k12 => k_upd); (case k13 => walk_at "my len"); k_whole; intro h' F' N'; (try k_sweep))))
local macro_rules | `(tactic| k_mem) => `(tactic| first | with_reducible assumption | exact List.Mem.head _ | (refine' List.mem_cons_of_mem _ ?_; k_mem) | (refine' List.mem_append_left _ ?_; k_mem) | (refine' List.mem_append_right _ ?_; k_mem))
local macro_rules | `(tactic| walk_at "compareOp IsNot ref ref") => `(tactic| (k_here; first | refine wpAny_isNot_ref_self ?_ | (k_dflt (refine' isNot_right ?n ?a ?b ?c ?_; (case n => kto_ne); (case a => kto_obj); (case b => kto_obj); (case c => kto_not); k_whole))))
local macro_rules | `(tactic| walk_at "compareOp Is ref ref") => `(tactic| (k_here; first | refine wpAny_is_ref_self ?_ | (k_dflt (refine' is_right ?n ?a ?b ?c ?_; (case n => kto_ne); (case a => kto_obj); (case b => kto_obj); (case c => kto_not); k_whole))))
local macro_rules | `(tactic| walk_at "my cx") => `(tactic| exact ⟨by k_asm, by k_asm, by k_asm, rfl, by first | rfl | assumption, by first | rfl | assumption⟩)
local macro_rules | `(tactic| walk_at "my cy") => `(tactic| exact ⟨by k_asm, by k_asm, by k_asm, by first | rfl | assumption, by first | rfl | assumption⟩)
local macro_rules | `(tactic| k_handed) => `(tactic| with_reducible assumption)
local macro_rules | `(tactic| walk_at "my rest") => `(tactic| (refine' kp_rest ?k1 ?k2 ?k3 ?k4 ?k5 ?kA ?kF ?kK ?k6 ?k7 ?k8 ?kV ?kP ?kG ?kB ?_ ?c2 ?c3 ?c4 ?c5; (case kA => exact rfl); (case kF => first | exact rfl | assumption); (case kK => first | exact rfl | assumption); (case k1 => k_asm); (case k2 => k_asm); (case k3 => k_asm); (case k4 => k_asm); (case k5 => k_asm); (case k6 => k_is); (case k7 => k_is); (case k8 => k_room); (case kV => kl_lit); (case kP => exact rfl); (case kG => exact fun _ => rfl); (case kB => exact fun _ => locs rfl); (case c5 => decide); (case c2 => exact rfl); (case c3 => exact rfl); (case c4 => exact rfl); k_whole; intro D' g' L' h' l1 FG' F' N' B' X' T'; (try k_lt l1); (try dsimp only); (try k_fold)))
local macro_rules | `(tactic| walk_at "compareOp NotEq ref ref") => `(tactic| (k_here; (with_reducible show wpAny _ _ (compareOp _ (Value.ref 92) (Value.ref _)) _ _ _); k_dflt (refine' inst_ne_tuple ?X ?I ?t ?c ?n ?h1 ?h2 ?h3 ?h4 ?h5 ?u ?_; (case X => k_in); (case I => refine' InstAt.of_K ?kx ?kl ?km; (case kx => k_in); (case kl => k_is); (case km => k_is)); (case t => exact kto_N (by k_asm) (by k_mem)); (case c => rfl); (case n => kto_ne); (case h1 => k_is); (case h2 => k_is); (case h3 => k_is); (case h4 => k_is); (case h5 => k_is); (case u => walk_at "my units"); k_whole)))
local macro_rules | `(tactic| walk_at "my enterS") => `(tactic| (
  refine' enterS ?k1 ?k2 ?k3 ?k4 ?k5 ?XB ?TB ?D ?T0 ?kA ?kF ?kK ?k6 ?k7 ?k8 ?k9 ?kB ?_ ?c2 ?c3 ?c4 ?c5; (case kA => exact rfl); (case kF => first | exact rfl | assumption); (case kK => first | exact rfl | assumption); (case k2 => k_asm); (case k1 => k_asm); (case k3 => k_asm); (case k4 => k_asm); (case k5 => k_asm); (case XB => assumption); (case TB => assumption); (case D => assumption); (case T0 => first | assumption | exact KtsTurn.refl); (case k6 => k_is); (case k7 => k_is); (case k8 => walk_at "my room"); (case k9 => first | exact BindsTo.of_eq rfl | exact binds_K (by k_in) rfl (by k_is) rfl rfl rfl | fail "enterS: no rule for these arguments"); (case c5 => decide); (case kB => exact locs rfl); (case c2 => exact rfl); (case c3 => exact rfl); (case c4 => exact rfl); k_whole; intro g' L' h' FG' F' N' B' X' T' D' lL'; (try dsimp only); (try k_fold)))
local macro_rules | `(tactic| walk_at "my propS") => `(tactic| (k_dflt (refine' get_prop ?k1 ?k2 ?k3 ?k4 ?k5 ?k6 ?k7 ?k8 ?k9 ?_; (case k1 => k_asm); (case k2 => k_asm); (case k3 => k_inst); (case k4 => k_is); (case k5 => k_is); (case k6 => k_is); (case k7 => k_is); (case k8 => k_is); (case k9 => k_is); k_whole); walk_at "my enterS"))
local macro_rules | `(tactic| walk_at "call builtin:iter") => `(tactic| (k_here; (with_reducible show wpAny _ _ (call (Value.builtin "iter") [Value.ref _]) _ _ _); k_dflt (first
  | (refine' iter_list ?F ?N ?m ?_; (case F => k_asm); (case N => k_asm); (case m => k_mem); k_whole; intro i' h' F' N' l1; (try k_lt l1); (try k_sweep))
  | (refine' iter_map ?N ?m ?_; (case N => k_asm); (case m => k_mem); k_whole))))
local macro_rules | `(tactic| walk_at "call builtin:len") => `(tactic| (k_here; (with_reducible show wpAny _ _ (call (Value.builtin "len") [Value.ref _]) _ _ _); k_dflt (refine' len_list ?l ?z ?_; (case l => exact News.isList (by k_asm) (by k_mem)); (case z => rw [List.size_toArray]; (try simp only [List.length_drop]); omega); (try rw [List.size_toArray]))))
local macro_rules | `(tactic| walk_at "my cz") => `(tactic| exact ⟨by k_asm, by k_asm, by k_asm, by first | rfl | assumption, by first | rfl | assumption, by assumption, by assumption, by assumption⟩)
local macro_rules | `(tactic| walk_at "my retcz") => `(tactic| exact ⟨by assumption, by assumption, by assumption, by assumption, by assumption, by assumption, by assumption, by assumption⟩)
local macro_rules | `(tactic| walk_at "my enterSC") => `(tactic| (refine' enterSC ?k1 ?k2 ?k3 ?k4 ?k5 ?XB ?TB ?D ?T0 ?kA ?kF ?kK ?k6 ?k7 ?k8 ?k9 ?kB ?kD ?_ ?c2 ?c3 ?c4; (case kA => exact rfl); (case kF => first | exact rfl | assumption); (case kK => first | exact rfl | assumption); (case k2 => k_asm); (case k1 => k_asm); (case k3 => k_asm); (case k4 => k_asm); (case k5 => k_asm); (case XB => assumption); (case TB => assumption); (case D => assumption); (case T0 => first | assumption | exact KtsTurn.refl); (case k6 => k_is); (case k7 => k_is); (case k8 => walk_at "my room"); (case k9 => assumption); (case kB => exact rfl); (case kD => decide +kernel); (case c2 => exact rfl); (case c3 => exact rfl); (case c4 => exact rfl); k_whole; intro g' L' h' tk' cells' FG' F' N' Y' B' X' T' D' lL'; k_cells Y'; (try simp only [List.cons_append, List.nil_append] at N'); (try dsimp only); (try k_fold)))
local macro_rules | `(tactic| walk_at "my look") => `(tactic| (first | with_reducible assumption | exact if_pos rfl | ((refine (if_neg (by decide)).trans ?_); walk_at "my look") | exact rfl))
local macro_rules | `(tactic| walk_at "eval Name") => `(tactic| (k_here; k_dflt (refine' nameX_L ?k1 ?k2 ?_; (case k1 => k_asm); (case k2 => (try dsimp only); walk_at "my look"); k_whole)))
local macro_rules | `(tactic| walk_at "exec For Name Call cons nil") => `(tactic| (k_here; (rename Fr _ _ _ _ => lF'); (with_unfolding_all refine' For_invVF lF' ?k1 ?k2 ?_; (case k1 => exact rfl); (case k2 => exact rfl); k_whole)))
local macro_rules | `(tactic| walk_at "pyIter ref") => `(tactic| (k_dflt (refine Stop.out ?_)))
local macro_rules | `(tactic| walk_at "TbEnd") => `(tactic| (k_dflt (refine Stop.out ?_)))
local macro_rules | `(tactic| walk_at "subscriptTail Name Name ref int") => `(tactic| (k_here; k_dflt (refine' list_item ?k1 ?k2 ?k3 ?k4 ?_ ?k6; (case k4 => with_reducible assumption); (case k1 => exact News.isList (by k_asm) (by k_mem)); (case k2 => omega); (case k3 => omega); (case k6 => first | exact subs_name | exact subs_binop); k_whole)))
local macro_rules | `(tactic| walk_at "binaryOp Pow int int") => `(tactic| (k_here; (refine' pow14 ?k1 ?k2 ?_; (case k2 => with_reducible assumption); (case k1 => omega); k_whole; intro tp'; (try dsimp only))))
local macro_rules | `(tactic| walk_at "binaryOp Mod int int") => `(tactic| (k_here; (refine' modG ?k1 ?k2 ?_; (case k1 => decide); (case k2 => decide); k_whole; intro q' tq' ql' qh' qe'; (try dsimp only))))
local macro_rules | `(tactic| walk_at "binaryOp Mod int int") => `(tactic| (k_here; (with_reducible show wpAny _ _ (binaryOp .Mod _ (.int 3 _)) _ _ _); refine' mod3 ?_ ?_ ?_ <;> (k_whole; intro hm' tq'; (try dsimp only))))
local macro_rules | `(tactic| walk_at "newList") => `(tactic| (k_here; (with_reducible show wpAny _ _ (newList (_ :: _ :: _)) _ _ _); k_dflt (refine Stop.out ?_)))
local macro_rules | `(tactic| walk_at "call builtin:list.append") => `(tactic| (k_here; k_dflt (refine' append_K ?k1 ?k2 ?k3 ?_ ?z; (case k1 => k_asm); (case k2 => k_asm); (case k3 => k_upd); (case z => assumption); k_whole); intro h' F' N'; (try k_sweep)))
local macro_rules | `(tactic| walk_at "Mid") => `(tactic| (k_dflt (refine Stop.out ?_)))
local macro_rules | `(tactic| walk_at "binaryOp FloorDiv int int") => `(tactic| (k_here; (refine' fdiv14 ?k1 ?k2 ?_; (case k1 => with_reducible assumption); (case k2 => with_reducible assumption); k_whole; intro tp'; (try dsimp only))))
local macro_rules | `(tactic| walk_at "compareOp NotEq ref ref") => `(tactic| (k_here; k_dflt (refine Stop.out ?_)))
local macro_rules | `(tactic| walk_at "subscriptTail Name BinOp ref int") => `(tactic| (k_here; k_dflt (refine Stop.out ?_)))
local macro_rules | `(tactic| walk_at "exec If") => `(tactic| (k_here; k_dflt (refine Stop.out ?_)))
local macro_rules | `(tactic| walk_at "eval IfExp") => `(tactic| (k_here; k_dflt (refine Stop.out ?_)))
local macro_rules | `(tactic| walk_at "eval Subscript") => `(tactic| (k_here; (with_reducible show wpAny _ _ (eval (Expr.Subscript (Expr.Constant _ _ _) _ _) _) _ _ _); (fail_if_success (with_reducible show wpAny _ _ _ (Mid _ _) _ _)); k_dflt (refine Stop.out ?_)))
local macro_rules | `(tactic| walk_at "subscriptTail") => `(tactic| (k_here; (with_reducible show wpAny _ _ (subscriptTail (PySem.Expr.List _ _) _ (Value.ref _) (Value.int _ _)) _ _ _); k_dflt (refine' list_item ?k1 ?k2 ?k3 ?k4 ?_ ?k6; (case k4 => with_reducible assumption); (case k1 => exact News.isList (by k_asm) (by k_mem)); (case k2 => omega); (case k3 => omega); (case k6 => first | exact subs_name | exact subs_binop); k_whole)))
local macro_rules | `(tactic| walk_at "call ref") => `(tactic| (k_here; (with_reducible show wpAny _ _ (call (Value.ref 411) _) _ _ _); k_dflt (refine Stop.out ?_)))
theorem told_w {prog : Program} {w : World} (fo : Fo) (ih : ∀ k : Fo, k.hgt < fo.hgt → ToldC prog w k) : ToldC prog w fo := by
  intro dp un gd A₀ env outer base h₀ p loose mean mg mb L m s led l n vs dep td Q E C F N hl hfo hsm hW hdep0 hdepH hH hdp hun ret
  have hdep1 : dep < 1000 := by omega
  obtain ⟨B, X, T, hf, hk⟩ := C
  walk_at "my fill"
  refine wpAny_call ?_
  walk_at "my enter"
  k_steps
  refine Stop.in ?_
  (rename IsRange _ _ _ _ _ _ _ _ => hrg)
  (rename News _ _ _ _ => Nl)
  (rename Fr _ _ _ _ => Fl)
  rename_i tks ol _ hol ll _ hll Dt _ hDt _ _ _ _ F1 N1 hh1 tk1 t1 u1 v1 a1
  have Nl2 : ∀ q ∈ (ol, listOf #[] 0) :: ([(ll, listOf #[] 0)] ++ led), q ∈ (Dt, ({ cls := .type "tuple", data := .seq #[.ref ol, .ref ll, .int vs.length (tks + 1)] } : Obj)) :: (ll, listOf #[] 0) :: (ol, listOf #[] 0) :: led := by
    intro q hq
    simp only [List.mem_cons, List.mem_append, List.not_mem_nil, or_false] at hq ⊢
    rcases hq with h | h | h <;> simp [h]
  refine tbr_invG (n := vs.length) (TI (.ref l) td (tks + 1) dep ol led fo vs) rfl hrg (small_one (by omega) (by omega) (by omega) (by omega)) ((rangeSize_nat _ _).trans (by omega)) Fl (news := (ol, listOf #[] 0) :: ([(ll, listOf #[] 0)] ++ led)) (News.sub' Nl Nl2) ?init ?turn ?done
  case init =>
    refine ⟨[(ll, listOf #[] 0)], [], 0, .ref ll, none, [], fo, rfl, ?_, ?_, ?_, ?_, ?_, ⟨ll, rfl, .inl ⟨rfl, 0, List.mem_append_left _ (.head _)⟩⟩, ?_, ?_, hfo, .nil, rfl, Nat.zero_le _, Nat.le_refl _, hW⟩
    · walk_at "my look"
    · walk_at "my look"
    · walk_at "my look"
    · walk_at "my look"
    · walk_at "my look"
    · intro q hq z hz e
      rw [List.mem_singleton.mp hq] at e
      exact absurd (allLt_mem hll.2 z hz) (by rw [← e]; exact Nat.lt_irrefl _)
    · intro q hq
      rcases List.mem_cons.mp hq with rfl | hq
      · exact Nat.ne_of_gt hll.1
      · exact Nat.ne_of_lt (hol q hq)
  case turn =>
    intro i k t m₁ nx h tk own hik hoff hJ F₁ N₁
    obtain ⟨T1, xs, nn, lv, lcv, ds, r, rfl, hm1, hm2, hm3, hm4, hm5, hlast, hsep, hol1, hF, hD, hds, hxs, hrH, hrW⟩ := hJ
    have hi : i < vs.length := by
      have z := (List.getElem?_eq_some_iff.mp hik).1
      rw [rangeKs_length] at z
      exact z
    obtain rfl : k = (i : Int) := by
      have z := (List.getElem?_eq_some_iff.mp hik).2
      simp [rangeKs] at z
      omega
    clear Nl Fl hrg N1 F1 hik
    cases r with
    | nil =>
      have z := hF.end_ (Nat.le_of_lt hi)
      omega
    | cons lab kids ask sz rest =>
      obtain ⟨a, t1, kl, t2, kn, kvs, hv, hm6, hkl, hkids, hrest⟩ := hF.head
      have hv2 : vs[((i : Nat) : Int).toNat]? = some (.ref a) := by rw [Int.toNat_natCast]; exact hv
      have hi0 : (0 : Int) ≤ (i : Int) := by omega
      have hi1 : (i : Int) < 2 ^ 63 := by omega
      obtain ⟨R, hR⟩ : ∃ z, z = T1 ++ led := ⟨_, rfl⟩
      have subled : ∀ q ∈ led, q ∈ R := fun q hq => by rw [hR]; exact List.mem_append_right _ hq
      have hm7 := subled _ hm6
      have hkl7 := subled _ hkl
      have hl7 := subled _ hl
      rw [← hR] at N₁ hol1 hoff
      rw [List.cons_append] at N₁
      have hown : ∀ q ∈ own, @Ne Nat q.1 ol := fun q hq => hoff q hq _ (.head _)
      k_steps
      refine Stop.in ?_
      (rename IsRange _ _ _ _ _ _ _ _ => hrg)
      (rename News _ _ _ _ => Nl)
      (rename Fr _ _ _ _ => Fl)
      rename_i al _ hal _ _ _ _ _ tu1 tu2 tu3 _
      have hBne : ∀ q ∈ R ++ own, @Ne Nat q.1 ol := fun q hq => by
        rcases List.mem_append.mp hq with hq | hq
        · exact hol1 q hq
        · exact hown q hq
      have hBal : ∀ q ∈ R ++ own, @Ne Nat q.1 al := fun q hq => Nat.ne_of_lt (allLt_mem hal.2 q hq)
      have hola : @Ne Nat ol al := Nat.ne_of_lt hal.1
      obtain ⟨B, hB⟩ : ∃ z, z = R ++ own := ⟨_, rfl⟩
      have subB : ∀ q ∈ R, q ∈ B := fun q hq => by rw [hB]; exact List.mem_append_left _ hq
      have hl8 := subB _ hl7
      have hm8 := subB _ hm7
      have hkl8 := subB _ hkl7
      rw [← hB] at Nl hBne hBal
      refine tbr_invG (n := 3) (TJ (.ref l) td (tks + 1) t1 t2 t dep al ol kl xs nn B R B fo.labs vs.length i lab ask lcv) rfl hrg (by decide) (by decide) Fl (news := (al, listOf #[] 0) :: (ol, listOf xs.toArray nn) :: B) Nl ?init2 ?turn2 ?done2
      case init2 =>
        refine ⟨[], [], 0, lv, rfl, ?_, ?_, ?_, ?_, ?_, ?_, ?_, ?_, ?_, ?_, by rw [hR]; exact hlast, (fun q hq => nomatch hq), hBne, hBal, .nil⟩
        · walk_at "my look"
        · walk_at "my look"
        · walk_at "my look"
        · walk_at "my look"
        · walk_at "my look"
        · walk_at "my look"
        · walk_at "my look"
        · walk_at "my look"
        · walk_at "my look"
        · walk_at "my look"
      case turn2 =>
        intro j k2 tj m₂ nx2 h2 tk2 own2 hjk hoff2 hJ2 F₂ N₂
        obtain ⟨T2, as, an, lv2, rfl, hn1, hn2, hn3, hn4, hn5, hn6, hn7, hn8, hn9, hn10, hlast2, hsep2, hol2, hal2, hA⟩ := hJ2
        have hj : j < 3 := by
          have z := (List.getElem?_eq_some_iff.mp hjk).1
          rw [rangeKs_length] at z
          exact z
        obtain rfl : k2 = (j : Int) := by
          have z := (List.getElem?_eq_some_iff.mp hjk).2
          simp [rangeKs] at z
          omega
        obtain ⟨pw, hpw, hpw0, hpw1⟩ : ∃ pw : Int, (14 : Int) ^ j = pw ∧ 0 < pw ∧ pw ≤ 196 := ⟨_, rfl, Int.pow_pos (by decide), by
          have : j = 0 ∨ j = 1 ∨ j = 2 := by omega
          rcases this with rfl | rfl | rfl <;> decide⟩
        obtain ⟨R2, hR2⟩ : ∃ z, z = T2 ++ B := ⟨_, rfl⟩
        have subB2 : ∀ q ∈ B, q ∈ R2 := fun q hq => by rw [hR2]; exact List.mem_append_right _ hq
        have hl9 := subB2 _ hl8
        have hm9 := subB2 _ hm8
        have hTR : ∀ q ∈ T2 ++ R, q ∈ R2 := fun q hq => by
          rw [hR2]
          exact (List.mem_append.mp hq).elim (List.mem_append_left _) fun h => List.mem_append_right _ (subB q h)
        rw [← hR2] at N₂ hol2 hal2 hoff2
        rw [List.cons_append, List.cons_append] at N₂
        obtain ⟨W, hW⟩ : ∃ z, z = R2 ++ own2 := ⟨_, rfl⟩
        have subW : ∀ q ∈ R2, q ∈ W := fun q hq => by rw [hW]; exact List.mem_append_left _ hq
        rw [← hW] at N₂
        have hown2 : ∀ q ∈ own2, @Ne Nat q.1 al := fun q hq => hoff2 q hq _ (.head _)
        have hown3 : ∀ q ∈ own2, @Ne Nat q.1 ol := fun q hq => hoff2 q hq _ (.tail _ (.head _))
        have hWal : ∀ q ∈ W, @Ne Nat q.1 al := fun q hq => by
          rw [hW] at hq
          exact (List.mem_append.mp hq).elim (hal2 q) (hown2 q)
        have hWol : ∀ q ∈ W, @Ne Nat q.1 ol := fun q hq => by
          rw [hW] at hq
          exact (List.mem_append.mp hq).elim (hol2 q) (hown3 q)
        have halo := Ne.symm hola
        have hl6 := subW _ hl9
        have hm6W := subW _ hm9
        (try clear Nl); (try clear Fl); (try clear hrg); (try clear hjk)
        obtain ⟨la, rfl, hlast3⟩ := id hlast2
        k_steps
        refine Stop.in ?_
        have hsz2 : as.toArray.size ≤ sizeLine := by
          have z := hA.length
          rw [List.length_map, List.length_range] at z
          rw [sizeLine_eq, List.size_toArray]
          omega
        (rename Int.fmod _ 14 = _ => hqq)
        rw [← hpw, ← qn] at hqq
        subst hqq
        have hq0 := qn_lo ask j
        have hq1 := qn_hi ask j
        have hsz2 : as.toArray.size ≤ sizeLine := by
          have z := hA.length
          rw [List.length_map, List.length_range] at z
          rw [sizeLine_eq, List.size_toArray]
          omega
        refine wpAny_If ?_
        k_steps
        all_goals refine Stop.in ?_
        · (rename qn ask j = 13 => hq13)
          k_dflt (refine' ne_last (T := T2 ++ R) ?pN hlast2 ?psub ?pm ?pu ?_)
          (case pN => k_asm); (case psub => intro z hz; exact .tail _ (.tail _ (.tail _ (subW z (hTR z hz))))); (case pm => exact .head _); (case pu => walk_at "my units")
          k_whole
          k_steps
          refine Stop.in ?_
          (rename _ < _ ∧ _ < _ ∧ _ < _ ∧ AllLt _ W => hlt)
          (rename News _ _ _ _ => NE)
          (rename Fr _ _ _ _ => FE)
          rename_i l2 _ _
          rw [List.push_toArray] at NE
          refine tj_end (Tx := [(l2, listOf #[.int lab t1] 0)]) (lv := .ref l2) FE NE (.tail _ (.tail _ (.head _))) (.tail _ (.tail _ (.tail _ (.head _)))) ?a1 ?a2 ?a3 (by rw [← hR2]; exact hoff2) ?a4 ?b1 ?b2 ?b3 ?b4 ?b5 ?b6 ?b7 ?b8 ?b9 ?b10 ?a5 hsep2 (by rw [← hR2]; exact hol2) (by rw [← hR2]; exact hal2) hA ?a6
          case a1 => exact fun q hq => by rw [List.mem_singleton.mp hq]; exact .head _
          case a2 => exact fun q hq => .tail _ (.tail _ (.tail _ (.tail _ (subW q (by rw [hR2]; exact hq)))))
          case a3 => exact fun q hq => .tail _ (.tail _ (.tail _ (.tail _ (by rw [hW]; exact List.mem_append_right _ hq))))
          case a4 =>
            intro q hq
            rw [List.mem_singleton.mp hq]
            have hW2 := allLt_mem hlt.2.2.2
            exact ⟨Nat.ne_of_gt hlt.2.1, Nat.ne_of_gt hlt.2.2.1, fun z hz => Nat.ne_of_gt (hW2 z (subW _ (subB2 _ hz))), fun z hz => Nat.ne_of_lt (hW2 z (by rw [hW]; exact List.mem_append_right _ hz))⟩
          case a5 =>
            rw [hq13]
            exact ⟨l2, rfl, .inr ⟨lab, t1, 0, rfl, .head _⟩⟩
          case a6 =>
            rw [hq13]
            refine .eqs ?_
            simp [plain, tf]
          all_goals walk_at "my look"
        · (rename qn ask j ≠ 13 => hq13)
          refine mid (fun v => Leaf v (plain vs.length i dep fo.labs none lab 10)) ?e1 ?e2
          case e1 =>
            refine wpAny_IfExp ?_
            k_steps
            · refine Stop.in ?_
              have hi9 : i ≠ 0 := by omega
              obtain ⟨_, lab', hv', hl', a', t1', kl', ask', t2', sz', rfl, hm'⟩ := (hfo.labs).at (show i - 1 < vs.length by omega)
              have hm'' : (a', T4 lab' t1' kl' ask' t2' sz') ∈ W := subW _ (subB2 _ (subB _ (subled _ hm')))
              k_dflt (refine' list_item (vs := vs) (v := .ref a') ?k1 ?k2 ?k3 ?k4 ?_ ?k6)
              (case k4 => rw [show ((i : Int) - 1).toNat = i - 1 from by omega]; exact hv')
              (case k1 => exact News.isList (by k_asm) (by k_mem)); (case k2 => omega); (case k3 => omega)
              (case k6 => exact subs_binop)
              k_whole
              k_steps
              refine Stop.in ⟨?_, _, rfl⟩
              refine .eqi ?_
              simp [plain, hi9, List.getD_eq_getElem?_getD, hl']
            · refine Stop.in ⟨?_, _, rfl⟩
              refine .eqs ?_
              have hi9 : i = 0 := by omega
              simp [plain, hi9]
          case e2 =>
            intro bv tb hbv
            have hbvh := hbv.handed
            k_steps
            refine Stop.in ?_
            refine mid (fun v => Leaf v (plain vs.length i dep fo.labs none lab 11)) ?e3 ?e4
            case e3 =>
              refine wpAny_IfExp ?_
              k_steps
              · refine Stop.in ?_
                have hi9 : i + 1 ≠ vs.length := by omega
                obtain ⟨_, lab', hv', hl', a', t1', kl', ask', t2', sz', rfl, hm'⟩ := (hfo.labs).at (show i + 1 < vs.length by omega)
                have hm'' : (a', T4 lab' t1' kl' ask' t2' sz') ∈ W := subW _ (subB2 _ (subB _ (subled _ hm')))
                k_dflt (refine' list_item (vs := vs) (v := .ref a') ?k1 ?k2 ?k3 ?k4 ?_ ?k6)
                (case k4 => rw [show ((i : Int) + 1).toNat = i + 1 from by omega]; exact hv')
                (case k1 => exact News.isList (by k_asm) (by k_mem)); (case k2 => omega); (case k3 => omega)
                (case k6 => exact subs_binop)
                k_whole
                k_steps
                refine Stop.in ⟨?_, _, rfl⟩
                refine .eqi ?_
                simp [plain, hi9, List.getD_eq_getElem?_getD, hl']
              · refine Stop.in ⟨?_, _, rfl⟩
                refine .eqs ?_
                have hi9 : i + 1 = vs.length := by omega
                simp [plain, hi9]
            case e4 =>
              intro cv tc hcv
              have hcvh := hcv.handed
              k_steps
              refine Stop.in ?_
              refine mid (fun v => ∃ t, v = Value.str (if i % 3 = 0 then "a" else if i % 3 = 1 then "b" else "c") t) ?e5 ?e6
              case e5 =>
                k_steps
                all_goals refine Stop.in ⟨?_, _, rfl⟩
                all_goals (rename _ % 3 = _ => hm3; simp [hm3]; decide +kernel)
              case e6 =>
                rintro _ td' ⟨tk', rfl⟩
                k_steps
                refine Stop.in ?_
                k_dflt (refine' newList_gen (fun V => ∃ v, V[(qn ask j).toNat]? = some v ∧ Leaf v (plain vs.length i dep fo.labs (lcvAt lcv lab ask j) lab (qn ask j))) ?nF ?nN ?nS ?nP ?_)
                (case nF => k_asm); (case nN => k_asm); (case nS => exact Nat.le_of_ble_eq_true rfl)
                case nP =>
                  have hq : qn ask j = 0 ∨ qn ask j = 1 ∨ qn ask j = 2 ∨ qn ask j = 3 ∨ qn ask j = 4 ∨ qn ask j = 5 ∨ qn ask j = 6 ∨ qn ask j = 7 ∨ qn ask j = 8 ∨ qn ask j = 9 ∨ qn ask j = 10 ∨ qn ask j = 11 ∨ qn ask j = 12 := by omega
                  rcases hq with hq | hq | hq | hq | hq | hq | hq | hq | hq | hq | hq | hq | hq
                  all_goals rw [hq]
                  · exact ⟨_, rfl, .eqi (by simp [plain])⟩
                  · exact ⟨_, rfl, .eqi (by simp [plain])⟩
                  · exact ⟨_, rfl, .eqi (by simp [plain])⟩
                  · exact ⟨_, rfl, .eqi (by simp [plain])⟩
                  · refine ⟨_, rfl, .eqs ?_⟩
                    by_cases hi9 : i = 0 <;> simp [plain, tf, hi9]
                  · refine ⟨_, rfl, .eqs ?_⟩
                    by_cases hi9 : i + 1 = vs.length
                    · have hi8 : (i : Int) + 1 = (vs.length : Int) := by omega
                      simp [plain, tf, hi9, hi8]
                    · have hi8 : ¬ (i : Int) + 1 = (vs.length : Int) := by omega
                      simp [plain, tf, hi9, hi8]
                  · exact ⟨_, rfl, .eqi (by simp [plain])⟩
                  · exact ⟨_, rfl, .eqi (by simp [plain])⟩
                  · exact ⟨_, rfl, .eqi (by simp [plain])⟩
                  · exact ⟨_, rfl, .eqi (by simp [plain])⟩
                  · exact ⟨_, rfl, by simpa [plain] using hbv⟩
                  · exact ⟨_, rfl, by simpa [plain] using hcv⟩
                  · exact ⟨_, rfl, .eqs (by simp [plain])⟩
                k_whole
                intro V DV hV9 hVP FV NV hVlt
                obtain ⟨v, hvv, hvl⟩ := hVP
                have hvh := hvl.handed
                have hDal : @LT.lt Nat _ al DV := hVlt (al, listOf as.toArray an) (by simp)
                have hDol : @LT.lt Nat _ ol DV := hVlt (ol, listOf xs.toArray nn) (by simp)
                k_steps
                refine Stop.in ?_
                (rename News _ _ _ _ => NE)
                (rename Fr _ _ _ _ => FE)
                rw [List.push_toArray] at NE
                refine tj_end (Tx := []) (lv := .ref la) FE NE (.tail _ (.tail _ (.head _))) (.tail _ (.tail _ (.tail _ (.head _)))) (fun q hq => nomatch hq) ?f2 ?f3 (by rw [← hR2]; exact hoff2) (fun q hq => nomatch hq) ?d1 ?d2 ?d3 ?d4 ?d5 ?d6 ?d7 ?d8 ?d9 ?d10 ?f5 hsep2 (by rw [← hR2]; exact hol2) (by rw [← hR2]; exact hal2) hA hvl
                case f2 => exact fun q hq => .tail _ (.tail _ (.tail _ (.tail _ (subW q (by rw [hR2]; exact hq)))))
                case f3 => exact fun q hq => .tail _ (.tail _ (.tail _ (.tail _ (by rw [hW]; exact List.mem_append_right _ hq))))
                case f5 =>
                  rw [nx, if_neg hq13, List.nil_append]
                  exact hlast2
                all_goals walk_at "my look"
      case done2 =>
        intro m₂ nx2 h2 tk2 hJ2 F₂ N₂
        obtain ⟨T2, as, an, lv2, rfl, hn1, hn2, hn3, hn4, hn5, hn6, hn7, hn8, hn9, hn10, hlast2, hsep2, hol2, hal2, hA⟩ := hJ2
        obtain ⟨R2, hR2⟩ : ∃ z, z = T2 ++ B := ⟨_, rfl⟩
        have subB2 : ∀ q ∈ B, q ∈ R2 := fun q hq => by rw [hR2]; exact List.mem_append_right _ hq
        have hkl9 := subB2 _ hkl8
        have halo := Ne.symm hola
        rw [← hR2] at N₂ hol2 hal2
        have hxz : xs.toArray.size ≤ sizeLine := by
          rw [sizeLine_eq, List.size_toArray]
          omega
        (try clear Nl); (try clear Fl); (try clear hrg)
        k_steps
        refine Stop.in ?_
        refine wpAny_If ?_
        k_steps
        refine Stop.in ?_
        (rename News _ _ _ _ => NX)
        rw [List.push_toArray] at NX
        have hkh : kids.hgt < fo.hgt := Nat.lt_of_lt_of_le (by show kids.hgt < max (kids.hgt + 1) rest.hgt; omega) hrH
        have hrh : rest.hgt ≤ fo.hgt := Nat.le_trans (by show rest.hgt ≤ max (kids.hgt + 1) rest.hgt; omega) hrH
        have sledR2 : ∀ q ∈ led, q ∈ R2 := fun q hq => subB2 _ (subB _ (subled _ hq))
        k_dflt (refine' ne_nilK (kb := 0) (f := kids) (led := led) NX ?zm6 hkids ?zs6 ?zb6 ?zh6 ?zu6 ?_)
        (case zm6 => exact .tail _ (.tail _ (.tail _ hkl9))); (case zs6 => exact fun q hq => .tail _ (.tail _ (.tail _ (sledR2 q hq)))); (case zb6 => exact .head _); (case zh6 => omega); (case zu6 => walk_at "my units")
        k_whole
        have ownB : ∀ q ∈ own, q ∈ B := fun q hq => by rw [hB]; exact List.mem_append_right _ hq
        have RinR2 : ∀ q ∈ R, q ∈ R2 := fun q hq => subB2 _ (subB _ hq)
        have T1R : ∀ q ∈ T1, q ∈ R := fun q hq => by rw [hR]; exact List.mem_append_left _ hq
        have T2R2 : ∀ q ∈ T2, q ∈ R2 := fun q hq => by rw [hR2]; exact List.mem_append_left _ hq
        have ownR2 : ∀ q ∈ own, q ∈ R2 := fun q hq => subB2 _ (ownB q hq)
        have gT : ∀ q ∈ T2 ++ T1, q ∈ R2 := fun q hq => (List.mem_append.mp hq).elim (T2R2 q) fun h => RinR2 _ (T1R q h)
        have gO : ∀ p ∈ own, ∀ q ∈ ((al, listOf as.toArray an) :: (T2 ++ T1)) ++ led, p.1 ≠ q.1 := fun p hp q hq => by
          rcases List.mem_cons.mp hq with rfl | hq
          · exact hBal p (ownB p hp)
          rcases List.mem_append.mp hq with hq | hq
          · rcases List.mem_append.mp hq with hq | hq
            · exact Ne.symm (hsep2 q hq p (ownB p hp))
            · exact hoff p hp q (.tail _ (T1R q hq))
          · exact hoff p hp q (.tail _ (subled q hq))
        have gL : LastIn (((al, listOf as.toArray an) :: (T2 ++ T1)) ++ led) lv2 (lcvAt lcv lab ask 3) := hlast2.mono fun q hq => by
          rw [hR] at hq
          simp only [List.mem_append, List.mem_cons] at hq ⊢
          rcases hq with h | h | h <;> simp [h]
        have gS : ∀ q ∈ (al, listOf as.toArray an) :: (T2 ++ T1), ∀ z ∈ led, q.1 ≠ z.1 := fun q hq z hz => by
          rcases List.mem_cons.mp hq with rfl | hq
          · exact Ne.symm (hBal z (subB _ (subled _ hz)))
          rcases List.mem_append.mp hq with hq | hq
          · exact hsep2 q hq z (subB _ (subled _ hz))
          · exact hsep q hq z hz
        have gol : ∀ q ∈ ((al, listOf as.toArray an) :: (T2 ++ T1)) ++ led, @Ne Nat q.1 ol := fun q hq => by
          rcases List.mem_cons.mp hq with rfl | hq
          · exact halo
          rcases List.mem_append.mp hq with hq | hq
          · rcases List.mem_append.mp hq with hq | hq
            · exact hol2 q (T2R2 q hq)
            · exact hol1 q (T1R q hq)
          · exact hol1 q (subled q hq)
        have gD : DatAll ((al, listOf as.toArray an) :: (T2 ++ T1)) (xs ++ [.ref al]) (ds ++ [.list ((List.range 3).map fun i' => plain vs.length i dep fo.labs (lcvAt lcv lab ask i') lab (qn ask i'))]) :=
          (hD.mono fun q hq => .tail _ (List.mem_append_right _ hq)).append (.one (.list (.head _) (hA.mono (by intro q hq; cases hq))))
        rw [outl] at hds
        cases kids with
        | nil =>
          rw [show (!Fo.isNil .nil) = false from rfl]
          k_steps
          refine Stop.in ?_
          refine ti_end (Tx := (al, listOf as.toArray an) :: (T2 ++ T1)) (xs := xs ++ [.ref al]) (nn := nn + 1) (by assumption) NX (.tail _ (.tail _ (.head _))) ?h1 (fun q hq => .tail _ (.tail _ (.tail _ (ownR2 q hq)))) hown gO ?x1 ?x2 ?x3 ?x4 ?x5 gL gS gol hrest gD ?h2 ?h3 hrh hrW.2.2
          case h1 =>
            intro q hq
            rcases List.mem_cons.mp hq with rfl | hq
            · exact .tail _ (.head _)
            rcases List.mem_append.mp hq with hq | hq
            · exact .tail _ (.tail _ (.tail _ (gT q hq)))
            · exact .tail _ (.tail _ (.tail _ (sledR2 q hq)))
          case h2 =>
            rw [← hds, List.append_assoc]
            rfl
          case h3 =>
            rw [List.length_append, List.length_singleton]
            omega
          all_goals walk_at "my look"
        | cons kl1 kk1 ka1 ks1 kr1 =>
          rw [show (!Fo.isNil (.cons kl1 kk1 ka1 ks1 kr1)) = true from rfl]
          have hkl9' := hkids.len
          have hkvs : kvs.length ≤ 1000 := by
            have := hrW.1
            omega
          k_steps
          refine Stop.in ?_
          k_dflt (refine' ih _ hkh _ _ _ _ _ _ _ _ _ _ _ _ _ _ _ _ _ kl kn kvs (dep + 1) _ _ _ ?gC ?gF NX ?gl ?gfo hkvs hrW.2.1 ?g0 ?g1 ?g2 ?gd ?gu ?_)
          (case gC => walk_at "my cy"); (case gF => k_asm); (case gl => exact .tail _ (.tail _ (.tail _ hkl9))); (case gfo => exact hkids.mono fun q hq => .tail _ (.tail _ (.tail _ (sledR2 q hq)))); (case g0 => omega); (case g1 => omega); (case g2 => omega); (case gd => walk_at "my room"); (case gu => walk_at "my units")
          k_whole
          intro h5 tk5 a5 tl5 F5 N5 sep5 dat5
          have e0 : ∀ q ∈ tl5, @Ne Nat q.1 ol := fun q hq => sep5 q hq (ol, listOf (xs ++ [Value.ref al]).toArray (nn + 1)) (by simp)
          have e1 : ∀ q ∈ tl5, ∀ z ∈ (al, listOf as.toArray an) :: R2, q.1 ≠ z.1 := fun q hq z hz => sep5 q hq z (by
            rcases List.mem_cons.mp hz with rfl | hz
            · exact .tail _ (.head _)
            · exact .tail _ (.tail _ (.tail _ hz)))
          obtain ⟨Y, hY⟩ : ∃ z, z = tl5 ++ R2 := ⟨_, rfl⟩
          have hYol : ∀ q ∈ Y, @Ne Nat q.1 ol := fun q hq => by
            rw [hY] at hq
            exact (List.mem_append.mp hq).elim (e0 q) (hol2 q)
          have N6 : News _ _ h5 ((al, listOf as.toArray an) :: (ol, listOf (xs ++ [Value.ref al]).toArray (nn + 1)) :: Y) := News.sub' N5 fun q hq => by
            rw [hY] at hq
            simp only [List.mem_cons, List.mem_append] at hq ⊢
            rcases hq with h | h | h | h <;> simp [h]
          have hxz2 : (xs ++ [Value.ref al]).toArray.size ≤ sizeLine := by
            rw [sizeLine_eq, List.size_toArray, List.length_append, List.length_singleton]
            omega
          clear N5
          k_steps
          refine Stop.in ?_
          (rename News _ _ _ _ => N7)
          rw [List.push_toArray] at N7
          have R2Y : ∀ q ∈ R2, q ∈ Y := fun q hq => by rw [hY]; exact List.mem_append_right _ hq
          have tlY : ∀ q ∈ tl5, q ∈ Y := fun q hq => by rw [hY]; exact List.mem_append_left _ hq
          refine ti_end (lcv := lcvAt lcv lab ask 3) (Tx := tl5 ++ ((al, listOf as.toArray an) :: (T2 ++ T1))) (xs := xs ++ [.ref al] ++ [.ref a5]) (nn := nn + 1 + 1) (by assumption) N7 (.tail _ (.head _)) ?h1 (fun q hq => .tail _ (.tail _ (R2Y q (ownR2 q hq)))) hown ?h4 ?x1 ?x2 ?x3 ?x4 ?x5 ?h5 ?h6 ?h7 hrest ((gD.mono ?h8).append (.one (dat5.mono ?h9))) ?h2 ?h3 hrh hrW.2.2
          case h1 =>
            intro q hq
            rw [List.append_assoc] at hq
            rcases List.mem_append.mp hq with hq | hq
            · exact .tail _ (.tail _ (tlY q hq))
            rcases List.mem_cons.mp hq with rfl | hq
            · exact .head _
            rcases List.mem_append.mp hq with hq | hq
            · exact .tail _ (.tail _ (R2Y q (gT q hq)))
            · exact .tail _ (.tail _ (R2Y q (sledR2 q hq)))
          case h4 =>
            intro p hp q hq
            rw [List.append_assoc] at hq
            rcases List.mem_append.mp hq with hq | hq
            · exact Ne.symm (e1 q hq p (.tail _ (ownR2 p hp)))
            · exact gO p hp q hq
          case h5 => exact gL.mono fun q hq => by rw [List.append_assoc]; exact List.mem_append_right _ hq
          case h6 =>
            intro q hq z hz
            rcases List.mem_append.mp hq with hq | hq
            · exact e1 q hq z (.tail _ (sledR2 z hz))
            · exact gS q hq z hz
          case h7 =>
            intro q hq
            rw [List.append_assoc] at hq
            rcases List.mem_append.mp hq with hq | hq
            · exact e0 q hq
            · exact gol q hq
          case h8 => exact fun q hq => List.mem_append_right _ hq
          case h9 => exact fun q hq => List.mem_append_left _ hq
          case h2 =>
            rw [← hds, List.append_assoc, List.append_assoc]
            rfl
          case h3 =>
            rw [List.length_append, List.length_append, List.length_singleton, List.length_singleton]
            omega
          all_goals walk_at "my look"
  case done =>
    intro m₁ nx h tk hJ F₁ N₁
    obtain ⟨T1, xs, nn, lv, lcv, ds, r, rfl, hm1, hm2, hm3, hm4, hm5, hlast, hsep, hol1, hF, hD, hds, hxs, hrH, hrW⟩ := hJ
    have hr : r = .nil := by
      rw [List.drop_length] at hF
      cases hF
      rfl
    subst hr
    (try clear Nl); (try clear Fl); (try clear hrg)
    k_steps
    refine ret _ _ _ ((ol, listOf xs.toArray nn) :: T1) (by assumption) (by assumption) (fun q hq z hz => ?_) (.list (.head _) ?_)
    · rcases List.mem_cons.mp hq with rfl | hq
      · exact Ne.symm (hol1 z (List.mem_append_right _ hz))
      · exact hsep q hq z hz
    · rw [outl, List.append_nil, hfo.len] at hds
      rw [← hds]
      exact hD.mono fun q hq => .tail _ hq
end Mine

end
section
theorem Mine.walk_off_G1a : True := by
  w_top off
  trivial
open PySem PySem.W PyProof.Rows PySem.Spec PySem.Calls
set_option Elab.async false
set_option maxRecDepth 100000
set_option maxHeartbeats 8000000
namespace Mine
def Fo.snoc : Fo → Int → Fo → Int → Bool → Fo
  | .nil, l, k, a, s => .cons l k a s .nil
  | .cons l' k' a' s' r, l, k, a, s => .cons l' k' a' s' (r.snoc l k a s)
theorem FoIn.snoc {led : List (Addr × Obj)} {vs : List Value} {f : Fo} {a kl : Addr} {lab ask : Int} {t1 t2 : Tok} {sz : Bool} {n : Nat} {kvs : List Value} {kids : Fo} (h : FoIn led vs f) (m1 : (a, T4 lab t1 kl ask t2 sz) ∈ led) (m2 : (kl, listOf kvs.toArray n) ∈ led) (hk : FoIn led kvs kids) :
    FoIn led (vs ++ [.ref a]) (f.snoc lab kids ask sz) := by
  induction h with
  | nil => exact .cons m1 m2 hk .nil
  | cons a b c _ _ i2 => exact .cons a b c i2
theorem Fo.hgt_snoc (l : Int) (k : Fo) (a : Int) (s : Bool) : ∀ f : Fo, (f.snoc l k a s).hgt = max f.hgt (k.hgt + 1)
  | .nil => by simp [Fo.snoc, Fo.hgt]
  | .cons _ k' _ _ r => by rw [Fo.snoc, Fo.hgt, Fo.hgt, Fo.hgt_snoc l k a s r]; omega
theorem Fo.okw_snoc {l : Int} {k : Fo} {a : Int} {s : Bool} (h1 : k.len ≤ 3) (h2 : k.okw) : ∀ {f : Fo}, f.okw → (f.snoc l k a s).okw
  | .nil, _ => ⟨h1, h2, trivial⟩
  | .cons _ _ _ _ _, h => ⟨h.1, h.2.1, Fo.okw_snoc h1 h2 h.2.2⟩
/-- what a call of _law_grown gives back -/
def GrownC (prog : Program) (w : World) : Prop :=
  ∀ (dp un : Nat) (gd : Option (List Code)) (A₀ : Around) (env : Env) (outer : List Env) (base h₀ : Heap) (p : Program) (loose : List Str) (mean : ExcName → Option Value) (mg mb : Str → Option Value) (L : Addr) (m : Str → Option Value) (s : Shared)
    (led : List (Addr × Obj)) (cl : Addr) (n : Nat) (cvs : List Value) (Q E : Value → Shared → Prop),
    Cy w A₀ env outer base h₀ p loose mean mg mb L → Fr h₀ L s.heap m → News h₀ L s.heap led → (cl, listOf cvs.toArray n) ∈ led → (∀ i, i < 9 → ∃ c t, cvs[i]? = some (.int c t)) →
    dp + 20 < recursionLimit → un + 200 < cLine →
    (∀ h' tk' a R n ts f, Fr h₀ L h' m → News h₀ L h' R → (∀ q ∈ led, q ∈ R) → (a, listOf ts.toArray n) ∈ R → FoIn R ts f → f.hgt ≤ 3 → f.okw → ts.length ≤ 3 → Q (.ref a) { s with heap := h', toks := tk' }) →
    wpAny (model prog w) (AR dp un gd env outer) (call (.ref 377) [.ref cl]) Q E s
section
variable {prog : Program} {w : World} {A : Around} {E : Value → Shared → Prop} {s : Shared} {Q : Value → Shared → Prop}
theorem powG {a e : Int} {t u : Tok} (ha : a = 3) (h0 : 0 ≤ e) (h1 : e ≤ 5) (h : ∀ v t', 0 < v → v ≤ 243 → Q (.int v t') { s with toks := s.toks + 1 }) : wpAny (model prog w) A (binaryOp .Pow (.int a t) (.int e u)) Q E s := by
  subst ha
  refine pow_int_small h0 (by omega) (by decide) (h _ _ (Int.pow_pos (by decide)) ?_)
  have z : e.toNat = 0 ∨ e.toNat = 1 ∨ e.toNat = 2 ∨ e.toNat = 3 ∨ e.toNat = 4 ∨ e.toNat = 5 := by omega
  rcases z with z | z | z | z | z | z <;> (rw [z]; decide)
theorem fdivG {a b : Int} {t u : Tok} (h0 : 0 < b) (h1 : b ≤ 1000) (h : ∀ v t', (0 ≤ a → 0 ≤ v ∧ v ≤ a) → Q (.int v t') { s with toks := s.toks + 1 }) : wpAny (model prog w) A (binaryOp .FloorDiv (.int a t) (.int b u)) Q E s := by
  refine floordiv_int (by omega) (h _ _ fun h2 => ?_) (.inl (PyProof.noPylong_small (by omega)))
  rw [Int.fdiv_eq_ediv_of_nonneg _ (Int.le_of_lt h0)]
  exact ⟨Int.ediv_nonneg h2 (Int.le_of_lt h0), Int.ediv_le_self _ h2⟩
theorem modH {a b : Int} {t u : Tok} (h0 : 0 < b) (h : ∀ q t', 0 ≤ q → q < b → Q (.int q t') { s with toks := s.toks + 1 }) : wpAny (model prog w) A (binaryOp .Mod (.int a t) (.int b u)) Q E s :=
  mod_int' (by omega) (h _ _ (Int.fmod_nonneg_of_pos _ h0) (Int.fmod_lt_of_pos _ h0))
theorem cell_item {value slice : PySem.Expr} {l : Addr} {vs : List Value} {k : Int} {u : Tok} (hc : ∀ i, i < 9 → ∃ c t, vs[i]? = some (.int c t)) (hl : s.heap.IsList l vs.toArray) (h0 : 0 ≤ k) (hhi : k < 9) (h : ∀ c t, Q (.int c t) s)
    (hs : subscripted slice false (.ref l) (.int k u) = operate [.ref l, .int k u] (getItem (.ref l) (.int k u))) :
    wpAny (model prog w) A (subscriptTail value slice (.ref l) (.int k u)) Q E s := by
  obtain ⟨c, t, e⟩ := hc k.toNat (by omega)
  exact tail_any hl.typeIs slot_list_getitem.lookup (wpAny_getItem_list hl h0 (by omega) (by simpa using e) (h c t)) hs
theorem ldG {M : Model} {h₀ : Heap} {L a : Addr} {m : Str → Option Value} {cn x : Str} {cs : Scope} {ccd v : Value} (F : Fr h₀ L s.heap m) (hv : m x = some v) (h : Q v s) (hk : cs.kind = .function := by rfl) (hx : (envOf cn cs L a ccd).kindOf x = some .local := by rfl) :
    wpAny M A (loadName (envOf cn cs L a ccd) x) Q E s := wpAny_loadName_local hk hx F.ns hv h
theorem subs_nameG {x : Str} {p : Pos} {o i : Value} : subscripted (.Name x p) false o i = operate [o, i] (getItem o i) := by unfold subscripted; rfl
theorem subs_binopG {a b : PySem.Expr} {op : Operator} {p : Pos} {o i : Value} : subscripted (.BinOp a op b p) false o i = operate [o, i] (getItem o i) := by unfold subscripted; rfl
theorem subs_constG {c : Const} {k : Nat} {p : Pos} {o i : Value} : subscripted (.Constant c k p) false o i = operate [o, i] (getItem o i) := by unfold subscripted; rfl
end
/-- the three loops that grow the forest -/
def TG1 (cl tl : Addr) (B : List (Addr × Obj)) (i : Nat) (m : Str → Option Value) (nx : List (Addr × Obj)) : Prop :=
  ∃ T ts n f c tc, nx = (tl, listOf (ts : List Value).toArray n) :: (T ++ B) ∧ m "cells" = some (.ref cl) ∧ m "trees" = some (.ref tl) ∧ m "count" = some (.int c tc) ∧ 0 ≤ c ∧ c ≤ 7 * i ∧
    FoIn T ts f ∧ f.hgt ≤ 3 ∧ f.okw ∧ ts.length = i ∧ (∀ q ∈ T ++ B, @Ne Nat q.1 tl) ∧ ∀ q ∈ T, ∀ z ∈ B, q.1 ≠ z.1
def TG2 (cl tl kl : Addr) (i n1 : Nat) (ti : Tok) (ts : List Value) (B : List (Addr × Obj)) (j : Nat) (m : Str → Option Value) (nx : List (Addr × Obj)) : Prop :=
  ∃ T ks n g c tc, nx = (kl, listOf (ks : List Value).toArray n) :: (tl, listOf ts.toArray n1) :: (T ++ B) ∧ m "cells" = some (.ref cl) ∧ m "trees" = some (.ref tl) ∧ m "kids" = some (.ref kl) ∧ m "a" = some (.int i ti) ∧ m "count" = some (.int c tc) ∧ 0 ≤ c ∧ c ≤ 7 * i + 3 * j ∧
    FoIn T ks g ∧ g.hgt ≤ 2 ∧ g.okw ∧ ks.length = j ∧ (∀ q ∈ T ++ B, @Ne Nat q.1 tl) ∧ (∀ q ∈ T ++ B, @Ne Nat q.1 kl) ∧ ∀ q ∈ T, ∀ z ∈ B, q.1 ≠ z.1
def TG3 (cl tl kl el : Addr) (i j n1 n2 : Nat) (ti tj : Tok) (ts ks : List Value) (B : List (Addr × Obj)) (l : Nat) (m : Str → Option Value) (nx : List (Addr × Obj)) : Prop :=
  ∃ T es n e c tc, nx = (el, listOf (es : List Value).toArray n) :: (kl, listOf ks.toArray n2) :: (tl, listOf ts.toArray n1) :: (T ++ B) ∧ m "cells" = some (.ref cl) ∧ m "trees" = some (.ref tl) ∧ m "kids" = some (.ref kl) ∧ m "ends" = some (.ref el) ∧ m "a" = some (.int i ti) ∧ m "b" = some (.int j tj) ∧ m "count" = some (.int c tc) ∧
    0 ≤ c ∧ c ≤ 7 * i + 3 * j + l ∧ FoIn T es e ∧ e.hgt ≤ 1 ∧ e.okw ∧ es.length = l ∧ (∀ q ∈ T ++ B, @Ne Nat q.1 tl) ∧ (∀ q ∈ T ++ B, @Ne Nat q.1 kl) ∧ (∀ q ∈ T ++ B, @Ne Nat q.1 el) ∧ ∀ q ∈ T, ∀ z ∈ B, q.1 ≠ z.1
theorem g3_end {g h' : Heap} {L cl tl kl el D l' : Addr} {m' : Str → Option Value} {i j d n1 n2 n3 : Nat} {ti tj tc t1 t2 : Tok} {lab ask c : Int} {sz : Bool} {ts ks es : List Value} {T B R own : List (Addr × Obj)} {f : Fo} {s₁ : Shared} {tk : Nat}
   (F : Fr g L h' m') (N : News g L h' ((D, T4 lab t1 l' ask t2 sz) :: (l', listOf #[] 0) :: (el, listOf (es.toArray.push (.ref D)) (n3 + 1)) :: (kl, listOf ks.toArray n2) :: (tl, listOf ts.toArray n1) :: R)) (hR : R = (T ++ B) ++ own)
   (l1 : @LT.lt Nat _ el l' ∧ @LT.lt Nat _ kl l' ∧ @LT.lt Nat _ tl l' ∧ AllLt l' R) (l2 : @LT.lt Nat _ l' D ∧ @LT.lt Nat _ el D ∧ @LT.lt Nat _ kl D ∧ @LT.lt Nat _ tl D ∧ AllLt D R)
   (ho : TbOff own ((el, listOf es.toArray n3) :: (kl, listOf ks.toArray n2) :: (tl, listOf ts.toArray n1) :: (T ++ B)))
   (m1 : m' "cells" = some (.ref cl)) (m2 : m' "trees" = some (.ref tl)) (m3 : m' "kids" = some (.ref kl)) (m4 : m' "ends" = some (.ref el)) (m5 : m' "a" = some (.int i ti)) (m6 : m' "b" = some (.int j tj)) (m7 : m' "count" = some (.int (c + 1) tc))
   (c0 : 0 ≤ c) (c1 : c ≤ 7 * i + 3 * j + d) (hF : FoIn T es f) (hh : f.hgt ≤ 1) (hw : f.okw) (hl : es.length = d) (o1 : ∀ q ∈ T ++ B, @Ne Nat q.1 tl) (o2 : ∀ q ∈ T ++ B, @Ne Nat q.1 kl) (o3 : ∀ q ∈ T ++ B, @Ne Nat q.1 el) (hs : ∀ q ∈ T, ∀ z ∈ B, q.1 ≠ z.1) :
   TbEnd g L (TG3 cl tl kl el i j n1 n2 ti tj ts ks B (d + 1)) own s₁ { s₁ with heap := h', toks := tk } := by
  have a1 := allLt_mem l1.2.2.2
  have a2 := allLt_mem l2.2.2.2.2
  have inR : ∀ q ∈ T ++ B, q ∈ R := fun q hq => by rw [hR]; exact List.mem_append_left _ hq
  have ownR : ∀ q ∈ own, q ∈ R := fun q hq => by rw [hR]; exact List.mem_append_right _ hq
  rw [List.push_toArray] at N
  refine ⟨h', tk, m', _, (el, listOf (es ++ [Value.ref D]).toArray (n3 + 1)) :: (kl, listOf ks.toArray n2) :: (tl, listOf ts.toArray n1) :: (((D, T4 lab t1 l' ask t2 sz) :: (l', listOf #[] 0) :: T) ++ B), rfl, F, N, ?_, fun q hq => .tail _ (.tail _ (.tail _ (.tail _ (.tail _ (ownR q hq))))), ?_, (D, T4 lab t1 l' ask t2 sz) :: (l', listOf #[] 0) :: T, es ++ [.ref D], n3 + 1, f.snoc lab .nil ask sz, c + 1, tc, rfl, m1, m2, m3, m4, m5, m6, m7, by omega, by omega, ?_, ?_, ?_, ?_, ?_, ?_, ?_, ?_⟩
  · intro q hq
    rcases List.mem_cons.mp hq with rfl | hq
    · exact .tail _ (.tail _ (.head _))
    rcases List.mem_cons.mp hq with rfl | hq
    · exact .tail _ (.tail _ (.tail _ (.head _)))
    rcases List.mem_cons.mp hq with rfl | hq
    · exact .tail _ (.tail _ (.tail _ (.tail _ (.head _))))
    rcases List.mem_cons.mp hq with rfl | hq
    · exact .head _
    rcases List.mem_cons.mp hq with rfl | hq
    · exact .tail _ (.head _)
    · exact .tail _ (.tail _ (.tail _ (.tail _ (.tail _ (inR q hq)))))
  · intro p hp q hq
    rcases List.mem_cons.mp hq with rfl | hq
    · exact ho p hp (el, listOf es.toArray n3) (.head _)
    rcases List.mem_cons.mp hq with rfl | hq
    · exact ho p hp (kl, listOf ks.toArray n2) (.tail _ (.head _))
    rcases List.mem_cons.mp hq with rfl | hq
    · exact ho p hp (tl, listOf ts.toArray n1) (.tail _ (.tail _ (.head _)))
    rcases List.mem_cons.mp hq with rfl | hq
    · exact Nat.ne_of_lt (a2 p (ownR p hp))
    rcases List.mem_cons.mp hq with rfl | hq
    · exact Nat.ne_of_lt (a1 p (ownR p hp))
    · exact ho p hp q (.tail _ (.tail _ (.tail _ hq)))
  · exact (hF.mono fun q hq => .tail _ (.tail _ hq)).snoc (kvs := []) (n := 0) (.head _) (.tail _ (.head _)) .nil
  · rw [Fo.hgt_snoc]
    show max f.hgt 1 ≤ 1
    omega
  · exact Fo.okw_snoc (k := .nil) (by decide) trivial hw
  · rw [List.length_append, hl]; rfl
  · intro q hq
    rcases List.mem_cons.mp hq with rfl | hq
    · exact Nat.ne_of_gt l2.2.2.2.1
    rcases List.mem_cons.mp hq with rfl | hq
    · exact Nat.ne_of_gt l1.2.2.1
    · exact o1 q hq
  · intro q hq
    rcases List.mem_cons.mp hq with rfl | hq
    · exact Nat.ne_of_gt l2.2.2.1
    rcases List.mem_cons.mp hq with rfl | hq
    · exact Nat.ne_of_gt l1.2.1
    · exact o2 q hq
  · intro q hq
    rcases List.mem_cons.mp hq with rfl | hq
    · exact Nat.ne_of_gt l2.2.1
    rcases List.mem_cons.mp hq with rfl | hq
    · exact Nat.ne_of_gt l1.1
    · exact o3 q hq
  · intro q hq z hz
    rcases List.mem_cons.mp hq with rfl | hq
    · exact Nat.ne_of_gt (a2 z (inR z (List.mem_append_right _ hz)))
    rcases List.mem_cons.mp hq with rfl | hq
    · exact Nat.ne_of_gt (a1 z (inR z (List.mem_append_right _ hz)))
    · exact hs q hq z hz
theorem g2_end {g h' : Heap} {L cl tl kl el D l' : Addr} {m' : Str → Option Value} {i j d n1 n2 n3 : Nat} {ti tj tc t1 t2 : Tok} {lab ask c : Int} {sz : Bool} {ts ks es : List Value} {T B R own : List (Addr × Obj)} {f : Fo} {s₁ : Shared} {tk : Nat} {T2 : List (Addr × Obj)} {e : Fo}
   (F : Fr g L h' m') (N : News g L h' ((D, T4 lab t1 el ask t2 sz) :: (el, listOf es.toArray n3) :: (kl, listOf (ks.toArray.push (.ref D)) (n2 + 1)) :: (tl, listOf ts.toArray n1) :: R)) (hR : R = T ++ ((T2 ++ B) ++ own))
   (l2 : @LT.lt Nat _ el D ∧ @LT.lt Nat _ kl D ∧ @LT.lt Nat _ tl D ∧ AllLt D R)
   (ho : TbOff own ((kl, listOf ks.toArray n2) :: (tl, listOf ts.toArray n1) :: (T2 ++ B)))
   (m1 : m' "cells" = some (.ref cl)) (m2 : m' "trees" = some (.ref tl)) (m3 : m' "kids" = some (.ref kl)) (m5 : m' "a" = some (.int i ti)) (m7 : m' "count" = some (.int (c + 1) tc))
   (c0 : 0 ≤ c) (c1 : c ≤ 7 * i + 3 * j + 2) (hF : FoIn T2 ks f) (hh : f.hgt ≤ 2) (hw : f.okw) (hl : ks.length = j) (o1 : ∀ q ∈ T2 ++ B, @Ne Nat q.1 tl) (o2 : ∀ q ∈ T2 ++ B, @Ne Nat q.1 kl) (hs : ∀ q ∈ T2, ∀ z ∈ B, q.1 ≠ z.1)
   (hE : FoIn T es e) (eh : e.hgt ≤ 1) (ew : e.okw) (el3 : e.len ≤ 3) (p1 : ∀ q ∈ R, @Ne Nat q.1 tl) (p2 : ∀ q ∈ R, @Ne Nat q.1 kl) (p3 : ∀ q ∈ R, @Ne Nat q.1 el) (ht : @Ne Nat el tl) (hk : @Ne Nat el kl) (ps : ∀ q ∈ T, ∀ z ∈ (T2 ++ B) ++ own, q.1 ≠ z.1) :
   TbEnd g L (TG2 cl tl kl i n1 ti ts B (j + 1)) own s₁ { s₁ with heap := h', toks := tk } := by
  have a2 := allLt_mem l2.2.2.2
  have inR : ∀ q ∈ T2 ++ B, q ∈ R := fun q hq => by rw [hR]; exact List.mem_append_right _ (List.mem_append_left _ hq)
  have ownR : ∀ q ∈ own, q ∈ R := fun q hq => by rw [hR]; exact List.mem_append_right _ (List.mem_append_right _ hq)
  have TR : ∀ q ∈ T, q ∈ R := fun q hq => by rw [hR]; exact List.mem_append_left _ hq
  rw [List.push_toArray] at N
  -- the old iterator's objects may bear the ends: keep all of R
  refine ⟨h', tk, m', _, (kl, listOf (ks ++ [Value.ref D]).toArray (n2 + 1)) :: (tl, listOf ts.toArray n1) :: (((D, T4 lab t1 el ask t2 sz) :: (el, listOf es.toArray n3) :: (T ++ T2)) ++ B), rfl, F, N, ?_, fun q hq => .tail _ (.tail _ (.tail _ (.tail _ (ownR q hq)))), ?_, (D, T4 lab t1 el ask t2 sz) :: (el, listOf es.toArray n3) :: (T ++ T2), ks ++ [.ref D], n2 + 1, f.snoc lab e ask sz, c + 1, tc, rfl, m1, m2, m3, m5, m7, by omega, by omega, ?_, ?_, ?_, ?_, ?_, ?_, ?_⟩
  · intro q hq
    rcases List.mem_cons.mp hq with rfl | hq
    · exact .tail _ (.tail _ (.head _))
    rcases List.mem_cons.mp hq with rfl | hq
    · exact .tail _ (.tail _ (.tail _ (.head _)))
    rcases List.mem_cons.mp hq with rfl | hq
    · exact .head _
    rcases List.mem_cons.mp hq with rfl | hq
    · exact .tail _ (.head _)
    replace hq : q ∈ (T ++ T2) ++ B := hq
    rw [List.append_assoc] at hq
    rcases List.mem_append.mp hq with hq | hq
    · exact .tail _ (.tail _ (.tail _ (.tail _ (TR q hq))))
    · exact .tail _ (.tail _ (.tail _ (.tail _ (inR q hq))))
  · intro p hp q hq
    rcases List.mem_cons.mp hq with rfl | hq
    · exact ho p hp (kl, listOf ks.toArray n2) (.head _)
    rcases List.mem_cons.mp hq with rfl | hq
    · exact ho p hp (tl, listOf ts.toArray n1) (.tail _ (.head _))
    rcases List.mem_cons.mp hq with rfl | hq
    · exact Nat.ne_of_lt (a2 p (ownR p hp))
    rcases List.mem_cons.mp hq with rfl | hq
    · exact p3 p (ownR p hp)
    replace hq : q ∈ (T ++ T2) ++ B := hq
    rw [List.append_assoc] at hq
    rcases List.mem_append.mp hq with hq | hq
    · exact Ne.symm (ps q hq p (List.mem_append_right _ hp))
    · exact ho p hp q (.tail _ (.tail _ hq))
  · exact (hF.mono fun q hq => .tail _ (.tail _ (List.mem_append_right _ hq))).snoc (.head _) (.tail _ (.head _)) (hE.mono fun q hq => .tail _ (.tail _ (List.mem_append_left _ hq)))
  · rw [Fo.hgt_snoc]
    omega
  · exact Fo.okw_snoc el3 ew hw
  · rw [List.length_append, hl]; rfl
  · intro q hq
    rcases List.mem_cons.mp hq with rfl | hq
    · exact Nat.ne_of_gt l2.2.2.1
    rcases List.mem_cons.mp hq with rfl | hq
    · exact ht
    replace hq : q ∈ (T ++ T2) ++ B := hq
    rw [List.append_assoc] at hq
    rcases List.mem_append.mp hq with hq | hq
    · exact p1 q (TR q hq)
    · exact o1 q hq
  · intro q hq
    rcases List.mem_cons.mp hq with rfl | hq
    · exact Nat.ne_of_gt l2.2.1
    rcases List.mem_cons.mp hq with rfl | hq
    · exact hk
    replace hq : q ∈ (T ++ T2) ++ B := hq
    rw [List.append_assoc] at hq
    rcases List.mem_append.mp hq with hq | hq
    · exact p2 q (TR q hq)
    · exact o2 q hq
  · intro q hq z hz
    rcases List.mem_cons.mp hq with rfl | hq
    · exact Nat.ne_of_gt (a2 z (inR z (List.mem_append_right _ hz)))
    rcases List.mem_cons.mp hq with rfl | hq
    · exact Ne.symm (p3 z (inR z (List.mem_append_right _ hz)))
    rcases List.mem_append.mp hq with hq | hq
    · exact ps q hq z (List.mem_append_left _ (List.mem_append_right _ hz))
    · exact hs q hq z hz
theorem g1_end {g h' : Heap} {L cl tl kl D : Addr} {m' : Str → Option Value} {i n1 n2 : Nat} {tc t1 t2 : Tok} {lab ask c : Int} {sz : Bool} {ts ks : List Value} {T T1 B R own : List (Addr × Obj)} {f e : Fo} {s₁ : Shared} {tk : Nat}
   (F : Fr g L h' m') (N : News g L h' ((D, T4 lab t1 kl ask t2 sz) :: (kl, listOf ks.toArray n2) :: (tl, listOf (ts.toArray.push (.ref D)) (n1 + 1)) :: R)) (hR : R = T ++ ((T1 ++ B) ++ own))
   (l2 : @LT.lt Nat _ kl D ∧ @LT.lt Nat _ tl D ∧ AllLt D R)
   (ho : TbOff own ((tl, listOf ts.toArray n1) :: (T1 ++ B)))
   (m1 : m' "cells" = some (.ref cl)) (m2 : m' "trees" = some (.ref tl)) (m7 : m' "count" = some (.int (c + 1) tc))
   (c0 : 0 ≤ c) (c1 : c ≤ 7 * i + 6) (hF : FoIn T1 ts f) (hh : f.hgt ≤ 3) (hw : f.okw) (hl : ts.length = i) (o1 : ∀ q ∈ T1 ++ B, @Ne Nat q.1 tl) (hs : ∀ q ∈ T1, ∀ z ∈ B, q.1 ≠ z.1)
   (hE : FoIn T ks e) (eh : e.hgt ≤ 2) (ew : e.okw) (el3 : e.len ≤ 3) (p1 : ∀ q ∈ R, @Ne Nat q.1 tl) (p2 : ∀ q ∈ R, @Ne Nat q.1 kl) (ht : @Ne Nat kl tl) (ps : ∀ q ∈ T, ∀ z ∈ (T1 ++ B) ++ own, q.1 ≠ z.1) :
   TbEnd g L (TG1 cl tl B (i + 1)) own s₁ { s₁ with heap := h', toks := tk } := by
  have a2 := allLt_mem l2.2.2
  have inR : ∀ q ∈ T1 ++ B, q ∈ R := fun q hq => by rw [hR]; exact List.mem_append_right _ (List.mem_append_left _ hq)
  have ownR : ∀ q ∈ own, q ∈ R := fun q hq => by rw [hR]; exact List.mem_append_right _ (List.mem_append_right _ hq)
  have TR : ∀ q ∈ T, q ∈ R := fun q hq => by rw [hR]; exact List.mem_append_left _ hq
  rw [List.push_toArray] at N
  refine ⟨h', tk, m', _, (tl, listOf (ts ++ [Value.ref D]).toArray (n1 + 1)) :: (((D, T4 lab t1 kl ask t2 sz) :: (kl, listOf ks.toArray n2) :: (T ++ T1)) ++ B), rfl, F, N, ?_, fun q hq => .tail _ (.tail _ (.tail _ (ownR q hq))), ?_, (D, T4 lab t1 kl ask t2 sz) :: (kl, listOf ks.toArray n2) :: (T ++ T1), ts ++ [.ref D], n1 + 1, f.snoc lab e ask sz, c + 1, tc, rfl, m1, m2, m7, by omega, by omega, ?_, ?_, ?_, ?_, ?_, ?_⟩
  · intro q hq
    rcases List.mem_cons.mp hq with rfl | hq
    · exact .tail _ (.tail _ (.head _))
    rcases List.mem_cons.mp hq with rfl | hq
    · exact .head _
    rcases List.mem_cons.mp hq with rfl | hq
    · exact .tail _ (.head _)
    replace hq : q ∈ (T ++ T1) ++ B := hq
    rw [List.append_assoc] at hq
    rcases List.mem_append.mp hq with hq | hq
    · exact .tail _ (.tail _ (.tail _ (TR q hq)))
    · exact .tail _ (.tail _ (.tail _ (inR q hq)))
  · intro p hp q hq
    rcases List.mem_cons.mp hq with rfl | hq
    · exact ho p hp (tl, listOf ts.toArray n1) (.head _)
    rcases List.mem_cons.mp hq with rfl | hq
    · exact Nat.ne_of_lt (a2 p (ownR p hp))
    rcases List.mem_cons.mp hq with rfl | hq
    · exact p2 p (ownR p hp)
    replace hq : q ∈ (T ++ T1) ++ B := hq
    rw [List.append_assoc] at hq
    rcases List.mem_append.mp hq with hq | hq
    · exact Ne.symm (ps q hq p (List.mem_append_right _ hp))
    · exact ho p hp q (.tail _ hq)
  · exact (hF.mono fun q hq => .tail _ (.tail _ (List.mem_append_right _ hq))).snoc (.head _) (.tail _ (.head _)) (hE.mono fun q hq => .tail _ (.tail _ (List.mem_append_left _ hq)))
  · rw [Fo.hgt_snoc]
    omega
  · exact Fo.okw_snoc el3 ew hw
  · rw [List.length_append, hl]; rfl
  · intro q hq
    rcases List.mem_cons.mp hq with rfl | hq
    · exact Nat.ne_of_gt l2.2.1
    rcases List.mem_cons.mp hq with rfl | hq
    · exact ht
    replace hq : q ∈ (T ++ T1) ++ B := hq
    rw [List.append_assoc] at hq
    rcases List.mem_append.mp hq with hq | hq
    · exact p1 q (TR q hq)
    · exact o1 q hq
  · intro q hq z hz
    rcases List.mem_cons.mp hq with rfl | hq
    · exact Nat.ne_of_gt (a2 z (inR z (List.mem_append_right _ hz)))
    rcases List.mem_cons.mp hq with rfl | hq
    · exact Ne.symm (p2 z (inR z (List.mem_append_right _ hz)))
    rcases List.mem_append.mp hq with hq | hq
    · exact ps q hq z (List.mem_append_left _ (List.mem_append_right _ hz))
    · exact hs q hq z hz
end Mine

end
section
theorem Mine.walk_off_G1 : True := by
  w_top off
  trivial
open PySem PySem.W PyProof.Rows PySem.Spec PySem.Calls
set_option Elab.async false
set_option maxRecDepth 100000
set_option maxHeartbeats 8000000
namespace Mine
local macro_rules | `(tactic| walk_at "my fill") => `(tactic| (
  have hfill : (∀ P h, (hd.heap_39 P).In h → (hd.heap_39 P).In h) ∧ PySem.Challenge.rw_co0008_01.about = PySem.Challenge.rw_co0008_01.about := ⟨fun _ _ x => x, rfl⟩
  revert hfill; k_fill; intro hfill; clear hfill))
local macro_rules | `(tactic| walk_at "my room") => `(tactic| first | assumption | ((try simp only [depth_under_make, depth_under_kw, depth_in1, depth_deeper, depth_caller, AR_depth, mark_depth]); omega))
local macro_rules | `(tactic| walk_at "my units") => `(tactic| first | assumption | ((try simp only [units_in1, units_deeper, Around.mark_units, units_caller, AR_units]); omega))
local macro_rules | `(tactic| k_room) => `(tactic| walk_at "my room")
local macro_rules | `(tactic| k_units) => `(tactic| walk_at "my units")
local macro_rules | `(tactic| ke_room) => `(tactic| walk_at "my units")
local macro_rules | `(tactic| k_all) => `(tactic| first | assumption | exact allLt_le (by assumption) (by omega) | exact allLt_ne (by assumption) | exact allLt_ne (And.right (by assumption)) | exact allLt_ne (And.right (And.right (by assumption))) | exact allLt_ne (And.right (And.right (And.right (by assumption)))) | exact allLt_ne (And.right (And.right (And.right (And.right (by assumption))))))
local macro_rules | `(tactic| walk_at "my sub") => `(tactic| (refine News.sub' (by assumption) ?_; intro q hq; first | exact hq | exact .tail _ hq | exact .tail _ (.tail _ hq) | exact .tail _ (.tail _ (.tail _ hq)) | (simp only [List.mem_cons, List.mem_append] at hq ⊢; simp only [hq, or_true])))
local macro_rules | `(tactic| k_get) => `(tactic| first | with_reducible assumption | exact LoopOk.undef (by assumption) | exact LoopOk.recurse (by assumption) | exact LoopOk.iterable (by assumption) | exact LoopOk.iterator (by assumption) | exact getL_put _ | ((with_reducible refine (getL_put_ne ?hne).trans ?_); (case hne => decide); k_get))
local macro_rules | `(tactic| walk_at "my len") => `(tactic| ((repeat refine len_put_of ?_); omega))
local macro_rules | `(tactic| walk_at "my enter") => `(tactic| (
  refine' code_def ?k1 ?k2 ?k3 ?k4 ?k5 ?kA ?kF ?kK ?k6 ?k7 ?k8 ?k9 ?kB ?_ ?c2 ?c3 ?c4 ?c5; (case kA => first | exact rfl | assumption); (case kF => first | exact rfl | assumption); (case kK => first | exact rfl | assumption); (case k1 => k_asm); (case k2 => k_asm); (case k3 => k_asm); (case k4 => k_asm); (case k5 => k_asm); (case k6 => k_is); (case k7 => k_is); (case k8 => walk_at "my room"); (case k9 => first | exact BindsTo.of_eq rfl | exact binds_K (by k_in) rfl (by k_is) rfl rfl rfl | fail "enter: no rule for these arguments"); (case c5 => decide); (case kB => exact locs rfl); (case c2 => exact rfl); (case c3 => exact rfl); (case c4 => exact rfl); k_whole; intro g' L' h' FG' F' N' B' X' T'; (try dsimp only); (try k_fold)))
local macro_rules | `(tactic| walk_at "my prop") => `(tactic| (k_dflt (refine' get_prop ?k1 ?k2 ?k3 ?k4 ?k5 ?k6 ?k7 ?k8 ?k9 ?_; (case k1 => k_asm); (case k2 => k_asm); (case k3 => k_inst); (case k4 => k_is); (case k5 => k_is); (case k6 => k_is); (case k7 => k_is); (case k8 => k_is); (case k9 => k_is); k_whole); walk_at "my enter"))
local macro_rules | `(tactic| walk_at "setAttr ref") => `(tactic| (k_here; k_dflt (refine' set_dict ?k1 ?k2 ?k3 ?k4 ?k5 ?k6 ?k7 ?k8 ?k9 ?k10 ?k11 ?k12 ?k13 ?_; (case k1 => k_asm); (case k2 => k_asm); (case k3 => k_asm); (case k4 => k_inst); (case k5 => exact rfl); (case k6 => k_is); (case k7 => k_is); (case k8 => k_is); (case k9 => k_is); (case k10 => exact getL_isSome (by k_get)); (case k11 => exact rfl); (case k12 => k_upd); (case k13 => walk_at "my len"); k_whole; intro h' F' N'; (try k_sweep))))
local macro_rules | `(tactic| k_mem) => `(tactic| first | with_reducible assumption | exact List.Mem.head _ | (refine' List.mem_cons_of_mem _ ?_; k_mem) | (refine' List.mem_append_left _ ?_; k_mem) | (refine' List.mem_append_right _ ?_; k_mem))
local macro_rules | `(tactic| walk_at "compareOp IsNot ref ref") => `(tactic| (k_here; first | refine wpAny_isNot_ref_self ?_ | (k_dflt (refine' isNot_right ?n ?a ?b ?c ?_; (case n => kto_ne); (case a => kto_obj); (case b => kto_obj); (case c => kto_not); k_whole))))
local macro_rules | `(tactic| walk_at "compareOp Is ref ref") => `(tactic| (k_here; first | refine wpAny_is_ref_self ?_ | (k_dflt (refine' is_right ?n ?a ?b ?c ?_; (case n => kto_ne); (case a => kto_obj); (case b => kto_obj); (case c => kto_not); k_whole))))
local macro_rules | `(tactic| walk_at "my cx") => `(tactic| exact ⟨by k_asm, by k_asm, by k_asm, rfl, by first | rfl | assumption, by first | rfl | assumption⟩)
local macro_rules | `(tactic| walk_at "my cy") => `(tactic| exact ⟨by k_asm, by k_asm, by k_asm, by first | rfl | assumption, by first | rfl | assumption⟩)
local macro_rules | `(tactic| k_handed) => `(tactic| with_reducible assumption)
local macro_rules | `(tactic| walk_at "my rest") => `(tactic| (refine' kp_rest ?k1 ?k2 ?k3 ?k4 ?k5 ?kA ?kF ?kK ?k6 ?k7 ?k8 ?kV ?kP ?kG ?kB ?_ ?c2 ?c3 ?c4 ?c5; (case kA => exact rfl); (case kF => first | exact rfl | assumption); (case kK => first | exact rfl | assumption); (case k1 => k_asm); (case k2 => k_asm); (case k3 => k_asm); (case k4 => k_asm); (case k5 => k_asm); (case k6 => k_is); (case k7 => k_is); (case k8 => k_room); (case kV => kl_lit); (case kP => exact rfl); (case kG => exact fun _ => rfl); (case kB => exact fun _ => locs rfl); (case c5 => decide); (case c2 => exact rfl); (case c3 => exact rfl); (case c4 => exact rfl); k_whole; intro D' g' L' h' l1 FG' F' N' B' X' T'; (try k_lt l1); (try dsimp only); (try k_fold)))
local macro_rules | `(tactic| walk_at "compareOp NotEq ref ref") => `(tactic| (k_here; (with_reducible show wpAny _ _ (compareOp _ (Value.ref 92) (Value.ref _)) _ _ _); k_dflt (refine' inst_ne_tuple ?X ?I ?t ?c ?n ?h1 ?h2 ?h3 ?h4 ?h5 ?u ?_; (case X => k_in); (case I => refine' InstAt.of_K ?kx ?kl ?km; (case kx => k_in); (case kl => k_is); (case km => k_is)); (case t => exact kto_N (by k_asm) (by k_mem)); (case c => rfl); (case n => kto_ne); (case h1 => k_is); (case h2 => k_is); (case h3 => k_is); (case h4 => k_is); (case h5 => k_is); (case u => walk_at "my units"); k_whole)))
local macro_rules | `(tactic| walk_at "my enterS") => `(tactic| (
  refine' enterS ?k1 ?k2 ?k3 ?k4 ?k5 ?XB ?TB ?D ?T0 ?kA ?kF ?kK ?k6 ?k7 ?k8 ?k9 ?kB ?_ ?c2 ?c3 ?c4 ?c5; (case kA => exact rfl); (case kF => first | exact rfl | assumption); (case kK => first | exact rfl | assumption); (case k2 => k_asm); (case k1 => k_asm); (case k3 => k_asm); (case k4 => k_asm); (case k5 => k_asm); (case XB => assumption); (case TB => assumption); (case D => assumption); (case T0 => first | assumption | exact KtsTurn.refl); (case k6 => k_is); (case k7 => k_is); (case k8 => walk_at "my room"); (case k9 => first | exact BindsTo.of_eq rfl | exact binds_K (by k_in) rfl (by k_is) rfl rfl rfl | fail "enterS: no rule for these arguments"); (case c5 => decide); (case kB => exact locs rfl); (case c2 => exact rfl); (case c3 => exact rfl); (case c4 => exact rfl); k_whole; intro g' L' h' FG' F' N' B' X' T' D' lL'; (try dsimp only); (try k_fold)))
local macro_rules | `(tactic| walk_at "my propS") => `(tactic| (k_dflt (refine' get_prop ?k1 ?k2 ?k3 ?k4 ?k5 ?k6 ?k7 ?k8 ?k9 ?_; (case k1 => k_asm); (case k2 => k_asm); (case k3 => k_inst); (case k4 => k_is); (case k5 => k_is); (case k6 => k_is); (case k7 => k_is); (case k8 => k_is); (case k9 => k_is); k_whole); walk_at "my enterS"))
local macro_rules | `(tactic| walk_at "call builtin:iter") => `(tactic| (k_here; (with_reducible show wpAny _ _ (call (Value.builtin "iter") [Value.ref _]) _ _ _); k_dflt (first
  | (refine' iter_list ?F ?N ?m ?_; (case F => k_asm); (case N => k_asm); (case m => k_mem); k_whole; intro i' h' F' N' l1; (try k_lt l1); (try k_sweep))
  | (refine' iter_map ?N ?m ?_; (case N => k_asm); (case m => k_mem); k_whole))))
local macro_rules | `(tactic| walk_at "call builtin:len") => `(tactic| (k_here; (with_reducible show wpAny _ _ (call (Value.builtin "len") [Value.ref _]) _ _ _); k_dflt (refine' len_list ?l ?z ?_; (case l => exact News.isList (by k_asm) (by k_mem)); (case z => rw [List.size_toArray]; (try simp only [List.length_drop]); omega); (try rw [List.size_toArray]))))
local macro_rules | `(tactic| walk_at "my cz") => `(tactic| exact ⟨by k_asm, by k_asm, by k_asm, by first | rfl | assumption, by first | rfl | assumption, by assumption, by assumption, by assumption⟩)
local macro_rules | `(tactic| walk_at "my retcz") => `(tactic| exact ⟨by assumption, by assumption, by assumption, by assumption, by assumption, by assumption, by assumption, by assumption⟩)
local macro_rules | `(tactic| walk_at "my enterSC") => `(tactic| (refine' enterSC ?k1 ?k2 ?k3 ?k4 ?k5 ?XB ?TB ?D ?T0 ?kA ?kF ?kK ?k6 ?k7 ?k8 ?k9 ?kB ?kD ?_ ?c2 ?c3 ?c4; (case kA => exact rfl); (case kF => first | exact rfl | assumption); (case kK => first | exact rfl | assumption); (case k2 => k_asm); (case k1 => k_asm); (case k3 => k_asm); (case k4 => k_asm); (case k5 => k_asm); (case XB => assumption); (case TB => assumption); (case D => assumption); (case T0 => first | assumption | exact KtsTurn.refl); (case k6 => k_is); (case k7 => k_is); (case k8 => walk_at "my room"); (case k9 => assumption); (case kB => exact rfl); (case kD => decide +kernel); (case c2 => exact rfl); (case c3 => exact rfl); (case c4 => exact rfl); k_whole; intro g' L' h' tk' cells' FG' F' N' Y' B' X' T' D' lL'; k_cells Y'; (try simp only [List.cons_append, List.nil_append] at N'); (try dsimp only); (try k_fold)))
local macro_rules | `(tactic| walk_at "my look") => `(tactic| (first | with_reducible assumption | exact if_pos rfl | ((refine (if_neg (by decide)).trans ?_); walk_at "my look") | exact rfl))
local macro_rules | `(tactic| walk_at "eval Name") => `(tactic| (k_here; k_dflt (refine' nameX_L ?k1 ?k2 ?_; (case k1 => k_asm); (case k2 => (try dsimp only); walk_at "my look"); k_whole)))
local macro_rules | `(tactic| walk_at "exec For Name Call cons nil") => `(tactic| (k_here; (rename Fr _ _ _ _ => lF'); (with_unfolding_all refine' For_invVF lF' ?k1 ?k2 ?_; (case k1 => exact rfl); (case k2 => exact rfl); k_whole)))
local macro_rules | `(tactic| walk_at "pyIter ref") => `(tactic| (k_dflt (refine Stop.out ?_)))
local macro_rules | `(tactic| walk_at "TbEnd") => `(tactic| (k_dflt (refine Stop.out ?_)))
local macro_rules | `(tactic| walk_at "binaryOp Pow int int") => `(tactic| (k_here; (refine' powG ?k1 ?k2 ?k3 ?_; (case k1 => exact rfl); (case k2 => omega); (case k3 => omega); k_whole; intro v' t' lo' hi'; (try dsimp only))))
local macro_rules | `(tactic| walk_at "binaryOp FloorDiv int int") => `(tactic| (k_here; (refine' fdivG ?k1 ?k2 ?_; (case k1 => omega); (case k2 => omega); k_whole; intro v' t' hv'; (try dsimp only))))
local macro_rules | `(tactic| walk_at "binaryOp Mod int int") => `(tactic| (k_here; (refine' modH ?k1 ?_; (case k1 => omega); k_whole; intro v' t' lo' hi'; (try dsimp only))))
local macro_rules | `(tactic| walk_at "last subscriptTail") => `(tactic| (k_here; k_dflt (refine' cell_item ?k0 ?k1 ?k2 ?k3 ?_ ?k6; (case k0 => with_reducible assumption); (case k1 => exact News.isList (by k_asm) (by k_mem)); (case k2 => omega); (case k3 => omega); (case k6 => first | exact subs_constG | exact subs_binopG | exact subs_nameG); k_whole; intro c' t'; (try dsimp only))))
local macro_rules | `(tactic| walk_at "call type:range") => `(tactic| ((rename Fr _ _ _ _ => F'); (rename News _ _ _ _ => N'); (with_unfolding_all refine range1_rows F' N' ?_; intro _ _ _ _ _ _ _ _ _)))
local macro_rules | `(tactic| walk_at "loadName") => `(tactic| (k_here; k_dflt (refine' ldG ?k1 ?k2 ?_; (case k1 => k_asm); (case k2 => (try dsimp only); walk_at "my look"); k_whole)))
theorem grown_w {prog : Program} {w : World} : GrownC prog w := by
  intro dp un gd A₀ env outer base h₀ p loose mean mg mb L m s led cl n cvs Q E C F N hl hc hdp hun ret
  obtain ⟨B, X, T, hf, hk⟩ := C
  walk_at "my fill"
  refine wpAny_call ?_
  walk_at "my enter"
  k_steps
  refine Stop.in ?_
  (rename IsRange _ _ _ _ _ _ _ _ => hrg)
  (rename News _ _ _ _ => Nl)
  (rename Fr _ _ _ _ => Fl)
  rename_i tk0 tl _ htl Dt _ hDt _ _ _ F1 N1 c1 t1 v1 t2 lo1 hi1 hh1 tk1 t3 u3 v3 a3
  have Nl2 : ∀ q ∈ (tl, listOf #[] 0) :: ([] ++ led), q ∈ (Dt, ({ cls := .type "tuple", data := .seq #[.ref tl, .int 0 tk0] } : Obj)) :: (tl, listOf #[] 0) :: led := fun q hq => .tail _ hq
  have htl0 : ∀ q ∈ led, @Ne Nat q.1 tl := fun q hq => Nat.ne_of_lt (htl q hq)
  have hl' := hl
  refine tbr_invG (n := (1 + v1).toNat) (TG1 cl tl led) rfl hrg (small_one (by omega) (by omega) (by omega) (by omega)) ((rangeSize_nat _ _).trans (by omega)) Fl (news := (tl, listOf #[] 0) :: ([] ++ led)) (News.sub' Nl Nl2) ?init ?turn ?done
  case init =>
    refine ⟨[], [], 0, .nil, 0, tk0, rfl, ?_, ?_, ?_, Int.le_refl _, by omega, .nil, by decide, trivial, rfl, htl0, fun q hq => nomatch hq⟩
    · walk_at "my look"
    · walk_at "my look"
    · walk_at "my look"
  case turn =>
    intro i k ti m₁ nx h tk own hik hoff hJ F₁ N₁
    obtain ⟨T1, ts, n1, f, c, tc, rfl, hm1, hm2, hm3, hc0, hc1, hF, hfh, hfw, hlen, htl1, hsep1⟩ := hJ
    have hi : i < 3 := by
      have z := (List.getElem?_eq_some_iff.mp hik).1
      rw [rangeKs_length] at z
      omega
    obtain rfl : k = (i : Int) := by
      have z := (List.getElem?_eq_some_iff.mp hik).2
      simp [rangeKs] at z
      omega
    clear hik Nl Fl hrg
    obtain ⟨B1, hB1⟩ : ∃ z, z = (T1 ++ led) ++ own := ⟨_, rfl⟩
    have hB1tl : ∀ q ∈ B1, @Ne Nat q.1 tl := fun q hq => by
      rw [hB1] at hq
      exact (List.mem_append.mp hq).elim (htl1 q) fun h => hoff q h (tl, listOf ts.toArray n1) (.head _)
    have subB1 : ∀ q ∈ T1 ++ led, q ∈ B1 := fun q hq => by rw [hB1]; exact List.mem_append_left _ hq
    have hlB1 := subB1 _ (List.mem_append_right _ hl)
    rw [List.cons_append, ← hB1] at N₁
    k_steps
    refine Stop.in ?_
    (rename IsRange _ _ _ _ _ _ _ _ => hrg)
    (rename News _ _ _ _ => Nl)
    (rename Fr _ _ _ _ => Fl)
    rename_i kl _ _ _ hkl _ _ _ _ _ _ _ _ _ _ _ _ v2 _ lo2 hi2 _ _ _ _ _ _
    have hklB : ∀ q ∈ B1, @Ne Nat q.1 kl := fun q hq => Nat.ne_of_lt (allLt_mem hkl.2 q hq)
    have htk : @Ne Nat tl kl := Nat.ne_of_lt hkl.1
    have hkt := Ne.symm htk
    refine tbr_invG (n := v2.toNat) (TG2 cl tl kl i n1 ti ts B1) rfl hrg (small_one (by omega) (by omega) (by omega) (by omega)) ((rangeSize_nat _ _).trans (by omega)) Fl (news := (kl, listOf #[] 0) :: (tl, listOf ts.toArray n1) :: B1) Nl ?init2 ?turn2 ?done2
    case init2 =>
      refine ⟨[], [], 0, .nil, c, tc, rfl, ?_, ?_, ?_, ?_, ?_, hc0, by omega, .nil, by decide, trivial, rfl, hB1tl, hklB, fun q hq => nomatch hq⟩
      · walk_at "my look"
      · walk_at "my look"
      · walk_at "my look"
      · walk_at "my look"
      · walk_at "my look"
    case turn2 =>
      intro j k2 tj m₂ nx2 h2 tk2 own2 hjk hoff2 hJ2 F₂ N₂
      obtain ⟨T2, ks, n2, g2, c2, tc2, rfl, hn1, hn2, hn3, hn4, hn5, hd0, hd1, hG, hgh, hgw, hlen2, htl2, hkl2, hsep2⟩ := hJ2
      have hj : j < 2 := by
        have z := (List.getElem?_eq_some_iff.mp hjk).1
        rw [rangeKs_length] at z
        omega
      obtain rfl : k2 = (j : Int) := by
        have z := (List.getElem?_eq_some_iff.mp hjk).2
        simp [rangeKs] at z
        omega
      (try clear hjk); (try clear Nl); (try clear Fl); (try clear hrg)
      obtain ⟨B2, hB2⟩ : ∃ z, z = (T2 ++ B1) ++ own2 := ⟨_, rfl⟩
      have hB2tl : ∀ q ∈ B2, @Ne Nat q.1 tl := fun q hq => by
        rw [hB2] at hq
        exact (List.mem_append.mp hq).elim (htl2 q) fun h => hoff2 q h (tl, listOf ts.toArray n1) (.tail _ (.head _))
      have hB2kl : ∀ q ∈ B2, @Ne Nat q.1 kl := fun q hq => by
        rw [hB2] at hq
        exact (List.mem_append.mp hq).elim (hkl2 q) fun h => hoff2 q h (kl, listOf ks.toArray n2) (.head _)
      have subB2 : ∀ q ∈ T2 ++ B1, q ∈ B2 := fun q hq => by rw [hB2]; exact List.mem_append_left _ hq
      have hlB2 := subB2 _ (List.mem_append_right _ hlB1)
      rw [List.cons_append, List.cons_append, ← hB2] at N₂
      k_steps
      refine Stop.in ?_
      (rename IsRange _ _ _ _ _ _ _ _ => hrg)
      (rename News _ _ _ _ => Nl)
      (rename Fr _ _ _ _ => Fl)
      rename_i el _ _ _ hel _ _ _ _ _ _ _ _ _ _ _ _ v3' _ lo3 hi3 _ _ _ _ _ _
      have helB : ∀ q ∈ B2, @Ne Nat q.1 el := fun q hq => Nat.ne_of_lt (allLt_mem hel.2.2 q hq)
      have hte : @Ne Nat tl el := Nat.ne_of_lt hel.2.1
      have het := Ne.symm hte
      have hke : @Ne Nat kl el := Nat.ne_of_lt hel.1
      have hek := Ne.symm hke
      refine tbr_invG (n := v3'.toNat) (TG3 cl tl kl el i j n1 n2 ti tj ts ks B2) rfl hrg (small_one (by omega) (by omega) (by omega) (by omega)) ((rangeSize_nat _ _).trans (by omega)) Fl (news := (el, listOf #[] 0) :: (kl, listOf ks.toArray n2) :: (tl, listOf ts.toArray n1) :: B2) Nl ?init3 ?turn3 ?done3
      case init3 =>
        refine ⟨[], [], 0, .nil, c2, tc2, rfl, ?_, ?_, ?_, ?_, ?_, ?_, ?_, hd0, by omega, .nil, by decide, trivial, rfl, hB2tl, hB2kl, helB, fun q hq => nomatch hq⟩
        · walk_at "my look"
        · walk_at "my look"
        · walk_at "my look"
        · walk_at "my look"
        · walk_at "my look"
        · walk_at "my look"
        · walk_at "my look"
      case turn3 =>
        intro d k3 td m₃ nx3 h3 tk3 own3 hdk hoff3 hJ3 F₃ N₃
        obtain ⟨T3, es, n3, e3, c3, tc3, rfl, hp1, hp2, hp3, hp4, hp5, hp6, hp7, he0, he1, hE, heh, hew, hlen3, htl3, hkl3, hel3, hsep3⟩ := hJ3
        have hd : d < 2 := by
          have z := (List.getElem?_eq_some_iff.mp hdk).1
          rw [rangeKs_length] at z
          omega
        (try clear hdk); (try clear Nl); (try clear Fl); (try clear hrg)
        obtain ⟨B3, hB3⟩ : ∃ z, z = (T3 ++ B2) ++ own3 := ⟨_, rfl⟩
        have hB3tl : ∀ q ∈ B3, @Ne Nat q.1 tl := fun q hq => by
          rw [hB3] at hq
          exact (List.mem_append.mp hq).elim (htl3 q) fun h => hoff3 q h (tl, listOf ts.toArray n1) (.tail _ (.tail _ (.head _)))
        have hB3kl : ∀ q ∈ B3, @Ne Nat q.1 kl := fun q hq => by
          rw [hB3] at hq
          exact (List.mem_append.mp hq).elim (hkl3 q) fun h => hoff3 q h (kl, listOf ks.toArray n2) (.tail _ (.head _))
        have hB3el : ∀ q ∈ B3, @Ne Nat q.1 el := fun q hq => by
          rw [hB3] at hq
          exact (List.mem_append.mp hq).elim (hel3 q) fun h => hoff3 q h (el, listOf es.toArray n3) (.head _)
        have subB3 : ∀ q ∈ T3 ++ B2, q ∈ B3 := fun q hq => by rw [hB3]; exact List.mem_append_left _ hq
        have hlB3 := subB3 _ (List.mem_append_right _ hlB2)
        have hsz3 : es.toArray.size ≤ sizeLine := by
          rw [sizeLine_eq, List.size_toArray]
          omega
        rw [List.cons_append, List.cons_append, List.cons_append, ← hB3] at N₃
        k_steps
        refine Stop.in ?_
        (rename News _ _ _ _ => NE)
        (rename Fr _ _ _ _ => FE)
        (rename _ < _ ∧ _ < _ ∧ _ < _ ∧ _ < _ ∧ AllLt _ B3 => lt2)
        (rename _ < _ ∧ _ < _ ∧ _ < _ ∧ AllLt _ B3 => lt1)
        refine g3_end (tc := ?tc3) FE NE hB3 lt1 lt2 hoff3 ?y1 ?y2 ?y3 ?y4 ?y5 ?y6 ?y7 he0 he1 hE heh hew hlen3 htl3 hkl3 hel3 hsep3
        case y7 => walk_at "my look"
        all_goals walk_at "my look"
      case done3 =>
        intro m₃ nx3 h3 tk3 hJ3 F₃ N₃
        obtain ⟨T3, es, n3, e3, c3, tc3, rfl, hp1, hp2, hp3, hp4, hp5, hp6, hp7, he0, he1, hE, heh, hew, hlen3, htl3, hkl3, hel3, hsep3⟩ := hJ3
        (try clear Nl); (try clear Fl); (try clear hrg)
        obtain ⟨B3, hB3⟩ : ∃ z, z = T3 ++ B2 := ⟨_, rfl⟩
        have hlB3 : (cl, listOf cvs.toArray n) ∈ B3 := by rw [hB3]; exact List.mem_append_right _ hlB2
        have hsz3 : ks.toArray.size ≤ sizeLine := by
          rw [sizeLine_eq, List.size_toArray]
          omega
        rw [← hB3] at N₃ htl3 hkl3 hel3
        k_steps
        refine Stop.in ?_
        (rename News _ _ _ _ => NE)
        (rename Fr _ _ _ _ => FE)
        (rename _ < _ ∧ _ < _ ∧ _ < _ ∧ AllLt _ B3 => lt1)
        have hel4 := hE.len
        refine g2_end (tj := 0) (d := 0) (l' := 0) (tc := ?tc4) (T := T3) FE NE (by rw [hB3, hB2]) lt1 hoff2 ?z1 ?z2 ?z3 ?z4 ?z5 he0 (by omega) hG hgh hgw hlen2 htl2 hkl2 hsep2 hE heh hew (by omega) htl3 hkl3 hel3 het hek (by rw [← hB2]; exact hsep3)
        case z5 => walk_at "my look"
        all_goals walk_at "my look"
    case done2 =>
      intro m₂ nx2 h2 tk2 hJ2 F₂ N₂
      obtain ⟨T2, ks, n2, g2, c2, tc2, rfl, hn1, hn2, hn3, hn4, hn5, hd0, hd1, hG, hgh, hgw, hlen2, htl2, hkl2, hsep2⟩ := hJ2
      (try clear Nl); (try clear Fl); (try clear hrg)
      obtain ⟨B2, hB2⟩ : ∃ z, z = T2 ++ B1 := ⟨_, rfl⟩
      have hlB2 : (cl, listOf cvs.toArray n) ∈ B2 := by rw [hB2]; exact List.mem_append_right _ hlB1
      have hsz2 : ts.toArray.size ≤ sizeLine := by
        rw [sizeLine_eq, List.size_toArray]
        omega
      rw [← hB2] at N₂ htl2 hkl2
      k_steps
      refine Stop.in ?_
      (rename News _ _ _ _ => NE)
      (rename Fr _ _ _ _ => FE)
      (rename _ < _ ∧ _ < _ ∧ AllLt _ B2 => lt1)
      have hkl4 := hG.len
      refine g1_end (tc := ?tc5) (T := T2) FE NE (by rw [hB2, hB1]) lt1 hoff ?w1 ?w2 ?w3 hd0 (by omega) hF hfh hfw hlen htl1 hsep1 hG hgh hgw (by omega) htl2 hkl2 hkt (by rw [← hB1]; exact hsep2)
      case w3 => walk_at "my look"
      all_goals walk_at "my look"
  case done =>
    intro m₁ nx h tk hJ F₁ N₁
    obtain ⟨T1, ts, n1, f, c, tc, rfl, hm1, hm2, hm3, hc0, hc1, hF, hfh, hfw, hlen, htl1, hsep1⟩ := hJ
    (try clear Nl); (try clear Fl); (try clear hrg)
    k_steps
    exact ret _ _ _ _ n1 ts f (by assumption) (by assumption) (fun q hq => .tail _ (List.mem_append_right _ hq)) (.head _) (hF.mono fun q hq => .tail _ (List.mem_append_left _ hq)) hfh hfw (by omega)
end Mine

end
section
theorem Mine.walk_off_R1 : True := by
  w_top off
  trivial
open PySem PySem.W PyProof.Rows PySem.Spec PySem.Calls
set_option Elab.async false
set_option maxRecDepth 100000
set_option maxHeartbeats 8000000
namespace Mine
local macro_rules | `(tactic| walk_at "my fill") => `(tactic| (
  have hfill : (∀ P h, (hd.heap_39 P).In h → (hd.heap_39 P).In h) ∧ PySem.Challenge.rw_co0008_01.about = PySem.Challenge.rw_co0008_01.about := ⟨fun _ _ x => x, rfl⟩
  revert hfill; k_fill; intro hfill; clear hfill))
local macro_rules | `(tactic| walk_at "my room") => `(tactic| first | assumption | ((try simp only [depth_under_make, depth_under_kw, depth_in1, depth_deeper, depth_caller, AR_depth, mark_depth]); omega))
local macro_rules | `(tactic| walk_at "my units") => `(tactic| first | assumption | ((try simp only [units_in1, units_deeper, Around.mark_units, units_caller, AR_units]); omega))
local macro_rules | `(tactic| k_room) => `(tactic| walk_at "my room")
local macro_rules | `(tactic| k_units) => `(tactic| walk_at "my units")
local macro_rules | `(tactic| ke_room) => `(tactic| walk_at "my units")
local macro_rules | `(tactic| k_all) => `(tactic| first | assumption | exact allLt_le (by assumption) (by omega) | exact allLt_ne (by assumption) | exact allLt_ne (And.right (by assumption)) | exact allLt_ne (And.right (And.right (by assumption))) | exact allLt_ne (And.right (And.right (And.right (by assumption)))) | exact allLt_ne (And.right (And.right (And.right (And.right (by assumption))))))
local macro_rules | `(tactic| walk_at "my sub") => `(tactic| (refine News.sub' (by assumption) ?_; intro q hq; first | exact hq | exact .tail _ hq | exact .tail _ (.tail _ hq) | exact .tail _ (.tail _ (.tail _ hq)) | (simp only [List.mem_cons, List.mem_append] at hq ⊢; simp only [hq, or_true])))
local macro_rules | `(tactic| k_get) => `(tactic| first | with_reducible assumption | exact LoopOk.undef (by assumption) | exact LoopOk.recurse (by assumption) | exact LoopOk.iterable (by assumption) | exact LoopOk.iterator (by assumption) | exact getL_put _ | ((with_reducible refine (getL_put_ne ?hne).trans ?_); (case hne => decide); k_get))
local macro_rules | `(tactic| walk_at "my len") => `(tactic| ((repeat refine len_put_of ?_); omega))
local macro_rules | `(tactic| walk_at "my enter") => `(tactic| (
  refine' code_def ?k1 ?k2 ?k3 ?k4 ?k5 ?kA ?kF ?kK ?k6 ?k7 ?k8 ?k9 ?kB ?_ ?c2 ?c3 ?c4 ?c5; (case kA => first | exact rfl | assumption); (case kF => first | exact rfl | assumption); (case kK => first | exact rfl | assumption); (case k1 => k_asm); (case k2 => k_asm); (case k3 => k_asm); (case k4 => k_asm); (case k5 => k_asm); (case k6 => k_is); (case k7 => k_is); (case k8 => walk_at "my room"); (case k9 => first | exact BindsTo.of_eq rfl | exact binds_K (by k_in) rfl (by k_is) rfl rfl rfl | fail "enter: no rule for these arguments"); (case c5 => decide); (case kB => exact locs rfl); (case c2 => exact rfl); (case c3 => exact rfl); (case c4 => exact rfl); k_whole; intro g' L' h' FG' F' N' B' X' T'; (try dsimp only); (try k_fold)))
local macro_rules | `(tactic| walk_at "my prop") => `(tactic| (k_dflt (refine' get_prop ?k1 ?k2 ?k3 ?k4 ?k5 ?k6 ?k7 ?k8 ?k9 ?_; (case k1 => k_asm); (case k2 => k_asm); (case k3 => k_inst); (case k4 => k_is); (case k5 => k_is); (case k6 => k_is); (case k7 => k_is); (case k8 => k_is); (case k9 => k_is); k_whole); walk_at "my enter"))
local macro_rules | `(tactic| walk_at "setAttr ref") => `(tactic| (k_here; k_dflt (refine' set_dict ?k1 ?k2 ?k3 ?k4 ?k5 ?k6 ?k7 ?k8 ?k9 ?k10 ?k11 ?k12 ?k13 ?_; (case k1 => k_asm); (case k2 => k_asm); (case k3 => k_asm); (case k4 => k_inst); (case k5 => exact rfl); (case k6 => k_is); (case k7 => k_is); (case k8 => k_is); (case k9 => k_is); (case k10 => exact getL_isSome (by k_get)); (case k11 => exact rfl); (case k12 => k_upd); (case k13 => walk_at "my len"); k_whole; intro h' F' N'; (try k_sweep))))
local macro_rules | `(tactic| k_mem) => `(tactic| first | with_reducible assumption | exact List.Mem.head _ | (refine' List.mem_cons_of_mem _ ?_; k_mem) | (refine' List.mem_append_left _ ?_; k_mem) | (refine' List.mem_append_right _ ?_; k_mem))
local macro_rules | `(tactic| walk_at "compareOp IsNot ref ref") => `(tactic| (k_here; first | refine wpAny_isNot_ref_self ?_ | (k_dflt (refine' isNot_right ?n ?a ?b ?c ?_; (case n => kto_ne); (case a => kto_obj); (case b => kto_obj); (case c => kto_not); k_whole))))
local macro_rules | `(tactic| walk_at "compareOp Is ref ref") => `(tactic| (k_here; first | refine wpAny_is_ref_self ?_ | (k_dflt (refine' is_right ?n ?a ?b ?c ?_; (case n => kto_ne); (case a => kto_obj); (case b => kto_obj); (case c => kto_not); k_whole))))
local macro_rules | `(tactic| walk_at "my cx") => `(tactic| exact ⟨by k_asm, by k_asm, by k_asm, rfl, by first | rfl | assumption, by first | rfl | assumption⟩)
local macro_rules | `(tactic| walk_at "my cy") => `(tactic| exact ⟨by k_asm, by k_asm, by k_asm, by first | rfl | assumption, by first | rfl | assumption⟩)
local macro_rules | `(tactic| k_handed) => `(tactic| with_reducible assumption)
local macro_rules | `(tactic| walk_at "my rest") => `(tactic| (refine' kp_rest ?k1 ?k2 ?k3 ?k4 ?k5 ?kA ?kF ?kK ?k6 ?k7 ?k8 ?kV ?kP ?kG ?kB ?_ ?c2 ?c3 ?c4 ?c5; (case kA => exact rfl); (case kF => first | exact rfl | assumption); (case kK => first | exact rfl | assumption); (case k1 => k_asm); (case k2 => k_asm); (case k3 => k_asm); (case k4 => k_asm); (case k5 => k_asm); (case k6 => k_is); (case k7 => k_is); (case k8 => k_room); (case kV => kl_lit); (case kP => exact rfl); (case kG => exact fun _ => rfl); (case kB => exact fun _ => locs rfl); (case c5 => decide); (case c2 => exact rfl); (case c3 => exact rfl); (case c4 => exact rfl); k_whole; intro D' g' L' h' l1 FG' F' N' B' X' T'; (try k_lt l1); (try dsimp only); (try k_fold)))
local macro_rules | `(tactic| walk_at "compareOp NotEq ref ref") => `(tactic| (k_here; (with_reducible show wpAny _ _ (compareOp _ (Value.ref 92) (Value.ref _)) _ _ _); k_dflt (refine' inst_ne_tuple ?X ?I ?t ?c ?n ?h1 ?h2 ?h3 ?h4 ?h5 ?u ?_; (case X => k_in); (case I => refine' InstAt.of_K ?kx ?kl ?km; (case kx => k_in); (case kl => k_is); (case km => k_is)); (case t => exact kto_N (by k_asm) (by k_mem)); (case c => rfl); (case n => kto_ne); (case h1 => k_is); (case h2 => k_is); (case h3 => k_is); (case h4 => k_is); (case h5 => k_is); (case u => walk_at "my units"); k_whole)))
local macro_rules | `(tactic| walk_at "my enterS") => `(tactic| (
  refine' enterS ?k1 ?k2 ?k3 ?k4 ?k5 ?XB ?TB ?D ?T0 ?kA ?kF ?kK ?k6 ?k7 ?k8 ?k9 ?kB ?_ ?c2 ?c3 ?c4 ?c5; (case kA => exact rfl); (case kF => first | exact rfl | assumption); (case kK => first | exact rfl | assumption); (case k2 => k_asm); (case k1 => k_asm); (case k3 => k_asm); (case k4 => k_asm); (case k5 => k_asm); (case XB => assumption); (case TB => assumption); (case D => assumption); (case T0 => first | assumption | exact KtsTurn.refl); (case k6 => k_is); (case k7 => k_is); (case k8 => walk_at "my room"); (case k9 => first | exact BindsTo.of_eq rfl | exact binds_K (by k_in) rfl (by k_is) rfl rfl rfl | fail "enterS: no rule for these arguments"); (case c5 => decide); (case kB => exact locs rfl); (case c2 => exact rfl); (case c3 => exact rfl); (case c4 => exact rfl); k_whole; intro g' L' h' FG' F' N' B' X' T' D' lL'; (try dsimp only); (try k_fold)))
local macro_rules | `(tactic| walk_at "my propS") => `(tactic| (k_dflt (refine' get_prop ?k1 ?k2 ?k3 ?k4 ?k5 ?k6 ?k7 ?k8 ?k9 ?_; (case k1 => k_asm); (case k2 => k_asm); (case k3 => k_inst); (case k4 => k_is); (case k5 => k_is); (case k6 => k_is); (case k7 => k_is); (case k8 => k_is); (case k9 => k_is); k_whole); walk_at "my enterS"))
local macro_rules | `(tactic| walk_at "call builtin:iter") => `(tactic| (k_here; (with_reducible show wpAny _ _ (call (Value.builtin "iter") [Value.ref _]) _ _ _); k_dflt (first
  | (refine' iter_list ?F ?N ?m ?_; (case F => k_asm); (case N => k_asm); (case m => k_mem); k_whole; intro i' h' F' N' l1; (try k_lt l1); (try k_sweep))
  | (refine' iter_map ?N ?m ?_; (case N => k_asm); (case m => k_mem); k_whole))))
local macro_rules | `(tactic| walk_at "call builtin:len") => `(tactic| (k_here; (with_reducible show wpAny _ _ (call (Value.builtin "len") [Value.ref _]) _ _ _); k_dflt (refine' len_list ?l ?z ?_; (case l => exact News.isList (by k_asm) (by k_mem)); (case z => rw [List.size_toArray]; (try simp only [List.length_drop]); omega); (try rw [List.size_toArray]))))
local macro_rules | `(tactic| walk_at "my cz") => `(tactic| exact ⟨by k_asm, by k_asm, by k_asm, by first | rfl | assumption, by first | rfl | assumption, by assumption, by assumption, by assumption⟩)
local macro_rules | `(tactic| walk_at "my retcz") => `(tactic| exact ⟨by assumption, by assumption, by assumption, by assumption, by assumption, by assumption, by assumption, by assumption⟩)
local macro_rules | `(tactic| walk_at "my enterSC") => `(tactic| (refine' enterSC ?k1 ?k2 ?k3 ?k4 ?k5 ?XB ?TB ?D ?T0 ?kA ?kF ?kK ?k6 ?k7 ?k8 ?k9 ?kB ?kD ?_ ?c2 ?c3 ?c4; (case kA => exact rfl); (case kF => first | exact rfl | assumption); (case kK => first | exact rfl | assumption); (case k2 => k_asm); (case k1 => k_asm); (case k3 => k_asm); (case k4 => k_asm); (case k5 => k_asm); (case XB => assumption); (case TB => assumption); (case D => assumption); (case T0 => first | assumption | exact KtsTurn.refl); (case k6 => k_is); (case k7 => k_is); (case k8 => walk_at "my room"); (case k9 => assumption); (case kB => exact rfl); (case kD => decide +kernel); (case c2 => exact rfl); (case c3 => exact rfl); (case c4 => exact rfl); k_whole; intro g' L' h' tk' cells' FG' F' N' Y' B' X' T' D' lL'; k_cells Y'; (try simp only [List.cons_append, List.nil_append] at N'); (try dsimp only); (try k_fold)))
local macro_rules | `(tactic| walk_at "exec Try") => `(tactic| (k_here; k_dflt (refine wpAny_Try_except ?_)))
local macro_rules | `(tactic| walk_at "call ref") => `(tactic| (k_here; (with_reducible show wpAny _ _ (call (Value.ref 255) _) _ _ _); k_dflt (refine Stop.out ?_)))
section
variable {prog : Program} {w : World} {dp un : Nat} {gd : Option (List Code)} {A₀ : Around} {env : Env} {outer : List Env} {base h₀ : Heap} {p : Program} {loose : List Str} {mean : ExcName → Option Value} {mg mb : Str → Option Value} {L : Addr} {m : Str → Option Value} {rest : List (Addr × Obj)} {s : Shared} {E Q : Value → Shared → Prop} {ex : Bool} {P : Lp} {S : LS}
variable {g₀ : Heap}
/-- a loop that is not marked refuses to be called -/
theorem refused_w (C : Cz w A₀ env outer base h₀ p loose mean mg mb L) (T0 : KtsTurn (frs outer) g₀ h₀) (F : Fr h₀ L s.heap m) (N : News h₀ L s.heap rest) {l : Addr} {n : Nat} {vs : List Value} (hl : (l, listOf vs.toArray n) ∈ rest) (hdp : dp + 30 < recursionLimit) (hun : un + 100 < cLine)
   (ret : ∀ h₀' h' tk', KtsTurn (frs outer) g₀ h₀' → Cz w A₀ env outer base h₀' p loose mean mg mb L → Fr h₀' L h' m → News h₀' L h' rest → Q (.bool true) { s with heap := h', toks := tk' }) :
   wpAny (model prog w) (AR dp un gd env outer) (call (.ref 418) [.ref l]) Q E s := by
  have C₀ := C
  obtain ⟨B, X, T, hf, hk, XB, TB, D⟩ := C
  walk_at "my fill"
  refine wpAny_call ?_
  walk_at "my enterS"
  k_steps
  refine Stop.in ?_
  k_dflt (refine' call_cls ?k1 ?k2 ?k3 ?k4 ?k5 ?k6 ?_)
  (case k1 => k_asm); (case k2 => k_asm); (case k3 => k_asm); (case k4 => k_is); (case k5 => k_is); (case k6 => k_is); k_whole
  intro x' d' h' F' N' l1 l2
  have l1' := l1
  replace l1 := allLt_of l1
  k_lt2 l2
  walk_at "my enter"
  k_steps
  (rename News _ L _ _ => kN)
  exact ret _ _ _ (by assumption) (by walk_at "my retcz") (by assumption) (News.sub' kN (by intro q hq; k_mem))
end
end Mine

end
section
theorem Mine.walk_off_J1 : True := by
  w_top off
  trivial
open PySem PySem.W PyProof.Rows PySem.Spec PySem.Calls
set_option Elab.async false
set_option maxRecDepth 100000
set_option maxHeartbeats 8000000
namespace Mine
theorem outl_all {prog : Program} {w : World} (fo : Fo) : OutC prog w fo := by
  have all : ∀ n, ∀ fo : Fo, fo.hgt < n → OutC prog w fo := by
    intro n
    induction n with
    | zero => intro fo h; exact absurd h (Nat.not_lt_zero _)
    | succ n ih => exact fun fo h => outl_w fo fun k hk => ih k (by omega)
  exact all _ fo (Nat.lt_succ_self _)
theorem told_all {prog : Program} {w : World} (fo : Fo) : ToldC prog w fo := by
  have all : ∀ n, ∀ fo : Fo, fo.hgt < n → ToldC prog w fo := by
    intro n
    induction n with
    | zero => intro fo h; exact absurd h (Nat.not_lt_zero _)
    | succ n ih => exact fun fo h => told_w fo fun k hk => ih k (by omega)
  exact all _ fo (Nat.lt_succ_self _)
def LawEnd (h₀ : Heap) (L : Addr) (s : Shared) (f : Flow) (s' : Shared) : Prop := f = .ret (.bool true) ∧ ∃ h' tk m', s' = { s with heap := h', toks := tk } ∧ Fr h₀ L h' m'
theorem law_cut {M : Model} {env : Env} {t : Sem Flow} {Q : Flow → Shared → Prop} {Q1 : Value → Unit → Shared → Prop} {E1 : Value → Value → Shared → Prop} {s : Shared} {h₀ : Heap} {L : Addr} {m : Str → Option Value} (F : Fr h₀ L s.heap m)
    (h : ∀ dp un gd, dp + 300 < recursionLimit → un + 1000 < cLine → wpAny M (AR dp un gd env []) t (LawEnd h₀ L s) (fun e s' => wpAny M (AR dp un gd env []) (leaving env e) (fun _ _ => False) (fun _ _ => False) s') s)
    (k : ∀ h' tk m', Fr h₀ L h' m' → Q (.ret (.bool true)) { s with heap := h', toks := tk }) : wpAny M (callerA.deeper env) t Q (fun e s' => wpAny M (callerA.deeper env) (leaving env e) (Q1 e) (E1 e) s') s := by
  refine wpAny_mono (h (callerA.deeper env).depth (callerA.deeper env).units (callerA.deeper env).guards (by rw [depth_deeper, depth_caller]; decide) (by rw [units_deeper, units_caller]; decide)) (fun f s' hf => ?_) fun e s' he => ?_
  · obtain ⟨rfl, h', tk, m', rfl, hF⟩ := hf
    exact k h' tk m' hF
  · exact wpAny_mono he (fun _ _ z => z.elim) fun _ _ z => z.elim
theorem plain_ok (k n k0 : Nat) (dep : Int) (ls : List Int) (lcv : Option Int) (lab q : Int) : kqdOk k (plain n k0 dep ls lcv lab q) = true := by
  have hi : ∀ i : Int, kqdOk k (.int i) = true := fun i => by cases k <;> simp [kqdOk]
  have hs : ∀ x : Str, PyData.strOk x = true → kqdOk k (.str x) = true := fun x h => by cases k <;> simp [kqdOk, h]
  have ht : ∀ b, PyData.strOk (tf b) = true := fun b => by cases b <;> decide +kernel
  have hif : ∀ (c : Prop) [Decidable c] (a b : Dat), kqdOk k a = true → kqdOk k b = true → kqdOk k (if c then a else b) = true := fun c _ a b h1 h2 => by split <;> assumption
  have h3 : PyData.strOk (if k0 % 3 = 0 then "a" else if k0 % 3 = 1 then "b" else "c") = true := by
    split
    · decide +kernel
    · split <;> decide +kernel
  unfold plain
  repeat' (refine hif _ _ _ ?_ ?_)
  all_goals first | exact hi _ | exact hs _ h3 | exact hs _ (ht _) | (refine hs _ ?_; decide +kernel)
theorem outl_ok (f : Fo) : ∀ (k n k0 : Nat) (dep : Int) (ls : List Int) (lcv : Option Int), f.hgt + 1 ≤ k → ∀ d ∈ outl f n k0 dep ls lcv, kqdOk k d = true := by
  induction f with
  | nil => intro k n k0 dep ls lcv _ d hd; rw [outl] at hd; cases hd
  | cons lab kids ask sz rest ihk ihr =>
    intro k n k0 dep ls lcv hk d hd
    have hk1 : kids.hgt + 1 + 1 ≤ k := by
      have : max (kids.hgt + 1) rest.hgt + 1 ≤ k := hk
      omega
    have hk2 : rest.hgt + 1 ≤ k := by
      have : max (kids.hgt + 1) rest.hgt + 1 ≤ k := hk
      omega
    obtain ⟨k', rfl⟩ : ∃ k', k = k' + 1 := ⟨k - 1, by omega⟩
    rw [outl] at hd
    rcases List.mem_cons.mp hd with rfl | hd
    · simp [kqdOk, plain_ok]
    rcases List.mem_append.mp hd with hd | hd
    · split at hd
      · cases hd
      · rw [List.mem_singleton.mp hd]
        show (outl kids kids.len 0 (dep + 1) kids.labs none).all (kqdOk k') = true
        rw [List.all_eq_true]
        exact ihk k' _ _ _ _ _ (by omega)
    · exact ihr _ _ _ _ _ _ hk2 d hd
theorem ints_get {vs : List Value} {ns : List Int} (h : IntsAre vs ns) (hn : 9 ≤ ns.length) : ∀ i, i < 9 → ∃ c t, vs[i]? = some (.int c t) := fun i hi => by
  obtain ⟨t, e⟩ := h.get i (ns[i]'(by omega)) (List.getElem?_eq_getElem _)
  exact ⟨_, t, e⟩
theorem nine {α : Type} (a b : List α) (n : Nat) (ha : a.length = n) (hb : b.length = 9) : 9 ≤ (a ++ b.drop ((n : Int)).toNat).length := by
  simp only [List.length_append, List.length_drop, hb, ha, Int.toNat_natCast]
  omega
theorem fr_turn0 {g₀ h₀ h : Heap} {L : Addr} {m : Str → Option Value} (T : KtsTurn (frs []) g₀ h₀) (F : Fr h₀ L h m) : Fr g₀ L h m :=
  ⟨F.ns, fun b o e => F.keep b o (T.other b o e (by intro h; cases h)), by rw [← T.size]; exact F.above⟩
theorem subs_slice {a b : Option PySem.Expr} {p : Pos} {o i : Value} : subscripted (.Slice a b none p) false o i = operate [i, o] (getItem o i) := by unfold subscripted; rfl
theorem slice9 {prog : Program} {w : World} {A : Around} {E : Value → Shared → Prop} {x : Str} {px p : Pos} {e1 e2 : Option PySem.Expr} {Q : Value → Shared → Prop} {h₀ h : Heap} {L l : Addr} {m : Str → Option Value} {news : List (Addr × Obj)} {gens : Array GenState} {drawn : Drawn} {toks : Nat} {os : OsState} {vs : List Value} {ns : List Int} {k : Int} {t : Tok}
    (F : Fr h₀ L h m) (N : News h₀ L h news) (hl : (l, listOf vs.toArray 0) ∈ news) (hi : IntsAre vs ns) (hk : 0 ≤ k) (hz : vs.length ≤ 100)
    (hh : ∀ D ws h', Fr h₀ L h' m → News h₀ L h' ((D, listOf (List.toArray ws) 0) :: news) → (∀ p ∈ news, p.1 < D) → IntsAre ws (ns.drop k.toNat) → Q (.ref D) ⟨h', gens, drawn, toks, os⟩) :
    wpAny (model prog w) A (subscriptTail (.Name x px) (.Slice e1 e2 none p) (.ref l) (.ref h.objs.size)) Q E ⟨h.push { cls := .type "slice", data := .fields #[.int k t, .none, .none] }, gens, drawn, toks, os⟩ :=
  kmk_slice_ints (s := ⟨h, gens, drawn, toks, os⟩) F N (N.isList hl) (IsPart.int _ _) IsPart.none hi (kmk_from hi hk) rfl (fun D ws h' F' N' l1 hI _ _ => hh D ws h' F' N' l1 hI) subs_slice (fun _ => rfl) (by rw [List.size_toArray, sizeLine_eq]; omega)
section
variable {prog : Program} {w : World} {dp un : Nat} {gd : Option (List Code)} {A₀ : Around} {env : Env} {outer : List Env} {base h₀ : Heap} {p : Program} {loose : List Str} {mean : ExcName → Option Value} {mg mb : Str → Option Value} {L : Addr} {m : Str → Option Value} {s : Shared}
theorem grown_use {led : List (Addr × Obj)} {cl : Addr} {n : Nat} {cvs : List Value} {Q E : Value → Shared → Prop} (C : Cy w A₀ env outer base h₀ p loose mean mg mb L) (F : Fr h₀ L s.heap m) (N : News h₀ L s.heap led) (hl : (cl, listOf cvs.toArray n) ∈ led) (hc : ∀ i, i < 9 → ∃ c t, cvs[i]? = some (.int c t))
    (hd : dp + 20 < recursionLimit) (hu : un + 200 < cLine)
    (ret : ∀ h' tk' a R n ts f, Fr h₀ L h' m → News h₀ L h' R → (∀ q ∈ led, q ∈ R) → (a, listOf ts.toArray n) ∈ R → FoIn R ts f → f.hgt ≤ 3 → f.okw → ts.length ≤ 3 → Q (.ref a) { s with heap := h', toks := tk' }) :
    wpAny (model prog w) (AR dp un gd env outer) (call (.ref 377) [.ref cl]) Q E s := grown_w _ _ _ _ _ _ _ _ _ _ _ _ _ _ _ _ _ _ _ _ _ _ C F N hl hc hd hu ret
theorem told_use {fo : Fo} {led : List (Addr × Obj)} {l : Addr} {n : Nat} {vs : List Value} {td : Tok} {Q E : Value → Shared → Prop} (C : Cy w A₀ env outer base h₀ p loose mean mg mb L) (F : Fr h₀ L s.heap m) (N : News h₀ L s.heap led) (hl : (l, listOf vs.toArray n) ∈ led) (hfo : FoIn led vs fo) (hs : vs.length ≤ 1000) (hw : fo.okw) (hh : fo.hgt ≤ 3)
    (hd : dp + 40 < recursionLimit) (hu : un + 300 < cLine)
    (ret : ∀ h' tk' a tl, Fr h₀ L h' m → News h₀ L h' (tl ++ led) → (∀ q ∈ tl, ∀ r ∈ led, q.1 ≠ r.1) → DatIn tl (.ref a) (.list (outl fo fo.len 0 0 fo.labs none)) → Q (.ref a) { s with heap := h', toks := tk' }) :
    wpAny (model prog w) (AR dp un gd env outer) (call (.ref 411) [.ref l, .int 0 td]) Q E s := told_all fo _ _ _ _ _ _ _ _ _ _ _ _ _ _ _ _ _ _ _ _ _ _ _ _ C F N hl hfo hs hw (by decide) (by omega) hh (by omega) (by omega) ret
theorem outl_use {fo : Fo} {led il : List (Addr × Obj)} {rows : Value} {l : Addr} {n : Nat} {vs : List Value} {Q E : Value → Shared → Prop} (C : Cz w A₀ env outer base h₀ p loose mean mg mb L) (F : Fr h₀ L s.heap m) (N : News h₀ L s.heap (il ++ led)) (hl : (l, listOf vs.toArray n) ∈ led) (hfo : FoIn led vs fo)
    (hr : (il = [] ∧ rows = .ref l) ∨ ∃ i mo t, il = [(i, LI l 0)] ∧ rows = .ref mo ∧ (mo, MP t 384) ∈ led ∧ (t, T1 (.ref i)) ∈ led ∧ ∀ q ∈ led, q.1 ≠ i) (hs : vs.length ≤ 1000) (hw : fo.okw) (hh : fo.hgt ≤ 3)
    (hd : dp + 60 < recursionLimit) (hu : un + 600 < cLine)
    (ret : ∀ h₀' h' tk' a tl, KtsTurn (frs outer) h₀ h₀' → Cz w A₀ env outer base h₀' p loose mean mg mb L → Fr h₀' L h' m → News h₀' L h' (tl ++ led) → (∀ q ∈ tl, ∀ r ∈ led, q.1 ≠ r.1) → DatIn tl (.ref a) (.list (outl fo fo.len 0 0 fo.labs none)) → Q (.ref a) { s with heap := h', toks := tk' }) :
    wpAny (model prog w) (AR dp un gd env outer) (call (.ref 404) [rows, .ref 404]) Q E s :=
  wpAny_call (outl_all fo _ _ _ _ _ _ _ _ _ _ _ _ _ _ _ _ _ _ _ _ _ _ _ 0 700 _ _ C KtsTurn.refl F N hl hfo hr hs hw (by decide) (by omega) hh (.inr ⟨rfl, rfl, rfl⟩) (by omega) (by omega) ret)
end
theorem lits9 {a b c d e f g h i : Int} {t1 t2 t3 t4 t5 t6 t7 t8 t9 : Tok} : IntsAre [.int a t1, .int b t2, .int c t3, .int d t4, .int e t5, .int f t6, .int g t7, .int h t8, .int i t9] [a, b, c, d, e, f, g, h, i] := by
  repeat constructor
theorem eq_dat {prog : Program} {w : World} {A : Around} {E : Value → Shared → Prop} {s : Shared} {Q : Value → Shared → Prop} {h₀ : Heap} {L a b : Addr} {news n₁ n₂ : List (Addr × Obj)} {ds : List Dat} (N : News h₀ L s.heap news) (d1 : DatIn n₁ (.ref a) (.list ds)) (s1 : ∀ p ∈ n₁, p ∈ news)
    (d2 : DatIn n₂ (.ref b) (.list ds)) (s2 : ∀ p ∈ n₂, p ∈ news) (ok : ∀ d ∈ ds, kqdOk 8 d = true) (hu : A.units + 64 < cLine) (h : Q (.bool true) s) : wpAny (model prog w) A (compareOp .Eq (.ref a) (.ref b)) Q E s := by
  cases d1 with
  | list m1 D1 =>
    cases d2 with
    | list m2 D2 => exact kqd_eq N (s1 _ m1) rfl rfl D1 s1 (s2 _ m2) rfl rfl D2 s2 ok ok hu (by simpa using h)
structure Wrap (p : Prop) : Prop where
  out : p
end Mine

end
section
theorem Mine.walk_off_J : True := by
  w_top off
  trivial
open PySem PySem.W PyProof.Rows PySem.Spec PySem.Calls
set_option Elab.async false
set_option maxRecDepth 100000
set_option maxHeartbeats 8000000
namespace Mine
local macro_rules | `(tactic| walk_at "my fill") => `(tactic| (
  have hfill : (∀ P h, (hd.heap_39 P).In h → (hd.heap_39 P).In h) ∧ PySem.Challenge.rw_co0008_01.about = PySem.Challenge.rw_co0008_01.about := ⟨fun _ _ x => x, rfl⟩
  revert hfill; k_fill; intro hfill; clear hfill))
local macro_rules | `(tactic| walk_at "my room") => `(tactic| first | assumption | ((try simp only [depth_under_make, depth_under_kw, depth_in1, depth_deeper, depth_caller, AR_depth, mark_depth]); omega))
local macro_rules | `(tactic| walk_at "my units") => `(tactic| first | assumption | ((try simp only [units_in1, units_deeper, Around.mark_units, units_caller, AR_units]); omega))
local macro_rules | `(tactic| k_room) => `(tactic| walk_at "my room")
local macro_rules | `(tactic| k_units) => `(tactic| walk_at "my units")
local macro_rules | `(tactic| ke_room) => `(tactic| walk_at "my units")
local macro_rules | `(tactic| k_all) => `(tactic| first | assumption | exact allLt_le (by assumption) (by omega) | exact allLt_ne (by assumption) | exact allLt_ne (And.right (by assumption)) | exact allLt_ne (And.right (And.right (by assumption))) | exact allLt_ne (And.right (And.right (And.right (by assumption)))) | exact allLt_ne (And.right (And.right (And.right (And.right (by assumption))))))
local macro_rules | `(tactic| walk_at "my sub") => `(tactic| (refine News.sub' (by assumption) ?_; intro q hq; first | exact hq | exact .tail _ hq | exact .tail _ (.tail _ hq) | exact .tail _ (.tail _ (.tail _ hq)) | (simp only [List.mem_cons, List.mem_append] at hq ⊢; simp only [hq, or_true])))
local macro_rules | `(tactic| k_get) => `(tactic| first | with_reducible assumption | exact LoopOk.undef (by assumption) | exact LoopOk.recurse (by assumption) | exact LoopOk.iterable (by assumption) | exact LoopOk.iterator (by assumption) | exact getL_put _ | ((with_reducible refine (getL_put_ne ?hne).trans ?_); (case hne => decide); k_get))
local macro_rules | `(tactic| walk_at "my len") => `(tactic| ((repeat refine len_put_of ?_); omega))
local macro_rules | `(tactic| walk_at "my enter") => `(tactic| (
  refine' code_def ?k1 ?k2 ?k3 ?k4 ?k5 ?kA ?kF ?kK ?k6 ?k7 ?k8 ?k9 ?kB ?_ ?c2 ?c3 ?c4 ?c5; (case kA => first | exact rfl | assumption); (case kF => first | exact rfl | assumption); (case kK => first | exact rfl | assumption); (case k1 => k_asm); (case k2 => k_asm); (case k3 => k_asm); (case k4 => k_asm); (case k5 => k_asm); (case k6 => k_is); (case k7 => k_is); (case k8 => walk_at "my room"); (case k9 => first | exact BindsTo.of_eq rfl | exact binds_K (by k_in) rfl (by k_is) rfl rfl rfl | fail "enter: no rule for these arguments"); (case c5 => decide); (case kB => exact locs rfl); (case c2 => exact rfl); (case c3 => exact rfl); (case c4 => exact rfl); k_whole; intro g' L' h' FG' F' N' B' X' T'; (try dsimp only); (try k_fold)))
local macro_rules | `(tactic| walk_at "my prop") => `(tactic| (k_dflt (refine' get_prop ?k1 ?k2 ?k3 ?k4 ?k5 ?k6 ?k7 ?k8 ?k9 ?_; (case k1 => k_asm); (case k2 => k_asm); (case k3 => k_inst); (case k4 => k_is); (case k5 => k_is); (case k6 => k_is); (case k7 => k_is); (case k8 => k_is); (case k9 => k_is); k_whole); walk_at "my enter"))
local macro_rules | `(tactic| walk_at "setAttr ref") => `(tactic| (k_here; k_dflt (refine' set_dict ?k1 ?k2 ?k3 ?k4 ?k5 ?k6 ?k7 ?k8 ?k9 ?k10 ?k11 ?k12 ?k13 ?_; (case k1 => k_asm); (case k2 => k_asm); (case k3 => k_asm); (case k4 => k_inst); (case k5 => exact rfl); (case k6 => k_is); (case k7 => k_is); (case k8 => k_is); (case k9 => k_is); (case k10 => exact getL_isSome (by k_get)); (case k11 => exact rfl); (case k12 => k_upd); (case k13 => walk_at "my len"); k_whole; intro h' F' N'; (try k_sweep))))
local macro_rules | `(tactic| k_mem) => `(tactic| first | with_reducible assumption | exact List.Mem.head _ | (refine' List.mem_cons_of_mem _ ?_; k_mem) | (refine' List.mem_append_left _ ?_; k_mem) | (refine' List.mem_append_right _ ?_; k_mem))
local macro_rules | `(tactic| walk_at "compareOp IsNot ref ref") => `(tactic| (k_here; first | refine wpAny_isNot_ref_self ?_ | (k_dflt (refine' isNot_right ?n ?a ?b ?c ?_; (case n => kto_ne); (case a => kto_obj); (case b => kto_obj); (case c => kto_not); k_whole))))
local macro_rules | `(tactic| walk_at "compareOp Is ref ref") => `(tactic| (k_here; first | refine wpAny_is_ref_self ?_ | (k_dflt (refine' is_right ?n ?a ?b ?c ?_; (case n => kto_ne); (case a => kto_obj); (case b => kto_obj); (case c => kto_not); k_whole))))
local macro_rules | `(tactic| walk_at "my cx") => `(tactic| exact ⟨by k_asm, by k_asm, by k_asm, rfl, by first | rfl | assumption, by first | rfl | assumption⟩)
local macro_rules | `(tactic| walk_at "my cy") => `(tactic| exact ⟨by k_asm, by k_asm, by k_asm, by first | rfl | assumption, by first | rfl | assumption⟩)
local macro_rules | `(tactic| k_handed) => `(tactic| with_reducible assumption)
local macro_rules | `(tactic| walk_at "my rest") => `(tactic| (refine' kp_rest ?k1 ?k2 ?k3 ?k4 ?k5 ?kA ?kF ?kK ?k6 ?k7 ?k8 ?kV ?kP ?kG ?kB ?_ ?c2 ?c3 ?c4 ?c5; (case kA => exact rfl); (case kF => first | exact rfl | assumption); (case kK => first | exact rfl | assumption); (case k1 => k_asm); (case k2 => k_asm); (case k3 => k_asm); (case k4 => k_asm); (case k5 => k_asm); (case k6 => k_is); (case k7 => k_is); (case k8 => k_room); (case kV => kl_lit); (case kP => exact rfl); (case kG => exact fun _ => rfl); (case kB => exact fun _ => locs rfl); (case c5 => decide); (case c2 => exact rfl); (case c3 => exact rfl); (case c4 => exact rfl); k_whole; intro D' g' L' h' l1 FG' F' N' B' X' T'; (try k_lt l1); (try dsimp only); (try k_fold)))
local macro_rules | `(tactic| walk_at "compareOp NotEq ref ref") => `(tactic| (k_here; (with_reducible show wpAny _ _ (compareOp _ (Value.ref 92) (Value.ref _)) _ _ _); k_dflt (refine' inst_ne_tuple ?X ?I ?t ?c ?n ?h1 ?h2 ?h3 ?h4 ?h5 ?u ?_; (case X => k_in); (case I => refine' InstAt.of_K ?kx ?kl ?km; (case kx => k_in); (case kl => k_is); (case km => k_is)); (case t => exact kto_N (by k_asm) (by k_mem)); (case c => rfl); (case n => kto_ne); (case h1 => k_is); (case h2 => k_is); (case h3 => k_is); (case h4 => k_is); (case h5 => k_is); (case u => walk_at "my units"); k_whole)))
local macro_rules | `(tactic| walk_at "my enterS") => `(tactic| (
  refine' enterS ?k1 ?k2 ?k3 ?k4 ?k5 ?XB ?TB ?D ?T0 ?kA ?kF ?kK ?k6 ?k7 ?k8 ?k9 ?kB ?_ ?c2 ?c3 ?c4 ?c5; (case kA => exact rfl); (case kF => first | exact rfl | assumption); (case kK => first | exact rfl | assumption); (case k2 => k_asm); (case k1 => k_asm); (case k3 => k_asm); (case k4 => k_asm); (case k5 => k_asm); (case XB => assumption); (case TB => assumption); (case D => assumption); (case T0 => first | assumption | exact KtsTurn.refl); (case k6 => k_is); (case k7 => k_is); (case k8 => walk_at "my room"); (case k9 => first | exact BindsTo.of_eq rfl | exact binds_K (by k_in) rfl (by k_is) rfl rfl rfl | fail "enterS: no rule for these arguments"); (case c5 => decide); (case kB => exact locs rfl); (case c2 => exact rfl); (case c3 => exact rfl); (case c4 => exact rfl); k_whole; intro g' L' h' FG' F' N' B' X' T' D' lL'; (try dsimp only); (try k_fold)))
local macro_rules | `(tactic| walk_at "my propS") => `(tactic| (k_dflt (refine' get_prop ?k1 ?k2 ?k3 ?k4 ?k5 ?k6 ?k7 ?k8 ?k9 ?_; (case k1 => k_asm); (case k2 => k_asm); (case k3 => k_inst); (case k4 => k_is); (case k5 => k_is); (case k6 => k_is); (case k7 => k_is); (case k8 => k_is); (case k9 => k_is); k_whole); walk_at "my enterS"))
local macro_rules | `(tactic| walk_at "call builtin:iter") => `(tactic| (k_here; (with_reducible show wpAny _ _ (call (Value.builtin "iter") [Value.ref _]) _ _ _); k_dflt (first
  | (refine' iter_list ?F ?N ?m ?_; (case F => k_asm); (case N => k_asm); (case m => k_mem); k_whole; intro i' h' F' N' l1; (try k_lt l1); (try k_sweep))
  | (refine' iter_map ?N ?m ?_; (case N => k_asm); (case m => k_mem); k_whole))))
local macro_rules | `(tactic| walk_at "call builtin:len") => `(tactic| (k_here; (with_reducible show wpAny _ _ (call (Value.builtin "len") [Value.ref _]) _ _ _); k_dflt (refine' len_list ?l ?z ?_; (case l => exact News.isList (by k_asm) (by k_mem)); (case z => rw [List.size_toArray]; (try simp only [List.length_drop]); omega); (try rw [List.size_toArray]))))
local macro_rules | `(tactic| walk_at "my cz") => `(tactic| exact ⟨by k_asm, by k_asm, by k_asm, by first | rfl | assumption, by first | rfl | assumption, by assumption, by assumption, by assumption⟩)
local macro_rules | `(tactic| walk_at "my retcz") => `(tactic| exact ⟨by assumption, by assumption, by assumption, by assumption, by assumption, by assumption, by assumption, by assumption⟩)
local macro_rules | `(tactic| walk_at "my enterSC") => `(tactic| (refine' enterSC ?k1 ?k2 ?k3 ?k4 ?k5 ?XB ?TB ?D ?T0 ?kA ?kF ?kK ?k6 ?k7 ?k8 ?k9 ?kB ?kD ?_ ?c2 ?c3 ?c4; (case kA => exact rfl); (case kF => first | exact rfl | assumption); (case kK => first | exact rfl | assumption); (case k2 => k_asm); (case k1 => k_asm); (case k3 => k_asm); (case k4 => k_asm); (case k5 => k_asm); (case XB => assumption); (case TB => assumption); (case D => assumption); (case T0 => first | assumption | exact KtsTurn.refl); (case k6 => k_is); (case k7 => k_is); (case k8 => walk_at "my room"); (case k9 => assumption); (case kB => exact rfl); (case kD => decide +kernel); (case c2 => exact rfl); (case c3 => exact rfl); (case c4 => exact rfl); k_whole; intro g' L' h' tk' cells' FG' F' N' Y' B' X' T' D' lL'; k_cells Y'; (try simp only [List.cons_append, List.nil_append] at N'); (try dsimp only); (try k_fold)))
local macro_rules | `(tactic| walk_at "my look") => `(tactic| (first | with_reducible assumption | exact if_pos rfl | ((refine (if_neg (by decide)).trans ?_); walk_at "my look") | exact rfl))
local macro_rules | `(tactic| walk_at "eval Name") => `(tactic| (k_here; k_dflt (refine' nameX_L ?k1 ?k2 ?_; (case k1 => k_asm); (case k2 => (try dsimp only); walk_at "my look"); k_whole)))
local macro_rules | `(tactic| walk_at "call ref") => `(tactic| (k_here; k_dflt (refine Stop.out ?_)))
local macro_rules | `(tactic| walk_at "subscriptTail Name Slice ref ref") => `(tactic| (k_here; (with_reducible show wpAny _ _ (subscriptTail _ (PySem.Expr.Slice (some _) _ none _) (Value.ref _) (Value.ref _)) _ _ _); k_dflt (refine' slice9 ?mF ?mN ?ml ?mi ?mk ?mz ?_; (case mF => k_asm); (case mN => k_asm); (case ml => exact List.Mem.head _); (case mi => exact lits9); (case mk => exact Int.natCast_nonneg _); (case mz => exact Nat.le_of_ble_eq_true rfl); k_whole; intro D' ws' h' F' N' l1 hI'; (try k_lt l1); (try k_sweep))))
local macro_rules | `(tactic| walk_at "last subscriptTail") => `(tactic| (k_here; (with_reducible show wpAny _ _ (subscriptTail (PySem.Expr.Name _ _) (PySem.Expr.Constant _ _ _) (Value.ref _) (Value.int _ _)) _ _ _); k_dflt (refine' cell_item ?k0 ?k1 ?k2 ?k3 ?_ ?k6; (case k0 => with_reducible assumption); (case k1 => exact News.isList (by k_asm) (by k_mem)); (case k2 => omega); (case k3 => omega); (case k6 => first | exact subs_constG | exact subs_binopG | exact subs_nameG); k_whole; intro c' t'; (try dsimp only))))
local macro_rules | `(tactic| walk_at "call builtin:len") => `(tactic| (k_here; k_dflt (refine Stop.out ?_)))
local macro_rules | `(tactic| walk_at "call type:map") => `(tactic| (k_here; k_dflt (refine Stop.out ?_)))
local macro_rules | `(tactic| walk_at "compareOp Eq ref ref") => `(tactic| (k_here; k_dflt (refine Stop.out ?_)))
theorem fin0 : Wrap PySem.Challenge.rw_co0008_01.Holds := by
  refine ⟨hd ?_⟩
  k_go0
  all_goals (try k_fold)
  (try dsimp only)
  (rename Fr _ _ _ _ => F1)
  k_dflt (refine law_cut F1 (fun dp un gd hdp hun => ?_) ?_)
  · generalize PySem.Challenge.rw_co0008_01.row.prog = prog at *
    (rename Top _ _ _ _ _ _ => TT)
    (rename Below _ _ _ _ => K1)
    replace K1 := K1
    (rename Frag.In _ _ => X1)
    (rename News _ _ _ _ => N1)
    (rename Heap.IsList _ _ _ => L1)
    (rename IntsAre _ _ => I1)
    (rename PyData.layable0 _ = true => Y1)
    (rename ¬ _ < _ => hlen)
    (try ((rename Ground _ _ _ _ _ _ _ _ _ => z9); clear z9))
    (try ((rename Flt.MathXP _ _ _ => z9); clear z9))
    (try ((rename LooseAre _ _ _ => z9); clear z9))
    (try ((rename Glob _ _ _ _ _ _ _ _ => z9); clear z9))
    (try ((rename Tables _ _ _ _ => z9); clear z9))
    (try ((rename TopE _ _ _ _ => z9); clear z9))
    (try ((rename TopW _ _ _ => z9); clear z9))
    (try ((rename BMod _ _ _ _ _ => z9); clear z9))
    (try ((rename Heap.CodeRec _ _ _ => z9); clear z9))
    (try ((rename Well _ _ _ _ => z9); clear z9))
    (try ((rename Reads _ _ _ _ => z9); clear z9))
    (try ((rename ReadsAllW _ _ _ _ _ _ => z9); clear z9))
    (try ((rename Dflts _ _ _ => z9); clear z9))
    (try ((rename ReadsAll _ _ _ _ => z9); clear z9))
    (try ((rename Shape.has _ _ = _ => z9); clear z9))
    (try ((rename WShape.hasAll _ _ _ = _ => z9); clear z9))
    (try ((rename WData.layableAll _ = _ => z9); clear z9))
    (try ((rename PyData.layableAll0 _ = _ => z9); clear z9))
    rename_i Yk fa oo pm doc kV ho hg w9 w8 w7 w6 w5 w4 w3 w2 w1 w0 hcond hD hh1
    clear Yk ho hg hcond hD
    generalize looseW hd.view_39 _ = loose at TT
    generalize hd.view_39 = p at TT
    generalize ExcName.means _ = mean at TT
    clear K1
    k_steps
    refine Stop.in ?_
    (rename List.length ys = _ => hL8)
    k_dflt (refine' len_list ?al ?az ?_)
    (case al => exact News.isList (by k_asm) (.tail _ (.head _)))
    (case az => rw [List.size_toArray, hL8, List.length_map, List.length_take]; omega)
    k_whole
    k_steps
    refine Stop.in ?_
    rename_i I9 _ _ F2 N2
    have hc9 := ints_get I9 (nine _ [2, 17, 407, 3991, 16001, 92, 70217, 1403, 88123] _ (hL8.symm.trans (List.size_toArray ..).symm) rfl)
    k_dflt (refine' grown_use ?gC F2 N2 (.head _) hc9 ?gd ?gu ?_)
    (case gC => exact ⟨below_caller _, X1, TT, rfl, rfl⟩); (case gd => omega); (case gu => omega)
    k_whole
    intro h3 tk3 tl R n3 ts f F3 N3 hsub htl hfo hh hw hlen
    have hcl := hsub _ (List.Mem.head _)
    clear N2 F2 hsub
    have hlen2 : ts.length ≤ 1000 := by omega
    k_steps
    all_goals (try (refine Stop.in ?_))
    · (rename News _ _ _ _ => N4)
      (rename Fr _ _ _ _ => F4)
      k_dflt (refine' outl_use (fo := f) (led := R) (il := []) (l := tl) (n := n3) (vs := ts) ?r1 F4 N4 htl hfo (.inl ⟨rfl, rfl⟩) hlen2 hw hh ?r2 ?r3 ?_)
      (case r1 => exact ⟨below_caller _, X1, TT, rfl, rfl, X1, TT, fun b hb => nomatch hb⟩); (case r2 => omega); (case r3 => omega)
      k_whole
      intro hb hB tkB oa tl2 TB CB FB NB sepB datB
      obtain ⟨BB, XB, TB2, _, _, XBB, TBB, DB⟩ := CB
      k_steps
      refine Stop.in ?_
      k_dflt (refine' told_use ?t1 FB NB (List.mem_append_right _ htl) (hfo.mono fun q hq => List.mem_append_right _ hq) hlen2 hw hh ?t2 ?t3 ?_)
      (case t1 => exact ⟨BB, XB, TB2, rfl, rfl⟩); (case t2 => omega); (case t3 => omega)
      k_whole
      intro hC tkC ob tl3 FC NC sepC datC
      have hok := outl_ok f 8 f.len 0 0 f.labs none (by omega)
      k_steps
      refine Stop.in ?_
      (rename News hb _ _ _ => ND)
      k_dflt (refine' eq_dat ND datB ?A1 datC ?A2 hok ?A3 ?_)
      (case A1 => exact fun q hq => List.mem_append_right _ (List.mem_append_left _ hq)); (case A2 => exact fun q hq => List.mem_append_left _ hq); (case A3 => walk_at "my units")
      k_whole
      k_steps
      refine Stop.in ?_
      (rename News hb _ _ _ => NE)
      (rename Fr hb _ _ _ => FE)
      k_dflt (refine' refused_w ?A4 KtsTurn.refl FE NE (List.mem_append_right _ (List.mem_append_right _ htl)) ?A5 ?A6 ?_)
      (case A4 => exact ⟨BB, XB, TB2, rfl, rfl, XBB, TBB, DB⟩); (case A5 => omega); (case A6 => omega)
      k_whole
      intro hG hH tkH TG CG FG NG
      k_steps
      all_goals (try (refine Stop.in ?_))
      exact ⟨rfl, _, _, _, rfl, fr_turn0 (TB.trans TG) (by assumption)⟩
    · (rename News _ _ _ _ => N4)
      (rename Fr _ _ _ _ => F4)
      k_dflt (refine' call_map (l := tl) (n := n3) (vs := ts) F4 N4 htl ?_)
      k_whole
      intro mi mt mo hM FM NM lM1 lM2 lM3
      k_steps
      refine Stop.in ?_
      (rename News _ _ _ _ => NM)
      have N5 : News _ _ _ ([(mi, LI tl 0)] ++ ((mo, MP mt 384) :: (mt, T1 (.ref mi)) :: R)) := News.sub' NM fun q hq => by
        simp only [List.cons_append, List.nil_append, List.mem_cons] at hq ⊢
        rcases hq with h | h | h | h <;> simp [h]
      have gR : ∀ q ∈ (mo, MP mt 384) :: (mt, T1 (.ref mi)) :: R, q.1 ≠ mi := by
        intro q hq
        rcases List.mem_cons.mp hq with rfl | hq
        · exact Nat.ne_of_gt (Nat.lt_trans lM2 lM3)
        rcases List.mem_cons.mp hq with rfl | hq
        · exact Nat.ne_of_gt lM2
        · exact Nat.ne_of_lt (lM1 q hq)
      (rename Fr _ _ _ _ => F4)
      k_dflt (refine' outl_use (fo := f) (led := (mo, MP mt 384) :: (mt, T1 (.ref mi)) :: R) (il := [(mi, LI tl 0)]) (l := tl) (n := n3) (vs := ts) ?r4 F4 (News.sub' N5 fun q hq => hq) (.tail _ (.tail _ htl)) (hfo.mono fun q hq => .tail _ (.tail _ hq)) (.inr ⟨mi, mo, mt, rfl, rfl, .head _, .tail _ (.head _), gR⟩) hlen2 hw hh ?r5 ?r6 ?_)
      (case r4 => exact ⟨below_caller _, X1, TT, rfl, rfl, X1, TT, fun b hb => nomatch hb⟩); (case r5 => omega); (case r6 => omega)
      k_whole
      intro hb hB tkB oa tl2 TB CB FB NB sepB datB
      obtain ⟨BB, XB, TB2, _, _, XBB, TBB, DB⟩ := CB
      k_steps
      refine Stop.in ?_
      k_dflt (refine' told_use ?u1 FB NB (List.mem_append_right _ (.tail _ (.tail _ htl))) ((hfo.mono fun q hq => .tail _ (.tail _ hq)).mono fun q hq => List.mem_append_right _ hq) hlen2 hw hh ?u2 ?u3 ?_)
      (case u1 => exact ⟨BB, XB, TB2, rfl, rfl⟩); (case u2 => omega); (case u3 => omega)
      k_whole
      intro hC tkC ob tl3 FC NC sepC datC
      have hok := outl_ok f 8 f.len 0 0 f.labs none (by omega)
      k_steps
      refine Stop.in ?_
      (rename News hb _ _ _ => ND)
      k_dflt (refine' eq_dat ND datB ?B1 datC ?B2 hok ?B3 ?_)
      (case B1 => exact fun q hq => List.mem_append_right _ (List.mem_append_left _ hq)); (case B2 => exact fun q hq => List.mem_append_left _ hq); (case B3 => walk_at "my units")
      k_whole
      k_steps
      refine Stop.in ?_
      (rename News hb _ _ _ => NE)
      (rename Fr hb _ _ _ => FE)
      k_dflt (refine' refused_w ?B4 KtsTurn.refl FE NE (List.mem_append_right _ (List.mem_append_right _ (.tail _ (.tail _ htl)))) ?B5 ?B6 ?_)
      (case B4 => exact ⟨BB, XB, TB2, rfl, rfl, XBB, TBB, DB⟩); (case B5 => omega); (case B6 => omega)
      k_whole
      intro hG hH tkH TG CG FG NG
      k_steps
      all_goals (try (refine Stop.in ?_))
      exact ⟨rfl, _, _, _, rfl, fr_turn0 (TB.trans TG) (by assumption)⟩
  · intro h' tk' m' hF
    (try dsimp only)
    k_steps
theorem fin : PySem.Challenge.rw_co0008_01.Holds := fin0.out
end Mine

end
theorem PySem.Challenge.cw_co0008_01_holds : PySem.Challenge.rw_co0008_01.Holds :=
  Mine.fin
